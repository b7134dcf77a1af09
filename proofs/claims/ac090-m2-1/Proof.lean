import JvmDerived
import JvmDerived.Pilot.@@N@@Statement
import JvmDerived.Pilot.@@N@@Code
set_option linter.unusedVariables false
set_option linter.unusedSimpArgs false
namespace Jvm.Pilot.@@N@@
open Jvm Jvm.ClassFile Sem Op Lib Jvm.Free Jvm.Stand Jvm.LawKit Jvm.RoadKit Bundle Jvm.Pilot.@@N@@.Jvm.D

/-! THE OWN LAYER. 1. Straight roads by evaluation: an instruction, its length, the int that it brings, where a goto leads -/
abbrev El := Instr × Nat × Int32 × Nat
def okc (i : Instr) (n : Nat) (k : Int32) (t pc : Nat) : Bool :=
  match i with
  | .iload _ => n == 2
  | .lload _ => n == 2
  | .aload _ => n == 2
  | .istore _ => n == 2
  | .lstore _ => n == 2
  | .astore _ => n == 2
  | .bipush j => n == 2 && decide ((Int8.ofInt j).toInt32 = k)
  | .sipush j => n == 3 && decide ((Int16.ofInt j).toInt32 = k)
  | .iconst j => n == 1 && decide (Int32.ofInt j = k)
  | .iinc _ j => n == 3 && decide (Int32.ofInt j = k)
  | .goto o => n == 3 && (decide (0 ≤ (pc : Int) + o) && decide (((pc : Int) + o).toNat = t))
  | .ldc _ => n == 2
  | .ldc2_w _ => n == 3
  | _ => n == 1
def nx (i : Instr) (n t pc : Nat) : Nat := match i with | .goto _ => t | _ => pc + n
def Dec (b : ByteArray) : List El → Nat → Nat → Bool
  | [], pc, pc' => pc == pc'
  | (i, n, k, t) :: L, pc, pc' => decide (decode b pc = .ok (i, n)) && (okc i n k t pc && Dec b L (nx i n t pc) pc')
def own_look {α : Type} : List (Nat × α) → Nat → Option α
  | [], _ => none
  | q :: r, i => if i = q.1 then some q.2 else own_look r i
theorem own_look_mem {α : Type} : ∀ (L : List (Nat × α)) (i : Nat) (v : α), own_look L i = some v → (i, v) ∈ L
  | [], _, _, h => nomatch h
  | q :: r, i, v, h => by
    unfold own_look at h
    split at h
    · rename_i e; cases h; subst e; exact List.mem_cons_self ..
    · exact List.mem_cons_of_mem _ (own_look_mem r i v h)
def pV (KI : List (Nat × Int32)) (KJ : List (Nat × Int64)) (i : Instr) (k : Int32) (ls : Array Slot) (st : List Value) : Option (Array Slot × List Value) :=
  match i with
  | .iload_n a => match ls[a.val]? with | some (.val (.int v)) => some (ls, .int v :: st) | _ => none
  | .iload a => match ls[a]? with | some (.val (.int v)) => some (ls, .int v :: st) | _ => none
  | .lload_n a => match ls[a.val]? with | some (.val (.long v)) => some (ls, .long v :: st) | _ => none
  | .lload a => match ls[a]? with | some (.val (.long v)) => some (ls, .long v :: st) | _ => none
  | .aload_n a => match ls[a.val]? with | some (.val (.ref v)) => some (ls, .ref v :: st) | some (.val .null) => some (ls, .null :: st) | _ => none
  | .aload a => match ls[a]? with | some (.val (.ref v)) => some (ls, .ref v :: st) | some (.val .null) => some (ls, .null :: st) | _ => none
  | .istore_n a => match st with | .int x :: r => (match storeLocals ls a.val (.int x) with | some l2 => some (l2, r) | none => none) | _ => none
  | .istore a => match st with | .int x :: r => (match storeLocals ls a (.int x) with | some l2 => some (l2, r) | none => none) | _ => none
  | .lstore_n a => match st with | .long x :: r => (match storeLocals ls a.val (.long x) with | some l2 => some (l2, r) | none => none) | _ => none
  | .lstore a => match st with | .long x :: r => (match storeLocals ls a (.long x) with | some l2 => some (l2, r) | none => none) | _ => none
  | .astore_n a => match st with | .ref x :: r => (match storeLocals ls a.val (.ref x) with | some l2 => some (l2, r) | none => none) | .null :: r => (match storeLocals ls a.val .null with | some l2 => some (l2, r) | none => none) | _ => none
  | .astore a => match st with | .ref x :: r => (match storeLocals ls a (.ref x) with | some l2 => some (l2, r) | none => none) | .null :: r => (match storeLocals ls a .null with | some l2 => some (l2, r) | none => none) | _ => none
  | .iconst j => some (ls, .int k :: st)
  | .bipush j => some (ls, .int k :: st)
  | .sipush j => some (ls, .int k :: st)
  | .lconst j => match j with | 0 => some (ls, .long 0 :: st) | 1 => some (ls, .long 1 :: st)
  | .aconst_null => some (ls, .null :: st)
  | .iadd => match st with | .int y :: .int x :: r => some (ls, .int (x + y) :: r) | _ => none
  | .isub => match st with | .int y :: .int x :: r => some (ls, .int (x - y) :: r) | _ => none
  | .imul => match st with | .int y :: .int x :: r => some (ls, .int (x * y) :: r) | _ => none
  | .iand => match st with | .int y :: .int x :: r => some (ls, .int (x &&& y) :: r) | _ => none
  | .ior => match st with | .int y :: .int x :: r => some (ls, .int (x ||| y) :: r) | _ => none
  | .ixor => match st with | .int y :: .int x :: r => some (ls, .int (x ^^^ y) :: r) | _ => none
  | .ishl => match st with | .int y :: .int x :: r => some (ls, .int (x <<< (y &&& 31)) :: r) | _ => none
  | .ishr => match st with | .int y :: .int x :: r => some (ls, .int (x >>> (y &&& 31)) :: r) | _ => none
  | .iushr => match st with | .int y :: .int x :: r => some (ls, .int (XT.ushr x y) :: r) | _ => none
  | .ladd => match st with | .long y :: .long x :: r => some (ls, .long (x + y) :: r) | _ => none
  | .lsub => match st with | .long y :: .long x :: r => some (ls, .long (x - y) :: r) | _ => none
  | .lmul => match st with | .long y :: .long x :: r => some (ls, .long (x * y) :: r) | _ => none
  | .land => match st with | .long y :: .long x :: r => some (ls, .long (x &&& y) :: r) | _ => none
  | .lor => match st with | .long y :: .long x :: r => some (ls, .long (x ||| y) :: r) | _ => none
  | .lxor => match st with | .long y :: .long x :: r => some (ls, .long (x ^^^ y) :: r) | _ => none
  | .lshl => match st with | .int y :: .long x :: r => some (ls, .long (x <<< (y.toInt64 &&& 63)) :: r) | _ => none
  | .lushr => match st with | .int y :: .long x :: r => some (ls, .long (XT.ushrL x y) :: r) | _ => none
  | .lshr => match st with | .int y :: .long x :: r => some (ls, .long (x >>> (y.toInt64 &&& 63)) :: r) | _ => none
  | .ineg => match st with | .int x :: r => some (ls, .int (-x) :: r) | _ => none
  | .lneg => match st with | .long x :: r => some (ls, .long (-x) :: r) | _ => none
  | .i2l => match st with | .int x :: r => some (ls, .long x.toInt64 :: r) | _ => none
  | .l2i => match st with | .long x :: r => some (ls, .int x.toInt32 :: r) | _ => none
  | .i2b => match st with | .int x :: r => some (ls, .int x.toInt8.toInt32 :: r) | _ => none
  | .i2s => match st with | .int x :: r => some (ls, .int x.toInt16.toInt32 :: r) | _ => none
  | .dup => match st with | .int x :: r => some (ls, .int x :: .int x :: r) | .ref x :: r => some (ls, .ref x :: .ref x :: r) | _ => none
  | .dup2 => match st with | .int x :: .ref y :: r => some (ls, .int x :: .ref y :: .int x :: .ref y :: r) | .long x :: r => some (ls, .long x :: .long x :: r) | _ => none
  | .dup_x2 => match st with | .int x :: .int y :: .ref z :: r => some (ls, .int x :: .int y :: .ref z :: .int x :: r) | _ => none
  | .goto o => some (ls, st)
  | .iinc a j => match ls[a]? with | some (.val (.int v)) => (match storeLocals ls a (.int (v + k)) with | some l2 => some (l2, st) | none => none) | _ => none
  | .ldc a => match own_look KI a with | some v => some (ls, .int v :: st) | none => none
  | .ldc2_w a => match own_look KJ a with | some v => some (ls, .long v :: st) | none => none
  | _ => none
def prun (KI : List (Nat × Int32)) (KJ : List (Nat × Int64)) : List El → Array Slot → List Value → Option (Array Slot × List Value)
  | [], ls, st => some (ls, st)
  | (i, _, k, _) :: L, ls, st => match pV KI KJ i k ls st with | some (l2, s2) => prun KI KJ L l2 s2 | none => none
theorem own_dupX2 {tb : Tables} [Ours tb] {e : Env} {below : List Frame} {T target : State} {m : MethodId} {c : Code} {g : JFrame} (h : At T m c below) (hx : tb.exec = Jvm.exec) (hg : g.method = m) {x y z : Value} {rest : List Value} (hd : decode c.code g.pc = .ok (.dup_x2, 1)) (hs : g.stack = x :: y :: z :: rest) (h1 : x.category = 1) (h2 : y.category = 1) (h3 : z.category = 1)
    (hr : Steps tb e below (T.setTop { g with pc := g.pc + 1, stack := x :: y :: z :: x :: rest }) target) : Steps tb e below (T.setTop g) target := by
  subst hg
  jvm_step h [h.top, hx, hd, hs, h1, h2, h3, dup_x2.wp_sem]
  exact hr
section OwnSteps
variable {p : Program} {l : Launch} {e : Env} {R : Room} {s : State} {m : MethodId} {args : Array Value} {below : List Frame} {meth : Method} {c : Code} {T : State} {locs : List Loc} {cells slots : Nat} {Z : State} {a0 : Array Value} {own : String} {KI : List (Nat × Int32)} {KJ : List (Nat × Int64)}
set_option maxHeartbeats 4000000 in
theorem pV_ok (X : Stand p l e R s m args below meth c T locs cells slots) (hx : p.tables.exec = Jvm.exec) (hZ : Z.Warmed39 s.vm) (hown : s.vm.findClass own = some m.cls) (hKI : ∀ q ∈ KI, (Jvm.Cond.constant own q.1 q.2).before a0 Z = true) (hKJ : ∀ q ∈ KJ, (Jvm.Cond.constantLong own q.1 q.2).before a0 Z = true)
    {pc n t : Nat} {i : Instr} {k : Int32} {ls ls' : Array Slot} {st st' : List Value} (hd : decode c.code pc = .ok (i, n)) (ho : okc i n k t pc = true) (h : pV KI KJ i k ls st = some (ls', st')) {target : State}
    (hr : Steps p.tables e below (T.setTop (mkF m (nx i n t pc) ls' st')) target) : Steps p.tables e below (T.setTop (mkF m pc ls st)) target := by
  cases i
  case iload_n a =>
    simp only [okc, beq_iff_eq] at ho
    subst ho
    simp only [pV] at h
    split at h
    · cases h
      exact XS.iloadN X.here hx rfl hd (by assumption) hr
    · cases h
  case iload a =>
    simp only [okc, beq_iff_eq] at ho
    subst ho
    simp only [pV] at h
    split at h
    · cases h
      exact XS.iload X.here hx rfl hd (by assumption) hr
    · cases h
  case lload_n a =>
    simp only [okc, beq_iff_eq] at ho
    subst ho
    simp only [pV] at h
    split at h
    · cases h
      exact XT.lloadN X.here hx rfl hd (by assumption) hr
    · cases h
  case lload a =>
    simp only [okc, beq_iff_eq] at ho
    subst ho
    simp only [pV] at h
    split at h
    · cases h
      exact XT.lload X.here hx rfl hd (by assumption) hr
    · cases h
  case aload_n a =>
    simp only [okc, beq_iff_eq] at ho
    subst ho
    simp only [pV] at h
    split at h
    · cases h
      exact XS.aloadN X.here hx rfl hd (by assumption) rfl hr
    · cases h
      exact XS.aloadN X.here hx rfl hd (by assumption) rfl hr
    · cases h
  case aload a =>
    simp only [okc, beq_iff_eq] at ho
    subst ho
    simp only [pV] at h
    split at h
    · cases h
      exact XS.aload X.here hx rfl hd (by assumption) rfl hr
    · cases h
      exact XS.aload X.here hx rfl hd (by assumption) rfl hr
    · cases h
  case istore_n a =>
    simp only [okc, beq_iff_eq] at ho
    subst ho
    simp only [pV] at h
    split at h
    · split at h
      · cases h
        exact XS.istoreN X.here hx rfl hd rfl (by assumption) hr
      · cases h
    · cases h
  case istore a =>
    simp only [okc, beq_iff_eq] at ho
    subst ho
    simp only [pV] at h
    split at h
    · split at h
      · cases h
        exact XS.istore X.here hx rfl hd rfl (by assumption) hr
      · cases h
    · cases h
  case lstore_n a =>
    simp only [okc, beq_iff_eq] at ho
    subst ho
    simp only [pV] at h
    split at h
    · split at h
      · cases h
        exact XT.lstoreN X.here hx rfl hd rfl (by assumption) hr
      · cases h
    · cases h
  case lstore a =>
    simp only [okc, beq_iff_eq] at ho
    subst ho
    simp only [pV] at h
    split at h
    · split at h
      · cases h
        exact XT.lstore X.here hx rfl hd rfl (by assumption) hr
      · cases h
    · cases h
  case astore_n a =>
    simp only [okc, beq_iff_eq] at ho
    subst ho
    simp only [pV] at h
    split at h
    · split at h
      · cases h
        exact XS.astoreN X.here hx rfl hd rfl rfl (by assumption) hr
      · cases h
    · split at h
      · cases h
        exact XS.astoreN X.here hx rfl hd rfl rfl (by assumption) hr
      · cases h
    · cases h
  case astore a =>
    simp only [okc, beq_iff_eq] at ho
    subst ho
    simp only [pV] at h
    split at h
    · split at h
      · cases h
        exact XS.astore X.here hx rfl hd rfl rfl (by assumption) hr
      · cases h
    · split at h
      · cases h
        exact XS.astore X.here hx rfl hd rfl rfl (by assumption) hr
      · cases h
    · cases h
  case iconst j =>
    simp only [okc, Bool.and_eq_true, beq_iff_eq, decide_eq_true_eq] at ho
    obtain ⟨rfl, rfl⟩ := ho
    simp only [pV] at h
    cases h
    exact XS.iconst X.here hx rfl hd hr
  case bipush j =>
    simp only [okc, Bool.and_eq_true, beq_iff_eq, decide_eq_true_eq] at ho
    obtain ⟨rfl, rfl⟩ := ho
    simp only [pV] at h
    cases h
    exact XS.bipush X.here hx rfl hd hr
  case sipush j =>
    simp only [okc, Bool.and_eq_true, beq_iff_eq, decide_eq_true_eq] at ho
    obtain ⟨rfl, rfl⟩ := ho
    simp only [pV] at h
    cases h
    exact XS.sipush X.here hx rfl hd hr
  case lconst j =>
    simp only [okc, beq_iff_eq] at ho
    subst ho
    simp only [pV] at h
    split at h
    · cases h
      exact XT.lconst X.here hx rfl hd hr
    · cases h
      exact XT.lconst X.here hx rfl hd hr
  case aconst_null =>
    simp only [okc, beq_iff_eq] at ho
    subst ho
    simp only [pV] at h
    cases h
    exact XS.aconstNull X.here hx rfl hd hr
  case iadd =>
    simp only [okc, beq_iff_eq] at ho
    subst ho
    simp only [pV] at h
    split at h
    · cases h
      exact XS.iadd X.here hx rfl hd rfl hr
    · cases h
  case isub =>
    simp only [okc, beq_iff_eq] at ho
    subst ho
    simp only [pV] at h
    split at h
    · cases h
      exact XS.isub X.here hx rfl hd rfl hr
    · cases h
  case imul =>
    simp only [okc, beq_iff_eq] at ho
    subst ho
    simp only [pV] at h
    split at h
    · cases h
      exact XS.imul X.here hx rfl hd rfl hr
    · cases h
  case iand =>
    simp only [okc, beq_iff_eq] at ho
    subst ho
    simp only [pV] at h
    split at h
    · cases h
      exact XS.iand X.here hx rfl hd rfl hr
    · cases h
  case ior =>
    simp only [okc, beq_iff_eq] at ho
    subst ho
    simp only [pV] at h
    split at h
    · cases h
      exact XT.ior X.here hx rfl hd rfl hr
    · cases h
  case ixor =>
    simp only [okc, beq_iff_eq] at ho
    subst ho
    simp only [pV] at h
    split at h
    · cases h
      exact XT.ixor X.here hx rfl hd rfl hr
    · cases h
  case ishl =>
    simp only [okc, beq_iff_eq] at ho
    subst ho
    simp only [pV] at h
    split at h
    · cases h
      exact XT.ishl X.here hx rfl hd rfl hr
    · cases h
  case ishr =>
    simp only [okc, beq_iff_eq] at ho
    subst ho
    simp only [pV] at h
    split at h
    · cases h
      exact XT.ishr X.here hx rfl hd rfl hr
    · cases h
  case iushr =>
    simp only [okc, beq_iff_eq] at ho
    subst ho
    simp only [pV] at h
    split at h
    · cases h
      exact XT.iushr X.here hx rfl hd rfl hr
    · cases h
  case ladd =>
    simp only [okc, beq_iff_eq] at ho
    subst ho
    simp only [pV] at h
    split at h
    · cases h
      exact XT.ladd X.here hx rfl hd rfl hr
    · cases h
  case lsub =>
    simp only [okc, beq_iff_eq] at ho
    subst ho
    simp only [pV] at h
    split at h
    · cases h
      exact XT.lsub X.here hx rfl hd rfl hr
    · cases h
  case lmul =>
    simp only [okc, beq_iff_eq] at ho
    subst ho
    simp only [pV] at h
    split at h
    · cases h
      exact XT.lmul X.here hx rfl hd rfl hr
    · cases h
  case land =>
    simp only [okc, beq_iff_eq] at ho
    subst ho
    simp only [pV] at h
    split at h
    · cases h
      exact XT.land X.here hx rfl hd rfl hr
    · cases h
  case lor =>
    simp only [okc, beq_iff_eq] at ho
    subst ho
    simp only [pV] at h
    split at h
    · cases h
      exact XT.lor X.here hx rfl hd rfl hr
    · cases h
  case lxor =>
    simp only [okc, beq_iff_eq] at ho
    subst ho
    simp only [pV] at h
    split at h
    · cases h
      exact XT.lxor X.here hx rfl hd rfl hr
    · cases h
  case lshl =>
    simp only [okc, beq_iff_eq] at ho
    subst ho
    simp only [pV] at h
    split at h
    · cases h
      exact XT.lshl X.here hx rfl hd rfl hr
    · cases h
  case lushr =>
    simp only [okc, beq_iff_eq] at ho
    subst ho
    simp only [pV] at h
    split at h
    · cases h
      exact XT.lushr X.here hx rfl hd rfl hr
    · cases h
  case lshr =>
    simp only [okc, beq_iff_eq] at ho
    subst ho
    simp only [pV] at h
    split at h
    · cases h
      exact XT.lshr X.here hx rfl hd rfl hr
    · cases h
  case ineg =>
    simp only [okc, beq_iff_eq] at ho
    subst ho
    simp only [pV] at h
    split at h
    · cases h
      exact XS.ineg X.here hx rfl hd rfl hr
    · cases h
  case lneg =>
    simp only [okc, beq_iff_eq] at ho
    subst ho
    simp only [pV] at h
    split at h
    · cases h
      exact XT.lneg X.here hx rfl hd rfl hr
    · cases h
  case i2l =>
    simp only [okc, beq_iff_eq] at ho
    subst ho
    simp only [pV] at h
    split at h
    · cases h
      exact XT.i2l X.here hx rfl hd rfl hr
    · cases h
  case l2i =>
    simp only [okc, beq_iff_eq] at ho
    subst ho
    simp only [pV] at h
    split at h
    · cases h
      exact XT.l2i X.here hx rfl hd rfl hr
    · cases h
  case i2b =>
    simp only [okc, beq_iff_eq] at ho
    subst ho
    simp only [pV] at h
    split at h
    · cases h
      exact XT.i2b X.here hx rfl hd rfl hr
    · cases h
  case i2s =>
    simp only [okc, beq_iff_eq] at ho
    subst ho
    simp only [pV] at h
    split at h
    · cases h
      exact XT.i2s X.here hx rfl hd rfl hr
    · cases h
  case dup =>
    simp only [okc, beq_iff_eq] at ho
    subst ho
    simp only [pV] at h
    split at h
    · cases h
      exact XS.dup X.here hx rfl hd rfl rfl hr
    · cases h
      exact XS.dup X.here hx rfl hd rfl rfl hr
    · cases h
  case dup2 =>
    simp only [okc, beq_iff_eq] at ho
    subst ho
    simp only [pV] at h
    split at h
    · cases h
      exact XT.dup2 X.here hx rfl hd rfl rfl rfl hr
    · cases h
      exact XT.dup2L X.here hx rfl hd rfl hr
    · cases h
  case dup_x2 =>
    simp only [okc, beq_iff_eq] at ho
    subst ho
    simp only [pV] at h
    split at h
    · cases h
      exact own_dupX2 X.here hx rfl hd rfl rfl rfl rfl hr
    · cases h
  case goto o =>
    simp only [okc, Bool.and_eq_true, beq_iff_eq, decide_eq_true_eq] at ho
    obtain ⟨rfl, h1, h2⟩ := ho
    simp only [pV] at h
    cases h
    exact XS.goto X.here hx rfl (pc0 := pc) (pc' := t) rfl hd h1 h2 hr
  case iinc a j =>
    simp only [okc, Bool.and_eq_true, beq_iff_eq, decide_eq_true_eq] at ho
    obtain ⟨rfl, rfl⟩ := ho
    simp only [pV] at h
    split at h
    · split at h
      · cases h
        exact XS.iinc X.here hx rfl hd (by assumption) (by assumption) hr
      · cases h
    · cases h
  case ldc a =>
    simp only [okc, beq_iff_eq] at ho
    subst ho
    simp only [pV] at h
    split at h
    · rename_i v q
      cases h
      exact X.ldcInt hx hown (mv hZ (hKI _ (own_look_mem _ _ _ q))) (g := mkF m pc ls st) rfl hd _ hr
    · cases h
  case ldc2_w a =>
    simp only [okc, beq_iff_eq] at ho
    subst ho
    simp only [pV] at h
    split at h
    · rename_i v q
      cases h
      exact X.ldc2Long hx hown (mv hZ (hKJ _ (own_look_mem _ _ _ q))) (g := mkF m pc ls st) rfl hd _ hr
    · cases h
  all_goals exact nomatch (show (none : Option (Array Slot × List Value)) = some (ls', st') from h)
theorem prun_ok (X : Stand p l e R s m args below meth c T locs cells slots) (hx : p.tables.exec = Jvm.exec) (hZ : Z.Warmed39 s.vm) (hown : s.vm.findClass own = some m.cls) (hKI : ∀ q ∈ KI, (Jvm.Cond.constant own q.1 q.2).before a0 Z = true) (hKJ : ∀ q ∈ KJ, (Jvm.Cond.constantLong own q.1 q.2).before a0 Z = true) {target : State} {pc' : Nat} {ls' : Array Slot} {st' : List Value} :
    ∀ (L : List El) (pc : Nat) (ls : Array Slot) (st : List Value), Dec c.code L pc pc' = true → prun KI KJ L ls st = some (ls', st') → Steps p.tables e below (T.setTop (mkF m pc' ls' st')) target → Steps p.tables e below (T.setTop (mkF m pc ls st)) target
  | [], pc, ls, st, hD, h, hr => by
    simp only [Dec, beq_iff_eq] at hD
    simp only [prun] at h
    cases h; subst hD
    exact hr
  | (i, n, k, t) :: L, pc, ls, st, hD, h, hr => by
    simp only [Dec, Bool.and_eq_true, decide_eq_true_eq] at hD
    simp only [prun] at h
    split at h
    · rename_i l2 s2 q
      exact pV_ok X hx hZ hown hKI hKJ hD.1 hD.2.1 q (prun_ok X hx hZ hown hKI hKJ L _ l2 s2 hD.2.2 h hr)
    · cases h
end OwnSteps
/-! 2. Where a walk stands (Wk), that it comes to its end (Go), a method's contract (Cnt) -/
def Wk (Z : State) (l : Launch) (p : Program) (e : Env) (R : Room) (s : State) (m : MethodId) (args : Array Value) (below : List Frame) (meth : Method) (c : Code) (own nm : String) (bytes : ByteArray) (maxL : Nat) (ret : Option FieldType) (n0 : Nat) (T : State) (h : Heap) (cells slots : Nat) : Prop :=
  (∃ locs, Stand p l e R s m args below meth c T locs cells slots ∧ Fr n0 locs) ∧ T.heap = h ∧ n0 ≤ h.size ∧ p.tables.exec = Jvm.exec ∧ Z.Warmed39 s.vm ∧ s.vm.findClass own = some m.cls ∧ c.code = bytes ∧ c.maxLocals = maxL ∧ meth.sig.returnType = ret ∧ meth.locks = false ∧ meth.name = nm
def Go (p : Program) (e : Env) (below : List Frame) (s : State) (R : Room) (n0 : Nat) (Q : Option Value → Heap → Prop) (A : State) : Prop :=
  ∃ (s₂ : State) (v : Option Value) (L : List Loc), Steps p.tables e below A s₂ ∧ s₂.status = .running ∧ Ended s₂ below (.returned v) ∧ (Q v s₂.heap ∧ n0 ≤ s₂.heap.size ∧ Fr n0 L) ∧ FrameEnd s (.returned v) s₂ L R.cells R.slots
def Cnt (l : Launch) (Z : State) (y : MethodName) (bytes : ByteArray) (maxL : Nat) (ret : Option FieldType) (rm : Room) (n0 : Nat) (as' : Array Value) (h : Heap) (Q : Option Value → Heap → Prop) : Prop :=
  ∀ ws : List Jvm.Cond, MetFree l y (head1 (Jvm.Cond.code y bytes maxL ret :: ws) rm) (fun a U => a = as' ∧ Z.Warmed39 U.vm ∧ U.heap = h) (fun _ _ _ _ _ => True) (fun _ U o U' => ∃ v L, o = .returned v ∧ (Q v U'.heap ∧ n0 ≤ U'.heap.size ∧ Fr n0 L) ∧ FrameEnd U o U' L rm.cells rm.slots)
theorem Cnt.mk {l : Launch} {Z : State} {y : MethodName} {bytes : ByteArray} {maxL : Nat} {ret : Option FieldType} {rm : Room} {n0 : Nat} {as' : Array Value} {h : Heap} {Q : Option Value → Heap → Prop} (hn : plainFor y = true) (hh : n0 ≤ h.size)
    (H : ∀ p e s m below meth c T, Wk Z l p e rm s m as' below meth c y.cls y.name bytes maxL ret n0 T h 0 0 → Go p e below s rm n0 Q (T.setTop (entryFrame m as' maxL))) : Cnt l Z y bytes maxL ret rm n0 as' h Q := by
  intro ws
  refine MetFree.of_bodySF hn hisR ?_
  intro p e s m args below meth c s₁ Bd hml hP hK
  obtain ⟨rfl, hZ, hq⟩ := hP
  have hX : Stand p l e rm s m args below meth c s₁ [] 0 0 := Stand.of_body Bd
  obtain ⟨s₂, v, L, h1, h2, h3, h4, h5⟩ := H p e s m below meth c s₁ ⟨⟨[], hX, Fr.nil n0⟩, by rw [← hq, Bd.state]; rfl, hh, Bd.exec, hZ, findClass_of_methodNamed Bd.named, Bd.bytes, hml, Bd.returns, Bd.notSynchronized, (name_of_methodNamed Bd.named Bd.method).1⟩
  exact ⟨s₂, _, h1, h2, h3, v, L, rfl, h4, h5⟩
section OwnLaws
variable {Z : State} {l : Launch} {p : Program} {e : Env} {R : Room} {s : State} {m : MethodId} {args : Array Value} {below : List Frame} {meth : Method} {c : Code} {own nm : String} {bytes : ByteArray} {maxL : Nat} {ret : Option FieldType} {n0 : Nat} {T : State} {h : Heap} {cells slots : Nat} {Q : Option Value → Heap → Prop} {a0 : Array Value} {pc : Nat} {ls : Array Slot} {st rest : List Value}
theorem Go.lift {A A' : State} (k : ∀ t, Steps p.tables e below A' t → Steps p.tables e below A t) (g : Go p e below s R n0 Q A') : Go p e below s R n0 Q A := by
  obtain ⟨s2, v, L, h1, r⟩ := g
  exact ⟨s2, v, L, k _ h1, r⟩
theorem Go.cast {g g' : JFrame} (q : g = g') (k : Go p e below s R n0 Q (T.setTop g')) : Go p e below s R n0 Q (T.setTop g) := q ▸ k
theorem Wk.blk (X : Wk Z l p e R s m args below meth c own nm bytes maxL ret n0 T h cells slots) {KI : List (Nat × Int32)} {KJ : List (Nat × Int64)} (hK : (∀ q ∈ KI, (Jvm.Cond.constant own q.1 q.2).before a0 Z = true) ∧ (∀ q ∈ KJ, (Jvm.Cond.constantLong own q.1 q.2).before a0 Z = true)) {L : List El} {pc' : Nat} {ls' : Array Slot} {st' : List Value}
    (hD : Dec bytes L pc pc' = true) (hr : prun KI KJ L ls st = some (ls', st')) (g : Go p e below s R n0 Q (T.setTop (mkF m pc' ls' st'))) : Go p e below s R n0 Q (T.setTop (mkF m pc ls st)) := by
  obtain ⟨⟨locs, Y, N⟩, eT, hn, hx, hZ, hown, hby, hml, hrt, hlk, hnm⟩ := X
  subst hby
  exact g.lift fun t k => prun_ok Y hx hZ hown hK.1 hK.2 L pc ls st hD hr k
theorem Wk.more (X : Wk Z l p e R s m args below meth c own nm bytes maxL ret n0 T h cells slots) {c' s' : Nat} (h1 : cells ≤ c') (h2 : slots ≤ s') : Wk Z l p e R s m args below meth c own nm bytes maxL ret n0 T h c' s' := by
  obtain ⟨⟨locs, Y, N⟩, r⟩ := X
  exact ⟨⟨locs, Y.more h1 h2, N⟩, r⟩
theorem Wk.size (X : Wk Z l p e R s m args below meth c own nm bytes maxL ret n0 T h cells slots) : n0 ≤ h.size := X.2.2.1
/-! branches -/
def cT (cd : ClassFile.Cond) (x y : Int32) : Prop := match cd with | .eq => x = y | .ne => ¬ x = y | .lt => x < y | .ge => ¬ x < y | .gt => y < x | .le => ¬ y < x
def cF (cd : ClassFile.Cond) (x y : Int32) : Prop := match cd with | .eq => ¬ x = y | .ne => x = y | .lt => ¬ x < y | .ge => x < y | .gt => ¬ y < x | .le => y < x
theorem cT_cF (cd : ClassFile.Cond) (x y : Int32) : (if_icmp.holds cd x y = true ∧ cT cd x y) ∨ (if_icmp.holds cd x y = false ∧ cF cd x y) := by
  cases cd <;> simp only [cT, cF]
  · by_cases q : x = y
    · exact Or.inl ⟨(teq q).1, q⟩
    · exact Or.inr ⟨(feq q).1, q⟩
  · by_cases q : x = y
    · exact Or.inr ⟨(teq q).2, q⟩
    · exact Or.inl ⟨(feq q).2, q⟩
  all_goals first
    | (by_cases q : x < y
       · first | exact Or.inl ⟨(tlt q).1, q⟩ | exact Or.inr ⟨(tlt q).2.1, q⟩
       · first | exact Or.inr ⟨(flt q).1, q⟩ | exact Or.inl ⟨(flt q).2.1, q⟩)
    | (by_cases q : y < x
       · first | exact Or.inl ⟨(tlt q).2.2.1, q⟩ | exact Or.inr ⟨(tlt q).2.2.2, q⟩
       · first | exact Or.inr ⟨(flt q).2.2.1, q⟩ | exact Or.inl ⟨(flt q).2.2.2, q⟩)
def lT (cd : ClassFile.Cond) (x y : Int64) : Prop := match cd with | .eq => x = y | .ne => ¬ x = y | .lt => x < y | .ge => ¬ x < y | .gt => y < x | .le => ¬ y < x
def lF (cd : ClassFile.Cond) (x y : Int64) : Prop := match cd with | .eq => ¬ x = y | .ne => x = y | .lt => ¬ x < y | .ge => x < y | .gt => ¬ y < x | .le => y < x
theorem cmpL_W (x y : Int64) : XT.cmpL x y = lcmpW x y := rfl
theorem lT_lF (cd : ClassFile.Cond) (x y : Int64) : (if_icmp.holds cd (XT.cmpL x y) 0 = true ∧ lT cd x y) ∨ (if_icmp.holds cd (XT.cmpL x y) 0 = false ∧ lF cd x y) := by
  rw [cmpL_W]
  rcases cT_cF cd (lcmpW x y) 0 with ⟨a, b⟩ | ⟨a, b⟩
  · refine Or.inl ⟨a, ?_⟩
    cases cd <;> simp only [cT, lT] at b ⊢
    all_goals first | exact (lw_eq x y).mp b | exact fun q => b ((lw_eq x y).mpr q) | exact (lw_lt x y).mp b | exact fun q => b ((lw_lt x y).mpr q) | exact (lw_gt x y).mp b | exact fun q => b ((lw_gt x y).mpr q)
  · refine Or.inr ⟨a, ?_⟩
    cases cd <;> simp only [cF, lF] at b ⊢
    all_goals first | exact (lw_eq x y).mp b | exact fun q => b ((lw_eq x y).mpr q) | exact (lw_lt x y).mp b | exact fun q => b ((lw_lt x y).mpr q) | exact (lw_gt x y).mp b | exact fun q => b ((lw_gt x y).mpr q)
def DecB (b : ByteArray) (pc : Nat) (i : Instr) (o : Int) (t : Nat) : Bool := decide (decode b pc = .ok (i, 3)) && (decide (0 ≤ (pc : Int) + o) && decide (((pc : Int) + o).toNat = t))
theorem DecB.spec {b : ByteArray} {i : Instr} {o : Int} {t : Nat} (hD : DecB b pc i o t = true) : decode b pc = .ok (i, 3) ∧ 0 ≤ (pc : Int) + o ∧ ((pc : Int) + o).toNat = t := by
  simpa only [DecB, Bool.and_eq_true, decide_eq_true_eq] using hD
theorem Wk.icmp (X : Wk Z l p e R s m args below meth c own nm bytes maxL ret n0 T h cells slots) (cd : ClassFile.Cond) (o : Int) (t f : Nat) {x y : Int32} (hD : (DecB bytes pc (.if_icmp cd o) o t && pc + 3 == f) = true)
    (ky : cT cd x y → Go p e below s R n0 Q (T.setTop (mkF m t ls rest))) (kn : cF cd x y → Go p e below s R n0 Q (T.setTop (mkF m f ls rest))) : Go p e below s R n0 Q (T.setTop (mkF m pc ls (.int y :: .int x :: rest))) := by
  obtain ⟨⟨locs, Y, N⟩, eT, hn, hx, hZ, hown, hby, r⟩ := X
  simp only [Bool.and_eq_true, beq_iff_eq] at hD
  obtain ⟨hD, rfl⟩ := hD
  obtain ⟨hd, h1, h2⟩ := DecB.spec hD
  rcases cT_cF cd x y with ⟨a, b⟩ | ⟨a, b⟩
  · exact (ky b).lift fun _ k => XS.icmpYes Y.here hx rfl (pc0 := pc) (pc' := t) rfl (hb hby hd) rfl a h1 h2 k
  · exact (kn b).lift fun _ k => XS.icmpNo Y.here hx rfl (hb hby hd) rfl a k
theorem Wk.ifc (X : Wk Z l p e R s m args below meth c own nm bytes maxL ret n0 T h cells slots) (cd : ClassFile.Cond) (o : Int) (t f : Nat) {x : Int32} (hD : (DecB bytes pc (.ifCond cd o) o t && pc + 3 == f) = true)
    (ky : cT cd x 0 → Go p e below s R n0 Q (T.setTop (mkF m t ls rest))) (kn : cF cd x 0 → Go p e below s R n0 Q (T.setTop (mkF m f ls rest))) : Go p e below s R n0 Q (T.setTop (mkF m pc ls (.int x :: rest))) := by
  obtain ⟨⟨locs, Y, N⟩, eT, hn, hx, hZ, hown, hby, r⟩ := X
  simp only [Bool.and_eq_true, beq_iff_eq] at hD
  obtain ⟨hD, rfl⟩ := hD
  obtain ⟨hd, h1, h2⟩ := DecB.spec hD
  rcases cT_cF cd x 0 with ⟨a, b⟩ | ⟨a, b⟩
  · exact (ky b).lift fun _ k => XS.ifYes Y.here hx rfl (pc0 := pc) (pc' := t) rfl (hb hby hd) rfl ((if0 _ _).trans a) h1 h2 k
  · exact (kn b).lift fun _ k => XS.ifNo Y.here hx rfl (hb hby hd) rfl ((if0 _ _).trans a) k
theorem Wk.lcmp (X : Wk Z l p e R s m args below meth c own nm bytes maxL ret n0 T h cells slots) (cd : ClassFile.Cond) (o : Int) (t f : Nat) {x y : Int64} (hD : (decide (decode bytes pc = .ok (.lcmp, 1)) && (DecB bytes (pc + 1) (.ifCond cd o) o t && pc + 4 == f)) = true)
    (ky : lT cd x y → Go p e below s R n0 Q (T.setTop (mkF m t ls rest))) (kn : lF cd x y → Go p e below s R n0 Q (T.setTop (mkF m f ls rest))) : Go p e below s R n0 Q (T.setTop (mkF m pc ls (.long y :: .long x :: rest))) := by
  obtain ⟨⟨locs, Y, N⟩, eT, hn, hx, hZ, hown, hby, r⟩ := X
  simp only [Bool.and_eq_true, beq_iff_eq, decide_eq_true_eq] at hD
  obtain ⟨hL, hD, rfl⟩ := hD
  obtain ⟨hd, h1, h2⟩ := DecB.spec hD
  rcases lT_lF cd x y with ⟨a, b⟩ | ⟨a, b⟩
  · exact (ky b).lift fun _ k => XT.lcmp Y.here hx rfl (hb hby hL) rfl (XS.ifYes Y.here hx rfl (pc0 := pc + 1) (pc' := t) rfl (hb hby hd) rfl ((if0 _ _).trans a) h1 h2 k)
  · exact (kn b).lift fun _ k => XT.lcmp Y.here hx rfl (hb hby hL) rfl (XS.ifNo Y.here hx rfl (hb hby hd) rfl ((if0 _ _).trans a) k)
theorem Wk.ifnullY (X : Wk Z l p e R s m args below meth c own nm bytes maxL ret n0 T h cells slots) (o : Int) (t : Nat) (hD : DecB bytes pc (.ifnull o) o t = true) (k : Go p e below s R n0 Q (T.setTop (mkF m t ls rest))) : Go p e below s R n0 Q (T.setTop (mkF m pc ls (.null :: rest))) := by
  obtain ⟨⟨locs, Y, N⟩, eT, hn, hx, hZ, hown, hby, r⟩ := X
  obtain ⟨hd, h1, h2⟩ := DecB.spec hD
  exact k.lift fun _ k => XS.ifnullYes Y.here hx rfl (pc0 := pc) (pc' := t) rfl (hb hby hd) rfl h1 h2 k
theorem Wk.ifnullN (X : Wk Z l p e R s m args below meth c own nm bytes maxL ret n0 T h cells slots) (o : Int) (f : Nat) {a : Addr} (hD : (decide (decode bytes pc = .ok (.ifnull o, 3)) && pc + 3 == f) = true) (k : Go p e below s R n0 Q (T.setTop (mkF m f ls rest))) : Go p e below s R n0 Q (T.setTop (mkF m pc ls (.ref a :: rest))) := by
  obtain ⟨⟨locs, Y, N⟩, eT, hn, hx, hZ, hown, hby, r⟩ := X
  simp only [Bool.and_eq_true, beq_iff_eq, decide_eq_true_eq] at hD
  obtain ⟨hd, rfl⟩ := hD
  exact k.lift fun _ k => XS.ifnullNo Y.here hx rfl (hb hby hd) rfl k
theorem Wk.ifnnY (X : Wk Z l p e R s m args below meth c own nm bytes maxL ret n0 T h cells slots) (o : Int) (t : Nat) {a : Addr} (hD : DecB bytes pc (.ifnonnull o) o t = true) (k : Go p e below s R n0 Q (T.setTop (mkF m t ls rest))) : Go p e below s R n0 Q (T.setTop (mkF m pc ls (.ref a :: rest))) := by
  obtain ⟨⟨locs, Y, N⟩, eT, hn, hx, hZ, hown, hby, r⟩ := X
  obtain ⟨hd, h1, h2⟩ := DecB.spec hD
  exact k.lift fun _ k => XT.ifnonnullYes Y.here hx rfl (pc0 := pc) (pc' := t) rfl (hb hby hd) rfl h1 h2 k
theorem Wk.ifnnN (X : Wk Z l p e R s m args below meth c own nm bytes maxL ret n0 T h cells slots) (o : Int) (f : Nat) (hD : (decide (decode bytes pc = .ok (.ifnonnull o, 3)) && pc + 3 == f) = true) (k : Go p e below s R n0 Q (T.setTop (mkF m f ls rest))) : Go p e below s R n0 Q (T.setTop (mkF m pc ls (.null :: rest))) := by
  obtain ⟨⟨locs, Y, N⟩, eT, hn, hx, hZ, hown, hby, r⟩ := X
  simp only [Bool.and_eq_true, beq_iff_eq, decide_eq_true_eq] at hD
  obtain ⟨hd, rfl⟩ := hD
  exact k.lift fun _ k => XT.ifnonnullNo Y.here hx rfl (hb hby hd) rfl k
/-- two references that differ: if_acmpne is taken, if_acmpeq isn't -/
theorem Wk.acmpNeT (X : Wk Z l p e R s m args below meth c own nm bytes maxL ret n0 T h cells slots) (o : Int) (t : Nat) {a b : Addr} (hne : a ≠ b) (hD : DecB bytes pc (.if_acmp .ne o) o t = true) (k : Go p e below s R n0 Q (T.setTop (mkF m t ls rest))) : Go p e below s R n0 Q (T.setTop (mkF m pc ls (.ref b :: .ref a :: rest))) := by
  obtain ⟨⟨locs, Y, N⟩, eT, hn, hx, hZ, hown, hby, r⟩ := X
  obtain ⟨hd, h1, h2⟩ := DecB.spec hD
  exact k.lift fun _ k => XT.acmpYes Y.here hx rfl (pc0 := pc) (pc' := t) rfl (hb hby hd) rfl rfl rfl (by simp [XT.acmp, hne]) h1 h2 k
theorem Wk.acmpEqF (X : Wk Z l p e R s m args below meth c own nm bytes maxL ret n0 T h cells slots) (o : Int) (f : Nat) {a b : Addr} (hne : a ≠ b) (hD : (decide (decode bytes pc = .ok (.if_acmp .eq o, 3)) && pc + 3 == f) = true) (k : Go p e below s R n0 Q (T.setTop (mkF m f ls rest))) : Go p e below s R n0 Q (T.setTop (mkF m pc ls (.ref b :: .ref a :: rest))) := by
  obtain ⟨⟨locs, Y, N⟩, eT, hn, hx, hZ, hown, hby, r⟩ := X
  simp only [Bool.and_eq_true, beq_iff_eq, decide_eq_true_eq] at hD
  obtain ⟨hd, rfl⟩ := hD
  exact k.lift fun _ k => XT.acmpNo Y.here hx rfl (hb hby hd) rfl rfl rfl (by simp [XT.acmp, hne]) k
/-! division -/
def De (b : ByteArray) (pc : Nat) (i : Instr) (n pc' : Nat) : Bool := decide (decode b pc = .ok (i, n)) && pc + n == pc'
theorem De.spec {b : ByteArray} {i : Instr} {n pc' : Nat} (hD : De b pc i n pc' = true) : decode b pc = .ok (i, n) ∧ pc + n = pc' := by
  simpa only [De, Bool.and_eq_true, decide_eq_true_eq, beq_iff_eq] using hD
theorem Wk.irem (X : Wk Z l p e R s m args below meth c own nm bytes maxL ret n0 T h cells slots) (pc' : Nat) {x y : Int32} (hD : De bytes pc .irem 1 pc' = true) (hy : y ≠ 0) (k : Go p e below s R n0 Q (T.setTop (mkF m pc' ls (.int (x % y) :: rest)))) : Go p e below s R n0 Q (T.setTop (mkF m pc ls (.int y :: .int x :: rest))) := by
  obtain ⟨⟨locs, Y, N⟩, eT, hn, hx, hZ, hown, hby, r⟩ := X
  obtain ⟨hd, rfl⟩ := De.spec hD
  exact k.lift fun _ k => iremM Y hx rfl (hb hby hd) rfl hy k
theorem Wk.idiv (X : Wk Z l p e R s m args below meth c own nm bytes maxL ret n0 T h cells slots) (pc' : Nat) {x y : Int32} (hD : De bytes pc .idiv 1 pc' = true) (hy : y ≠ 0) (k : Go p e below s R n0 Q (T.setTop (mkF m pc' ls (.int (x / y) :: rest)))) : Go p e below s R n0 Q (T.setTop (mkF m pc ls (.int y :: .int x :: rest))) := by
  obtain ⟨⟨locs, Y, N⟩, eT, hn, hx, hZ, hown, hby, r⟩ := X
  obtain ⟨hd, rfl⟩ := De.spec hD
  exact k.lift fun _ k => XS.idiv Y.here hx rfl (hb hby hd) rfl hy k
theorem Wk.ldiv (X : Wk Z l p e R s m args below meth c own nm bytes maxL ret n0 T h cells slots) (pc' : Nat) {x y : Int64} (hD : De bytes pc .ldiv 1 pc' = true) (hy : y ≠ 0) (k : Go p e below s R n0 Q (T.setTop (mkF m pc' ls (.long (x / y) :: rest)))) : Go p e below s R n0 Q (T.setTop (mkF m pc ls (.long y :: .long x :: rest))) := by
  obtain ⟨⟨locs, Y, N⟩, eT, hn, hx, hZ, hown, hby, r⟩ := X
  obtain ⟨hd, rfl⟩ := De.spec hD
  exact k.lift fun _ k => XT.ldiv Y.here hx rfl (hb hby hd) rfl hy k
theorem Wk.lrem (X : Wk Z l p e R s m args below meth c own nm bytes maxL ret n0 T h cells slots) (pc' : Nat) {x y : Int64} (hD : De bytes pc .lrem 1 pc' = true) (hy : y ≠ 0) (k : Go p e below s R n0 Q (T.setTop (mkF m pc' ls (.long (x % y) :: rest)))) : Go p e below s R n0 Q (T.setTop (mkF m pc ls (.long y :: .long x :: rest))) := by
  obtain ⟨⟨locs, Y, N⟩, eT, hn, hx, hZ, hown, hby, r⟩ := X
  obtain ⟨hd, rfl⟩ := De.spec hD
  exact k.lift fun _ k => XT.lrem Y.here hx rfl (hb hby hd) rfl hy (by rw [lrem_mod]; exact k)
/-! returns -/
theorem Wk.retG (X : Wk Z l p e R s m args below meth c own nm bytes maxL ret n0 T h cells slots) {i : Instr} {t : FieldType} {w : Value} (hd : decode bytes pc = .ok (i, 1)) (hret : ret = some t) (hnw : narrow t w = w)
    (hi : (i = .ireturn ∧ (t = .int ∨ t = .boolean ∨ t = .byte ∨ t = .char ∨ t = .short) ∧ ∃ z, w = .int z) ∨ (i = .lreturn ∧ t = .long ∧ ∃ z, w = .long z) ∨ (i = .dreturn ∧ t = .double ∧ ∃ z, w = .double z) ∨ (i = .freturn ∧ t = .float ∧ ∃ z, w = .float z) ∨ (i = .areturn ∧ t.isReference = true ∧ w.isRef = true))
    (hc : cells ≤ R.cells) (hs : slots ≤ R.slots) (hq : Q (some w) h) : Go p e below s R n0 Q (T.setTop (mkF m pc ls (w :: rest))) := by
  obtain ⟨⟨locs, Y, N⟩, eT, hn, hx, hZ, hown, hby, hml, hr, hlk, hnm⟩ := X
  obtain ⟨fs, hl, hrun, hended, hW, hsame⟩ := Y.leave (v := some w) (fun q => by rw [hr, hret] at q; cases q) hlk
  refine ⟨T.setFrames fs, some w, locs, retOut Y hx (hr.trans hret) hnw hi (hb hby hd) hl, hrun, hended, ⟨?_, ?_, N⟩, ⟨_, rfl⟩, hW, hsame.mono hc hs⟩
  · show Q (some w) T.heap
    rw [eT]; exact hq
  · show n0 ≤ T.heap.size
    rw [eT]; exact hn
theorem Wk.retI (X : Wk Z l p e R s m args below meth c own nm bytes maxL (some .int) n0 T h cells slots) {z : Int32} (hd : decode bytes pc = .ok (.ireturn, 1)) (hc : cells ≤ R.cells) (hs : slots ≤ R.slots) (hq : Q (some (.int z)) h) : Go p e below s R n0 Q (T.setTop (mkF m pc ls (.int z :: rest))) :=
  X.retG hd rfl rfl (Or.inl ⟨rfl, Or.inl rfl, z, rfl⟩) hc hs hq
theorem Wk.retL (X : Wk Z l p e R s m args below meth c own nm bytes maxL (some .long) n0 T h cells slots) {z : Int64} (hd : decode bytes pc = .ok (.lreturn, 1)) (hc : cells ≤ R.cells) (hs : slots ≤ R.slots) (hq : Q (some (.long z)) h) : Go p e below s R n0 Q (T.setTop (mkF m pc ls (.long z :: rest))) :=
  X.retG hd rfl rfl (Or.inr (Or.inl ⟨rfl, rfl, z, rfl⟩)) hc hs hq
theorem Wk.retA (X : Wk Z l p e R s m args below meth c own nm bytes maxL ret n0 T h cells slots) {t : FieldType} {w : Value} (hd : decode bytes pc = .ok (.areturn, 1)) (hret : ret = some t) (ht : t.isReference = true) (hw : w.isRef = true) (hc : cells ≤ R.cells) (hs : slots ≤ R.slots) (hq : Q (some w) h) : Go p e below s R n0 Q (T.setTop (mkF m pc ls (w :: rest))) :=
  X.retG hd hret (by rcases ref_cases hw with rfl | ⟨z, rfl⟩ <;> cases t <;> first | rfl | simp [FieldType.isReference] at ht) (Or.inr (Or.inr (Or.inr (Or.inr ⟨rfl, ht, hw⟩)))) hc hs hq
theorem Wk.retZ (X : Wk Z l p e R s m args below meth c own nm bytes maxL (some .boolean) n0 T h cells slots) {z : Int32} (hd : decode bytes pc = .ok (.ireturn, 1)) (hc : cells ≤ R.cells) (hs : slots ≤ R.slots) (hz : z = 0 ∨ z = 1) (hq : Q (some (.int z)) h) : Go p e below s R n0 Q (T.setTop (mkF m pc ls (.int z :: rest))) :=
  X.retG hd rfl (by rcases hz with rfl | rfl <;> rfl) (Or.inl ⟨rfl, Or.inr (Or.inl rfl), z, rfl⟩) hc hs hq
theorem Wk.retV (X : Wk Z l p e R s m args below meth c own nm bytes maxL none n0 T h cells slots) (hd : decode bytes pc = .ok (.return_, 1)) (hc : cells ≤ R.cells) (hs : slots ≤ R.slots) (hq : Q none h) : Go p e below s R n0 Q (T.setTop (mkF m pc ls [])) := by
  obtain ⟨⟨locs, Y, N⟩, eT, hn, hx, hZ, hown, hby, hml, hr, hlk, hnm⟩ := X
  obtain ⟨fs, hl, hrun, hended, hW, hsame⟩ := Y.leave (v := none) (fun _ => rfl) hlk
  refine ⟨T.setFrames fs, none, locs, Y.returnOut hx hr (hb hby hd) hl, hrun, hended, ⟨?_, ?_, N⟩, ⟨_, rfl⟩, hW, hsame.mono hc hs⟩
  · show Q none T.heap
    rw [eT]; exact hq
  · show n0 ≤ T.heap.size
    rw [eT]; exact hn
/-! arrays: all their components by a list -/
def AV (Z : State) (h : Heap) (a : Addr) (ty : FieldType) (vs : List Value) : Prop := ∃ cl : Cell, Arr Z h a cl ty ∧ cl.slots.toList = vs ∧ vs.length < 2 ^ 31 ∧ (∀ v ∈ vs, fits ty v = true) ∧ Exa Z h a ("[" ++ ty.toString)
theorem AV.lt {a : Addr} {ty : FieldType} {vs : List Value} (A : AV Z h a ty vs) : a < h.size := by obtain ⟨cl, A, -⟩ := A; exact A.lt
theorem AV.ext {h' : Heap} {a : Addr} {ty : FieldType} {vs : List Value} (A : AV Z h a ty vs) (E : Ext h h') : AV Z h' a ty vs := by obtain ⟨cl, A, q1, q2, q3, q4⟩ := A; exact ⟨cl, A.ext E, q1, q2, q3, q4.ext E⟩
theorem AV.other {h' : Heap} {a b : Addr} {sl : Nat} {v : Value} {ty : FieldType} {vs : List Value} (A : AV Z h a ty vs) (W : Wr h h' b sl v) (ne : a ≠ b) : AV Z h' a ty vs := by obtain ⟨cl, A, q1, q2, q3, q4⟩ := A; exact ⟨cl, A.other W ne, q1, q2, q3, q4.wr W⟩
theorem AV.keep {h' : Heap} {a : Addr} {ws : List Addr} {ty : FieldType} {vs : List Value} (A : AV Z h a ty vs) (K : Keep h h' ws) (ne : a ∉ ws) : AV Z h' a ty vs := by obtain ⟨cl, A, q1, q2, q3, q4⟩ := A; exact ⟨cl, ⟨K.2.1 a cl A.1 ne, A.2⟩, q1, q2, q3, q4.keep K⟩
theorem AV.arv {a : Addr} {ty : FieldType} {vs : List Value} (A : AV Z h a ty vs) (d : Value) : ∃ k, Arv Z h a k ty vs.length.toInt32 vs d := by
  obtain ⟨cl, A, rfl, q2, q3, q4⟩ := A
  have hz : ¬ cl.slots.toList.length.toInt32 < 0 := by rw [Int32.lt_iff_toInt_lt, len_toInt q2]; show ¬ ((_ : Int) < (0 : Int)); omega
  have hs : cl.slots.size = cl.slots.toList.length.toInt32.toNatClampNeg := by
    have := nat_of hz; rw [len_toInt q2] at this; simp only [Array.length_toList] at *; omega
  refine ⟨cl.cls, cl, A, rfl, hs, hz, fun i hi => ?_, fun i hi => ?_⟩
  · rw [List.getD_eq_getElem?_getD, Array.getElem?_toList, Array.getElem?_eq_getElem hi]; rfl
  · rw [List.getD_eq_getElem?_getD, Array.getElem?_toList, Array.getElem?_eq_getElem hi]; exact q3 _ (by simp)
theorem AV.of_arv {a : Addr} {k : ClassId} {ty : FieldType} {vs : List Value} {d : Value} {z : Int32} (A : Arv Z h a k ty z vs d) (hl : z.toNatClampNeg = vs.length) (E : Exa Z h a ("[" ++ ty.toString)) : AV Z h a ty vs := by
  obtain ⟨cl, A, -, S, hz, H, G⟩ := A
  have e : cl.slots.toList = vs := by
    refine List.ext_getElem? fun i => ?_
    rw [Array.getElem?_toList]
    by_cases hi : i < cl.slots.size
    · rw [H i hi, List.getD_eq_getElem?_getD, List.getElem?_eq_getElem (by omega)]; rfl
    · rw [Array.getElem?_eq_none (by omega), List.getElem?_eq_none (by omega)]
  refine ⟨cl, A, e, by rw [← hl]; exact (back32 hz).2, fun v hv => ?_, E⟩
  obtain ⟨i, hi, rfl⟩ := List.getElem_of_mem hv
  have q := G i (by omega)
  rwa [List.getD_eq_getElem?_getD, List.getElem?_eq_getElem hi] at q
theorem AV.exa {a : Addr} {ty : FieldType} {vs : List Value} (A : AV Z h a ty vs) : Exa Z h a ("[" ++ ty.toString) := by obtain ⟨cl, -, -, -, -, E⟩ := A; exact E
theorem fits_default {ty : FieldType} : fits ty (defaultValue ty) = true := by cases ty <;> rfl
theorem Wk.newarr (X : Wk Z l p e R s m args below meth c own nm bytes maxL ret n0 T h cells slots) (pc' cap : Nat) {aty : ArrayType} {ty : FieldType} {n : Int32} (w : (Jvm.Cond.arrayClass ty).before a0 Z = true) (hty : newarray.typeOf aty = ty) (hD : De bytes pc (.newarray aty) 2 pc' = true) (hn : ¬ n < 0) (hcap : n.toNatClampNeg ≤ cap) (hrm : (decide (cap * 8 ≤ 536870912) && (decide (cells + 1 ≤ R.cells) && decide (slots + cap ≤ R.slots))) = true)
    (k : ∀ T' h', Wk Z l p e R s m args below meth c own nm bytes maxL ret n0 T' h' (cells + 1) (slots + cap) → Ext h h' → AV Z h' h.size ty (List.replicate n.toNatClampNeg (defaultValue ty)) → Go p e below s R n0 Q (T'.setTop (mkF m pc' ls (.ref h.size :: rest)))) : Go p e below s R n0 Q (T.setTop (mkF m pc ls (.int n :: rest))) := by
  obtain ⟨⟨locs, Y, N⟩, eT, hn0, hx, hZ, hown, hby, hml, hrt, hlk, hnm⟩ := X
  obtain ⟨hd, rfl⟩ := De.spec hD
  subst hty
  simp only [Bool.and_eq_true, decide_eq_true_eq] at hrm
  obtain ⟨T', h', cA, Y', e', E, A, E2, stp⟩ := newPE Y hx hZ w eT (g := mkF m pc ls (.int n :: rest)) rfl (hb hby hd) rfl hn hcap hrm.1 hrm.2.1 hrm.2.2 (ad := "[" ++ (newarray.typeOf aty).toString) rfl
  refine (k T' h' ⟨⟨locs, Y', N⟩, e', Nat.le_trans hn0 E.1, hx, hZ, hown, hby, hml, hrt, hlk, hnm⟩ E ⟨_, A, by simp [newA], ?_, ?_, E2⟩).lift stp
  · rw [List.length_replicate]; exact (back32 hn).2
  · intro v hv
    rw [(List.mem_replicate.mp hv).2]; exact fits_default
theorem Wk.baload (X : Wk Z l p e R s m args below meth c own nm bytes maxL ret n0 T h cells slots) (pc' : Nat) {a : Addr} {vs : List Value} {j : Int32} {v : Value} (A : AV Z h a .byte vs) (hD : De bytes pc .baload 1 pc' = true) (hj : ¬ j < 0) (hv : vs[j.toNatClampNeg]? = some v) (k : Go p e below s R n0 Q (T.setTop (mkF m pc' ls (v :: rest)))) : Go p e below s R n0 Q (T.setTop (mkF m pc ls (.int j :: .ref a :: rest))) := by
  obtain ⟨⟨locs, Y, N⟩, eT, hn, hx, hZ, hown, hby, hml, hrt, hlk, hnm⟩ := X
  obtain ⟨hd, rfl⟩ := De.spec hD
  obtain ⟨cl, A, rfl, q2, q3, q4⟩ := A
  rw [Array.getElem?_toList] at hv
  have hlt := (Array.getElem?_eq_some_iff.mp hv).1
  exact k.lift fun t k => Y.baloadBytes hx (by rw [eT]; exact A.1) (State.isArrayOf_alike hZ.alike A.2.1) A.2.2 (fun q => q.elim hj fun q => absurd hlt (Nat.not_lt.mpr q)) hv (g := mkF m pc ls (.int j :: .ref a :: rest)) rfl rfl (hb hby hd) t k
theorem Wk.iaload (X : Wk Z l p e R s m args below meth c own nm bytes maxL ret n0 T h cells slots) (pc' : Nat) {a : Addr} {vs : List Value} {j : Int32} {v : Value} (A : AV Z h a .int vs) (hD : De bytes pc .iaload 1 pc' = true) (hj : ¬ j < 0) (hv : vs[j.toNatClampNeg]? = some v) (k : Go p e below s R n0 Q (T.setTop (mkF m pc' ls (v :: rest)))) : Go p e below s R n0 Q (T.setTop (mkF m pc ls (.int j :: .ref a :: rest))) := by
  obtain ⟨⟨locs, Y, N⟩, eT, hn, hx, hZ, hown, hby, hml, hrt, hlk, hnm⟩ := X
  obtain ⟨hd, rfl⟩ := De.spec hD
  obtain ⟨cl, A, rfl, q2, q3, q4⟩ := A
  rw [Array.getElem?_toList] at hv
  have hlt := (Array.getElem?_eq_some_iff.mp hv).1
  exact k.lift fun t k => Y.iaload hx (by rw [eT]; exact A.1) (State.isArrayOf_alike hZ.alike A.2.1) A.2.2 (fun q => q.elim hj fun q => absurd hlt (Nat.not_lt.mpr q)) hv (g := mkF m pc ls (.int j :: .ref a :: rest)) rfl rfl (hb hby hd) t k
theorem Wk.laload (X : Wk Z l p e R s m args below meth c own nm bytes maxL ret n0 T h cells slots) (pc' : Nat) {a : Addr} {vs : List Value} {j : Int32} {v : Value} (A : AV Z h a .long vs) (hD : De bytes pc .laload 1 pc' = true) (hj : ¬ j < 0) (hv : vs[j.toNatClampNeg]? = some v) (k : Go p e below s R n0 Q (T.setTop (mkF m pc' ls (v :: rest)))) : Go p e below s R n0 Q (T.setTop (mkF m pc ls (.int j :: .ref a :: rest))) := by
  obtain ⟨⟨locs, Y, N⟩, eT, hn, hx, hZ, hown, hby, hml, hrt, hlk, hnm⟩ := X
  obtain ⟨hd, rfl⟩ := De.spec hD
  obtain ⟨cl, A, rfl, q2, q3, q4⟩ := A
  rw [Array.getElem?_toList] at hv
  have hlt := (Array.getElem?_eq_some_iff.mp hv).1
  exact k.lift fun t k => Y.laload hx (by rw [eT]; exact A.1) (State.isArrayOf_alike hZ.alike A.2.1) A.2.2 (fun q => q.elim hj fun q => absurd hlt (Nat.not_lt.mpr q)) hv (g := mkF m pc ls (.int j :: .ref a :: rest)) rfl rfl (hb hby hd) t k
theorem Wk.saload (X : Wk Z l p e R s m args below meth c own nm bytes maxL ret n0 T h cells slots) (pc' : Nat) {a : Addr} {vs : List Value} {j : Int32} {v : Value} (A : AV Z h a .short vs) (hD : De bytes pc .saload 1 pc' = true) (hj : ¬ j < 0) (hv : vs[j.toNatClampNeg]? = some v) (k : Go p e below s R n0 Q (T.setTop (mkF m pc' ls (v :: rest)))) : Go p e below s R n0 Q (T.setTop (mkF m pc ls (.int j :: .ref a :: rest))) := by
  obtain ⟨⟨locs, Y, N⟩, eT, hn, hx, hZ, hown, hby, hml, hrt, hlk, hnm⟩ := X
  obtain ⟨hd, rfl⟩ := De.spec hD
  obtain ⟨cl, A, rfl, q2, q3, q4⟩ := A
  rw [Array.getElem?_toList] at hv
  have hlt := (Array.getElem?_eq_some_iff.mp hv).1
  exact k.lift fun t k => Y.saload hx (by rw [eT]; exact A.1) (State.isArrayOf_alike hZ.alike A.2.1) A.2.2 (fun q => q.elim hj fun q => absurd hlt (Nat.not_lt.mpr q)) hv (g := mkF m pc ls (.int j :: .ref a :: rest)) rfl rfl (hb hby hd) t k
theorem Wk.alen (X : Wk Z l p e R s m args below meth c own nm bytes maxL ret n0 T h cells slots) (pc' : Nat) {a : Addr} {vs : List Value} {ty : FieldType} {n : Int32} (A : AV Z h a ty vs) (hD : De bytes pc .arraylength 1 pc' = true) (hl : vs.length.toInt32 = n) (k : Go p e below s R n0 Q (T.setTop (mkF m pc' ls (.int n :: rest)))) : Go p e below s R n0 Q (T.setTop (mkF m pc ls (.ref a :: rest))) := by
  obtain ⟨⟨locs, Y, N⟩, eT, hn, hx, hZ, hown, hby, hml, hrt, hlk, hnm⟩ := X
  obtain ⟨hd, rfl⟩ := De.spec hD
  obtain ⟨cl, A, rfl, q2, q3, q4⟩ := A
  subst hl
  exact k.lift fun t k => Y.arraylength hx (by rw [eT]; exact A.1) (State.isArrayOf_alike hZ.alike A.2.1) (g := mkF m pc ls (.ref a :: rest)) rfl rfl (hb hby hd) t (by simpa using k)
theorem Wk.bastore (X : Wk Z l p e R s m args below meth c own nm bytes maxL ret n0 T h cells slots) (pc' : Nat) {a : Addr} {vs : List Value} {j : Int32} {x x' : Int32} (hx' : nar .byte x = x') (A : AV Z h a .byte vs) (hD : De bytes pc .bastore 1 pc' = true) (hj : ¬ j < 0) (hl : j.toNatClampNeg < vs.length) (ha : n0 ≤ a)
    (k : ∀ T' h', Wk Z l p e R s m args below meth c own nm bytes maxL ret n0 T' h' cells slots → Wr h h' a j.toNatClampNeg (.int x') → AV Z h' a .byte (vs.set j.toNatClampNeg (.int x')) → Go p e below s R n0 Q (T'.setTop (mkF m pc' ls rest))) : Go p e below s R n0 Q (T.setTop (mkF m pc ls (.int x :: .int j :: .ref a :: rest))) := by
  obtain ⟨⟨locs, Y, N⟩, eT, hn, hx, hZ, hown, hby, hml, hrt, hlk, hnm⟩ := X
  obtain ⟨hd, rfl⟩ := De.spec hD
  obtain ⟨cl, A, rfl, q2, q3, q4⟩ := A
  subst hx'
  rw [Array.length_toList] at hl
  obtain ⟨T', h', Y', e', W, stp⟩ := stB Y hx hZ eT A (fun q => q.elim hj fun q => absurd hl (Nat.not_lt.mpr q)) (g := mkF m pc ls (.int x :: .int j :: .ref a :: rest)) rfl rfl (hb hby hd)
  refine (k T' h' ⟨⟨_, Y', Fr.snoc Y' N ha⟩, e', by rw [W.size]; exact hn, hx, hZ, hown, hby, hml, hrt, hlk, hnm⟩ W ⟨_, Arr.same W A, by simp [Cell.setSlot], by simpa using q2, fun v hv => ?_, q4.wr W⟩).lift stp
  rcases List.mem_or_eq_of_mem_set hv with q | rfl
  · exact q3 _ q
  · exact fits_nar_byte _
theorem Wk.iastore (X : Wk Z l p e R s m args below meth c own nm bytes maxL ret n0 T h cells slots) (pc' : Nat) {a : Addr} {vs : List Value} {j : Int32} {x : Int32} (A : AV Z h a .int vs) (hD : De bytes pc .iastore 1 pc' = true) (hj : ¬ j < 0) (hl : j.toNatClampNeg < vs.length) (ha : n0 ≤ a)
    (k : ∀ T' h', Wk Z l p e R s m args below meth c own nm bytes maxL ret n0 T' h' cells slots → Wr h h' a j.toNatClampNeg (.int x) → AV Z h' a .int (vs.set j.toNatClampNeg (.int x)) → Go p e below s R n0 Q (T'.setTop (mkF m pc' ls rest))) : Go p e below s R n0 Q (T.setTop (mkF m pc ls (.int x :: .int j :: .ref a :: rest))) := by
  obtain ⟨⟨locs, Y, N⟩, eT, hn, hx, hZ, hown, hby, hml, hrt, hlk, hnm⟩ := X
  obtain ⟨hd, rfl⟩ := De.spec hD
  obtain ⟨cl, A, rfl, q2, q3, q4⟩ := A
  rw [Array.length_toList] at hl
  obtain ⟨T', h', Y', e', W, stp⟩ := stI Y hx hZ eT A (fun q => q.elim hj fun q => absurd hl (Nat.not_lt.mpr q)) (g := mkF m pc ls (.int x :: .int j :: .ref a :: rest)) rfl rfl (hb hby hd)
  refine (k T' h' ⟨⟨_, Y', Fr.snoc Y' N ha⟩, e', by rw [W.size]; exact hn, hx, hZ, hown, hby, hml, hrt, hlk, hnm⟩ W ⟨_, Arr.same W A, by simp [Cell.setSlot], by simpa using q2, fun v hv => ?_, q4.wr W⟩).lift stp
  rcases List.mem_or_eq_of_mem_set hv with q | rfl
  · exact q3 _ q
  · rfl
theorem Wk.lastore (X : Wk Z l p e R s m args below meth c own nm bytes maxL ret n0 T h cells slots) (pc' : Nat) {a : Addr} {vs : List Value} {j : Int32} {x : Int64} (A : AV Z h a .long vs) (hD : De bytes pc .lastore 1 pc' = true) (hj : ¬ j < 0) (hl : j.toNatClampNeg < vs.length) (ha : n0 ≤ a)
    (k : ∀ T' h', Wk Z l p e R s m args below meth c own nm bytes maxL ret n0 T' h' cells slots → Wr h h' a j.toNatClampNeg (.long x) → AV Z h' a .long (vs.set j.toNatClampNeg (.long x)) → Go p e below s R n0 Q (T'.setTop (mkF m pc' ls rest))) : Go p e below s R n0 Q (T.setTop (mkF m pc ls (.long x :: .int j :: .ref a :: rest))) := by
  obtain ⟨⟨locs, Y, N⟩, eT, hn, hx, hZ, hown, hby, hml, hrt, hlk, hnm⟩ := X
  obtain ⟨hd, rfl⟩ := De.spec hD
  obtain ⟨cl, A, rfl, q2, q3, q4⟩ := A
  rw [Array.length_toList] at hl
  obtain ⟨T', h', Y', e', W, stp⟩ := stJ Y hx hZ eT A (fun q => q.elim hj fun q => absurd hl (Nat.not_lt.mpr q)) (g := mkF m pc ls (.long x :: .int j :: .ref a :: rest)) rfl rfl (hb hby hd)
  refine (k T' h' ⟨⟨_, Y', Fr.snoc Y' N ha⟩, e', by rw [W.size]; exact hn, hx, hZ, hown, hby, hml, hrt, hlk, hnm⟩ W ⟨_, Arr.same W A, by simp [Cell.setSlot], by simpa using q2, fun v hv => ?_, q4.wr W⟩).lift stp
  rcases List.mem_or_eq_of_mem_set hv with q | rfl
  · exact q3 _ q
  · rfl
theorem Wk.sastore (X : Wk Z l p e R s m args below meth c own nm bytes maxL ret n0 T h cells slots) (pc' : Nat) {a : Addr} {vs : List Value} {j : Int32} {x x' : Int32} (hx' : nar .short x = x') (A : AV Z h a .short vs) (hD : De bytes pc .sastore 1 pc' = true) (hj : ¬ j < 0) (hl : j.toNatClampNeg < vs.length) (ha : n0 ≤ a)
    (k : ∀ T' h', Wk Z l p e R s m args below meth c own nm bytes maxL ret n0 T' h' cells slots → Wr h h' a j.toNatClampNeg (.int x') → AV Z h' a .short (vs.set j.toNatClampNeg (.int x')) → Go p e below s R n0 Q (T'.setTop (mkF m pc' ls rest))) : Go p e below s R n0 Q (T.setTop (mkF m pc ls (.int x :: .int j :: .ref a :: rest))) := by
  obtain ⟨⟨locs, Y, N⟩, eT, hn, hx, hZ, hown, hby, hml, hrt, hlk, hnm⟩ := X
  obtain ⟨hd, rfl⟩ := De.spec hD
  obtain ⟨cl, A, rfl, q2, q3, q4⟩ := A
  subst hx'
  rw [Array.length_toList] at hl
  obtain ⟨T', h', Y', e', W, stp⟩ := stS Y hx hZ eT A (fun q => q.elim hj fun q => absurd hl (Nat.not_lt.mpr q)) (g := mkF m pc ls (.int x :: .int j :: .ref a :: rest)) rfl rfl (hb hby hd)
  refine (k T' h' ⟨⟨_, Y', Fr.snoc Y' N ha⟩, e', by rw [W.size]; exact hn, hx, hZ, hown, hby, hml, hrt, hlk, hnm⟩ W ⟨_, Arr.same W A, by simp [Cell.setSlot], by simpa using q2, fun v hv => ?_, q4.wr W⟩).lift stp
  rcases List.mem_or_eq_of_mem_set hv with q | rfl
  · exact q3 _ q
  · exact fits_nar_short _
theorem Wk.getf (X : Wk Z l p e R s m args below meth c own nm bytes maxL ret n0 T h cells slots) (pc' : Nat) {index : Nat} {O n d : String} {a : Addr} {v : Value} (w : (Jvm.Cond.fieldLink own index O n d).before a0 Z = true) (F : Fld Z h a O n d v) (hD : De bytes pc (.getfield index) 3 pc' = true)
    (k : ∀ T', Wk Z l p e R s m args below meth c own nm bytes maxL ret n0 T' h cells slots → Go p e below s R n0 Q (T'.setTop (mkF m pc' ls (v :: rest)))) : Go p e below s R n0 Q (T.setTop (mkF m pc ls (.ref a :: rest))) := by
  obtain ⟨⟨locs, Y, N⟩, eT, hn, hx, hZ, hown, hby, hml, hrt, hlk, hnm⟩ := X
  obtain ⟨hd, rfl⟩ := De.spec hD
  obtain ⟨T', Y', e', stp⟩ := getF Y hx hZ hown (host := "") (Or.inl w) Via.refl eT F (g := mkF m pc ls (.ref a :: rest)) rfl rfl (hb hby hd)
  exact (k T' ⟨⟨_, Y', N⟩, e', hn, hx, hZ, hown, hby, hml, hrt, hlk, hnm⟩).lift stp
theorem Wk.putf (X : Wk Z l p e R s m args below meth c own nm bytes maxL ret n0 T h cells slots) (pc' : Nat) {index kk : Nat} {O n d C : String} {a : Addr} {v old : Value} {ty : FieldType} (w : (Jvm.Cond.fieldLink own index O n d).before a0 Z = true) (F : Fld Z h a O n d old) (E : Exa Z h a C) (L : (Jvm.Cond.lays C O n d).before a0 Z = true ∨ ((Jvm.Cond.laysFinal C O n d).before a0 Z = true ∧ own = O ∧ nm = "<init>")) (wi : (Jvm.Cond.instantiable C kk).before a0 Z = true) (hty : parseFieldDescriptor d = some ty) (hnw : narrow ty v = v) (hf : fits ty v = true) (ha : n0 ≤ a) (hD : De bytes pc (.putfield index) 3 pc' = true)
    (k : ∀ T' h', Wk Z l p e R s m args below meth c own nm bytes maxL ret n0 T' h' cells slots → Wr h h' a (RoadKit.slotOf Z O n d) v → Go p e below s R n0 Q (T'.setTop (mkF m pc' ls rest))) : Go p e below s R n0 Q (T.setTop (mkF m pc ls (v :: .ref a :: rest))) := by
  obtain ⟨⟨locs, Y, N⟩, eT, hn, hx, hZ, hown, hby, hml, hrt, hlk, hnm⟩ := X
  obtain ⟨hd, rfl⟩ := De.spec hD
  obtain ⟨T', h', Y', e', W, stp⟩ := putF Y hx hZ hown (host := "") (Or.inl w) Via.refl eT F E (L.imp id fun q => ⟨q.1, q.2.1, hnm.trans q.2.2⟩) wi hty hnw hf (g := mkF m pc ls (v :: .ref a :: rest)) rfl rfl (hb hby hd)
  exact (k T' h' ⟨⟨_, Y', Fr.snoc Y' N ha⟩, e', by rw [W.size]; exact hn, hx, hZ, hown, hby, hml, hrt, hlk, hnm⟩ W).lift stp
theorem Wk.newobj (X : Wk Z l p e R s m args below meth c own nm bytes maxL ret n0 T h cells slots) (pc' : Nat) {index n : Nat} {C : String} (w : (Jvm.Cond.classLink own index C).before a0 Z = true) (wi : (Jvm.Cond.instantiable C n).before a0 Z = true) (wz : (Jvm.Cond.initialized C).before a0 Z = true) (hD : De bytes pc (.new index) 3 pc' = true) (hrm : (decide (cells + 1 ≤ R.cells) && decide (slots + n ≤ R.slots)) = true)
    (k : ∀ T' h', Wk Z l p e R s m args below meth c own nm bytes maxL ret n0 T' h' (cells + 1) (slots + n) → Ext h h' → Exa Z h' h.size C → (∀ {O nm d : String} {ty : FieldType}, Laid Z a0 C O nm d → parseFieldDescriptor d = some ty → Fld Z h' h.size O nm d (defaultValue ty)) → Go p e below s R n0 Q (T'.setTop (mkF m pc' ls (.ref h.size :: st)))) : Go p e below s R n0 Q (T.setTop (mkF m pc ls st)) := by
  obtain ⟨⟨locs, Y, N⟩, eT, hn, hx, hZ, hown, hby, hml, hrt, hlk, hnm⟩ := X
  obtain ⟨hd, rfl⟩ := De.spec hD
  simp only [Bool.and_eq_true, decide_eq_true_eq] at hrm
  obtain ⟨T', h', Y', e', E, A, D, -, stp⟩ := newO Y hx hZ hown w wi wz eT (g := mkF m pc ls st) rfl (hb hby hd) hrm.1 hrm.2
  exact (k T' h' ⟨⟨_, Y', N⟩, e', Nat.le_trans hn E.1, hx, hZ, hown, hby, hml, hrt, hlk, hnm⟩ E A D).lift stp
theorem Wk.initO (X : Wk Z l p e R s m args below meth c own nm bytes maxL ret n0 T h cells slots) (pc' W : Nat) {index : Nat} {a : Addr} (w1 : (Jvm.Cond.methodLink own index Lib.objectInit).before a0 Z = true) (w2 : (Jvm.Cond.instanceMethod Lib.objectInit).before a0 Z = true) (w3 : (Jvm.Cond.code Lib.objectInit ⟨#[0xb1]⟩ 1 none).before a0 Z = true) (hsz : ls.size = maxL) (hW : (rest.map fun v => v.category).sum = W) (hD : De bytes pc (.invokespecial index) 3 pc' = true) (hrm : (decide (1 ≤ R.frames) && decide (W + 12 ≤ R.locals)) = true)
    (k : ∀ T', Wk Z l p e R s m args below meth c own nm bytes maxL ret n0 T' h cells slots → Go p e below s R n0 Q (T'.setTop (mkF m pc' ls rest))) : Go p e below s R n0 Q (T.setTop (mkF m pc ls (.ref a :: rest))) := by
  obtain ⟨⟨locs, Y, N⟩, eT, hn, hx, hZ, hown, hby, hml, hrt, hlk, hnm⟩ := X
  obtain ⟨hd, rfl⟩ := De.spec hD
  simp only [Bool.and_eq_true, decide_eq_true_eq] at hrm
  obtain ⟨T', Y', e', stp⟩ := RoadKit.initO Y hx hZ hown w1 w2 w3 eT (g := mkF m pc ls (.ref a :: rest)) rfl (hsz.trans hml.symm) rfl (hb hby hd) hrm.1 (W := W) (by show 2 * 0 + _ ≤ _; omega) hrm.2
  exact (k T' ⟨⟨_, Y', N⟩, e', hn, hx, hZ, hown, hby, hml, hrt, hlk, hnm⟩).lift stp
theorem Wk.callS (X : Wk Z l p e R s m args below meth c own nm bytes maxL ret n0 T h cells slots) (pc' W : Nat) {y : MethodName} {yb : ByteArray} {yml : Nat} {yret : Option FieldType} {rm : Room} {Q' : Option Value → Heap → Prop} {argsL : List Value} {ps : List FieldType} {r : Option FieldType} {index : Nat} (K : Cnt l Z y yb yml yret rm n0 argsL.toArray h Q') (w1 : (Jvm.Cond.methodLink own index y).before a0 Z = true) (w2 : (Jvm.Cond.static y).before a0 Z = true) (w3 : (Jvm.Cond.initialized y.cls).before a0 Z = true) (w4 : (Jvm.Cond.code y yb yml yret).before a0 Z = true) (hy : (decide (y.cls ≠ "java/lang/invoke/MethodHandle") && decide (y.cls ≠ "java/lang/invoke/VarHandle")) = true) (hpd : parseMethodDescriptor y.desc = some ⟨ps, r⟩) (hlen : argsL.length = ps.length) (hst : st = argsL.reverse ++ rest) (hsz : ls.size = maxL) (hW : (rest.map fun v => v.category).sum = W) (hD : De bytes pc (.invokestatic index) 3 pc' = true) (hrm : (decide (rm.frames + 1 ≤ R.frames) && (decide (W + (yml + 11) + rm.locals ≤ R.locals) && (decide (cells + rm.cells ≤ R.cells) && decide (slots + rm.slots ≤ R.slots)))) = true)
    (k : ∀ T' h' v, Wk Z l p e R s m args below meth c own nm bytes maxL ret n0 T' h' (cells + rm.cells) (slots + rm.slots) → Q' v h' → Go p e below s R n0 Q (T'.setTop (mkF m pc' ls (v.toList ++ rest)))) : Go p e below s R n0 Q (T.setTop (mkF m pc ls st)) := by
  obtain ⟨⟨locs, Y, N⟩, eT, hn, hx, hZ, hown, hby, hml, hrt, hlk, hnm⟩ := X
  obtain ⟨hd, rfl⟩ := De.spec hD
  simp only [Bool.and_eq_true, decide_eq_true_eq] at hrm hy
  obtain ⟨v, _, ⟨U', L', c', s'⟩, -, Y', ⟨Lc, hq, el, ec, es⟩, stp⟩ := Jvm.LawKit.callS Y hx (y := y) hown (mvT hZ w1) (mvT hZ w2) (mvT hZ w3) (mvT hZ w4) hy (backOf (W := W) (Q := fun v h L => Q' v h ∧ n0 ≤ h.size ∧ Fr n0 L) (K []) hZ w4 w3 hrm.1 hrm.2.1) (g := mkF m pc ls st) rfl (hsz.trans hml.symm) (argsL := argsL) (rest := rest) (lenOf hpd hlen) hst (by show 2 * 0 + _ ≤ _; omega) (hb hby hd) (fun _ _ => ⟨rfl, eT, hrm.2.2.1, hrm.2.2.2⟩)
  dsimp only [Pt.U, Pt.locs, Pt.cells, Pt.slots] at Y' el ec es stp hq
  subst el ec es
  exact (k U' U'.heap v ⟨⟨_, Y', N.app hq.2.2⟩, rfl, hq.2.1, hx, hZ, hown, hby, hml, hrt, hlk, hnm⟩ hq.1).lift stp
theorem Wk.callI (X : Wk Z l p e R s m args below meth c own nm bytes maxL ret n0 T h cells slots) (pc' W : Nat) {y : MethodName} {yb : ByteArray} {yml : Nat} {rm : Room} {Q' : Option Value → Heap → Prop} {argsL : List Value} {ps : List FieldType} {r : Option FieldType} {index : Nat} {a : Addr} (K : Cnt l Z y yb yml none rm n0 (.ref a :: argsL).toArray h Q') (hnm' : y.name = "<init>") (w1 : (Jvm.Cond.methodLink own index y).before a0 Z = true) (w2 : (Jvm.Cond.instanceMethod y).before a0 Z = true) (w3 : (Jvm.Cond.initialized y.cls).before a0 Z = true) (w4 : (Jvm.Cond.code y yb yml none).before a0 Z = true) (hy : (decide (y.cls ≠ "java/lang/invoke/MethodHandle") && decide (y.cls ≠ "java/lang/invoke/VarHandle")) = true) (hpd : parseMethodDescriptor y.desc = some ⟨ps, r⟩) (hlen : argsL.length = ps.length) (hst : st = argsL.reverse ++ .ref a :: rest) (hsz : ls.size = maxL) (hW : (rest.map fun v => v.category).sum = W) (hD : De bytes pc (.invokespecial index) 3 pc' = true) (hrm : (decide (rm.frames + 1 ≤ R.frames) && (decide (W + (yml + 11) + rm.locals ≤ R.locals) && (decide (cells + rm.cells ≤ R.cells) && decide (slots + rm.slots ≤ R.slots)))) = true)
    (k : ∀ T' h' v, Wk Z l p e R s m args below meth c own nm bytes maxL ret n0 T' h' (cells + rm.cells) (slots + rm.slots) → Q' v h' → Go p e below s R n0 Q (T'.setTop (mkF m pc' ls (v.toList ++ rest)))) : Go p e below s R n0 Q (T.setTop (mkF m pc ls st)) := by
  obtain ⟨⟨locs, Y, N⟩, eT, hn, hx, hZ, hown, hby, hml, hrt, hlk, hnm⟩ := X
  obtain ⟨hd, rfl⟩ := De.spec hD
  simp only [Bool.and_eq_true, decide_eq_true_eq] at hrm hy
  obtain ⟨v, _, ⟨U', L', c', s'⟩, -, Y', ⟨Lc, hq, el, ec, es⟩, stp⟩ := Y.specialBack hx (y := y) hnm' hown (mvT hZ w1) (mvT hZ w2) (mvT hZ w4) hy (backOf (W := W) (Q := fun v h L => Q' v h ∧ n0 ≤ h.size ∧ Fr n0 L) (K []) hZ w4 w3 hrm.1 hrm.2.1) (g := mkF m pc ls st) rfl (hsz.trans hml.symm) (Steps.refl _) (a := a) (argsL := argsL) (rest := rest) (lenOf hpd hlen) hst (by show 2 * 0 + _ ≤ _; omega) (hb hby hd) (fun _ _ => ⟨rfl, eT, hrm.2.2.1, hrm.2.2.2⟩)
  dsimp only [Pt.U, Pt.locs, Pt.cells, Pt.slots] at Y' el ec es stp hq
  subst el ec es
  exact (k U' U'.heap v ⟨⟨_, Y', N.app hq.2.2⟩, rfl, hq.2.1, hx, hZ, hown, hby, hml, hrt, hlk, hnm⟩ hq.1).lift fun _ k => stp.trans k
theorem Wk.callV (X : Wk Z l p e R s m args below meth c own nm bytes maxL ret n0 T h cells slots) (pc' W : Nat) {y : MethodName} {yb : ByteArray} {yml : Nat} {yret : Option FieldType} {rm : Room} {Q' : Option Value → Heap → Prop} {argsL : List Value} {ps : List FieldType} {r : Option FieldType} {index : Nat} {b : Addr} {C : String} (E : Exa Z h b C) (K : Cnt l Z y yb yml yret rm n0 (.ref b :: argsL).toArray h Q') (w1 : (Jvm.Cond.methodLink own index y).before a0 Z = true) (w2 : (Jvm.Cond.declares y).before a0 Z = true) (w5 : (Jvm.Cond.selects C y y).before a0 Z = true) (w6 : (Jvm.Cond.instanceMethod y).before a0 Z = true) (w3 : (Jvm.Cond.initialized y.cls).before a0 Z = true) (w4 : (Jvm.Cond.code y yb yml yret).before a0 Z = true) (hy : (decide (y.cls ≠ "java/lang/invoke/MethodHandle") && decide (y.cls ≠ "java/lang/invoke/VarHandle")) = true) (hpd : parseMethodDescriptor y.desc = some ⟨ps, r⟩) (hlen : argsL.length = ps.length) (hst : st = argsL.reverse ++ .ref b :: rest) (hsz : ls.size = maxL) (hW : (rest.map fun v => v.category).sum = W) (hD : De bytes pc (.invokevirtual index) 3 pc' = true) (hrm : (decide (rm.frames + 1 ≤ R.frames) && (decide (W + (yml + 11) + rm.locals ≤ R.locals) && (decide (cells + rm.cells ≤ R.cells) && decide (slots + rm.slots ≤ R.slots)))) = true)
    (k : ∀ T' h' v, Wk Z l p e R s m args below meth c own nm bytes maxL ret n0 T' h' (cells + rm.cells) (slots + rm.slots) → Q' v h' → Go p e below s R n0 Q (T'.setTop (mkF m pc' ls (v.toList ++ rest)))) : Go p e below s R n0 Q (T.setTop (mkF m pc ls st)) := by
  obtain ⟨⟨locs, Y, N⟩, eT, hn, hx, hZ, hown, hby, hml, hrt, hlk, hnm⟩ := X
  obtain ⟨hd, rfl⟩ := De.spec hD
  simp only [Bool.and_eq_true, decide_eq_true_eq] at hrm hy
  obtain ⟨cq, kq, qa, qb, qc⟩ := isOf hZ eT E
  obtain ⟨v, _, ⟨U', L', c', s'⟩, -, Y', ⟨Lc, hq, el, ec, es⟩, stp⟩ := Y.virtualBack hx (y := y) (z := y) hown (mvT hZ w1) (mvT hZ w2) (notFace_of_selects (args := #[]) (mvT hZ w5)) (mvT hZ w5) (mvT hZ w6) hy (backOf (W := W) (Q := fun v h L => Q' v h ∧ n0 ≤ h.size ∧ Fr n0 L) (K []) hZ w4 w3 hrm.1 hrm.2.1) qa qc (g := mkF m pc ls st) rfl (hsz.trans hml.symm) (Steps.refl _) (argsL := argsL) (rest := rest) (lenOf hpd hlen) hst (by show 2 * 0 + _ ≤ _; omega) (hb hby hd) (fun _ _ => ⟨rfl, eT, hrm.2.2.1, hrm.2.2.2⟩)
  dsimp only [Pt.U, Pt.locs, Pt.cells, Pt.slots] at Y' el ec es stp hq
  subst el ec es
  exact (k U' U'.heap v ⟨⟨_, Y', N.app hq.2.2⟩, rfl, hq.2.1, hx, hZ, hown, hby, hml, hrt, hlk, hnm⟩ hq.1).lift fun _ k => stp.trans k
theorem Wk.callF (X : Wk Z l p e R s m args below meth c own nm bytes maxL ret n0 T h cells slots) (pc' W : Nat) {z : MethodName} {y : MethodName} {yb : ByteArray} {yml : Nat} {yret : Option FieldType} {rm : Room} {Q' : Option Value → Heap → Prop} {argsL : List Value} {ps : List FieldType} {r : Option FieldType} {index count : Nat} {b : Addr} {C : String} (E : Exa Z h b C) (K : Cnt l Z z yb yml yret rm n0 (.ref b :: argsL).toArray h Q') (w1 : (Jvm.Cond.methodLink own index y).before a0 Z = true) (w2 : (Jvm.Cond.declares y).before a0 Z = true) (w7 : (Jvm.Cond.interfaceMethod y.cls y.cls y.name y.desc).before a0 Z = true) (w5 : (Jvm.Cond.selects C y z).before a0 Z = true) (w6 : (Jvm.Cond.instanceMethod z).before a0 Z = true) (w8 : (Jvm.Cond.publicMethod z).before a0 Z = true) (w9 : (Jvm.Cond.unhidden C y.name y.desc).before a0 Z = true) (w10 : (Jvm.Cond.castable C y.cls).before a0 Z = true) (hfa : (Jvm.Cond.interfaceMethod y.cls y.cls y.name y.desc).faceAtom = true) (w3 : (Jvm.Cond.initialized z.cls).before a0 Z = true) (w4 : (Jvm.Cond.code z yb yml yret).before a0 Z = true) (hy : (decide (y.cls ≠ "java/lang/invoke/MethodHandle") && decide (y.cls ≠ "java/lang/invoke/VarHandle")) = true) (hpd : parseMethodDescriptor y.desc = some ⟨ps, r⟩) (hlen : argsL.length = ps.length) (hst : st = argsL.reverse ++ .ref b :: rest) (hsz : ls.size = maxL) (hW : (rest.map fun v => v.category).sum = W) (hD : De bytes pc (.invokeinterface index count) 5 pc' = true) (hrm : (decide (rm.frames + 1 ≤ R.frames) && (decide (W + (yml + 11) + rm.locals ≤ R.locals) && (decide (cells + rm.cells ≤ R.cells) && decide (slots + rm.slots ≤ R.slots)))) = true)
    (k : ∀ T' h' v, Wk Z l p e R s m args below meth c own nm bytes maxL ret n0 T' h' (cells + rm.cells) (slots + rm.slots) → Q' v h' → Go p e below s R n0 Q (T'.setTop (mkF m pc' ls (v.toList ++ rest)))) : Go p e below s R n0 Q (T.setTop (mkF m pc ls st)) := by
  obtain ⟨⟨locs, Y, N⟩, eT, hn, hx, hZ, hown, hby, hml, hrt, hlk, hnm⟩ := X
  obtain ⟨hd, rfl⟩ := De.spec hD
  simp only [Bool.and_eq_true, decide_eq_true_eq] at hrm hy
  obtain ⟨cq, kq, qa, qb, qc⟩ := isOf hZ eT E
  obtain ⟨v, _, ⟨U', L', c', s'⟩, -, Y', ⟨Lc, hq, el, ec, es⟩, stp⟩ := Y.interfaceBack hx (xi := y) (y := z) hown (mvT hZ w1) (mvT hZ w2) (mvT hZ w7 (by simp [Cond.onTables, Cond.keepsFace, Cond.keeps, Cond.steady, hfa])) (mvT hZ w5) (mvT hZ w6) (mvT hZ w8) (mvT hZ w9) (mvT hZ w10) hy (backOf (W := W) (Q := fun v h L => Q' v h ∧ n0 ≤ h.size ∧ Fr n0 L) (K []) hZ w4 w3 hrm.1 hrm.2.1) qa qb qc (g := mkF m pc ls st) rfl (hsz.trans hml.symm) (Steps.refl _) (argsL := argsL) (rest := rest) (lenOf hpd hlen) hst (by show 2 * 0 + _ ≤ _; omega) (hb hby hd) (fun _ _ => ⟨rfl, eT, hrm.2.2.1, hrm.2.2.2⟩)
  dsimp only [Pt.U, Pt.locs, Pt.cells, Pt.slots] at Y' el ec es stp hq
  subst el ec es
  exact (k U' U'.heap v ⟨⟨_, Y', N.app hq.2.2⟩, rfl, hq.2.1, hx, hZ, hown, hby, hml, hrt, hlk, hnm⟩ hq.1).lift fun _ k => stp.trans k
theorem Wk.clone (X : Wk Z l p e R s m args below meth c own nm bytes maxL ret n0 T h cells slots) (pc' W cap : Nat) {index : Nat} {ad : String} {a : Addr} {ty : FieldType} {vs : List Value} (A : AV Z h a ty vs) (had : "[" ++ ty.toString = ad) (w1 : (Jvm.Cond.methodLink own index ⟨ad, "clone", "()Ljava/lang/Object;"⟩).before a0 Z = true) (w2 : (Jvm.Cond.sameMethod ad "java/lang/Object" "clone" "()Ljava/lang/Object;").before a0 Z = true) (w3 : (Jvm.Cond.native ⟨"java/lang/Object", "clone", "()Ljava/lang/Object;"⟩).before a0 Z = true) (w4 : (Jvm.Cond.instanceMethod ⟨"java/lang/Object", "clone", "()Ljava/lang/Object;"⟩).before a0 Z = true) (w5 : (Jvm.Cond.selects ad ⟨ad, "clone", "()Ljava/lang/Object;"⟩ ⟨"java/lang/Object", "clone", "()Ljava/lang/Object;"⟩).before a0 Z = true) (w6 : (Jvm.Cond.castable ad "java/lang/Cloneable").before a0 Z = true) (hsz : ls.size = maxL) (hW : (rest.map fun v => v.category).sum = W) (hD : De bytes pc (.invokevirtual index) 3 pc' = true) (hcap : vs.length ≤ cap) (hrm : (decide (1 ≤ R.frames) && (decide (W + 14 ≤ R.locals) && (decide (cells + 1 ≤ R.cells) && decide (slots + cap ≤ R.slots)))) = true)
    (k : ∀ T' h', Wk Z l p e R s m args below meth c own nm bytes maxL ret n0 T' h' (cells + 1) (slots + cap) → Ext h h' → AV Z h' h.size ty vs → Go p e below s R n0 Q (T'.setTop (mkF m pc' ls (.ref h.size :: rest)))) : Go p e below s R n0 Q (T.setTop (mkF m pc ls (.ref a :: rest))) := by
  obtain ⟨⟨locs, Y, N⟩, eT, hn, hx, hZ, hown, hby, hml, hrt, hlk, hnm⟩ := X
  obtain ⟨hd, rfl⟩ := De.spec hD
  simp only [Bool.and_eq_true, decide_eq_true_eq] at hrm
  subst had
  obtain ⟨cl, A, rfl, q2, q3, q4⟩ := A
  have FC : FitC Z cl := fitC_of A fun i hi v hv => q3 v (by
    have := Array.getElem?_eq_some_iff.mp hv
    obtain ⟨_, e⟩ := this
    rw [← e]; simp)
  obtain ⟨T', h', Y', e', E, A', E', stp⟩ := cloneA Y hx hZ hown w1 w2 w3 w4 w5 w6 eT A q4 FC (g := mkF m pc ls (.ref a :: rest)) rfl (hsz.trans hml.symm) rfl (hb hby hd) hrm.1 (W := W) (cap := cap) (by show 2 * 0 + _ ≤ _; omega) hrm.2.1 (by simpa using hcap) hrm.2.2.1 hrm.2.2.2
  exact (k T' h' ⟨⟨_, Y', N⟩, e', Nat.le_trans hn E.1, hx, hZ, hown, hby, hml, hrt, hlk, hnm⟩ E ⟨_, A', rfl, q2, q3, E'⟩).lift stp
theorem Wk.cast (X : Wk Z l p e R s m args below meth c own nm bytes maxL ret n0 T h cells slots) (pc' : Nat) {index : Nat} {K : String} {a : Addr} (w : (Jvm.Cond.classLink own index K).before a0 Z = true) (E : Exa Z h a K) (hD : De bytes pc (.checkcast index) 3 pc' = true)
    (k : ∀ T', Wk Z l p e R s m args below meth c own nm bytes maxL ret n0 T' h cells slots → Go p e below s R n0 Q (T'.setTop (mkF m pc' ls (.ref a :: rest)))) : Go p e below s R n0 Q (T.setTop (mkF m pc ls (.ref a :: rest))) := by
  obtain ⟨⟨locs, Y, N⟩, eT, hn, hx, hZ, hown, hby, hml, hrt, hlk, hnm⟩ := X
  obtain ⟨hd, rfl⟩ := De.spec hD
  obtain ⟨T', Y', e', stp⟩ := castY Y hx hZ hown w eT (Ins.self E) (g := mkF m pc ls (.ref a :: rest)) rfl rfl (hb hby hd)
  exact (k T' ⟨⟨_, Y', N⟩, e', hn, hx, hZ, hown, hby, hml, hrt, hlk, hnm⟩).lift stp
theorem Wk.acopy (X : Wk Z l p e R s m args below meth c own nm bytes maxL ret n0 T h cells slots) (pc' W : Nat) {index : Nat} {a b : Addr} {ty : FieldType} {vs vd : List Value} {sp dp nn : Int32} (d : Value) (A : AV Z h a ty vs) (B : AV Z h b ty vd) (hp : refKind ty = false) (w1 : (Jvm.Cond.methodLink own index Jvm.Stand.acN).before a0 Z = true) (w2 : (Jvm.Cond.native Jvm.Stand.acN).before a0 Z = true) (w3 : (Jvm.Cond.static Jvm.Stand.acN).before a0 Z = true) (w4 : (Jvm.Cond.initialized "java/lang/System").before a0 Z = true) (h1 : ¬ sp < 0) (h2 : ¬ dp < 0) (h3 : ¬ nn < 0) (h4 : sp.toNatClampNeg + nn.toNatClampNeg ≤ vs.length) (h5 : dp.toNatClampNeg + nn.toNatClampNeg ≤ vd.length) (ha : n0 ≤ b) (hsz : ls.size = maxL) (hW : (rest.map fun v => v.category).sum = W) (hD : De bytes pc (.invokestatic index) 3 pc' = true) (hrm : (decide (1 ≤ R.frames) && decide (W + (nativeFrameWords "java/lang/System" "arraycopy" 5 + 11) ≤ R.locals)) = true)
    (k : ∀ T' h', Wk Z l p e R s m args below meth c own nm bytes maxL ret n0 T' h' cells slots → Keep h h' [b] → AV Z h' b ty (vd.take dp.toNatClampNeg ++ ((List.range nn.toNatClampNeg).map fun i => vs.getD (sp.toNatClampNeg + i) d) ++ vd.drop (dp.toNatClampNeg + nn.toNatClampNeg)) → Go p e below s R n0 Q (T'.setTop (mkF m pc' ls rest))) : Go p e below s R n0 Q (T.setTop (mkF m pc ls (.int nn :: .int dp :: .ref b :: .int sp :: .ref a :: rest))) := by
  obtain ⟨⟨locs, Y, N⟩, eT, hn, hx, hZ, hown, hby, hml, hrt, hlk, hnm⟩ := X
  obtain ⟨hd, rfl⟩ := De.spec hD
  simp only [Bool.and_eq_true, decide_eq_true_eq] at hrm
  have lz : ∀ {us : List Value}, us.length < 2 ^ 31 → us.length.toInt32.toNatClampNeg = us.length := fun {us} q => by
    have hz : ¬ us.length.toInt32 < 0 := by rw [Int32.lt_iff_toInt_lt, len_toInt q]; show ¬ ((_ : Int) < (0 : Int)); omega
    have := nat_of hz; rw [len_toInt q] at this; omega
  have lA : vs.length < 2 ^ 31 := by obtain ⟨_, _, _, q, _⟩ := A; exact q
  have lB : vd.length < 2 ^ 31 := by obtain ⟨_, _, _, q, _⟩ := B; exact q
  obtain ⟨k1, A'⟩ := A.arv d
  obtain ⟨k2, B'⟩ := B.arv d
  obtain ⟨T', h', L, Y', e', N', K, B2, stp⟩ := cpA Y hx hZ hown w1 w2 w3 w4 eT A' B' (Or.inl ⟨rfl, hp⟩) h1 h2 h3 (by rw [lz lA]; exact h4) (by rw [lz lB]; exact h5) rfl h5 N ha (g := mkF m pc ls (.int nn :: .int dp :: .ref b :: .int sp :: .ref a :: rest)) rfl (hsz.trans hml.symm) rfl (hb hby hd) hrm.1 (W := W) (by show 2 * 0 + _ ≤ _; omega) hrm.2
  exact (k T' h' ⟨⟨_, Y', N'⟩, e', Nat.le_trans hn K.1, hx, hZ, hown, hby, hml, hrt, hlk, hnm⟩ K (AV.of_arv B2 (by rw [lz lB]; simp; omega) (B.exa.keep K))).lift stp
theorem Wk.callP (X : Wk Z l p e R s m args below meth c own nm bytes maxL ret n0 T h cells slots) (pc' W : Nat) {y2 z2 : MethodName} {C2 : String} {y : MethodName} {yb : ByteArray} {yml : Nat} {yret : Option FieldType} {rm : Room} {Q' : Option Value → Heap → Prop} {argsL : List Value} {ps : List FieldType} {r : Option FieldType} {index : Nat} {b : Addr} {C : String} (E : Exa Z h b C) (K : Cnt l Z y yb yml yret rm n0 (.ref b :: argsL).toArray h Q') (w1 : (Jvm.Cond.methodLink own index y).before a0 Z = true) (w5 : (Jvm.Cond.selects C2 y2 z2).before a0 Z = true) (hz2 : z2.cls = y.cls) (w6 : (Jvm.Cond.instanceMethod y).before a0 Z = true) (w7 : (Jvm.Cond.privateMethod y).before a0 Z = true) (w3 : (Jvm.Cond.initialized y.cls).before a0 Z = true) (w4 : (Jvm.Cond.code y yb yml yret).before a0 Z = true) (hy : (decide (y.cls ≠ "java/lang/invoke/MethodHandle") && decide (y.cls ≠ "java/lang/invoke/VarHandle")) = true) (hpd : parseMethodDescriptor y.desc = some ⟨ps, r⟩) (hlen : argsL.length = ps.length) (hst : st = argsL.reverse ++ .ref b :: rest) (hsz : ls.size = maxL) (hW : (rest.map fun v => v.category).sum = W) (hD : De bytes pc (.invokevirtual index) 3 pc' = true) (hrm : (decide (rm.frames + 1 ≤ R.frames) && (decide (W + (yml + 11) + rm.locals ≤ R.locals) && (decide (cells + rm.cells ≤ R.cells) && decide (slots + rm.slots ≤ R.slots)))) = true)
    (k : ∀ T' h' v, Wk Z l p e R s m args below meth c own nm bytes maxL ret n0 T' h' (cells + rm.cells) (slots + rm.slots) → Q' v h' → Go p e below s R n0 Q (T'.setTop (mkF m pc' ls (v.toList ++ rest)))) : Go p e below s R n0 Q (T.setTop (mkF m pc ls st)) := by
  obtain ⟨⟨locs, Y, N⟩, eT, hn, hx, hZ, hown, hby, hml, hrt, hlk, hnm⟩ := X
  obtain ⟨hd, rfl⟩ := De.spec hD
  simp only [Bool.and_eq_true, decide_eq_true_eq] at hrm hy
  obtain ⟨cq, q, q'⟩ := E.cell
  have hpr : s.PrivateAt y := Cond.privateMethod_at (mvP hZ w7 (args := #[]))
  obtain ⟨c2, r2, m2, -, -, q3, -, kP, hkP, hkPi⟩ := Cond.selects_spec (mvT hZ w5 : (Jvm.Cond.selects C2 y2 z2).before args s = true)
  have hsel : (Jvm.Cond.selects y.cls y y).before args s = true := selects_self_of_private (by rw [← hz2]; exact findClass_of_methodNamed q3) hkP hkPi hpr (mvT hZ w6) hy
  obtain ⟨v, _, ⟨U', L', c', s'⟩, -, Y', ⟨Lc, hq, el, ec, es⟩, stp⟩ := Y.privateBack hx (y := y) hown (mvT hZ w1) (mvT hZ w6) hsel hpr (mvT hZ w4) hy (backOf (W := W) (Q := fun v h L => Q' v h ∧ n0 ≤ h.size ∧ Fr n0 L) (K []) hZ w4 w3 hrm.1 hrm.2.1) (g := mkF m pc ls st) rfl (hsz.trans hml.symm) (Steps.refl _) (a := b) (by rw [eT]; exact q) q' (argsL := argsL) (rest := rest) (lenOf hpd hlen) hst (by show 2 * 0 + _ ≤ _; omega) (hb hby hd) (fun _ _ => ⟨rfl, eT, hrm.2.2.1, hrm.2.2.2⟩)
  dsimp only [Pt.U, Pt.locs, Pt.cells, Pt.slots] at Y' el ec es stp hq
  subst el ec es
  exact (k U' U'.heap v ⟨⟨_, Y', N.app hq.2.2⟩, rfl, hq.2.1, hx, hZ, hown, hby, hml, hrt, hlk, hnm⟩ hq.1).lift fun _ k => stp.trans k
theorem Wk.tsw (X : Wk Z l p e R s m args below meth c own nm bytes maxL ret n0 T h cells slots) (t : Nat) {i : Int32} {df lo hi : Int} {offs : Array Int} {n : Nat} (hD : (decide (decode bytes pc = .ok (.tableswitch df lo hi offs, n)) && (if i.toInt < lo ∨ i.toInt > hi then decide (0 ≤ (pc : Int) + df) && decide (((pc : Int) + df).toNat = t) else (match offs[(i.toInt - lo).toNat]? with | some o => decide (0 ≤ (pc : Int) + o) && decide (((pc : Int) + o).toNat = t) | none => false))) = true) (k : Go p e below s R n0 Q (T.setTop (mkF m t ls rest))) : Go p e below s R n0 Q (T.setTop (mkF m pc ls (.int i :: rest))) := by
  obtain ⟨⟨locs, Y, N⟩, eT, hn, hx, hZ, hown, hby, r⟩ := X
  rw [Bool.and_eq_true, decide_eq_true_eq] at hD
  obtain ⟨hd, hD⟩ := hD
  split at hD
  · rename_i q
    rw [Bool.and_eq_true, decide_eq_true_eq, decide_eq_true_eq] at hD
    exact k.lift fun _ k => XS.tswOut Y.here hx rfl (pc0 := pc) (pc' := t) rfl (hb hby hd) rfl q hD.1 hD.2 k
  · rename_i q
    split at hD
    · rename_i o ho
      rw [Bool.and_eq_true, decide_eq_true_eq, decide_eq_true_eq] at hD
      exact k.lift fun _ k => XS.tswIn Y.here hx rfl (pc0 := pc) (pc' := t) rfl (hb hby hd) rfl q ho hD.1 hD.2 k
    · cases hD
end OwnLaws

theorem own_rem (x d : Int32) (D : Int) (hd : d.toInt = D) (h0 : 0 < D) : 0 ≤ ((x &&& 2147483647) % d).toInt ∧ ((x &&& 2147483647) % d).toInt < D := by
  have h1 := (c_and x 2147483647 (by decide)).1
  have h2 := (c_irem (x &&& 2147483647) d D hd).1 h1
  have h3 := Int.emod_nonneg (x &&& 2147483647).toInt (b := D) (by omega)
  have h4 := Int.emod_lt_of_pos (x &&& 2147483647).toInt (b := D) (by omega)
  omega

def leI (v q : Int64) : Int32 := if q < v then 0 else 1
def cnt (xs : List Int64) (q : Int64) : Int32 := xs.foldl (fun acc v => acc + leI v q) 0
theorem own_le1 {v q : Int64} (h : v.toInt ≤ q.toInt) : leI v q = 1 := by unfold leI; rw [if_neg (by rw [Int64.lt_iff_toInt_lt]; omega)]
theorem own_le0 {v q : Int64} (h : q.toInt < v.toInt) : leI v q = 0 := by unfold leI; rw [if_pos (by rw [Int64.lt_iff_toInt_lt]; omega)]
def srt : List Int64 → Prop
  | [] => True
  | [_] => True
  | v :: w :: r => v.toInt ≤ w.toInt ∧ srt (w :: r)
def RI (Z : State) (h : Heap) (n0 : Nat) (a al ap ai : Addr) (s : Int32) (bb : Int64) (xs : List Value) : Prop :=
  (Fld Z h a "com/example/redolith/redolith/storage/RecordIndex" "lsns" "[J" (.ref al) ∧ Fld Z h a "com/example/redolith/redolith/storage/RecordIndex" "positions" "[J" (.ref ap) ∧ Fld Z h a "com/example/redolith/redolith/storage/RecordIndex" "lengths" "[I" (.ref ai) ∧ Fld Z h a "com/example/redolith/redolith/storage/RecordIndex" "size" "I" (.int s) ∧ Fld Z h a "com/example/redolith/redolith/storage/RecordIndex" "bytes" "J" (.long bb) ∧ Exa Z h a "com/example/redolith/redolith/storage/RecordIndex") ∧ (AV Z h al .long xs ∧ AV Z h ap .long [.long 0, .long 0, .long 0, .long 0] ∧ AV Z h ai .int [.int 0, .int 0, .int 0, .int 0]) ∧ (n0 ≤ a ∧ n0 ≤ al ∧ n0 ≤ ap ∧ n0 ≤ ai) ∧ (a ≠ al ∧ a ≠ ap ∧ a ≠ ai) ∧ (al ≠ ap ∧ al ≠ ai ∧ ap ≠ ai)
theorem own_5 (x : Int32) : (x &&& 2147483647) % 5 = 0 ∨ (x &&& 2147483647) % 5 = 1 ∨ (x &&& 2147483647) % 5 = 2 ∨ (x &&& 2147483647) % 5 = 3 ∨ (x &&& 2147483647) % 5 = 4 := by
  have h := own_rem x 5 5 rfl (by decide)
  generalize (x &&& 2147483647) % 5 = y at *
  have : y.toInt = 0 ∨ y.toInt = 1 ∨ y.toInt = 2 ∨ y.toInt = 3 ∨ y.toInt = 4 := by omega
  rcases this with q | q | q | q | q
  · exact Or.inl (Int32.toInt_inj.mp q)
  · exact Or.inr (Or.inl (Int32.toInt_inj.mp q))
  · exact Or.inr (Or.inr (Or.inl (Int32.toInt_inj.mp q)))
  · exact Or.inr (Or.inr (Or.inr (Or.inl (Int32.toInt_inj.mp q))))
  · exact Or.inr (Or.inr (Or.inr (Or.inr (Int32.toInt_inj.mp q))))
theorem own_lt {v w : Int64} (h : v < w) : v.toInt < w.toInt := Int64.lt_iff_toInt_lt.mp h
theorem own_ge {v w : Int64} (h : ¬ v < w) : w.toInt ≤ v.toInt := by rw [Int64.lt_iff_toInt_lt] at h; omega
set_option maxRecDepth 65536 in
set_option maxHeartbeats 40000000 in
theorem rm_init (l : Launch) (Z : State) (a0 : Array Value) (hw : ∀ d ∈ tables_1, d.before a0 Z = true) (a : Addr) (h0 : Heap) (n0 : Nat) (Z0 : n0 ≤ h0.size) (F0 : Fld Z h0 a "com/example/redolith/redolith/storage/RecordIndex" "lsns" "[J" (.null)) (F1 : Fld Z h0 a "com/example/redolith/redolith/storage/RecordIndex" "positions" "[J" (.null)) (F2 : Fld Z h0 a "com/example/redolith/redolith/storage/RecordIndex" "lengths" "[I" (.null)) (F3 : Fld Z h0 a "com/example/redolith/redolith/storage/RecordIndex" "size" "I" (.int 0)) (F4 : Fld Z h0 a "com/example/redolith/redolith/storage/RecordIndex" "bytes" "J" (.long 0)) (E : Exa Z h0 a "com/example/redolith/redolith/storage/RecordIndex") (ga : n0 ≤ a) :
    Cnt l Z (⟨"com/example/redolith/redolith/storage/RecordIndex", "<init>", "()V"⟩ : MethodName) prog_167_method_1_code 1 none ({ frames := 1, cells := 3, slots := 12, locals := 14 } : Room) n0 #[(.ref a)] h0 (fun v h => v = none ∧ ∃ al ap ai, RI Z h n0 a al ap ai 0 0 [.long 0, .long 0, .long 0, .long 0]) := by
  refine Cnt.mk (by first | exact plainFor_of_name (by first | (simp [plainName, overriddenIn]; done) | decide +kernel) | decide +kernel) Z0 ?_
  intro p e s m below meth c T X
  refine Go.cast (g' := mkF m 0 #[.val (.ref a)] []) (by first | (simp [entryFrame, mkF, argsToLocals, Value.category, maxLocals]; done) | rfl) ?_
  have hK : (∀ q ∈ ([] : List (Nat × Int32)), (Jvm.Cond.constant "com/example/redolith/redolith/storage/RecordIndex" q.1 q.2).before a0 Z = true) ∧ (∀ q ∈ ([] : List (Nat × Int64)), (Jvm.Cond.constantLong "com/example/redolith/redolith/storage/RecordIndex" q.1 q.2).before a0 Z = true) :=
    ⟨(fun q hq => nomatch hq), (fun q hq => nomatch hq)⟩
  refine X.blk hK (L := [(.aload_n 0, 1, 0, 0)]) (pc' := 1) (ls' := #[.val (.ref a)]) (st' := [(.ref a)]) (by decide +kernel) rfl ?_
  refine X.initO 4 0 (hw _ (List.mem_of_getElem? (i := 7) rfl)) (hw _ (List.mem_of_getElem? (i := 8) rfl)) (hw _ (List.mem_of_getElem? (i := 9) rfl)) rfl rfl (by decide +kernel) (by decide) ?_
  intro T0 X0
  refine X0.blk hK (L := [(.aload_n 0, 1, 0, 0), (.iconst 4, 1, 4, 0)]) (pc' := 6) (ls' := #[.val (.ref a)]) (st' := [(.int (4 : Int32)), (.ref a)]) (by decide +kernel) rfl ?_
  refine X0.newarr 8 4 (aty := .long) (hw _ (List.mem_of_getElem? (i := 10) rfl)) rfl (by decide +kernel) (by decide) (by decide) (by decide) ?_
  intro Tn0 hn0 Xn0 En0 A0
  obtain ⟨an0, gn0⟩ : ∃ z, z = h0.size := ⟨_, rfl⟩
  rw [← gn0] at A0 ⊢
  have A0 : AV Z hn0 an0 .long [.long 0, .long 0, .long 0, .long 0] := A0
  have d0 : a ≠ an0 := by rw [gn0]; exact Nat.ne_of_lt F0.lt
  have G0_0 := F0.ext En0
  have G0_1 := F1.ext En0
  have G0_2 := F2.ext En0
  have G0_3 := F3.ext En0
  have G0_4 := F4.ext En0
  refine Xn0.putf 11 (hw _ (List.mem_of_getElem? (i := 11) rfl)) G0_0 (E.ext En0) (Or.inl (hw _ (List.mem_of_getElem? (i := 12) rfl))) (hw _ (List.mem_of_getElem? (i := 2) rfl)) (ty := (.array .long)) (by decide) rfl (rfl) (ga) (by decide +kernel) ?_
  intro Tp0 hp0 Xp0 Wp0
  have H0_0 := G0_0.same Wp0
  have H0_1 := G0_1.other Wp0 (Or.inr (slot_ne (t := .array .long) (t' := .array .long) (Or.inl (hw _ (List.mem_of_getElem? (i := 14) rfl))) (Or.inl (hw _ (List.mem_of_getElem? (i := 12) rfl))) (by decide) (by decide) (by decide)))
  have H0_2 := G0_2.other Wp0 (Or.inr (slot_ne (t := .array .int) (t' := .array .long) (Or.inl (hw _ (List.mem_of_getElem? (i := 17) rfl))) (Or.inl (hw _ (List.mem_of_getElem? (i := 12) rfl))) (by decide) (by decide) (by decide)))
  have H0_3 := G0_3.other Wp0 (Or.inr (slot_ne (t := .int) (t' := .array .long) (Or.inl (hw _ (List.mem_of_getElem? (i := 24) rfl))) (Or.inl (hw _ (List.mem_of_getElem? (i := 12) rfl))) (by decide) (by decide) (by decide)))
  have H0_4 := G0_4.other Wp0 (Or.inr (slot_ne (t := .long) (t' := .array .long) (Or.inl (hw _ (List.mem_of_getElem? (i := 35) rfl))) (Or.inl (hw _ (List.mem_of_getElem? (i := 12) rfl))) (by decide) (by decide) (by decide)))
  have C0_0 := A0.other Wp0 (fun z => d0 z.symm)
  refine Xp0.blk hK (L := [(.aload_n 0, 1, 0, 0), (.iconst 4, 1, 4, 0)]) (pc' := 13) (ls' := #[.val (.ref a)]) (st' := [(.int (4 : Int32)), (.ref a)]) (by decide +kernel) rfl ?_
  refine Xp0.newarr 15 4 (aty := .long) (hw _ (List.mem_of_getElem? (i := 10) rfl)) rfl (by decide +kernel) (by decide) (by decide) (by decide) ?_
  intro Tn1 hn1 Xn1 En1 A1
  obtain ⟨an1, gn1⟩ : ∃ z, z = hp0.size := ⟨_, rfl⟩
  rw [← gn1] at A1 ⊢
  have A1 : AV Z hn1 an1 .long [.long 0, .long 0, .long 0, .long 0] := A1
  have d1 : a ≠ an1 := by rw [gn1]; exact Nat.ne_of_lt H0_0.lt
  have e0_1 : an0 ≠ an1 := by rw [gn1]; exact Nat.ne_of_lt C0_0.lt
  have B1_0 := C0_0.ext En1
  have G1_0 := H0_0.ext En1
  have G1_1 := H0_1.ext En1
  have G1_2 := H0_2.ext En1
  have G1_3 := H0_3.ext En1
  have G1_4 := H0_4.ext En1
  refine Xn1.putf 18 (hw _ (List.mem_of_getElem? (i := 13) rfl)) G1_1 (((E.ext En0).wr Wp0).ext En1) (Or.inl (hw _ (List.mem_of_getElem? (i := 14) rfl))) (hw _ (List.mem_of_getElem? (i := 2) rfl)) (ty := (.array .long)) (by decide) rfl (rfl) (ga) (by decide +kernel) ?_
  intro Tp1 hp1 Xp1 Wp1
  have H1_0 := G1_0.other Wp1 (Or.inr (slot_ne (t := .array .long) (t' := .array .long) (Or.inl (hw _ (List.mem_of_getElem? (i := 12) rfl))) (Or.inl (hw _ (List.mem_of_getElem? (i := 14) rfl))) (by decide) (by decide) (by decide)))
  have H1_1 := G1_1.same Wp1
  have H1_2 := G1_2.other Wp1 (Or.inr (slot_ne (t := .array .int) (t' := .array .long) (Or.inl (hw _ (List.mem_of_getElem? (i := 17) rfl))) (Or.inl (hw _ (List.mem_of_getElem? (i := 14) rfl))) (by decide) (by decide) (by decide)))
  have H1_3 := G1_3.other Wp1 (Or.inr (slot_ne (t := .int) (t' := .array .long) (Or.inl (hw _ (List.mem_of_getElem? (i := 24) rfl))) (Or.inl (hw _ (List.mem_of_getElem? (i := 14) rfl))) (by decide) (by decide) (by decide)))
  have H1_4 := G1_4.other Wp1 (Or.inr (slot_ne (t := .long) (t' := .array .long) (Or.inl (hw _ (List.mem_of_getElem? (i := 35) rfl))) (Or.inl (hw _ (List.mem_of_getElem? (i := 14) rfl))) (by decide) (by decide) (by decide)))
  have C1_0 := B1_0.other Wp1 (fun z => d0 z.symm)
  have C1_1 := A1.other Wp1 (fun z => d1 z.symm)
  refine Xp1.blk hK (L := [(.aload_n 0, 1, 0, 0), (.iconst 4, 1, 4, 0)]) (pc' := 20) (ls' := #[.val (.ref a)]) (st' := [(.int (4 : Int32)), (.ref a)]) (by decide +kernel) rfl ?_
  refine Xp1.newarr 22 4 (aty := .int) (hw _ (List.mem_of_getElem? (i := 15) rfl)) rfl (by decide +kernel) (by decide) (by decide) (by decide) ?_
  intro Tn2 hn2 Xn2 En2 A2
  obtain ⟨an2, gn2⟩ : ∃ z, z = hp1.size := ⟨_, rfl⟩
  rw [← gn2] at A2 ⊢
  have A2 : AV Z hn2 an2 .int [.int 0, .int 0, .int 0, .int 0] := A2
  have d2 : a ≠ an2 := by rw [gn2]; exact Nat.ne_of_lt H1_0.lt
  have e0_2 : an0 ≠ an2 := by rw [gn2]; exact Nat.ne_of_lt C1_0.lt
  have B2_0 := C1_0.ext En2
  have e1_2 : an1 ≠ an2 := by rw [gn2]; exact Nat.ne_of_lt C1_1.lt
  have B2_1 := C1_1.ext En2
  have G2_0 := H1_0.ext En2
  have G2_1 := H1_1.ext En2
  have G2_2 := H1_2.ext En2
  have G2_3 := H1_3.ext En2
  have G2_4 := H1_4.ext En2
  refine Xn2.putf 25 (hw _ (List.mem_of_getElem? (i := 16) rfl)) G2_2 (((((E.ext En0).wr Wp0).ext En1).wr Wp1).ext En2) (Or.inl (hw _ (List.mem_of_getElem? (i := 17) rfl))) (hw _ (List.mem_of_getElem? (i := 2) rfl)) (ty := (.array .int)) (by decide) rfl (rfl) (ga) (by decide +kernel) ?_
  intro Tp2 hp2 Xp2 Wp2
  have H2_0 := G2_0.other Wp2 (Or.inr (slot_ne (t := .array .long) (t' := .array .int) (Or.inl (hw _ (List.mem_of_getElem? (i := 12) rfl))) (Or.inl (hw _ (List.mem_of_getElem? (i := 17) rfl))) (by decide) (by decide) (by decide)))
  have H2_1 := G2_1.other Wp2 (Or.inr (slot_ne (t := .array .long) (t' := .array .int) (Or.inl (hw _ (List.mem_of_getElem? (i := 14) rfl))) (Or.inl (hw _ (List.mem_of_getElem? (i := 17) rfl))) (by decide) (by decide) (by decide)))
  have H2_2 := G2_2.same Wp2
  have H2_3 := G2_3.other Wp2 (Or.inr (slot_ne (t := .int) (t' := .array .int) (Or.inl (hw _ (List.mem_of_getElem? (i := 24) rfl))) (Or.inl (hw _ (List.mem_of_getElem? (i := 17) rfl))) (by decide) (by decide) (by decide)))
  have H2_4 := G2_4.other Wp2 (Or.inr (slot_ne (t := .long) (t' := .array .int) (Or.inl (hw _ (List.mem_of_getElem? (i := 35) rfl))) (Or.inl (hw _ (List.mem_of_getElem? (i := 17) rfl))) (by decide) (by decide) (by decide)))
  have C2_0 := B2_0.other Wp2 (fun z => d0 z.symm)
  have C2_1 := B2_1.other Wp2 (fun z => d1 z.symm)
  have C2_2 := A2.other Wp2 (fun z => d2 z.symm)
  exact Xp2.retV (by decide +kernel) (by decide) (by decide) (⟨rfl, an0, an1, an2, ⟨H2_0, H2_1, H2_2, H2_3, H2_4, ((((((E.ext En0).wr Wp0).ext En1).wr Wp1).ext En2).wr Wp2)⟩, ⟨C2_0, C2_1, C2_2⟩, ⟨ga, by rw [gn0]; exact Z0, by rw [gn1]; exact Xp0.size, by rw [gn2]; exact Xp1.size⟩, ⟨d0, d1, d2⟩, ⟨e0_1, e0_2, e1_2⟩⟩)
set_option maxRecDepth 65536 in
set_option maxHeartbeats 40000000 in
theorem rm_le (l : Launch) (Z : State) (a0 : Array Value) (hw : ∀ d ∈ tables_1, d.before a0 Z = true) (p1 p2 : Int64) (h0 : Heap) (n0 : Nat) (Z0 : n0 ≤ h0.size)  :
    Cnt l Z (⟨"com/example/redolith/redolith/storage/RecordIndexAbovePinLaw", "le", "(JJ)I"⟩ : MethodName) method_2_code 4 (some .int) ({ frames := 0, cells := 0, slots := 0, locals := 0 } : Room) n0 #[(.long p1), (.long p2)] h0 (fun v h => v = some (.int (leI p1 p2)) ∧ h0 = h) := by
  refine Cnt.mk (by first | exact plainFor_of_name (by first | (simp [plainName, overriddenIn]; done) | decide +kernel) | decide +kernel) Z0 ?_
  intro p e s m below meth c T X
  refine Go.cast (g' := mkF m 0 #[.val (.long p1), .second, .val (.long p2), .second] []) (by first | (simp [entryFrame, mkF, argsToLocals, Value.category, maxLocals]; done) | rfl) ?_
  have hK : (∀ q ∈ ([(7, (2147483647 : Int32))] : List (Nat × Int32)), (Jvm.Cond.constant "com/example/redolith/redolith/storage/RecordIndexAbovePinLaw" q.1 q.2).before a0 Z = true) ∧ (∀ q ∈ ([] : List (Nat × Int64)), (Jvm.Cond.constantLong "com/example/redolith/redolith/storage/RecordIndexAbovePinLaw" q.1 q.2).before a0 Z = true) :=
    ⟨(fun q hq => by
      rcases List.mem_cons.mp hq with rfl | hq
      · exact hw _ (List.mem_of_getElem? (i := 0) rfl)
      exact nomatch hq), (fun q hq => nomatch hq)⟩
  refine X.blk hK (L := [(.lload_n 0, 1, 0, 0), (.lload_n 2, 1, 0, 0)]) (pc' := 2) (ls' := #[.val (.long p1), .second, .val (.long p2), .second]) (st' := [(.long p2), (.long p1)]) (by decide +kernel) rfl ?_
  refine X.lcmp .gt (7) 10 6 (by decide +kernel) (fun (c2 : p2 < p1) => ?_) (fun (c2 : ¬ p2 < p1) => ?_)
  · refine X.blk hK (L := [(.iconst 0, 1, 0, 0)]) (pc' := 11) (ls' := #[.val (.long p1), .second, .val (.long p2), .second]) (st' := [(.int (0 : Int32))]) (by decide +kernel) rfl ?_
    exact X.retI (by decide +kernel) (by decide) (by decide) (by refine ⟨?_, rfl⟩; simp [leI, c2])
  · refine X.blk hK (L := [(.iconst 1, 1, 1, 0), (.goto 4, 3, 0, 11)]) (pc' := 11) (ls' := #[.val (.long p1), .second, .val (.long p2), .second]) (st' := [(.int (1 : Int32))]) (by decide +kernel) rfl ?_
    exact X.retI (by decide +kernel) (by decide) (by decide) (by refine ⟨?_, rfl⟩; simp [leI, c2])
set_option maxRecDepth 65536 in
set_option maxHeartbeats 40000000 in
theorem rm_ab0 (l : Launch) (Z : State) (a0 : Array Value) (hw : ∀ d ∈ tables_1, d.before a0 Z = true) (a al ap ai : Addr) (q x0 x1 x2 x3 bb : Int64) (h0 : Heap) (n0 : Nat) (Z0 : n0 ≤ h0.size) (I : RI Z h0 n0 a al ap ai 0 bb [.long x0, .long x1, .long x2, .long x3]) (S : srt []) :
    Cnt l Z (⟨"com/example/redolith/redolith/storage/RecordIndex", "above", "(J)I"⟩ : MethodName) prog_167_method_12_code 6 (some .int) ({ frames := 0, cells := 0, slots := 0, locals := 0 } : Room) n0 #[(.ref a), (.long q)] h0 (fun v h => v = some (.int (cnt [] q)) ∧ h0 = h) := by
  refine Cnt.mk (by first | exact plainFor_of_name (by first | (simp [plainName, overriddenIn]; done) | decide +kernel) | decide +kernel) Z0 ?_
  intro p e s m below meth c T X
  refine Go.cast (g' := mkF m 0 #[.val (.ref a), .val (.long q), .second, .unset, .unset, .unset] []) (by first | (simp [entryFrame, mkF, argsToLocals, Value.category, maxLocals]; done) | rfl) ?_
  have hK : (∀ q ∈ ([] : List (Nat × Int32)), (Jvm.Cond.constant "com/example/redolith/redolith/storage/RecordIndex" q.1 q.2).before a0 Z = true) ∧ (∀ q ∈ ([] : List (Nat × Int64)), (Jvm.Cond.constantLong "com/example/redolith/redolith/storage/RecordIndex" q.1 q.2).before a0 Z = true) :=
    ⟨(fun q hq => nomatch hq), (fun q hq => nomatch hq)⟩
  obtain ⟨⟨FL, FP, FN, FZ, FB, EX⟩, ⟨AL, AP, AN⟩, -⟩ := I
  refine X.blk hK (L := [(.iconst 0, 1, 0, 0), (.istore_n 3, 1, 0, 0), (.aload_n 0, 1, 0, 0)]) (pc' := 3) (ls' := #[.val (.ref a), .val (.long q), .second, .val (.int (0 : Int32)), .unset, .unset]) (st' := [(.ref a)]) (by decide +kernel) rfl ?_
  refine X.getf 6 (hw _ (List.mem_of_getElem? (i := 23) rfl)) FZ (by decide +kernel) ?_
  intro Tz Xz
  refine Xz.blk hK (L := [(.istore 4, 2, 0, 0)]) (pc' := 8) (ls' := #[.val (.ref a), .val (.long q), .second, .val (.int (0 : Int32)), .val (.int (0 : Int32)), .unset]) (st' := []) (by decide +kernel) rfl ?_
  refine Xz.blk hK (L := [(.iload_n 3, 1, 0, 0), (.iload 4, 2, 0, 0)]) (pc' := 11) (ls' := #[.val (.ref a), .val (.long q), .second, .val (.int (0 : Int32)), .val (.int (0 : Int32)), .unset]) (st' := [(.int (0 : Int32)), (.int (0 : Int32))]) (by decide +kernel) rfl ?_
  refine Xz.icmp .ge (38) 49 14 (by decide +kernel) (fun (c11 : ¬ (0 : Int32) < (0 : Int32)) => ?_) (fun (c11 : (0 : Int32) < (0 : Int32)) => absurd c11 (by decide : ¬ (0 : Int32) < (0 : Int32)))
  refine Xz.blk hK (L := [(.iload_n 3, 1, 0, 0)]) (pc' := 50) (ls' := #[.val (.ref a), .val (.long q), .second, .val (.int (0 : Int32)), .val (.int (0 : Int32)), .unset]) (st' := [(.int (0 : Int32))]) (by decide +kernel) rfl ?_
  exact Xz.retI (by decide +kernel) (by decide) (by decide) (by refine ⟨?_, rfl⟩; simp only [cnt, List.foldl] <;> decide)
set_option maxRecDepth 65536 in
set_option maxHeartbeats 40000000 in
theorem rm_ab1 (l : Launch) (Z : State) (a0 : Array Value) (hw : ∀ d ∈ tables_1, d.before a0 Z = true) (a al ap ai : Addr) (q x0 x1 x2 x3 bb : Int64) (h0 : Heap) (n0 : Nat) (Z0 : n0 ≤ h0.size) (I : RI Z h0 n0 a al ap ai 1 bb [.long x0, .long x1, .long x2, .long x3]) (S : srt [x0]) :
    Cnt l Z (⟨"com/example/redolith/redolith/storage/RecordIndex", "above", "(J)I"⟩ : MethodName) prog_167_method_12_code 6 (some .int) ({ frames := 0, cells := 0, slots := 0, locals := 0 } : Room) n0 #[(.ref a), (.long q)] h0 (fun v h => v = some (.int (cnt [x0] q)) ∧ h0 = h) := by
  refine Cnt.mk (by first | exact plainFor_of_name (by first | (simp [plainName, overriddenIn]; done) | decide +kernel) | decide +kernel) Z0 ?_
  intro p e s m below meth c T X
  refine Go.cast (g' := mkF m 0 #[.val (.ref a), .val (.long q), .second, .unset, .unset, .unset] []) (by first | (simp [entryFrame, mkF, argsToLocals, Value.category, maxLocals]; done) | rfl) ?_
  have hK : (∀ q ∈ ([] : List (Nat × Int32)), (Jvm.Cond.constant "com/example/redolith/redolith/storage/RecordIndex" q.1 q.2).before a0 Z = true) ∧ (∀ q ∈ ([] : List (Nat × Int64)), (Jvm.Cond.constantLong "com/example/redolith/redolith/storage/RecordIndex" q.1 q.2).before a0 Z = true) :=
    ⟨(fun q hq => nomatch hq), (fun q hq => nomatch hq)⟩
  obtain ⟨⟨FL, FP, FN, FZ, FB, EX⟩, ⟨AL, AP, AN⟩, -⟩ := I
  refine X.blk hK (L := [(.iconst 0, 1, 0, 0), (.istore_n 3, 1, 0, 0), (.aload_n 0, 1, 0, 0)]) (pc' := 3) (ls' := #[.val (.ref a), .val (.long q), .second, .val (.int (0 : Int32)), .unset, .unset]) (st' := [(.ref a)]) (by decide +kernel) rfl ?_
  refine X.getf 6 (hw _ (List.mem_of_getElem? (i := 23) rfl)) FZ (by decide +kernel) ?_
  intro Tz Xz
  refine Xz.blk hK (L := [(.istore 4, 2, 0, 0)]) (pc' := 8) (ls' := #[.val (.ref a), .val (.long q), .second, .val (.int (0 : Int32)), .val (.int (1 : Int32)), .unset]) (st' := []) (by decide +kernel) rfl ?_
  refine Xz.blk hK (L := [(.iload_n 3, 1, 0, 0), (.iload 4, 2, 0, 0)]) (pc' := 11) (ls' := #[.val (.ref a), .val (.long q), .second, .val (.int (0 : Int32)), .val (.int (1 : Int32)), .unset]) (st' := [(.int (1 : Int32)), (.int (0 : Int32))]) (by decide +kernel) rfl ?_
  refine Xz.icmp .ge (38) 49 14 (by decide +kernel) (fun (c11 : ¬ (0 : Int32) < (1 : Int32)) => absurd (by decide : (0 : Int32) < (1 : Int32)) c11) (fun (c11 : (0 : Int32) < (1 : Int32)) => ?_)
  refine Xz.blk hK (L := [(.iload_n 3, 1, 0, 0), (.iload 4, 2, 0, 0), (.iadd, 1, 0, 0), (.iconst 1, 1, 1, 0), (.iushr, 1, 0, 0), (.istore 5, 2, 0, 0), (.aload_n 0, 1, 0, 0)]) (pc' := 23) (ls' := #[.val (.ref a), .val (.long q), .second, .val (.int (0 : Int32)), .val (.int (1 : Int32)), .val (.int (0 : Int32))]) (st' := [(.ref a)]) (by decide +kernel) rfl ?_
  refine Xz.getf 26 (hw _ (List.mem_of_getElem? (i := 11) rfl)) FL (by decide +kernel) ?_
  intro Tg1 Xg1
  refine Xg1.blk hK (L := [(.iload 5, 2, 0, 0)]) (pc' := 28) (ls' := #[.val (.ref a), .val (.long q), .second, .val (.int (0 : Int32)), .val (.int (1 : Int32)), .val (.int (0 : Int32))]) (st' := [(.int (0 : Int32)), (.ref al)]) (by decide +kernel) rfl ?_
  refine Xg1.laload 29 AL (by decide +kernel) (by decide) (rfl) ?_
  refine Xg1.blk hK (L := [(.lload_n 1, 1, 0, 0)]) (pc' := 30) (ls' := #[.val (.ref a), .val (.long q), .second, .val (.int (0 : Int32)), .val (.int (1 : Int32)), .val (.int (0 : Int32))]) (st' := [(.long q), (.long x0)]) (by decide +kernel) rfl ?_
  refine Xg1.lcmp .gt (11) 42 34 (by decide +kernel) (fun (f1 : q < x0) => ?_) (fun (f1 : ¬ q < x0) => ?_)
  · have o1042 := own_lt f1
    refine Xg1.blk hK (L := [(.iload 5, 2, 0, 0), (.istore 4, 2, 0, 0), (.goto (-38), 3, 0, 8)]) (pc' := 8) (ls' := #[.val (.ref a), .val (.long q), .second, .val (.int (0 : Int32)), .val (.int (0 : Int32)), .val (.int (0 : Int32))]) (st' := []) (by decide +kernel) rfl ?_
    refine Xg1.blk hK (L := [(.iload_n 3, 1, 0, 0), (.iload 4, 2, 0, 0)]) (pc' := 11) (ls' := #[.val (.ref a), .val (.long q), .second, .val (.int (0 : Int32)), .val (.int (0 : Int32)), .val (.int (0 : Int32))]) (st' := [(.int (0 : Int32)), (.int (0 : Int32))]) (by decide +kernel) rfl ?_
    refine Xg1.icmp .ge (38) 49 14 (by decide +kernel) (fun (c11 : ¬ (0 : Int32) < (0 : Int32)) => ?_) (fun (c11 : (0 : Int32) < (0 : Int32)) => absurd c11 (by decide : ¬ (0 : Int32) < (0 : Int32)))
    refine Xg1.blk hK (L := [(.iload_n 3, 1, 0, 0)]) (pc' := 50) (ls' := #[.val (.ref a), .val (.long q), .second, .val (.int (0 : Int32)), .val (.int (0 : Int32)), .val (.int (0 : Int32))]) (st' := [(.int (0 : Int32))]) (by decide +kernel) rfl ?_
    have s0 : leI x0 q = 0 := own_le0 (by omega)
    exact Xg1.retI (by decide +kernel) (by decide) (by decide) (by refine ⟨?_, rfl⟩; simp only [cnt, List.foldl, s0] <;> decide)
  · have o1034 := own_ge f1
    refine Xg1.blk hK (L := [(.iload 5, 2, 0, 0), (.iconst 1, 1, 1, 0), (.iadd, 1, 0, 0), (.istore_n 3, 1, 0, 0), (.goto 7, 3, 0, 46), (.goto (-38), 3, 0, 8)]) (pc' := 8) (ls' := #[.val (.ref a), .val (.long q), .second, .val (.int (1 : Int32)), .val (.int (1 : Int32)), .val (.int (0 : Int32))]) (st' := []) (by decide +kernel) rfl ?_
    refine Xg1.blk hK (L := [(.iload_n 3, 1, 0, 0), (.iload 4, 2, 0, 0)]) (pc' := 11) (ls' := #[.val (.ref a), .val (.long q), .second, .val (.int (1 : Int32)), .val (.int (1 : Int32)), .val (.int (0 : Int32))]) (st' := [(.int (1 : Int32)), (.int (1 : Int32))]) (by decide +kernel) rfl ?_
    refine Xg1.icmp .ge (38) 49 14 (by decide +kernel) (fun (c11 : ¬ (1 : Int32) < (1 : Int32)) => ?_) (fun (c11 : (1 : Int32) < (1 : Int32)) => absurd c11 (by decide : ¬ (1 : Int32) < (1 : Int32)))
    refine Xg1.blk hK (L := [(.iload_n 3, 1, 0, 0)]) (pc' := 50) (ls' := #[.val (.ref a), .val (.long q), .second, .val (.int (1 : Int32)), .val (.int (1 : Int32)), .val (.int (0 : Int32))]) (st' := [(.int (1 : Int32))]) (by decide +kernel) rfl ?_
    have s0 : leI x0 q = 1 := own_le1 (by omega)
    exact Xg1.retI (by decide +kernel) (by decide) (by decide) (by refine ⟨?_, rfl⟩; simp only [cnt, List.foldl, s0] <;> decide)
set_option maxRecDepth 65536 in
set_option maxHeartbeats 40000000 in
theorem rm_ab2 (l : Launch) (Z : State) (a0 : Array Value) (hw : ∀ d ∈ tables_1, d.before a0 Z = true) (a al ap ai : Addr) (q x0 x1 x2 x3 bb : Int64) (h0 : Heap) (n0 : Nat) (Z0 : n0 ≤ h0.size) (I : RI Z h0 n0 a al ap ai 2 bb [.long x0, .long x1, .long x2, .long x3]) (S : srt [x0, x1]) :
    Cnt l Z (⟨"com/example/redolith/redolith/storage/RecordIndex", "above", "(J)I"⟩ : MethodName) prog_167_method_12_code 6 (some .int) ({ frames := 0, cells := 0, slots := 0, locals := 0 } : Room) n0 #[(.ref a), (.long q)] h0 (fun v h => v = some (.int (cnt [x0, x1] q)) ∧ h0 = h) := by
  refine Cnt.mk (by first | exact plainFor_of_name (by first | (simp [plainName, overriddenIn]; done) | decide +kernel) | decide +kernel) Z0 ?_
  intro p e s m below meth c T X
  refine Go.cast (g' := mkF m 0 #[.val (.ref a), .val (.long q), .second, .unset, .unset, .unset] []) (by first | (simp [entryFrame, mkF, argsToLocals, Value.category, maxLocals]; done) | rfl) ?_
  have hK : (∀ q ∈ ([] : List (Nat × Int32)), (Jvm.Cond.constant "com/example/redolith/redolith/storage/RecordIndex" q.1 q.2).before a0 Z = true) ∧ (∀ q ∈ ([] : List (Nat × Int64)), (Jvm.Cond.constantLong "com/example/redolith/redolith/storage/RecordIndex" q.1 q.2).before a0 Z = true) :=
    ⟨(fun q hq => nomatch hq), (fun q hq => nomatch hq)⟩
  obtain ⟨⟨FL, FP, FN, FZ, FB, EX⟩, ⟨AL, AP, AN⟩, -⟩ := I
  simp only [srt, and_true] at S
  refine X.blk hK (L := [(.iconst 0, 1, 0, 0), (.istore_n 3, 1, 0, 0), (.aload_n 0, 1, 0, 0)]) (pc' := 3) (ls' := #[.val (.ref a), .val (.long q), .second, .val (.int (0 : Int32)), .unset, .unset]) (st' := [(.ref a)]) (by decide +kernel) rfl ?_
  refine X.getf 6 (hw _ (List.mem_of_getElem? (i := 23) rfl)) FZ (by decide +kernel) ?_
  intro Tz Xz
  refine Xz.blk hK (L := [(.istore 4, 2, 0, 0)]) (pc' := 8) (ls' := #[.val (.ref a), .val (.long q), .second, .val (.int (0 : Int32)), .val (.int (2 : Int32)), .unset]) (st' := []) (by decide +kernel) rfl ?_
  refine Xz.blk hK (L := [(.iload_n 3, 1, 0, 0), (.iload 4, 2, 0, 0)]) (pc' := 11) (ls' := #[.val (.ref a), .val (.long q), .second, .val (.int (0 : Int32)), .val (.int (2 : Int32)), .unset]) (st' := [(.int (2 : Int32)), (.int (0 : Int32))]) (by decide +kernel) rfl ?_
  refine Xz.icmp .ge (38) 49 14 (by decide +kernel) (fun (c11 : ¬ (0 : Int32) < (2 : Int32)) => absurd (by decide : (0 : Int32) < (2 : Int32)) c11) (fun (c11 : (0 : Int32) < (2 : Int32)) => ?_)
  refine Xz.blk hK (L := [(.iload_n 3, 1, 0, 0), (.iload 4, 2, 0, 0), (.iadd, 1, 0, 0), (.iconst 1, 1, 1, 0), (.iushr, 1, 0, 0), (.istore 5, 2, 0, 0), (.aload_n 0, 1, 0, 0)]) (pc' := 23) (ls' := #[.val (.ref a), .val (.long q), .second, .val (.int (0 : Int32)), .val (.int (2 : Int32)), .val (.int (1 : Int32))]) (st' := [(.ref a)]) (by decide +kernel) rfl ?_
  refine Xz.getf 26 (hw _ (List.mem_of_getElem? (i := 11) rfl)) FL (by decide +kernel) ?_
  intro Tg1 Xg1
  refine Xg1.blk hK (L := [(.iload 5, 2, 0, 0)]) (pc' := 28) (ls' := #[.val (.ref a), .val (.long q), .second, .val (.int (0 : Int32)), .val (.int (2 : Int32)), .val (.int (1 : Int32))]) (st' := [(.int (1 : Int32)), (.ref al)]) (by decide +kernel) rfl ?_
  refine Xg1.laload 29 AL (by decide +kernel) (by decide) (rfl) ?_
  refine Xg1.blk hK (L := [(.lload_n 1, 1, 0, 0)]) (pc' := 30) (ls' := #[.val (.ref a), .val (.long q), .second, .val (.int (0 : Int32)), .val (.int (2 : Int32)), .val (.int (1 : Int32))]) (st' := [(.long q), (.long x1)]) (by decide +kernel) rfl ?_
  refine Xg1.lcmp .gt (11) 42 34 (by decide +kernel) (fun (f1 : q < x1) => ?_) (fun (f1 : ¬ q < x1) => ?_)
  · have o1042 := own_lt f1
    refine Xg1.blk hK (L := [(.iload 5, 2, 0, 0), (.istore 4, 2, 0, 0), (.goto (-38), 3, 0, 8)]) (pc' := 8) (ls' := #[.val (.ref a), .val (.long q), .second, .val (.int (0 : Int32)), .val (.int (1 : Int32)), .val (.int (1 : Int32))]) (st' := []) (by decide +kernel) rfl ?_
    refine Xg1.blk hK (L := [(.iload_n 3, 1, 0, 0), (.iload 4, 2, 0, 0)]) (pc' := 11) (ls' := #[.val (.ref a), .val (.long q), .second, .val (.int (0 : Int32)), .val (.int (1 : Int32)), .val (.int (1 : Int32))]) (st' := [(.int (1 : Int32)), (.int (0 : Int32))]) (by decide +kernel) rfl ?_
    refine Xg1.icmp .ge (38) 49 14 (by decide +kernel) (fun (c11 : ¬ (0 : Int32) < (1 : Int32)) => absurd (by decide : (0 : Int32) < (1 : Int32)) c11) (fun (c11 : (0 : Int32) < (1 : Int32)) => ?_)
    refine Xg1.blk hK (L := [(.iload_n 3, 1, 0, 0), (.iload 4, 2, 0, 0), (.iadd, 1, 0, 0), (.iconst 1, 1, 1, 0), (.iushr, 1, 0, 0), (.istore 5, 2, 0, 0), (.aload_n 0, 1, 0, 0)]) (pc' := 23) (ls' := #[.val (.ref a), .val (.long q), .second, .val (.int (0 : Int32)), .val (.int (1 : Int32)), .val (.int (0 : Int32))]) (st' := [(.ref a)]) (by decide +kernel) rfl ?_
    refine Xg1.getf 26 (hw _ (List.mem_of_getElem? (i := 11) rfl)) FL (by decide +kernel) ?_
    intro Tg2 Xg2
    refine Xg2.blk hK (L := [(.iload 5, 2, 0, 0)]) (pc' := 28) (ls' := #[.val (.ref a), .val (.long q), .second, .val (.int (0 : Int32)), .val (.int (1 : Int32)), .val (.int (0 : Int32))]) (st' := [(.int (0 : Int32)), (.ref al)]) (by decide +kernel) rfl ?_
    refine Xg2.laload 29 AL (by decide +kernel) (by decide) (rfl) ?_
    refine Xg2.blk hK (L := [(.lload_n 1, 1, 0, 0)]) (pc' := 30) (ls' := #[.val (.ref a), .val (.long q), .second, .val (.int (0 : Int32)), .val (.int (1 : Int32)), .val (.int (0 : Int32))]) (st' := [(.long q), (.long x0)]) (by decide +kernel) rfl ?_
    refine Xg2.lcmp .gt (11) 42 34 (by decide +kernel) (fun (f2 : q < x0) => ?_) (fun (f2 : ¬ q < x0) => ?_)
    · have o2042 := own_lt f2
      refine Xg2.blk hK (L := [(.iload 5, 2, 0, 0), (.istore 4, 2, 0, 0), (.goto (-38), 3, 0, 8)]) (pc' := 8) (ls' := #[.val (.ref a), .val (.long q), .second, .val (.int (0 : Int32)), .val (.int (0 : Int32)), .val (.int (0 : Int32))]) (st' := []) (by decide +kernel) rfl ?_
      refine Xg2.blk hK (L := [(.iload_n 3, 1, 0, 0), (.iload 4, 2, 0, 0)]) (pc' := 11) (ls' := #[.val (.ref a), .val (.long q), .second, .val (.int (0 : Int32)), .val (.int (0 : Int32)), .val (.int (0 : Int32))]) (st' := [(.int (0 : Int32)), (.int (0 : Int32))]) (by decide +kernel) rfl ?_
      refine Xg2.icmp .ge (38) 49 14 (by decide +kernel) (fun (c11 : ¬ (0 : Int32) < (0 : Int32)) => ?_) (fun (c11 : (0 : Int32) < (0 : Int32)) => absurd c11 (by decide : ¬ (0 : Int32) < (0 : Int32)))
      refine Xg2.blk hK (L := [(.iload_n 3, 1, 0, 0)]) (pc' := 50) (ls' := #[.val (.ref a), .val (.long q), .second, .val (.int (0 : Int32)), .val (.int (0 : Int32)), .val (.int (0 : Int32))]) (st' := [(.int (0 : Int32))]) (by decide +kernel) rfl ?_
      have s0 : leI x0 q = 0 := own_le0 (by omega)
      have s1 : leI x1 q = 0 := own_le0 (by omega)
      exact Xg2.retI (by decide +kernel) (by decide) (by decide) (by refine ⟨?_, rfl⟩; simp only [cnt, List.foldl, s0, s1] <;> decide)
    · have o2034 := own_ge f2
      refine Xg2.blk hK (L := [(.iload 5, 2, 0, 0), (.iconst 1, 1, 1, 0), (.iadd, 1, 0, 0), (.istore_n 3, 1, 0, 0), (.goto 7, 3, 0, 46), (.goto (-38), 3, 0, 8)]) (pc' := 8) (ls' := #[.val (.ref a), .val (.long q), .second, .val (.int (1 : Int32)), .val (.int (1 : Int32)), .val (.int (0 : Int32))]) (st' := []) (by decide +kernel) rfl ?_
      refine Xg2.blk hK (L := [(.iload_n 3, 1, 0, 0), (.iload 4, 2, 0, 0)]) (pc' := 11) (ls' := #[.val (.ref a), .val (.long q), .second, .val (.int (1 : Int32)), .val (.int (1 : Int32)), .val (.int (0 : Int32))]) (st' := [(.int (1 : Int32)), (.int (1 : Int32))]) (by decide +kernel) rfl ?_
      refine Xg2.icmp .ge (38) 49 14 (by decide +kernel) (fun (c11 : ¬ (1 : Int32) < (1 : Int32)) => ?_) (fun (c11 : (1 : Int32) < (1 : Int32)) => absurd c11 (by decide : ¬ (1 : Int32) < (1 : Int32)))
      refine Xg2.blk hK (L := [(.iload_n 3, 1, 0, 0)]) (pc' := 50) (ls' := #[.val (.ref a), .val (.long q), .second, .val (.int (1 : Int32)), .val (.int (1 : Int32)), .val (.int (0 : Int32))]) (st' := [(.int (1 : Int32))]) (by decide +kernel) rfl ?_
      have s0 : leI x0 q = 1 := own_le1 (by omega)
      have s1 : leI x1 q = 0 := own_le0 (by omega)
      exact Xg2.retI (by decide +kernel) (by decide) (by decide) (by refine ⟨?_, rfl⟩; simp only [cnt, List.foldl, s0, s1] <;> decide)
  · have o1034 := own_ge f1
    refine Xg1.blk hK (L := [(.iload 5, 2, 0, 0), (.iconst 1, 1, 1, 0), (.iadd, 1, 0, 0), (.istore_n 3, 1, 0, 0), (.goto 7, 3, 0, 46), (.goto (-38), 3, 0, 8)]) (pc' := 8) (ls' := #[.val (.ref a), .val (.long q), .second, .val (.int (2 : Int32)), .val (.int (2 : Int32)), .val (.int (1 : Int32))]) (st' := []) (by decide +kernel) rfl ?_
    refine Xg1.blk hK (L := [(.iload_n 3, 1, 0, 0), (.iload 4, 2, 0, 0)]) (pc' := 11) (ls' := #[.val (.ref a), .val (.long q), .second, .val (.int (2 : Int32)), .val (.int (2 : Int32)), .val (.int (1 : Int32))]) (st' := [(.int (2 : Int32)), (.int (2 : Int32))]) (by decide +kernel) rfl ?_
    refine Xg1.icmp .ge (38) 49 14 (by decide +kernel) (fun (c11 : ¬ (2 : Int32) < (2 : Int32)) => ?_) (fun (c11 : (2 : Int32) < (2 : Int32)) => absurd c11 (by decide : ¬ (2 : Int32) < (2 : Int32)))
    refine Xg1.blk hK (L := [(.iload_n 3, 1, 0, 0)]) (pc' := 50) (ls' := #[.val (.ref a), .val (.long q), .second, .val (.int (2 : Int32)), .val (.int (2 : Int32)), .val (.int (1 : Int32))]) (st' := [(.int (2 : Int32))]) (by decide +kernel) rfl ?_
    have s0 : leI x0 q = 1 := own_le1 (by omega)
    have s1 : leI x1 q = 1 := own_le1 (by omega)
    exact Xg1.retI (by decide +kernel) (by decide) (by decide) (by refine ⟨?_, rfl⟩; simp only [cnt, List.foldl, s0, s1] <;> decide)
set_option maxRecDepth 65536 in
set_option maxHeartbeats 40000000 in
theorem rm_ab3 (l : Launch) (Z : State) (a0 : Array Value) (hw : ∀ d ∈ tables_1, d.before a0 Z = true) (a al ap ai : Addr) (q x0 x1 x2 x3 bb : Int64) (h0 : Heap) (n0 : Nat) (Z0 : n0 ≤ h0.size) (I : RI Z h0 n0 a al ap ai 3 bb [.long x0, .long x1, .long x2, .long x3]) (S : srt [x0, x1, x2]) :
    Cnt l Z (⟨"com/example/redolith/redolith/storage/RecordIndex", "above", "(J)I"⟩ : MethodName) prog_167_method_12_code 6 (some .int) ({ frames := 0, cells := 0, slots := 0, locals := 0 } : Room) n0 #[(.ref a), (.long q)] h0 (fun v h => v = some (.int (cnt [x0, x1, x2] q)) ∧ h0 = h) := by
  refine Cnt.mk (by first | exact plainFor_of_name (by first | (simp [plainName, overriddenIn]; done) | decide +kernel) | decide +kernel) Z0 ?_
  intro p e s m below meth c T X
  refine Go.cast (g' := mkF m 0 #[.val (.ref a), .val (.long q), .second, .unset, .unset, .unset] []) (by first | (simp [entryFrame, mkF, argsToLocals, Value.category, maxLocals]; done) | rfl) ?_
  have hK : (∀ q ∈ ([] : List (Nat × Int32)), (Jvm.Cond.constant "com/example/redolith/redolith/storage/RecordIndex" q.1 q.2).before a0 Z = true) ∧ (∀ q ∈ ([] : List (Nat × Int64)), (Jvm.Cond.constantLong "com/example/redolith/redolith/storage/RecordIndex" q.1 q.2).before a0 Z = true) :=
    ⟨(fun q hq => nomatch hq), (fun q hq => nomatch hq)⟩
  obtain ⟨⟨FL, FP, FN, FZ, FB, EX⟩, ⟨AL, AP, AN⟩, -⟩ := I
  simp only [srt, and_true] at S
  refine X.blk hK (L := [(.iconst 0, 1, 0, 0), (.istore_n 3, 1, 0, 0), (.aload_n 0, 1, 0, 0)]) (pc' := 3) (ls' := #[.val (.ref a), .val (.long q), .second, .val (.int (0 : Int32)), .unset, .unset]) (st' := [(.ref a)]) (by decide +kernel) rfl ?_
  refine X.getf 6 (hw _ (List.mem_of_getElem? (i := 23) rfl)) FZ (by decide +kernel) ?_
  intro Tz Xz
  refine Xz.blk hK (L := [(.istore 4, 2, 0, 0)]) (pc' := 8) (ls' := #[.val (.ref a), .val (.long q), .second, .val (.int (0 : Int32)), .val (.int (3 : Int32)), .unset]) (st' := []) (by decide +kernel) rfl ?_
  refine Xz.blk hK (L := [(.iload_n 3, 1, 0, 0), (.iload 4, 2, 0, 0)]) (pc' := 11) (ls' := #[.val (.ref a), .val (.long q), .second, .val (.int (0 : Int32)), .val (.int (3 : Int32)), .unset]) (st' := [(.int (3 : Int32)), (.int (0 : Int32))]) (by decide +kernel) rfl ?_
  refine Xz.icmp .ge (38) 49 14 (by decide +kernel) (fun (c11 : ¬ (0 : Int32) < (3 : Int32)) => absurd (by decide : (0 : Int32) < (3 : Int32)) c11) (fun (c11 : (0 : Int32) < (3 : Int32)) => ?_)
  refine Xz.blk hK (L := [(.iload_n 3, 1, 0, 0), (.iload 4, 2, 0, 0), (.iadd, 1, 0, 0), (.iconst 1, 1, 1, 0), (.iushr, 1, 0, 0), (.istore 5, 2, 0, 0), (.aload_n 0, 1, 0, 0)]) (pc' := 23) (ls' := #[.val (.ref a), .val (.long q), .second, .val (.int (0 : Int32)), .val (.int (3 : Int32)), .val (.int (1 : Int32))]) (st' := [(.ref a)]) (by decide +kernel) rfl ?_
  refine Xz.getf 26 (hw _ (List.mem_of_getElem? (i := 11) rfl)) FL (by decide +kernel) ?_
  intro Tg1 Xg1
  refine Xg1.blk hK (L := [(.iload 5, 2, 0, 0)]) (pc' := 28) (ls' := #[.val (.ref a), .val (.long q), .second, .val (.int (0 : Int32)), .val (.int (3 : Int32)), .val (.int (1 : Int32))]) (st' := [(.int (1 : Int32)), (.ref al)]) (by decide +kernel) rfl ?_
  refine Xg1.laload 29 AL (by decide +kernel) (by decide) (rfl) ?_
  refine Xg1.blk hK (L := [(.lload_n 1, 1, 0, 0)]) (pc' := 30) (ls' := #[.val (.ref a), .val (.long q), .second, .val (.int (0 : Int32)), .val (.int (3 : Int32)), .val (.int (1 : Int32))]) (st' := [(.long q), (.long x1)]) (by decide +kernel) rfl ?_
  refine Xg1.lcmp .gt (11) 42 34 (by decide +kernel) (fun (f1 : q < x1) => ?_) (fun (f1 : ¬ q < x1) => ?_)
  · have o1042 := own_lt f1
    refine Xg1.blk hK (L := [(.iload 5, 2, 0, 0), (.istore 4, 2, 0, 0), (.goto (-38), 3, 0, 8)]) (pc' := 8) (ls' := #[.val (.ref a), .val (.long q), .second, .val (.int (0 : Int32)), .val (.int (1 : Int32)), .val (.int (1 : Int32))]) (st' := []) (by decide +kernel) rfl ?_
    refine Xg1.blk hK (L := [(.iload_n 3, 1, 0, 0), (.iload 4, 2, 0, 0)]) (pc' := 11) (ls' := #[.val (.ref a), .val (.long q), .second, .val (.int (0 : Int32)), .val (.int (1 : Int32)), .val (.int (1 : Int32))]) (st' := [(.int (1 : Int32)), (.int (0 : Int32))]) (by decide +kernel) rfl ?_
    refine Xg1.icmp .ge (38) 49 14 (by decide +kernel) (fun (c11 : ¬ (0 : Int32) < (1 : Int32)) => absurd (by decide : (0 : Int32) < (1 : Int32)) c11) (fun (c11 : (0 : Int32) < (1 : Int32)) => ?_)
    refine Xg1.blk hK (L := [(.iload_n 3, 1, 0, 0), (.iload 4, 2, 0, 0), (.iadd, 1, 0, 0), (.iconst 1, 1, 1, 0), (.iushr, 1, 0, 0), (.istore 5, 2, 0, 0), (.aload_n 0, 1, 0, 0)]) (pc' := 23) (ls' := #[.val (.ref a), .val (.long q), .second, .val (.int (0 : Int32)), .val (.int (1 : Int32)), .val (.int (0 : Int32))]) (st' := [(.ref a)]) (by decide +kernel) rfl ?_
    refine Xg1.getf 26 (hw _ (List.mem_of_getElem? (i := 11) rfl)) FL (by decide +kernel) ?_
    intro Tg2 Xg2
    refine Xg2.blk hK (L := [(.iload 5, 2, 0, 0)]) (pc' := 28) (ls' := #[.val (.ref a), .val (.long q), .second, .val (.int (0 : Int32)), .val (.int (1 : Int32)), .val (.int (0 : Int32))]) (st' := [(.int (0 : Int32)), (.ref al)]) (by decide +kernel) rfl ?_
    refine Xg2.laload 29 AL (by decide +kernel) (by decide) (rfl) ?_
    refine Xg2.blk hK (L := [(.lload_n 1, 1, 0, 0)]) (pc' := 30) (ls' := #[.val (.ref a), .val (.long q), .second, .val (.int (0 : Int32)), .val (.int (1 : Int32)), .val (.int (0 : Int32))]) (st' := [(.long q), (.long x0)]) (by decide +kernel) rfl ?_
    refine Xg2.lcmp .gt (11) 42 34 (by decide +kernel) (fun (f2 : q < x0) => ?_) (fun (f2 : ¬ q < x0) => ?_)
    · have o2042 := own_lt f2
      refine Xg2.blk hK (L := [(.iload 5, 2, 0, 0), (.istore 4, 2, 0, 0), (.goto (-38), 3, 0, 8)]) (pc' := 8) (ls' := #[.val (.ref a), .val (.long q), .second, .val (.int (0 : Int32)), .val (.int (0 : Int32)), .val (.int (0 : Int32))]) (st' := []) (by decide +kernel) rfl ?_
      refine Xg2.blk hK (L := [(.iload_n 3, 1, 0, 0), (.iload 4, 2, 0, 0)]) (pc' := 11) (ls' := #[.val (.ref a), .val (.long q), .second, .val (.int (0 : Int32)), .val (.int (0 : Int32)), .val (.int (0 : Int32))]) (st' := [(.int (0 : Int32)), (.int (0 : Int32))]) (by decide +kernel) rfl ?_
      refine Xg2.icmp .ge (38) 49 14 (by decide +kernel) (fun (c11 : ¬ (0 : Int32) < (0 : Int32)) => ?_) (fun (c11 : (0 : Int32) < (0 : Int32)) => absurd c11 (by decide : ¬ (0 : Int32) < (0 : Int32)))
      refine Xg2.blk hK (L := [(.iload_n 3, 1, 0, 0)]) (pc' := 50) (ls' := #[.val (.ref a), .val (.long q), .second, .val (.int (0 : Int32)), .val (.int (0 : Int32)), .val (.int (0 : Int32))]) (st' := [(.int (0 : Int32))]) (by decide +kernel) rfl ?_
      have s0 : leI x0 q = 0 := own_le0 (by omega)
      have s1 : leI x1 q = 0 := own_le0 (by omega)
      have s2 : leI x2 q = 0 := own_le0 (by omega)
      exact Xg2.retI (by decide +kernel) (by decide) (by decide) (by refine ⟨?_, rfl⟩; simp only [cnt, List.foldl, s0, s1, s2] <;> decide)
    · have o2034 := own_ge f2
      refine Xg2.blk hK (L := [(.iload 5, 2, 0, 0), (.iconst 1, 1, 1, 0), (.iadd, 1, 0, 0), (.istore_n 3, 1, 0, 0), (.goto 7, 3, 0, 46), (.goto (-38), 3, 0, 8)]) (pc' := 8) (ls' := #[.val (.ref a), .val (.long q), .second, .val (.int (1 : Int32)), .val (.int (1 : Int32)), .val (.int (0 : Int32))]) (st' := []) (by decide +kernel) rfl ?_
      refine Xg2.blk hK (L := [(.iload_n 3, 1, 0, 0), (.iload 4, 2, 0, 0)]) (pc' := 11) (ls' := #[.val (.ref a), .val (.long q), .second, .val (.int (1 : Int32)), .val (.int (1 : Int32)), .val (.int (0 : Int32))]) (st' := [(.int (1 : Int32)), (.int (1 : Int32))]) (by decide +kernel) rfl ?_
      refine Xg2.icmp .ge (38) 49 14 (by decide +kernel) (fun (c11 : ¬ (1 : Int32) < (1 : Int32)) => ?_) (fun (c11 : (1 : Int32) < (1 : Int32)) => absurd c11 (by decide : ¬ (1 : Int32) < (1 : Int32)))
      refine Xg2.blk hK (L := [(.iload_n 3, 1, 0, 0)]) (pc' := 50) (ls' := #[.val (.ref a), .val (.long q), .second, .val (.int (1 : Int32)), .val (.int (1 : Int32)), .val (.int (0 : Int32))]) (st' := [(.int (1 : Int32))]) (by decide +kernel) rfl ?_
      have s0 : leI x0 q = 1 := own_le1 (by omega)
      have s1 : leI x1 q = 0 := own_le0 (by omega)
      have s2 : leI x2 q = 0 := own_le0 (by omega)
      exact Xg2.retI (by decide +kernel) (by decide) (by decide) (by refine ⟨?_, rfl⟩; simp only [cnt, List.foldl, s0, s1, s2] <;> decide)
  · have o1034 := own_ge f1
    refine Xg1.blk hK (L := [(.iload 5, 2, 0, 0), (.iconst 1, 1, 1, 0), (.iadd, 1, 0, 0), (.istore_n 3, 1, 0, 0), (.goto 7, 3, 0, 46), (.goto (-38), 3, 0, 8)]) (pc' := 8) (ls' := #[.val (.ref a), .val (.long q), .second, .val (.int (2 : Int32)), .val (.int (3 : Int32)), .val (.int (1 : Int32))]) (st' := []) (by decide +kernel) rfl ?_
    refine Xg1.blk hK (L := [(.iload_n 3, 1, 0, 0), (.iload 4, 2, 0, 0)]) (pc' := 11) (ls' := #[.val (.ref a), .val (.long q), .second, .val (.int (2 : Int32)), .val (.int (3 : Int32)), .val (.int (1 : Int32))]) (st' := [(.int (3 : Int32)), (.int (2 : Int32))]) (by decide +kernel) rfl ?_
    refine Xg1.icmp .ge (38) 49 14 (by decide +kernel) (fun (c11 : ¬ (2 : Int32) < (3 : Int32)) => absurd (by decide : (2 : Int32) < (3 : Int32)) c11) (fun (c11 : (2 : Int32) < (3 : Int32)) => ?_)
    refine Xg1.blk hK (L := [(.iload_n 3, 1, 0, 0), (.iload 4, 2, 0, 0), (.iadd, 1, 0, 0), (.iconst 1, 1, 1, 0), (.iushr, 1, 0, 0), (.istore 5, 2, 0, 0), (.aload_n 0, 1, 0, 0)]) (pc' := 23) (ls' := #[.val (.ref a), .val (.long q), .second, .val (.int (2 : Int32)), .val (.int (3 : Int32)), .val (.int (2 : Int32))]) (st' := [(.ref a)]) (by decide +kernel) rfl ?_
    refine Xg1.getf 26 (hw _ (List.mem_of_getElem? (i := 11) rfl)) FL (by decide +kernel) ?_
    intro Tg3 Xg3
    refine Xg3.blk hK (L := [(.iload 5, 2, 0, 0)]) (pc' := 28) (ls' := #[.val (.ref a), .val (.long q), .second, .val (.int (2 : Int32)), .val (.int (3 : Int32)), .val (.int (2 : Int32))]) (st' := [(.int (2 : Int32)), (.ref al)]) (by decide +kernel) rfl ?_
    refine Xg3.laload 29 AL (by decide +kernel) (by decide) (rfl) ?_
    refine Xg3.blk hK (L := [(.lload_n 1, 1, 0, 0)]) (pc' := 30) (ls' := #[.val (.ref a), .val (.long q), .second, .val (.int (2 : Int32)), .val (.int (3 : Int32)), .val (.int (2 : Int32))]) (st' := [(.long q), (.long x2)]) (by decide +kernel) rfl ?_
    refine Xg3.lcmp .gt (11) 42 34 (by decide +kernel) (fun (f3 : q < x2) => ?_) (fun (f3 : ¬ q < x2) => ?_)
    · have o3042 := own_lt f3
      refine Xg3.blk hK (L := [(.iload 5, 2, 0, 0), (.istore 4, 2, 0, 0), (.goto (-38), 3, 0, 8)]) (pc' := 8) (ls' := #[.val (.ref a), .val (.long q), .second, .val (.int (2 : Int32)), .val (.int (2 : Int32)), .val (.int (2 : Int32))]) (st' := []) (by decide +kernel) rfl ?_
      refine Xg3.blk hK (L := [(.iload_n 3, 1, 0, 0), (.iload 4, 2, 0, 0)]) (pc' := 11) (ls' := #[.val (.ref a), .val (.long q), .second, .val (.int (2 : Int32)), .val (.int (2 : Int32)), .val (.int (2 : Int32))]) (st' := [(.int (2 : Int32)), (.int (2 : Int32))]) (by decide +kernel) rfl ?_
      refine Xg3.icmp .ge (38) 49 14 (by decide +kernel) (fun (c11 : ¬ (2 : Int32) < (2 : Int32)) => ?_) (fun (c11 : (2 : Int32) < (2 : Int32)) => absurd c11 (by decide : ¬ (2 : Int32) < (2 : Int32)))
      refine Xg3.blk hK (L := [(.iload_n 3, 1, 0, 0)]) (pc' := 50) (ls' := #[.val (.ref a), .val (.long q), .second, .val (.int (2 : Int32)), .val (.int (2 : Int32)), .val (.int (2 : Int32))]) (st' := [(.int (2 : Int32))]) (by decide +kernel) rfl ?_
      have s0 : leI x0 q = 1 := own_le1 (by omega)
      have s1 : leI x1 q = 1 := own_le1 (by omega)
      have s2 : leI x2 q = 0 := own_le0 (by omega)
      exact Xg3.retI (by decide +kernel) (by decide) (by decide) (by refine ⟨?_, rfl⟩; simp only [cnt, List.foldl, s0, s1, s2] <;> decide)
    · have o3034 := own_ge f3
      refine Xg3.blk hK (L := [(.iload 5, 2, 0, 0), (.iconst 1, 1, 1, 0), (.iadd, 1, 0, 0), (.istore_n 3, 1, 0, 0), (.goto 7, 3, 0, 46), (.goto (-38), 3, 0, 8)]) (pc' := 8) (ls' := #[.val (.ref a), .val (.long q), .second, .val (.int (3 : Int32)), .val (.int (3 : Int32)), .val (.int (2 : Int32))]) (st' := []) (by decide +kernel) rfl ?_
      refine Xg3.blk hK (L := [(.iload_n 3, 1, 0, 0), (.iload 4, 2, 0, 0)]) (pc' := 11) (ls' := #[.val (.ref a), .val (.long q), .second, .val (.int (3 : Int32)), .val (.int (3 : Int32)), .val (.int (2 : Int32))]) (st' := [(.int (3 : Int32)), (.int (3 : Int32))]) (by decide +kernel) rfl ?_
      refine Xg3.icmp .ge (38) 49 14 (by decide +kernel) (fun (c11 : ¬ (3 : Int32) < (3 : Int32)) => ?_) (fun (c11 : (3 : Int32) < (3 : Int32)) => absurd c11 (by decide : ¬ (3 : Int32) < (3 : Int32)))
      refine Xg3.blk hK (L := [(.iload_n 3, 1, 0, 0)]) (pc' := 50) (ls' := #[.val (.ref a), .val (.long q), .second, .val (.int (3 : Int32)), .val (.int (3 : Int32)), .val (.int (2 : Int32))]) (st' := [(.int (3 : Int32))]) (by decide +kernel) rfl ?_
      have s0 : leI x0 q = 1 := own_le1 (by omega)
      have s1 : leI x1 q = 1 := own_le1 (by omega)
      have s2 : leI x2 q = 1 := own_le1 (by omega)
      exact Xg3.retI (by decide +kernel) (by decide) (by decide) (by refine ⟨?_, rfl⟩; simp only [cnt, List.foldl, s0, s1, s2] <;> decide)
set_option maxRecDepth 65536 in
set_option maxHeartbeats 40000000 in
theorem rm_ab4 (l : Launch) (Z : State) (a0 : Array Value) (hw : ∀ d ∈ tables_1, d.before a0 Z = true) (a al ap ai : Addr) (q x0 x1 x2 x3 bb : Int64) (h0 : Heap) (n0 : Nat) (Z0 : n0 ≤ h0.size) (I : RI Z h0 n0 a al ap ai 4 bb [.long x0, .long x1, .long x2, .long x3]) (S : srt [x0, x1, x2, x3]) :
    Cnt l Z (⟨"com/example/redolith/redolith/storage/RecordIndex", "above", "(J)I"⟩ : MethodName) prog_167_method_12_code 6 (some .int) ({ frames := 0, cells := 0, slots := 0, locals := 0 } : Room) n0 #[(.ref a), (.long q)] h0 (fun v h => v = some (.int (cnt [x0, x1, x2, x3] q)) ∧ h0 = h) := by
  refine Cnt.mk (by first | exact plainFor_of_name (by first | (simp [plainName, overriddenIn]; done) | decide +kernel) | decide +kernel) Z0 ?_
  intro p e s m below meth c T X
  refine Go.cast (g' := mkF m 0 #[.val (.ref a), .val (.long q), .second, .unset, .unset, .unset] []) (by first | (simp [entryFrame, mkF, argsToLocals, Value.category, maxLocals]; done) | rfl) ?_
  have hK : (∀ q ∈ ([] : List (Nat × Int32)), (Jvm.Cond.constant "com/example/redolith/redolith/storage/RecordIndex" q.1 q.2).before a0 Z = true) ∧ (∀ q ∈ ([] : List (Nat × Int64)), (Jvm.Cond.constantLong "com/example/redolith/redolith/storage/RecordIndex" q.1 q.2).before a0 Z = true) :=
    ⟨(fun q hq => nomatch hq), (fun q hq => nomatch hq)⟩
  obtain ⟨⟨FL, FP, FN, FZ, FB, EX⟩, ⟨AL, AP, AN⟩, -⟩ := I
  simp only [srt, and_true] at S
  refine X.blk hK (L := [(.iconst 0, 1, 0, 0), (.istore_n 3, 1, 0, 0), (.aload_n 0, 1, 0, 0)]) (pc' := 3) (ls' := #[.val (.ref a), .val (.long q), .second, .val (.int (0 : Int32)), .unset, .unset]) (st' := [(.ref a)]) (by decide +kernel) rfl ?_
  refine X.getf 6 (hw _ (List.mem_of_getElem? (i := 23) rfl)) FZ (by decide +kernel) ?_
  intro Tz Xz
  refine Xz.blk hK (L := [(.istore 4, 2, 0, 0)]) (pc' := 8) (ls' := #[.val (.ref a), .val (.long q), .second, .val (.int (0 : Int32)), .val (.int (4 : Int32)), .unset]) (st' := []) (by decide +kernel) rfl ?_
  refine Xz.blk hK (L := [(.iload_n 3, 1, 0, 0), (.iload 4, 2, 0, 0)]) (pc' := 11) (ls' := #[.val (.ref a), .val (.long q), .second, .val (.int (0 : Int32)), .val (.int (4 : Int32)), .unset]) (st' := [(.int (4 : Int32)), (.int (0 : Int32))]) (by decide +kernel) rfl ?_
  refine Xz.icmp .ge (38) 49 14 (by decide +kernel) (fun (c11 : ¬ (0 : Int32) < (4 : Int32)) => absurd (by decide : (0 : Int32) < (4 : Int32)) c11) (fun (c11 : (0 : Int32) < (4 : Int32)) => ?_)
  refine Xz.blk hK (L := [(.iload_n 3, 1, 0, 0), (.iload 4, 2, 0, 0), (.iadd, 1, 0, 0), (.iconst 1, 1, 1, 0), (.iushr, 1, 0, 0), (.istore 5, 2, 0, 0), (.aload_n 0, 1, 0, 0)]) (pc' := 23) (ls' := #[.val (.ref a), .val (.long q), .second, .val (.int (0 : Int32)), .val (.int (4 : Int32)), .val (.int (2 : Int32))]) (st' := [(.ref a)]) (by decide +kernel) rfl ?_
  refine Xz.getf 26 (hw _ (List.mem_of_getElem? (i := 11) rfl)) FL (by decide +kernel) ?_
  intro Tg1 Xg1
  refine Xg1.blk hK (L := [(.iload 5, 2, 0, 0)]) (pc' := 28) (ls' := #[.val (.ref a), .val (.long q), .second, .val (.int (0 : Int32)), .val (.int (4 : Int32)), .val (.int (2 : Int32))]) (st' := [(.int (2 : Int32)), (.ref al)]) (by decide +kernel) rfl ?_
  refine Xg1.laload 29 AL (by decide +kernel) (by decide) (rfl) ?_
  refine Xg1.blk hK (L := [(.lload_n 1, 1, 0, 0)]) (pc' := 30) (ls' := #[.val (.ref a), .val (.long q), .second, .val (.int (0 : Int32)), .val (.int (4 : Int32)), .val (.int (2 : Int32))]) (st' := [(.long q), (.long x2)]) (by decide +kernel) rfl ?_
  refine Xg1.lcmp .gt (11) 42 34 (by decide +kernel) (fun (f1 : q < x2) => ?_) (fun (f1 : ¬ q < x2) => ?_)
  · have o1042 := own_lt f1
    refine Xg1.blk hK (L := [(.iload 5, 2, 0, 0), (.istore 4, 2, 0, 0), (.goto (-38), 3, 0, 8)]) (pc' := 8) (ls' := #[.val (.ref a), .val (.long q), .second, .val (.int (0 : Int32)), .val (.int (2 : Int32)), .val (.int (2 : Int32))]) (st' := []) (by decide +kernel) rfl ?_
    refine Xg1.blk hK (L := [(.iload_n 3, 1, 0, 0), (.iload 4, 2, 0, 0)]) (pc' := 11) (ls' := #[.val (.ref a), .val (.long q), .second, .val (.int (0 : Int32)), .val (.int (2 : Int32)), .val (.int (2 : Int32))]) (st' := [(.int (2 : Int32)), (.int (0 : Int32))]) (by decide +kernel) rfl ?_
    refine Xg1.icmp .ge (38) 49 14 (by decide +kernel) (fun (c11 : ¬ (0 : Int32) < (2 : Int32)) => absurd (by decide : (0 : Int32) < (2 : Int32)) c11) (fun (c11 : (0 : Int32) < (2 : Int32)) => ?_)
    refine Xg1.blk hK (L := [(.iload_n 3, 1, 0, 0), (.iload 4, 2, 0, 0), (.iadd, 1, 0, 0), (.iconst 1, 1, 1, 0), (.iushr, 1, 0, 0), (.istore 5, 2, 0, 0), (.aload_n 0, 1, 0, 0)]) (pc' := 23) (ls' := #[.val (.ref a), .val (.long q), .second, .val (.int (0 : Int32)), .val (.int (2 : Int32)), .val (.int (1 : Int32))]) (st' := [(.ref a)]) (by decide +kernel) rfl ?_
    refine Xg1.getf 26 (hw _ (List.mem_of_getElem? (i := 11) rfl)) FL (by decide +kernel) ?_
    intro Tg2 Xg2
    refine Xg2.blk hK (L := [(.iload 5, 2, 0, 0)]) (pc' := 28) (ls' := #[.val (.ref a), .val (.long q), .second, .val (.int (0 : Int32)), .val (.int (2 : Int32)), .val (.int (1 : Int32))]) (st' := [(.int (1 : Int32)), (.ref al)]) (by decide +kernel) rfl ?_
    refine Xg2.laload 29 AL (by decide +kernel) (by decide) (rfl) ?_
    refine Xg2.blk hK (L := [(.lload_n 1, 1, 0, 0)]) (pc' := 30) (ls' := #[.val (.ref a), .val (.long q), .second, .val (.int (0 : Int32)), .val (.int (2 : Int32)), .val (.int (1 : Int32))]) (st' := [(.long q), (.long x1)]) (by decide +kernel) rfl ?_
    refine Xg2.lcmp .gt (11) 42 34 (by decide +kernel) (fun (f2 : q < x1) => ?_) (fun (f2 : ¬ q < x1) => ?_)
    · have o2042 := own_lt f2
      refine Xg2.blk hK (L := [(.iload 5, 2, 0, 0), (.istore 4, 2, 0, 0), (.goto (-38), 3, 0, 8)]) (pc' := 8) (ls' := #[.val (.ref a), .val (.long q), .second, .val (.int (0 : Int32)), .val (.int (1 : Int32)), .val (.int (1 : Int32))]) (st' := []) (by decide +kernel) rfl ?_
      refine Xg2.blk hK (L := [(.iload_n 3, 1, 0, 0), (.iload 4, 2, 0, 0)]) (pc' := 11) (ls' := #[.val (.ref a), .val (.long q), .second, .val (.int (0 : Int32)), .val (.int (1 : Int32)), .val (.int (1 : Int32))]) (st' := [(.int (1 : Int32)), (.int (0 : Int32))]) (by decide +kernel) rfl ?_
      refine Xg2.icmp .ge (38) 49 14 (by decide +kernel) (fun (c11 : ¬ (0 : Int32) < (1 : Int32)) => absurd (by decide : (0 : Int32) < (1 : Int32)) c11) (fun (c11 : (0 : Int32) < (1 : Int32)) => ?_)
      refine Xg2.blk hK (L := [(.iload_n 3, 1, 0, 0), (.iload 4, 2, 0, 0), (.iadd, 1, 0, 0), (.iconst 1, 1, 1, 0), (.iushr, 1, 0, 0), (.istore 5, 2, 0, 0), (.aload_n 0, 1, 0, 0)]) (pc' := 23) (ls' := #[.val (.ref a), .val (.long q), .second, .val (.int (0 : Int32)), .val (.int (1 : Int32)), .val (.int (0 : Int32))]) (st' := [(.ref a)]) (by decide +kernel) rfl ?_
      refine Xg2.getf 26 (hw _ (List.mem_of_getElem? (i := 11) rfl)) FL (by decide +kernel) ?_
      intro Tg3 Xg3
      refine Xg3.blk hK (L := [(.iload 5, 2, 0, 0)]) (pc' := 28) (ls' := #[.val (.ref a), .val (.long q), .second, .val (.int (0 : Int32)), .val (.int (1 : Int32)), .val (.int (0 : Int32))]) (st' := [(.int (0 : Int32)), (.ref al)]) (by decide +kernel) rfl ?_
      refine Xg3.laload 29 AL (by decide +kernel) (by decide) (rfl) ?_
      refine Xg3.blk hK (L := [(.lload_n 1, 1, 0, 0)]) (pc' := 30) (ls' := #[.val (.ref a), .val (.long q), .second, .val (.int (0 : Int32)), .val (.int (1 : Int32)), .val (.int (0 : Int32))]) (st' := [(.long q), (.long x0)]) (by decide +kernel) rfl ?_
      refine Xg3.lcmp .gt (11) 42 34 (by decide +kernel) (fun (f3 : q < x0) => ?_) (fun (f3 : ¬ q < x0) => ?_)
      · have o3042 := own_lt f3
        refine Xg3.blk hK (L := [(.iload 5, 2, 0, 0), (.istore 4, 2, 0, 0), (.goto (-38), 3, 0, 8)]) (pc' := 8) (ls' := #[.val (.ref a), .val (.long q), .second, .val (.int (0 : Int32)), .val (.int (0 : Int32)), .val (.int (0 : Int32))]) (st' := []) (by decide +kernel) rfl ?_
        refine Xg3.blk hK (L := [(.iload_n 3, 1, 0, 0), (.iload 4, 2, 0, 0)]) (pc' := 11) (ls' := #[.val (.ref a), .val (.long q), .second, .val (.int (0 : Int32)), .val (.int (0 : Int32)), .val (.int (0 : Int32))]) (st' := [(.int (0 : Int32)), (.int (0 : Int32))]) (by decide +kernel) rfl ?_
        refine Xg3.icmp .ge (38) 49 14 (by decide +kernel) (fun (c11 : ¬ (0 : Int32) < (0 : Int32)) => ?_) (fun (c11 : (0 : Int32) < (0 : Int32)) => absurd c11 (by decide : ¬ (0 : Int32) < (0 : Int32)))
        refine Xg3.blk hK (L := [(.iload_n 3, 1, 0, 0)]) (pc' := 50) (ls' := #[.val (.ref a), .val (.long q), .second, .val (.int (0 : Int32)), .val (.int (0 : Int32)), .val (.int (0 : Int32))]) (st' := [(.int (0 : Int32))]) (by decide +kernel) rfl ?_
        have s0 : leI x0 q = 0 := own_le0 (by omega)
        have s1 : leI x1 q = 0 := own_le0 (by omega)
        have s2 : leI x2 q = 0 := own_le0 (by omega)
        have s3 : leI x3 q = 0 := own_le0 (by omega)
        exact Xg3.retI (by decide +kernel) (by decide) (by decide) (by refine ⟨?_, rfl⟩; simp only [cnt, List.foldl, s0, s1, s2, s3] <;> decide)
      · have o3034 := own_ge f3
        refine Xg3.blk hK (L := [(.iload 5, 2, 0, 0), (.iconst 1, 1, 1, 0), (.iadd, 1, 0, 0), (.istore_n 3, 1, 0, 0), (.goto 7, 3, 0, 46), (.goto (-38), 3, 0, 8)]) (pc' := 8) (ls' := #[.val (.ref a), .val (.long q), .second, .val (.int (1 : Int32)), .val (.int (1 : Int32)), .val (.int (0 : Int32))]) (st' := []) (by decide +kernel) rfl ?_
        refine Xg3.blk hK (L := [(.iload_n 3, 1, 0, 0), (.iload 4, 2, 0, 0)]) (pc' := 11) (ls' := #[.val (.ref a), .val (.long q), .second, .val (.int (1 : Int32)), .val (.int (1 : Int32)), .val (.int (0 : Int32))]) (st' := [(.int (1 : Int32)), (.int (1 : Int32))]) (by decide +kernel) rfl ?_
        refine Xg3.icmp .ge (38) 49 14 (by decide +kernel) (fun (c11 : ¬ (1 : Int32) < (1 : Int32)) => ?_) (fun (c11 : (1 : Int32) < (1 : Int32)) => absurd c11 (by decide : ¬ (1 : Int32) < (1 : Int32)))
        refine Xg3.blk hK (L := [(.iload_n 3, 1, 0, 0)]) (pc' := 50) (ls' := #[.val (.ref a), .val (.long q), .second, .val (.int (1 : Int32)), .val (.int (1 : Int32)), .val (.int (0 : Int32))]) (st' := [(.int (1 : Int32))]) (by decide +kernel) rfl ?_
        have s0 : leI x0 q = 1 := own_le1 (by omega)
        have s1 : leI x1 q = 0 := own_le0 (by omega)
        have s2 : leI x2 q = 0 := own_le0 (by omega)
        have s3 : leI x3 q = 0 := own_le0 (by omega)
        exact Xg3.retI (by decide +kernel) (by decide) (by decide) (by refine ⟨?_, rfl⟩; simp only [cnt, List.foldl, s0, s1, s2, s3] <;> decide)
    · have o2034 := own_ge f2
      refine Xg2.blk hK (L := [(.iload 5, 2, 0, 0), (.iconst 1, 1, 1, 0), (.iadd, 1, 0, 0), (.istore_n 3, 1, 0, 0), (.goto 7, 3, 0, 46), (.goto (-38), 3, 0, 8)]) (pc' := 8) (ls' := #[.val (.ref a), .val (.long q), .second, .val (.int (2 : Int32)), .val (.int (2 : Int32)), .val (.int (1 : Int32))]) (st' := []) (by decide +kernel) rfl ?_
      refine Xg2.blk hK (L := [(.iload_n 3, 1, 0, 0), (.iload 4, 2, 0, 0)]) (pc' := 11) (ls' := #[.val (.ref a), .val (.long q), .second, .val (.int (2 : Int32)), .val (.int (2 : Int32)), .val (.int (1 : Int32))]) (st' := [(.int (2 : Int32)), (.int (2 : Int32))]) (by decide +kernel) rfl ?_
      refine Xg2.icmp .ge (38) 49 14 (by decide +kernel) (fun (c11 : ¬ (2 : Int32) < (2 : Int32)) => ?_) (fun (c11 : (2 : Int32) < (2 : Int32)) => absurd c11 (by decide : ¬ (2 : Int32) < (2 : Int32)))
      refine Xg2.blk hK (L := [(.iload_n 3, 1, 0, 0)]) (pc' := 50) (ls' := #[.val (.ref a), .val (.long q), .second, .val (.int (2 : Int32)), .val (.int (2 : Int32)), .val (.int (1 : Int32))]) (st' := [(.int (2 : Int32))]) (by decide +kernel) rfl ?_
      have s0 : leI x0 q = 1 := own_le1 (by omega)
      have s1 : leI x1 q = 1 := own_le1 (by omega)
      have s2 : leI x2 q = 0 := own_le0 (by omega)
      have s3 : leI x3 q = 0 := own_le0 (by omega)
      exact Xg2.retI (by decide +kernel) (by decide) (by decide) (by refine ⟨?_, rfl⟩; simp only [cnt, List.foldl, s0, s1, s2, s3] <;> decide)
  · have o1034 := own_ge f1
    refine Xg1.blk hK (L := [(.iload 5, 2, 0, 0), (.iconst 1, 1, 1, 0), (.iadd, 1, 0, 0), (.istore_n 3, 1, 0, 0), (.goto 7, 3, 0, 46), (.goto (-38), 3, 0, 8)]) (pc' := 8) (ls' := #[.val (.ref a), .val (.long q), .second, .val (.int (3 : Int32)), .val (.int (4 : Int32)), .val (.int (2 : Int32))]) (st' := []) (by decide +kernel) rfl ?_
    refine Xg1.blk hK (L := [(.iload_n 3, 1, 0, 0), (.iload 4, 2, 0, 0)]) (pc' := 11) (ls' := #[.val (.ref a), .val (.long q), .second, .val (.int (3 : Int32)), .val (.int (4 : Int32)), .val (.int (2 : Int32))]) (st' := [(.int (4 : Int32)), (.int (3 : Int32))]) (by decide +kernel) rfl ?_
    refine Xg1.icmp .ge (38) 49 14 (by decide +kernel) (fun (c11 : ¬ (3 : Int32) < (4 : Int32)) => absurd (by decide : (3 : Int32) < (4 : Int32)) c11) (fun (c11 : (3 : Int32) < (4 : Int32)) => ?_)
    refine Xg1.blk hK (L := [(.iload_n 3, 1, 0, 0), (.iload 4, 2, 0, 0), (.iadd, 1, 0, 0), (.iconst 1, 1, 1, 0), (.iushr, 1, 0, 0), (.istore 5, 2, 0, 0), (.aload_n 0, 1, 0, 0)]) (pc' := 23) (ls' := #[.val (.ref a), .val (.long q), .second, .val (.int (3 : Int32)), .val (.int (4 : Int32)), .val (.int (3 : Int32))]) (st' := [(.ref a)]) (by decide +kernel) rfl ?_
    refine Xg1.getf 26 (hw _ (List.mem_of_getElem? (i := 11) rfl)) FL (by decide +kernel) ?_
    intro Tg4 Xg4
    refine Xg4.blk hK (L := [(.iload 5, 2, 0, 0)]) (pc' := 28) (ls' := #[.val (.ref a), .val (.long q), .second, .val (.int (3 : Int32)), .val (.int (4 : Int32)), .val (.int (3 : Int32))]) (st' := [(.int (3 : Int32)), (.ref al)]) (by decide +kernel) rfl ?_
    refine Xg4.laload 29 AL (by decide +kernel) (by decide) (rfl) ?_
    refine Xg4.blk hK (L := [(.lload_n 1, 1, 0, 0)]) (pc' := 30) (ls' := #[.val (.ref a), .val (.long q), .second, .val (.int (3 : Int32)), .val (.int (4 : Int32)), .val (.int (3 : Int32))]) (st' := [(.long q), (.long x3)]) (by decide +kernel) rfl ?_
    refine Xg4.lcmp .gt (11) 42 34 (by decide +kernel) (fun (f4 : q < x3) => ?_) (fun (f4 : ¬ q < x3) => ?_)
    · have o4042 := own_lt f4
      refine Xg4.blk hK (L := [(.iload 5, 2, 0, 0), (.istore 4, 2, 0, 0), (.goto (-38), 3, 0, 8)]) (pc' := 8) (ls' := #[.val (.ref a), .val (.long q), .second, .val (.int (3 : Int32)), .val (.int (3 : Int32)), .val (.int (3 : Int32))]) (st' := []) (by decide +kernel) rfl ?_
      refine Xg4.blk hK (L := [(.iload_n 3, 1, 0, 0), (.iload 4, 2, 0, 0)]) (pc' := 11) (ls' := #[.val (.ref a), .val (.long q), .second, .val (.int (3 : Int32)), .val (.int (3 : Int32)), .val (.int (3 : Int32))]) (st' := [(.int (3 : Int32)), (.int (3 : Int32))]) (by decide +kernel) rfl ?_
      refine Xg4.icmp .ge (38) 49 14 (by decide +kernel) (fun (c11 : ¬ (3 : Int32) < (3 : Int32)) => ?_) (fun (c11 : (3 : Int32) < (3 : Int32)) => absurd c11 (by decide : ¬ (3 : Int32) < (3 : Int32)))
      refine Xg4.blk hK (L := [(.iload_n 3, 1, 0, 0)]) (pc' := 50) (ls' := #[.val (.ref a), .val (.long q), .second, .val (.int (3 : Int32)), .val (.int (3 : Int32)), .val (.int (3 : Int32))]) (st' := [(.int (3 : Int32))]) (by decide +kernel) rfl ?_
      have s0 : leI x0 q = 1 := own_le1 (by omega)
      have s1 : leI x1 q = 1 := own_le1 (by omega)
      have s2 : leI x2 q = 1 := own_le1 (by omega)
      have s3 : leI x3 q = 0 := own_le0 (by omega)
      exact Xg4.retI (by decide +kernel) (by decide) (by decide) (by refine ⟨?_, rfl⟩; simp only [cnt, List.foldl, s0, s1, s2, s3] <;> decide)
    · have o4034 := own_ge f4
      refine Xg4.blk hK (L := [(.iload 5, 2, 0, 0), (.iconst 1, 1, 1, 0), (.iadd, 1, 0, 0), (.istore_n 3, 1, 0, 0), (.goto 7, 3, 0, 46), (.goto (-38), 3, 0, 8)]) (pc' := 8) (ls' := #[.val (.ref a), .val (.long q), .second, .val (.int (4 : Int32)), .val (.int (4 : Int32)), .val (.int (3 : Int32))]) (st' := []) (by decide +kernel) rfl ?_
      refine Xg4.blk hK (L := [(.iload_n 3, 1, 0, 0), (.iload 4, 2, 0, 0)]) (pc' := 11) (ls' := #[.val (.ref a), .val (.long q), .second, .val (.int (4 : Int32)), .val (.int (4 : Int32)), .val (.int (3 : Int32))]) (st' := [(.int (4 : Int32)), (.int (4 : Int32))]) (by decide +kernel) rfl ?_
      refine Xg4.icmp .ge (38) 49 14 (by decide +kernel) (fun (c11 : ¬ (4 : Int32) < (4 : Int32)) => ?_) (fun (c11 : (4 : Int32) < (4 : Int32)) => absurd c11 (by decide : ¬ (4 : Int32) < (4 : Int32)))
      refine Xg4.blk hK (L := [(.iload_n 3, 1, 0, 0)]) (pc' := 50) (ls' := #[.val (.ref a), .val (.long q), .second, .val (.int (4 : Int32)), .val (.int (4 : Int32)), .val (.int (3 : Int32))]) (st' := [(.int (4 : Int32))]) (by decide +kernel) rfl ?_
      have s0 : leI x0 q = 1 := own_le1 (by omega)
      have s1 : leI x1 q = 1 := own_le1 (by omega)
      have s2 : leI x2 q = 1 := own_le1 (by omega)
      have s3 : leI x3 q = 1 := own_le1 (by omega)
      exact Xg4.retI (by decide +kernel) (by decide) (by decide) (by refine ⟨?_, rfl⟩; simp only [cnt, List.foldl, s0, s1, s2, s3] <;> decide)
set_option maxRecDepth 65536 in
set_option maxHeartbeats 40000000 in
theorem rm_add0 (l : Launch) (Z : State) (a0 : Array Value) (hw : ∀ d ∈ tables_1, d.before a0 Z = true) (a al ap ai : Addr) (pp x0 x1 x2 x3 bb : Int64) (h0 : Heap) (n0 : Nat) (Z0 : n0 ≤ h0.size) (I : RI Z h0 n0 a al ap ai 0 bb [.long x0, .long x1, .long x2, .long x3]) (S : srt []) :
    Cnt l Z (⟨"com/example/redolith/redolith/storage/RecordIndex", "add", "(JJI)V"⟩ : MethodName) prog_167_method_7_code 7 none ({ frames := 1, cells := 0, slots := 0, locals := 40 } : Room) n0 #[(.ref a), (.long pp), (.long (0 : Int64)), (.int (0 : Int32))] h0 (fun v h => v = none ∧ ∃ y0 y1 y2 y3 b2, RI Z h n0 a al ap ai 1 b2 [.long y0, .long y1, .long y2, .long y3] ∧ srt [y0] ∧ ∀ q, cnt [y0] q = cnt [] q + leI pp q) := by
  refine Cnt.mk (by first | exact plainFor_of_name (by first | (simp [plainName, overriddenIn]; done) | decide +kernel) | decide +kernel) Z0 ?_
  intro p e s m below meth c T X
  refine Go.cast (g' := mkF m 0 #[.val (.ref a), .val (.long pp), .second, .val (.long (0 : Int64)), .second, .val (.int (0 : Int32)), .unset] []) (by first | (simp [entryFrame, mkF, argsToLocals, Value.category, maxLocals]; done) | rfl) ?_
  have hK : (∀ q ∈ ([] : List (Nat × Int32)), (Jvm.Cond.constant "com/example/redolith/redolith/storage/RecordIndex" q.1 q.2).before a0 Z = true) ∧ (∀ q ∈ ([] : List (Nat × Int64)), (Jvm.Cond.constantLong "com/example/redolith/redolith/storage/RecordIndex" q.1 q.2).before a0 Z = true) :=
    ⟨(fun q hq => nomatch hq), (fun q hq => nomatch hq)⟩
  obtain ⟨⟨FL, FP, FN, FZ, FB, EX⟩, ⟨AL, AP, AN⟩, ⟨n1, n2, n3, n4⟩, ⟨d1, d2, d3⟩, ⟨f1, f2, f3⟩⟩ := I
  refine X.blk hK (L := [(.aload_n 0, 1, 0, 0)]) (pc' := 1) (ls' := #[.val (.ref a), .val (.long pp), .second, .val (.long (0 : Int64)), .second, .val (.int (0 : Int32)), .unset]) (st' := [(.ref a)]) (by decide +kernel) rfl ?_
  refine X.getf 4 (hw _ (List.mem_of_getElem? (i := 23) rfl)) FZ (by decide +kernel) ?_
  intro Tz Xz
  refine Xz.blk hK (L := [(.aload_n 0, 1, 0, 0)]) (pc' := 5) (ls' := #[.val (.ref a), .val (.long pp), .second, .val (.long (0 : Int64)), .second, .val (.int (0 : Int32)), .unset]) (st' := [(.ref a), (.int (0 : Int32))]) (by decide +kernel) rfl ?_
  refine Xz.getf 8 (hw _ (List.mem_of_getElem? (i := 11) rfl)) FL (by decide +kernel) ?_
  intro Tz2 Xz2
  refine Xz2.alen 9 (n := (4 : Int32)) AL (by decide +kernel) (rfl) ?_
  refine Xz2.icmp .ne (54) 63 12 (by decide +kernel) (fun (c9 : ¬ (0 : Int32) = (4 : Int32)) => ?_) (fun (c9 : (0 : Int32) = (4 : Int32)) => absurd c9 (by decide : ¬ (0 : Int32) = (4 : Int32)))
  refine Xz2.blk hK (L := [(.aload_n 0, 1, 0, 0)]) (pc' := 64) (ls' := #[.val (.ref a), .val (.long pp), .second, .val (.long (0 : Int64)), .second, .val (.int (0 : Int32)), .unset]) (st' := [(.ref a)]) (by decide +kernel) rfl ?_
  refine Xz2.getf 67 (hw _ (List.mem_of_getElem? (i := 23) rfl)) FZ (by decide +kernel) ?_
  intro Tz3 Xz3
  refine Xz3.blk hK (L := [(.istore 6, 2, 0, 0)]) (pc' := 69) (ls' := #[.val (.ref a), .val (.long pp), .second, .val (.long (0 : Int64)), .second, .val (.int (0 : Int32)), .val (.int (0 : Int32))]) (st' := []) (by decide +kernel) rfl ?_
  refine Xz3.blk hK (L := [(.iload 6, 2, 0, 0)]) (pc' := 71) (ls' := #[.val (.ref a), .val (.long pp), .second, .val (.long (0 : Int64)), .second, .val (.int (0 : Int32)), .val (.int (0 : Int32))]) (st' := [(.int (0 : Int32))]) (by decide +kernel) rfl ?_
  refine Xz3.ifc .le (23) 94 74 (by decide +kernel) (fun (c71 : ¬ (0 : Int32) < (0 : Int32)) => ?_) (fun (c71 : (0 : Int32) < (0 : Int32)) => absurd c71 (by decide : ¬ (0 : Int32) < (0 : Int32)))
  refine Xz3.blk hK (L := [(.aload_n 0, 1, 0, 0)]) (pc' := 95) (ls' := #[.val (.ref a), .val (.long pp), .second, .val (.long (0 : Int64)), .second, .val (.int (0 : Int32)), .val (.int (0 : Int32))]) (st' := [(.ref a)]) (by decide +kernel) rfl ?_
  refine Xz3.getf 98 (hw _ (List.mem_of_getElem? (i := 11) rfl)) FL (by decide +kernel) ?_
  intro TqAL1 XqAL1
  refine XqAL1.blk hK (L := [(.iload 6, 2, 0, 0), (.aload_n 0, 1, 0, 0)]) (pc' := 101) (ls' := #[.val (.ref a), .val (.long pp), .second, .val (.long (0 : Int64)), .second, .val (.int (0 : Int32)), .val (.int (0 : Int32))]) (st' := [(.ref a), (.int (0 : Int32)), (.ref al)]) (by decide +kernel) rfl ?_
  refine XqAL1.getf 104 (hw _ (List.mem_of_getElem? (i := 11) rfl)) FL (by decide +kernel) ?_
  intro TqAL2 XqAL2
  refine XqAL2.blk hK (L := [(.iload 6, 2, 0, 0), (.iconst 1, 1, 1, 0), (.iadd, 1, 0, 0), (.aload_n 0, 1, 0, 0)]) (pc' := 109) (ls' := #[.val (.ref a), .val (.long pp), .second, .val (.long (0 : Int64)), .second, .val (.int (0 : Int32)), .val (.int (0 : Int32))]) (st' := [(.ref a), (.int (1 : Int32)), (.ref al), (.int (0 : Int32)), (.ref al)]) (by decide +kernel) rfl ?_
  refine XqAL2.getf 112 (hw _ (List.mem_of_getElem? (i := 23) rfl)) FZ (by decide +kernel) ?_
  intro TqAL3 XqAL3
  refine XqAL3.blk hK (L := [(.iload 6, 2, 0, 0), (.isub, 1, 0, 0)]) (pc' := 115) (ls' := #[.val (.ref a), .val (.long pp), .second, .val (.long (0 : Int64)), .second, .val (.int (0 : Int32)), .val (.int (0 : Int32))]) (st' := [(.int (0 : Int32)), (.int (1 : Int32)), (.ref al), (.int (0 : Int32)), (.ref al)]) (by decide +kernel) rfl ?_
  refine XqAL3.acopy 118 0 (.long 0) AL AL rfl (hw _ (List.mem_of_getElem? (i := 30) rfl)) (hw _ (List.mem_of_getElem? (i := 33) rfl)) (hw _ (List.mem_of_getElem? (i := 31) rfl)) (hw _ (List.mem_of_getElem? (i := 32) rfl)) (by decide) (by decide) (by decide) (Nat.le_of_ble_eq_true rfl) (Nat.le_of_ble_eq_true rfl) (n2) rfl rfl (by decide +kernel) (by decide) ?_
  intro TcAL hcAL XcAL KcAL BAL
  replace BAL : AV Z hcAL al .long [.long x0, .long x1, .long x2, .long x3] := BAL
  have u0_1 := FL.keep KcAL (ninS d1 nin0)
  have u0_2 := FP.keep KcAL (ninS d1 nin0)
  have u0_3 := FN.keep KcAL (ninS d1 nin0)
  have u0_4 := FZ.keep KcAL (ninS d1 nin0)
  have u0_5 := FB.keep KcAL (ninS d1 nin0)
  have u0_6 := EX.keep KcAL
  have u0_7 := AP.keep KcAL (ninS f1.symm nin0)
  have u0_8 := AN.keep KcAL (ninS f2.symm nin0)
  refine XcAL.blk hK (L := [(.aload_n 0, 1, 0, 0)]) (pc' := 119) (ls' := #[.val (.ref a), .val (.long pp), .second, .val (.long (0 : Int64)), .second, .val (.int (0 : Int32)), .val (.int (0 : Int32))]) (st' := [(.ref a)]) (by decide +kernel) rfl ?_
  refine XcAL.getf 122 (hw _ (List.mem_of_getElem? (i := 13) rfl)) u0_2 (by decide +kernel) ?_
  intro TqAP1 XqAP1
  refine XqAP1.blk hK (L := [(.iload 6, 2, 0, 0), (.aload_n 0, 1, 0, 0)]) (pc' := 125) (ls' := #[.val (.ref a), .val (.long pp), .second, .val (.long (0 : Int64)), .second, .val (.int (0 : Int32)), .val (.int (0 : Int32))]) (st' := [(.ref a), (.int (0 : Int32)), (.ref ap)]) (by decide +kernel) rfl ?_
  refine XqAP1.getf 128 (hw _ (List.mem_of_getElem? (i := 13) rfl)) u0_2 (by decide +kernel) ?_
  intro TqAP2 XqAP2
  refine XqAP2.blk hK (L := [(.iload 6, 2, 0, 0), (.iconst 1, 1, 1, 0), (.iadd, 1, 0, 0), (.aload_n 0, 1, 0, 0)]) (pc' := 133) (ls' := #[.val (.ref a), .val (.long pp), .second, .val (.long (0 : Int64)), .second, .val (.int (0 : Int32)), .val (.int (0 : Int32))]) (st' := [(.ref a), (.int (1 : Int32)), (.ref ap), (.int (0 : Int32)), (.ref ap)]) (by decide +kernel) rfl ?_
  refine XqAP2.getf 136 (hw _ (List.mem_of_getElem? (i := 23) rfl)) u0_4 (by decide +kernel) ?_
  intro TqAP3 XqAP3
  refine XqAP3.blk hK (L := [(.iload 6, 2, 0, 0), (.isub, 1, 0, 0)]) (pc' := 139) (ls' := #[.val (.ref a), .val (.long pp), .second, .val (.long (0 : Int64)), .second, .val (.int (0 : Int32)), .val (.int (0 : Int32))]) (st' := [(.int (0 : Int32)), (.int (1 : Int32)), (.ref ap), (.int (0 : Int32)), (.ref ap)]) (by decide +kernel) rfl ?_
  refine XqAP3.acopy 142 0 (.long 0) u0_7 u0_7 rfl (hw _ (List.mem_of_getElem? (i := 30) rfl)) (hw _ (List.mem_of_getElem? (i := 33) rfl)) (hw _ (List.mem_of_getElem? (i := 31) rfl)) (hw _ (List.mem_of_getElem? (i := 32) rfl)) (by decide) (by decide) (by decide) (Nat.le_of_ble_eq_true rfl) (Nat.le_of_ble_eq_true rfl) (n3) rfl rfl (by decide +kernel) (by decide) ?_
  intro TcAP hcAP XcAP KcAP BAP
  replace BAP : AV Z hcAP ap .long [.long 0, .long 0, .long 0, .long 0] := BAP
  have u0_9 := u0_1.keep KcAP (ninS d2 nin0)
  have u0_10 := u0_2.keep KcAP (ninS d2 nin0)
  have u0_11 := u0_3.keep KcAP (ninS d2 nin0)
  have u0_12 := u0_4.keep KcAP (ninS d2 nin0)
  have u0_13 := u0_5.keep KcAP (ninS d2 nin0)
  have u0_14 := u0_6.keep KcAP
  have u0_15 := BAL.keep KcAP (ninS f1 nin0)
  have u0_16 := u0_8.keep KcAP (ninS f3.symm nin0)
  refine XcAP.blk hK (L := [(.aload_n 0, 1, 0, 0)]) (pc' := 143) (ls' := #[.val (.ref a), .val (.long pp), .second, .val (.long (0 : Int64)), .second, .val (.int (0 : Int32)), .val (.int (0 : Int32))]) (st' := [(.ref a)]) (by decide +kernel) rfl ?_
  refine XcAP.getf 146 (hw _ (List.mem_of_getElem? (i := 16) rfl)) u0_11 (by decide +kernel) ?_
  intro TqAN1 XqAN1
  refine XqAN1.blk hK (L := [(.iload 6, 2, 0, 0), (.aload_n 0, 1, 0, 0)]) (pc' := 149) (ls' := #[.val (.ref a), .val (.long pp), .second, .val (.long (0 : Int64)), .second, .val (.int (0 : Int32)), .val (.int (0 : Int32))]) (st' := [(.ref a), (.int (0 : Int32)), (.ref ai)]) (by decide +kernel) rfl ?_
  refine XqAN1.getf 152 (hw _ (List.mem_of_getElem? (i := 16) rfl)) u0_11 (by decide +kernel) ?_
  intro TqAN2 XqAN2
  refine XqAN2.blk hK (L := [(.iload 6, 2, 0, 0), (.iconst 1, 1, 1, 0), (.iadd, 1, 0, 0), (.aload_n 0, 1, 0, 0)]) (pc' := 157) (ls' := #[.val (.ref a), .val (.long pp), .second, .val (.long (0 : Int64)), .second, .val (.int (0 : Int32)), .val (.int (0 : Int32))]) (st' := [(.ref a), (.int (1 : Int32)), (.ref ai), (.int (0 : Int32)), (.ref ai)]) (by decide +kernel) rfl ?_
  refine XqAN2.getf 160 (hw _ (List.mem_of_getElem? (i := 23) rfl)) u0_12 (by decide +kernel) ?_
  intro TqAN3 XqAN3
  refine XqAN3.blk hK (L := [(.iload 6, 2, 0, 0), (.isub, 1, 0, 0)]) (pc' := 163) (ls' := #[.val (.ref a), .val (.long pp), .second, .val (.long (0 : Int64)), .second, .val (.int (0 : Int32)), .val (.int (0 : Int32))]) (st' := [(.int (0 : Int32)), (.int (1 : Int32)), (.ref ai), (.int (0 : Int32)), (.ref ai)]) (by decide +kernel) rfl ?_
  refine XqAN3.acopy 166 0 (.int 0) u0_16 u0_16 rfl (hw _ (List.mem_of_getElem? (i := 30) rfl)) (hw _ (List.mem_of_getElem? (i := 33) rfl)) (hw _ (List.mem_of_getElem? (i := 31) rfl)) (hw _ (List.mem_of_getElem? (i := 32) rfl)) (by decide) (by decide) (by decide) (Nat.le_of_ble_eq_true rfl) (Nat.le_of_ble_eq_true rfl) (n4) rfl rfl (by decide +kernel) (by decide) ?_
  intro TcAN hcAN XcAN KcAN BAN
  replace BAN : AV Z hcAN ai .int [.int 0, .int 0, .int 0, .int 0] := BAN
  have u0_17 := u0_9.keep KcAN (ninS d3 nin0)
  have u0_18 := u0_10.keep KcAN (ninS d3 nin0)
  have u0_19 := u0_11.keep KcAN (ninS d3 nin0)
  have u0_20 := u0_12.keep KcAN (ninS d3 nin0)
  have u0_21 := u0_13.keep KcAN (ninS d3 nin0)
  have u0_22 := u0_14.keep KcAN
  have u0_23 := u0_15.keep KcAN (ninS f2 nin0)
  have u0_24 := BAP.keep KcAN (ninS f3 nin0)
  refine XcAN.blk hK (L := [(.aload_n 0, 1, 0, 0)]) (pc' := 167) (ls' := #[.val (.ref a), .val (.long pp), .second, .val (.long (0 : Int64)), .second, .val (.int (0 : Int32)), .val (.int (0 : Int32))]) (st' := [(.ref a)]) (by decide +kernel) rfl ?_
  refine XcAN.getf 170 (hw _ (List.mem_of_getElem? (i := 11) rfl)) u0_17 (by decide +kernel) ?_
  intro TrAL XrAL
  refine XrAL.blk hK (L := [(.iload 6, 2, 0, 0), (.lload_n 1, 1, 0, 0)]) (pc' := 173) (ls' := #[.val (.ref a), .val (.long pp), .second, .val (.long (0 : Int64)), .second, .val (.int (0 : Int32)), .val (.int (0 : Int32))]) (st' := [(.long pp), (.int (0 : Int32)), (.ref al)]) (by decide +kernel) rfl ?_
  refine XrAL.lastore 174 u0_23 (by decide +kernel) (by decide) (Nat.le_of_ble_eq_true rfl) (n2) ?_
  intro TsAL hsAL XsAL WsAL DAL
  replace DAL : AV Z hsAL al .long [.long pp, .long x1, .long x2, .long x3] := DAL
  have u0_25 := u0_17.other WsAL (Or.inl d1)
  have u0_26 := u0_18.other WsAL (Or.inl d1)
  have u0_27 := u0_19.other WsAL (Or.inl d1)
  have u0_28 := u0_20.other WsAL (Or.inl d1)
  have u0_29 := u0_21.other WsAL (Or.inl d1)
  have u0_30 := u0_22.wr WsAL
  have u0_31 := u0_24.other WsAL f1.symm
  have u0_32 := BAN.other WsAL f2.symm
  refine XsAL.blk hK (L := [(.aload_n 0, 1, 0, 0)]) (pc' := 175) (ls' := #[.val (.ref a), .val (.long pp), .second, .val (.long (0 : Int64)), .second, .val (.int (0 : Int32)), .val (.int (0 : Int32))]) (st' := [(.ref a)]) (by decide +kernel) rfl ?_
  refine XsAL.getf 178 (hw _ (List.mem_of_getElem? (i := 13) rfl)) u0_26 (by decide +kernel) ?_
  intro TrAP XrAP
  refine XrAP.blk hK (L := [(.iload 6, 2, 0, 0), (.lload_n 3, 1, 0, 0)]) (pc' := 181) (ls' := #[.val (.ref a), .val (.long pp), .second, .val (.long (0 : Int64)), .second, .val (.int (0 : Int32)), .val (.int (0 : Int32))]) (st' := [(.long (0 : Int64)), (.int (0 : Int32)), (.ref ap)]) (by decide +kernel) rfl ?_
  refine XrAP.lastore 182 u0_31 (by decide +kernel) (by decide) (Nat.le_of_ble_eq_true rfl) (n3) ?_
  intro TsAP hsAP XsAP WsAP DAP
  replace DAP : AV Z hsAP ap .long [.long 0, .long 0, .long 0, .long 0] := DAP
  have u0_33 := u0_25.other WsAP (Or.inl d2)
  have u0_34 := u0_26.other WsAP (Or.inl d2)
  have u0_35 := u0_27.other WsAP (Or.inl d2)
  have u0_36 := u0_28.other WsAP (Or.inl d2)
  have u0_37 := u0_29.other WsAP (Or.inl d2)
  have u0_38 := u0_30.wr WsAP
  have u0_39 := DAL.other WsAP f1
  have u0_40 := u0_32.other WsAP f3.symm
  refine XsAP.blk hK (L := [(.aload_n 0, 1, 0, 0)]) (pc' := 183) (ls' := #[.val (.ref a), .val (.long pp), .second, .val (.long (0 : Int64)), .second, .val (.int (0 : Int32)), .val (.int (0 : Int32))]) (st' := [(.ref a)]) (by decide +kernel) rfl ?_
  refine XsAP.getf 186 (hw _ (List.mem_of_getElem? (i := 16) rfl)) u0_35 (by decide +kernel) ?_
  intro TrAN XrAN
  refine XrAN.blk hK (L := [(.iload 6, 2, 0, 0), (.iload 5, 2, 0, 0)]) (pc' := 190) (ls' := #[.val (.ref a), .val (.long pp), .second, .val (.long (0 : Int64)), .second, .val (.int (0 : Int32)), .val (.int (0 : Int32))]) (st' := [(.int (0 : Int32)), (.int (0 : Int32)), (.ref ai)]) (by decide +kernel) rfl ?_
  refine XrAN.iastore 191 u0_40 (by decide +kernel) (by decide) (Nat.le_of_ble_eq_true rfl) (n4) ?_
  intro TsAN hsAN XsAN WsAN DAN
  replace DAN : AV Z hsAN ai .int [.int 0, .int 0, .int 0, .int 0] := DAN
  have u0_41 := u0_33.other WsAN (Or.inl d3)
  have u0_42 := u0_34.other WsAN (Or.inl d3)
  have u0_43 := u0_35.other WsAN (Or.inl d3)
  have u0_44 := u0_36.other WsAN (Or.inl d3)
  have u0_45 := u0_37.other WsAN (Or.inl d3)
  have u0_46 := u0_38.wr WsAN
  have u0_47 := u0_39.other WsAN f2
  have u0_48 := DAP.other WsAN f3
  refine XsAN.blk hK (L := [(.aload_n 0, 1, 0, 0), (.dup, 1, 0, 0)]) (pc' := 193) (ls' := #[.val (.ref a), .val (.long pp), .second, .val (.long (0 : Int64)), .second, .val (.int (0 : Int32)), .val (.int (0 : Int32))]) (st' := [(.ref a), (.ref a)]) (by decide +kernel) rfl ?_
  refine XsAN.getf 196 (hw _ (List.mem_of_getElem? (i := 23) rfl)) u0_44 (by decide +kernel) ?_
  intro TtFZ XtFZ
  refine XtFZ.blk hK (L := [(.iconst 1, 1, 1, 0), (.iadd, 1, 0, 0)]) (pc' := 198) (ls' := #[.val (.ref a), .val (.long pp), .second, .val (.long (0 : Int64)), .second, .val (.int (0 : Int32)), .val (.int (0 : Int32))]) (st' := [(.int (1 : Int32)), (.ref a)]) (by decide +kernel) rfl ?_
  refine XtFZ.putf 201 (hw _ (List.mem_of_getElem? (i := 23) rfl)) u0_44 u0_46 (Or.inl (hw _ (List.mem_of_getElem? (i := 24) rfl))) (hw _ (List.mem_of_getElem? (i := 2) rfl)) (ty := .int) (by decide) rfl (rfl) (n1) (by decide +kernel) ?_
  intro TvFZ hvFZ XvFZ WvFZ
  have u0_49 := u0_41.other WvFZ (Or.inr (slot_ne (t := .array .long) (t' := .int) (Or.inl (hw _ (List.mem_of_getElem? (i := 12) rfl))) (Or.inl (hw _ (List.mem_of_getElem? (i := 24) rfl))) (by decide) (by decide) (by decide)))
  have u0_50 := u0_42.other WvFZ (Or.inr (slot_ne (t := .array .long) (t' := .int) (Or.inl (hw _ (List.mem_of_getElem? (i := 14) rfl))) (Or.inl (hw _ (List.mem_of_getElem? (i := 24) rfl))) (by decide) (by decide) (by decide)))
  have u0_51 := u0_43.other WvFZ (Or.inr (slot_ne (t := .array .int) (t' := .int) (Or.inl (hw _ (List.mem_of_getElem? (i := 17) rfl))) (Or.inl (hw _ (List.mem_of_getElem? (i := 24) rfl))) (by decide) (by decide) (by decide)))
  have u0_52 := u0_45.other WvFZ (Or.inr (slot_ne (t := .long) (t' := .int) (Or.inl (hw _ (List.mem_of_getElem? (i := 35) rfl))) (Or.inl (hw _ (List.mem_of_getElem? (i := 24) rfl))) (by decide) (by decide) (by decide)))
  have u0_53 := u0_46.wr WvFZ
  have u0_54 := u0_47.other WvFZ d1.symm
  have u0_55 := u0_48.other WvFZ d2.symm
  have u0_56 := DAN.other WvFZ d3.symm
  have NFZ := u0_44.same WvFZ
  refine XvFZ.blk hK (L := [(.aload_n 0, 1, 0, 0), (.dup, 1, 0, 0)]) (pc' := 203) (ls' := #[.val (.ref a), .val (.long pp), .second, .val (.long (0 : Int64)), .second, .val (.int (0 : Int32)), .val (.int (0 : Int32))]) (st' := [(.ref a), (.ref a)]) (by decide +kernel) rfl ?_
  refine XvFZ.getf 206 (hw _ (List.mem_of_getElem? (i := 34) rfl)) u0_52 (by decide +kernel) ?_
  intro TtFB XtFB
  refine XtFB.blk hK (L := [(.iload 5, 2, 0, 0), (.i2l, 1, 0, 0), (.ladd, 1, 0, 0)]) (pc' := 210) (ls' := #[.val (.ref a), .val (.long pp), .second, .val (.long (0 : Int64)), .second, .val (.int (0 : Int32)), .val (.int (0 : Int32))]) (st' := [(.long (bb + ((0 : Int32).toInt64))), (.ref a)]) (by decide +kernel) rfl ?_
  refine XtFB.putf 213 (hw _ (List.mem_of_getElem? (i := 34) rfl)) u0_52 u0_53 (Or.inl (hw _ (List.mem_of_getElem? (i := 35) rfl))) (hw _ (List.mem_of_getElem? (i := 2) rfl)) (ty := .long) (by decide) rfl (rfl) (n1) (by decide +kernel) ?_
  intro TvFB hvFB XvFB WvFB
  have u0_57 := u0_49.other WvFB (Or.inr (slot_ne (t := .array .long) (t' := .long) (Or.inl (hw _ (List.mem_of_getElem? (i := 12) rfl))) (Or.inl (hw _ (List.mem_of_getElem? (i := 35) rfl))) (by decide) (by decide) (by decide)))
  have u0_58 := u0_50.other WvFB (Or.inr (slot_ne (t := .array .long) (t' := .long) (Or.inl (hw _ (List.mem_of_getElem? (i := 14) rfl))) (Or.inl (hw _ (List.mem_of_getElem? (i := 35) rfl))) (by decide) (by decide) (by decide)))
  have u0_59 := u0_51.other WvFB (Or.inr (slot_ne (t := .array .int) (t' := .long) (Or.inl (hw _ (List.mem_of_getElem? (i := 17) rfl))) (Or.inl (hw _ (List.mem_of_getElem? (i := 35) rfl))) (by decide) (by decide) (by decide)))
  have u0_60 := NFZ.other WvFB (Or.inr (slot_ne (t := .int) (t' := .long) (Or.inl (hw _ (List.mem_of_getElem? (i := 24) rfl))) (Or.inl (hw _ (List.mem_of_getElem? (i := 35) rfl))) (by decide) (by decide) (by decide)))
  have u0_61 := u0_53.wr WvFB
  have u0_62 := u0_54.other WvFB d1.symm
  have u0_63 := u0_55.other WvFB d2.symm
  have u0_64 := u0_56.other WvFB d3.symm
  have NFB := u0_52.same WvFB
  exact XvFB.retV (by decide +kernel) (by decide) (by decide) (⟨rfl, pp, x1, x2, x3, _, ⟨⟨u0_57, u0_58, u0_59, u0_60, NFB, u0_61⟩, ⟨u0_62, u0_63, u0_64⟩, ⟨n1, n2, n3, n4⟩, ⟨d1, d2, d3⟩, ⟨f1, f2, f3⟩⟩, by simp only [srt, and_true] <;> trivial, fun q => by first | (simp only [cnt, List.foldl]; done) | (simp only [cnt, List.foldl]; ac_rfl)⟩)
set_option maxRecDepth 65536 in
set_option maxHeartbeats 40000000 in
theorem rm_add1 (l : Launch) (Z : State) (a0 : Array Value) (hw : ∀ d ∈ tables_1, d.before a0 Z = true) (a al ap ai : Addr) (pp x0 x1 x2 x3 bb : Int64) (h0 : Heap) (n0 : Nat) (Z0 : n0 ≤ h0.size) (I : RI Z h0 n0 a al ap ai 1 bb [.long x0, .long x1, .long x2, .long x3]) (S : srt [x0]) :
    Cnt l Z (⟨"com/example/redolith/redolith/storage/RecordIndex", "add", "(JJI)V"⟩ : MethodName) prog_167_method_7_code 7 none ({ frames := 1, cells := 0, slots := 0, locals := 40 } : Room) n0 #[(.ref a), (.long pp), (.long (0 : Int64)), (.int (0 : Int32))] h0 (fun v h => v = none ∧ ∃ y0 y1 y2 y3 b2, RI Z h n0 a al ap ai 2 b2 [.long y0, .long y1, .long y2, .long y3] ∧ srt [y0, y1] ∧ ∀ q, cnt [y0, y1] q = cnt [x0] q + leI pp q) := by
  refine Cnt.mk (by first | exact plainFor_of_name (by first | (simp [plainName, overriddenIn]; done) | decide +kernel) | decide +kernel) Z0 ?_
  intro p e s m below meth c T X
  refine Go.cast (g' := mkF m 0 #[.val (.ref a), .val (.long pp), .second, .val (.long (0 : Int64)), .second, .val (.int (0 : Int32)), .unset] []) (by first | (simp [entryFrame, mkF, argsToLocals, Value.category, maxLocals]; done) | rfl) ?_
  have hK : (∀ q ∈ ([] : List (Nat × Int32)), (Jvm.Cond.constant "com/example/redolith/redolith/storage/RecordIndex" q.1 q.2).before a0 Z = true) ∧ (∀ q ∈ ([] : List (Nat × Int64)), (Jvm.Cond.constantLong "com/example/redolith/redolith/storage/RecordIndex" q.1 q.2).before a0 Z = true) :=
    ⟨(fun q hq => nomatch hq), (fun q hq => nomatch hq)⟩
  obtain ⟨⟨FL, FP, FN, FZ, FB, EX⟩, ⟨AL, AP, AN⟩, ⟨n1, n2, n3, n4⟩, ⟨d1, d2, d3⟩, ⟨f1, f2, f3⟩⟩ := I
  refine X.blk hK (L := [(.aload_n 0, 1, 0, 0)]) (pc' := 1) (ls' := #[.val (.ref a), .val (.long pp), .second, .val (.long (0 : Int64)), .second, .val (.int (0 : Int32)), .unset]) (st' := [(.ref a)]) (by decide +kernel) rfl ?_
  refine X.getf 4 (hw _ (List.mem_of_getElem? (i := 23) rfl)) FZ (by decide +kernel) ?_
  intro Tz Xz
  refine Xz.blk hK (L := [(.aload_n 0, 1, 0, 0)]) (pc' := 5) (ls' := #[.val (.ref a), .val (.long pp), .second, .val (.long (0 : Int64)), .second, .val (.int (0 : Int32)), .unset]) (st' := [(.ref a), (.int (1 : Int32))]) (by decide +kernel) rfl ?_
  refine Xz.getf 8 (hw _ (List.mem_of_getElem? (i := 11) rfl)) FL (by decide +kernel) ?_
  intro Tz2 Xz2
  refine Xz2.alen 9 (n := (4 : Int32)) AL (by decide +kernel) (rfl) ?_
  refine Xz2.icmp .ne (54) 63 12 (by decide +kernel) (fun (c9 : ¬ (1 : Int32) = (4 : Int32)) => ?_) (fun (c9 : (1 : Int32) = (4 : Int32)) => absurd c9 (by decide : ¬ (1 : Int32) = (4 : Int32)))
  refine Xz2.blk hK (L := [(.aload_n 0, 1, 0, 0)]) (pc' := 64) (ls' := #[.val (.ref a), .val (.long pp), .second, .val (.long (0 : Int64)), .second, .val (.int (0 : Int32)), .unset]) (st' := [(.ref a)]) (by decide +kernel) rfl ?_
  refine Xz2.getf 67 (hw _ (List.mem_of_getElem? (i := 23) rfl)) FZ (by decide +kernel) ?_
  intro Tz3 Xz3
  refine Xz3.blk hK (L := [(.istore 6, 2, 0, 0)]) (pc' := 69) (ls' := #[.val (.ref a), .val (.long pp), .second, .val (.long (0 : Int64)), .second, .val (.int (0 : Int32)), .val (.int (1 : Int32))]) (st' := []) (by decide +kernel) rfl ?_
  refine Xz3.blk hK (L := [(.iload 6, 2, 0, 0)]) (pc' := 71) (ls' := #[.val (.ref a), .val (.long pp), .second, .val (.long (0 : Int64)), .second, .val (.int (0 : Int32)), .val (.int (1 : Int32))]) (st' := [(.int (1 : Int32))]) (by decide +kernel) rfl ?_
  refine Xz3.ifc .le (23) 94 74 (by decide +kernel) (fun (c71 : ¬ (0 : Int32) < (1 : Int32)) => absurd (by decide : (0 : Int32) < (1 : Int32)) c71) (fun (c71 : (0 : Int32) < (1 : Int32)) => ?_)
  refine Xz3.blk hK (L := [(.aload_n 0, 1, 0, 0)]) (pc' := 75) (ls' := #[.val (.ref a), .val (.long pp), .second, .val (.long (0 : Int64)), .second, .val (.int (0 : Int32)), .val (.int (1 : Int32))]) (st' := [(.ref a)]) (by decide +kernel) rfl ?_
  refine Xz3.getf 78 (hw _ (List.mem_of_getElem? (i := 11) rfl)) FL (by decide +kernel) ?_
  intro Tl1 Xl1
  refine Xl1.blk hK (L := [(.iload 6, 2, 0, 0), (.iconst 1, 1, 1, 0), (.isub, 1, 0, 0)]) (pc' := 82) (ls' := #[.val (.ref a), .val (.long pp), .second, .val (.long (0 : Int64)), .second, .val (.int (0 : Int32)), .val (.int (1 : Int32))]) (st' := [(.int (0 : Int32)), (.ref al)]) (by decide +kernel) rfl ?_
  refine Xl1.laload 83 AL (by decide +kernel) (by decide) (rfl) ?_
  refine Xl1.blk hK (L := [(.lload_n 1, 1, 0, 0)]) (pc' := 84) (ls' := #[.val (.ref a), .val (.long pp), .second, .val (.long (0 : Int64)), .second, .val (.int (0 : Int32)), .val (.int (1 : Int32))]) (st' := [(.long pp), (.long x0)]) (by decide +kernel) rfl ?_
  refine Xl1.lcmp .le (9) 94 88 (by decide +kernel) (fun (g1 : ¬ pp < x0) => ?_) (fun (g1 : pp < x0) => ?_)
  · have o1 := own_ge g1
    refine Xl1.blk hK (L := [(.aload_n 0, 1, 0, 0)]) (pc' := 95) (ls' := #[.val (.ref a), .val (.long pp), .second, .val (.long (0 : Int64)), .second, .val (.int (0 : Int32)), .val (.int (1 : Int32))]) (st' := [(.ref a)]) (by decide +kernel) rfl ?_
    refine Xl1.getf 98 (hw _ (List.mem_of_getElem? (i := 11) rfl)) FL (by decide +kernel) ?_
    intro TqAL1 XqAL1
    refine XqAL1.blk hK (L := [(.iload 6, 2, 0, 0), (.aload_n 0, 1, 0, 0)]) (pc' := 101) (ls' := #[.val (.ref a), .val (.long pp), .second, .val (.long (0 : Int64)), .second, .val (.int (0 : Int32)), .val (.int (1 : Int32))]) (st' := [(.ref a), (.int (1 : Int32)), (.ref al)]) (by decide +kernel) rfl ?_
    refine XqAL1.getf 104 (hw _ (List.mem_of_getElem? (i := 11) rfl)) FL (by decide +kernel) ?_
    intro TqAL2 XqAL2
    refine XqAL2.blk hK (L := [(.iload 6, 2, 0, 0), (.iconst 1, 1, 1, 0), (.iadd, 1, 0, 0), (.aload_n 0, 1, 0, 0)]) (pc' := 109) (ls' := #[.val (.ref a), .val (.long pp), .second, .val (.long (0 : Int64)), .second, .val (.int (0 : Int32)), .val (.int (1 : Int32))]) (st' := [(.ref a), (.int (2 : Int32)), (.ref al), (.int (1 : Int32)), (.ref al)]) (by decide +kernel) rfl ?_
    refine XqAL2.getf 112 (hw _ (List.mem_of_getElem? (i := 23) rfl)) FZ (by decide +kernel) ?_
    intro TqAL3 XqAL3
    refine XqAL3.blk hK (L := [(.iload 6, 2, 0, 0), (.isub, 1, 0, 0)]) (pc' := 115) (ls' := #[.val (.ref a), .val (.long pp), .second, .val (.long (0 : Int64)), .second, .val (.int (0 : Int32)), .val (.int (1 : Int32))]) (st' := [(.int (0 : Int32)), (.int (2 : Int32)), (.ref al), (.int (1 : Int32)), (.ref al)]) (by decide +kernel) rfl ?_
    refine XqAL3.acopy 118 0 (.long 0) AL AL rfl (hw _ (List.mem_of_getElem? (i := 30) rfl)) (hw _ (List.mem_of_getElem? (i := 33) rfl)) (hw _ (List.mem_of_getElem? (i := 31) rfl)) (hw _ (List.mem_of_getElem? (i := 32) rfl)) (by decide) (by decide) (by decide) (Nat.le_of_ble_eq_true rfl) (Nat.le_of_ble_eq_true rfl) (n2) rfl rfl (by decide +kernel) (by decide) ?_
    intro TcAL hcAL XcAL KcAL BAL
    replace BAL : AV Z hcAL al .long [.long x0, .long x1, .long x2, .long x3] := BAL
    have u1_1 := FL.keep KcAL (ninS d1 nin0)
    have u1_2 := FP.keep KcAL (ninS d1 nin0)
    have u1_3 := FN.keep KcAL (ninS d1 nin0)
    have u1_4 := FZ.keep KcAL (ninS d1 nin0)
    have u1_5 := FB.keep KcAL (ninS d1 nin0)
    have u1_6 := EX.keep KcAL
    have u1_7 := AP.keep KcAL (ninS f1.symm nin0)
    have u1_8 := AN.keep KcAL (ninS f2.symm nin0)
    refine XcAL.blk hK (L := [(.aload_n 0, 1, 0, 0)]) (pc' := 119) (ls' := #[.val (.ref a), .val (.long pp), .second, .val (.long (0 : Int64)), .second, .val (.int (0 : Int32)), .val (.int (1 : Int32))]) (st' := [(.ref a)]) (by decide +kernel) rfl ?_
    refine XcAL.getf 122 (hw _ (List.mem_of_getElem? (i := 13) rfl)) u1_2 (by decide +kernel) ?_
    intro TqAP1 XqAP1
    refine XqAP1.blk hK (L := [(.iload 6, 2, 0, 0), (.aload_n 0, 1, 0, 0)]) (pc' := 125) (ls' := #[.val (.ref a), .val (.long pp), .second, .val (.long (0 : Int64)), .second, .val (.int (0 : Int32)), .val (.int (1 : Int32))]) (st' := [(.ref a), (.int (1 : Int32)), (.ref ap)]) (by decide +kernel) rfl ?_
    refine XqAP1.getf 128 (hw _ (List.mem_of_getElem? (i := 13) rfl)) u1_2 (by decide +kernel) ?_
    intro TqAP2 XqAP2
    refine XqAP2.blk hK (L := [(.iload 6, 2, 0, 0), (.iconst 1, 1, 1, 0), (.iadd, 1, 0, 0), (.aload_n 0, 1, 0, 0)]) (pc' := 133) (ls' := #[.val (.ref a), .val (.long pp), .second, .val (.long (0 : Int64)), .second, .val (.int (0 : Int32)), .val (.int (1 : Int32))]) (st' := [(.ref a), (.int (2 : Int32)), (.ref ap), (.int (1 : Int32)), (.ref ap)]) (by decide +kernel) rfl ?_
    refine XqAP2.getf 136 (hw _ (List.mem_of_getElem? (i := 23) rfl)) u1_4 (by decide +kernel) ?_
    intro TqAP3 XqAP3
    refine XqAP3.blk hK (L := [(.iload 6, 2, 0, 0), (.isub, 1, 0, 0)]) (pc' := 139) (ls' := #[.val (.ref a), .val (.long pp), .second, .val (.long (0 : Int64)), .second, .val (.int (0 : Int32)), .val (.int (1 : Int32))]) (st' := [(.int (0 : Int32)), (.int (2 : Int32)), (.ref ap), (.int (1 : Int32)), (.ref ap)]) (by decide +kernel) rfl ?_
    refine XqAP3.acopy 142 0 (.long 0) u1_7 u1_7 rfl (hw _ (List.mem_of_getElem? (i := 30) rfl)) (hw _ (List.mem_of_getElem? (i := 33) rfl)) (hw _ (List.mem_of_getElem? (i := 31) rfl)) (hw _ (List.mem_of_getElem? (i := 32) rfl)) (by decide) (by decide) (by decide) (Nat.le_of_ble_eq_true rfl) (Nat.le_of_ble_eq_true rfl) (n3) rfl rfl (by decide +kernel) (by decide) ?_
    intro TcAP hcAP XcAP KcAP BAP
    replace BAP : AV Z hcAP ap .long [.long 0, .long 0, .long 0, .long 0] := BAP
    have u1_9 := u1_1.keep KcAP (ninS d2 nin0)
    have u1_10 := u1_2.keep KcAP (ninS d2 nin0)
    have u1_11 := u1_3.keep KcAP (ninS d2 nin0)
    have u1_12 := u1_4.keep KcAP (ninS d2 nin0)
    have u1_13 := u1_5.keep KcAP (ninS d2 nin0)
    have u1_14 := u1_6.keep KcAP
    have u1_15 := BAL.keep KcAP (ninS f1 nin0)
    have u1_16 := u1_8.keep KcAP (ninS f3.symm nin0)
    refine XcAP.blk hK (L := [(.aload_n 0, 1, 0, 0)]) (pc' := 143) (ls' := #[.val (.ref a), .val (.long pp), .second, .val (.long (0 : Int64)), .second, .val (.int (0 : Int32)), .val (.int (1 : Int32))]) (st' := [(.ref a)]) (by decide +kernel) rfl ?_
    refine XcAP.getf 146 (hw _ (List.mem_of_getElem? (i := 16) rfl)) u1_11 (by decide +kernel) ?_
    intro TqAN1 XqAN1
    refine XqAN1.blk hK (L := [(.iload 6, 2, 0, 0), (.aload_n 0, 1, 0, 0)]) (pc' := 149) (ls' := #[.val (.ref a), .val (.long pp), .second, .val (.long (0 : Int64)), .second, .val (.int (0 : Int32)), .val (.int (1 : Int32))]) (st' := [(.ref a), (.int (1 : Int32)), (.ref ai)]) (by decide +kernel) rfl ?_
    refine XqAN1.getf 152 (hw _ (List.mem_of_getElem? (i := 16) rfl)) u1_11 (by decide +kernel) ?_
    intro TqAN2 XqAN2
    refine XqAN2.blk hK (L := [(.iload 6, 2, 0, 0), (.iconst 1, 1, 1, 0), (.iadd, 1, 0, 0), (.aload_n 0, 1, 0, 0)]) (pc' := 157) (ls' := #[.val (.ref a), .val (.long pp), .second, .val (.long (0 : Int64)), .second, .val (.int (0 : Int32)), .val (.int (1 : Int32))]) (st' := [(.ref a), (.int (2 : Int32)), (.ref ai), (.int (1 : Int32)), (.ref ai)]) (by decide +kernel) rfl ?_
    refine XqAN2.getf 160 (hw _ (List.mem_of_getElem? (i := 23) rfl)) u1_12 (by decide +kernel) ?_
    intro TqAN3 XqAN3
    refine XqAN3.blk hK (L := [(.iload 6, 2, 0, 0), (.isub, 1, 0, 0)]) (pc' := 163) (ls' := #[.val (.ref a), .val (.long pp), .second, .val (.long (0 : Int64)), .second, .val (.int (0 : Int32)), .val (.int (1 : Int32))]) (st' := [(.int (0 : Int32)), (.int (2 : Int32)), (.ref ai), (.int (1 : Int32)), (.ref ai)]) (by decide +kernel) rfl ?_
    refine XqAN3.acopy 166 0 (.int 0) u1_16 u1_16 rfl (hw _ (List.mem_of_getElem? (i := 30) rfl)) (hw _ (List.mem_of_getElem? (i := 33) rfl)) (hw _ (List.mem_of_getElem? (i := 31) rfl)) (hw _ (List.mem_of_getElem? (i := 32) rfl)) (by decide) (by decide) (by decide) (Nat.le_of_ble_eq_true rfl) (Nat.le_of_ble_eq_true rfl) (n4) rfl rfl (by decide +kernel) (by decide) ?_
    intro TcAN hcAN XcAN KcAN BAN
    replace BAN : AV Z hcAN ai .int [.int 0, .int 0, .int 0, .int 0] := BAN
    have u1_17 := u1_9.keep KcAN (ninS d3 nin0)
    have u1_18 := u1_10.keep KcAN (ninS d3 nin0)
    have u1_19 := u1_11.keep KcAN (ninS d3 nin0)
    have u1_20 := u1_12.keep KcAN (ninS d3 nin0)
    have u1_21 := u1_13.keep KcAN (ninS d3 nin0)
    have u1_22 := u1_14.keep KcAN
    have u1_23 := u1_15.keep KcAN (ninS f2 nin0)
    have u1_24 := BAP.keep KcAN (ninS f3 nin0)
    refine XcAN.blk hK (L := [(.aload_n 0, 1, 0, 0)]) (pc' := 167) (ls' := #[.val (.ref a), .val (.long pp), .second, .val (.long (0 : Int64)), .second, .val (.int (0 : Int32)), .val (.int (1 : Int32))]) (st' := [(.ref a)]) (by decide +kernel) rfl ?_
    refine XcAN.getf 170 (hw _ (List.mem_of_getElem? (i := 11) rfl)) u1_17 (by decide +kernel) ?_
    intro TrAL XrAL
    refine XrAL.blk hK (L := [(.iload 6, 2, 0, 0), (.lload_n 1, 1, 0, 0)]) (pc' := 173) (ls' := #[.val (.ref a), .val (.long pp), .second, .val (.long (0 : Int64)), .second, .val (.int (0 : Int32)), .val (.int (1 : Int32))]) (st' := [(.long pp), (.int (1 : Int32)), (.ref al)]) (by decide +kernel) rfl ?_
    refine XrAL.lastore 174 u1_23 (by decide +kernel) (by decide) (Nat.le_of_ble_eq_true rfl) (n2) ?_
    intro TsAL hsAL XsAL WsAL DAL
    replace DAL : AV Z hsAL al .long [.long x0, .long pp, .long x2, .long x3] := DAL
    have u1_25 := u1_17.other WsAL (Or.inl d1)
    have u1_26 := u1_18.other WsAL (Or.inl d1)
    have u1_27 := u1_19.other WsAL (Or.inl d1)
    have u1_28 := u1_20.other WsAL (Or.inl d1)
    have u1_29 := u1_21.other WsAL (Or.inl d1)
    have u1_30 := u1_22.wr WsAL
    have u1_31 := u1_24.other WsAL f1.symm
    have u1_32 := BAN.other WsAL f2.symm
    refine XsAL.blk hK (L := [(.aload_n 0, 1, 0, 0)]) (pc' := 175) (ls' := #[.val (.ref a), .val (.long pp), .second, .val (.long (0 : Int64)), .second, .val (.int (0 : Int32)), .val (.int (1 : Int32))]) (st' := [(.ref a)]) (by decide +kernel) rfl ?_
    refine XsAL.getf 178 (hw _ (List.mem_of_getElem? (i := 13) rfl)) u1_26 (by decide +kernel) ?_
    intro TrAP XrAP
    refine XrAP.blk hK (L := [(.iload 6, 2, 0, 0), (.lload_n 3, 1, 0, 0)]) (pc' := 181) (ls' := #[.val (.ref a), .val (.long pp), .second, .val (.long (0 : Int64)), .second, .val (.int (0 : Int32)), .val (.int (1 : Int32))]) (st' := [(.long (0 : Int64)), (.int (1 : Int32)), (.ref ap)]) (by decide +kernel) rfl ?_
    refine XrAP.lastore 182 u1_31 (by decide +kernel) (by decide) (Nat.le_of_ble_eq_true rfl) (n3) ?_
    intro TsAP hsAP XsAP WsAP DAP
    replace DAP : AV Z hsAP ap .long [.long 0, .long 0, .long 0, .long 0] := DAP
    have u1_33 := u1_25.other WsAP (Or.inl d2)
    have u1_34 := u1_26.other WsAP (Or.inl d2)
    have u1_35 := u1_27.other WsAP (Or.inl d2)
    have u1_36 := u1_28.other WsAP (Or.inl d2)
    have u1_37 := u1_29.other WsAP (Or.inl d2)
    have u1_38 := u1_30.wr WsAP
    have u1_39 := DAL.other WsAP f1
    have u1_40 := u1_32.other WsAP f3.symm
    refine XsAP.blk hK (L := [(.aload_n 0, 1, 0, 0)]) (pc' := 183) (ls' := #[.val (.ref a), .val (.long pp), .second, .val (.long (0 : Int64)), .second, .val (.int (0 : Int32)), .val (.int (1 : Int32))]) (st' := [(.ref a)]) (by decide +kernel) rfl ?_
    refine XsAP.getf 186 (hw _ (List.mem_of_getElem? (i := 16) rfl)) u1_35 (by decide +kernel) ?_
    intro TrAN XrAN
    refine XrAN.blk hK (L := [(.iload 6, 2, 0, 0), (.iload 5, 2, 0, 0)]) (pc' := 190) (ls' := #[.val (.ref a), .val (.long pp), .second, .val (.long (0 : Int64)), .second, .val (.int (0 : Int32)), .val (.int (1 : Int32))]) (st' := [(.int (0 : Int32)), (.int (1 : Int32)), (.ref ai)]) (by decide +kernel) rfl ?_
    refine XrAN.iastore 191 u1_40 (by decide +kernel) (by decide) (Nat.le_of_ble_eq_true rfl) (n4) ?_
    intro TsAN hsAN XsAN WsAN DAN
    replace DAN : AV Z hsAN ai .int [.int 0, .int 0, .int 0, .int 0] := DAN
    have u1_41 := u1_33.other WsAN (Or.inl d3)
    have u1_42 := u1_34.other WsAN (Or.inl d3)
    have u1_43 := u1_35.other WsAN (Or.inl d3)
    have u1_44 := u1_36.other WsAN (Or.inl d3)
    have u1_45 := u1_37.other WsAN (Or.inl d3)
    have u1_46 := u1_38.wr WsAN
    have u1_47 := u1_39.other WsAN f2
    have u1_48 := DAP.other WsAN f3
    refine XsAN.blk hK (L := [(.aload_n 0, 1, 0, 0), (.dup, 1, 0, 0)]) (pc' := 193) (ls' := #[.val (.ref a), .val (.long pp), .second, .val (.long (0 : Int64)), .second, .val (.int (0 : Int32)), .val (.int (1 : Int32))]) (st' := [(.ref a), (.ref a)]) (by decide +kernel) rfl ?_
    refine XsAN.getf 196 (hw _ (List.mem_of_getElem? (i := 23) rfl)) u1_44 (by decide +kernel) ?_
    intro TtFZ XtFZ
    refine XtFZ.blk hK (L := [(.iconst 1, 1, 1, 0), (.iadd, 1, 0, 0)]) (pc' := 198) (ls' := #[.val (.ref a), .val (.long pp), .second, .val (.long (0 : Int64)), .second, .val (.int (0 : Int32)), .val (.int (1 : Int32))]) (st' := [(.int (2 : Int32)), (.ref a)]) (by decide +kernel) rfl ?_
    refine XtFZ.putf 201 (hw _ (List.mem_of_getElem? (i := 23) rfl)) u1_44 u1_46 (Or.inl (hw _ (List.mem_of_getElem? (i := 24) rfl))) (hw _ (List.mem_of_getElem? (i := 2) rfl)) (ty := .int) (by decide) rfl (rfl) (n1) (by decide +kernel) ?_
    intro TvFZ hvFZ XvFZ WvFZ
    have u1_49 := u1_41.other WvFZ (Or.inr (slot_ne (t := .array .long) (t' := .int) (Or.inl (hw _ (List.mem_of_getElem? (i := 12) rfl))) (Or.inl (hw _ (List.mem_of_getElem? (i := 24) rfl))) (by decide) (by decide) (by decide)))
    have u1_50 := u1_42.other WvFZ (Or.inr (slot_ne (t := .array .long) (t' := .int) (Or.inl (hw _ (List.mem_of_getElem? (i := 14) rfl))) (Or.inl (hw _ (List.mem_of_getElem? (i := 24) rfl))) (by decide) (by decide) (by decide)))
    have u1_51 := u1_43.other WvFZ (Or.inr (slot_ne (t := .array .int) (t' := .int) (Or.inl (hw _ (List.mem_of_getElem? (i := 17) rfl))) (Or.inl (hw _ (List.mem_of_getElem? (i := 24) rfl))) (by decide) (by decide) (by decide)))
    have u1_52 := u1_45.other WvFZ (Or.inr (slot_ne (t := .long) (t' := .int) (Or.inl (hw _ (List.mem_of_getElem? (i := 35) rfl))) (Or.inl (hw _ (List.mem_of_getElem? (i := 24) rfl))) (by decide) (by decide) (by decide)))
    have u1_53 := u1_46.wr WvFZ
    have u1_54 := u1_47.other WvFZ d1.symm
    have u1_55 := u1_48.other WvFZ d2.symm
    have u1_56 := DAN.other WvFZ d3.symm
    have NFZ := u1_44.same WvFZ
    refine XvFZ.blk hK (L := [(.aload_n 0, 1, 0, 0), (.dup, 1, 0, 0)]) (pc' := 203) (ls' := #[.val (.ref a), .val (.long pp), .second, .val (.long (0 : Int64)), .second, .val (.int (0 : Int32)), .val (.int (1 : Int32))]) (st' := [(.ref a), (.ref a)]) (by decide +kernel) rfl ?_
    refine XvFZ.getf 206 (hw _ (List.mem_of_getElem? (i := 34) rfl)) u1_52 (by decide +kernel) ?_
    intro TtFB XtFB
    refine XtFB.blk hK (L := [(.iload 5, 2, 0, 0), (.i2l, 1, 0, 0), (.ladd, 1, 0, 0)]) (pc' := 210) (ls' := #[.val (.ref a), .val (.long pp), .second, .val (.long (0 : Int64)), .second, .val (.int (0 : Int32)), .val (.int (1 : Int32))]) (st' := [(.long (bb + ((0 : Int32).toInt64))), (.ref a)]) (by decide +kernel) rfl ?_
    refine XtFB.putf 213 (hw _ (List.mem_of_getElem? (i := 34) rfl)) u1_52 u1_53 (Or.inl (hw _ (List.mem_of_getElem? (i := 35) rfl))) (hw _ (List.mem_of_getElem? (i := 2) rfl)) (ty := .long) (by decide) rfl (rfl) (n1) (by decide +kernel) ?_
    intro TvFB hvFB XvFB WvFB
    have u1_57 := u1_49.other WvFB (Or.inr (slot_ne (t := .array .long) (t' := .long) (Or.inl (hw _ (List.mem_of_getElem? (i := 12) rfl))) (Or.inl (hw _ (List.mem_of_getElem? (i := 35) rfl))) (by decide) (by decide) (by decide)))
    have u1_58 := u1_50.other WvFB (Or.inr (slot_ne (t := .array .long) (t' := .long) (Or.inl (hw _ (List.mem_of_getElem? (i := 14) rfl))) (Or.inl (hw _ (List.mem_of_getElem? (i := 35) rfl))) (by decide) (by decide) (by decide)))
    have u1_59 := u1_51.other WvFB (Or.inr (slot_ne (t := .array .int) (t' := .long) (Or.inl (hw _ (List.mem_of_getElem? (i := 17) rfl))) (Or.inl (hw _ (List.mem_of_getElem? (i := 35) rfl))) (by decide) (by decide) (by decide)))
    have u1_60 := NFZ.other WvFB (Or.inr (slot_ne (t := .int) (t' := .long) (Or.inl (hw _ (List.mem_of_getElem? (i := 24) rfl))) (Or.inl (hw _ (List.mem_of_getElem? (i := 35) rfl))) (by decide) (by decide) (by decide)))
    have u1_61 := u1_53.wr WvFB
    have u1_62 := u1_54.other WvFB d1.symm
    have u1_63 := u1_55.other WvFB d2.symm
    have u1_64 := u1_56.other WvFB d3.symm
    have NFB := u1_52.same WvFB
    exact XvFB.retV (by decide +kernel) (by decide) (by decide) (⟨rfl, x0, pp, x2, x3, _, ⟨⟨u1_57, u1_58, u1_59, u1_60, NFB, u1_61⟩, ⟨u1_62, u1_63, u1_64⟩, ⟨n1, n2, n3, n4⟩, ⟨d1, d2, d3⟩, ⟨f1, f2, f3⟩⟩, by simp only [srt, and_true] <;> omega, fun q => by first | (simp only [cnt, List.foldl]; done) | (simp only [cnt, List.foldl]; ac_rfl)⟩)
  · have o1 := own_lt g1
    refine Xl1.blk hK (L := [(.iinc 6 (-1), 3, -1, 0), (.goto (-22), 3, 0, 69)]) (pc' := 69) (ls' := #[.val (.ref a), .val (.long pp), .second, .val (.long (0 : Int64)), .second, .val (.int (0 : Int32)), .val (.int (0 : Int32))]) (st' := []) (by decide +kernel) rfl ?_
    refine Xl1.blk hK (L := [(.iload 6, 2, 0, 0)]) (pc' := 71) (ls' := #[.val (.ref a), .val (.long pp), .second, .val (.long (0 : Int64)), .second, .val (.int (0 : Int32)), .val (.int (0 : Int32))]) (st' := [(.int (0 : Int32))]) (by decide +kernel) rfl ?_
    refine Xl1.ifc .le (23) 94 74 (by decide +kernel) (fun (c71 : ¬ (0 : Int32) < (0 : Int32)) => ?_) (fun (c71 : (0 : Int32) < (0 : Int32)) => absurd c71 (by decide : ¬ (0 : Int32) < (0 : Int32)))
    refine Xl1.blk hK (L := [(.aload_n 0, 1, 0, 0)]) (pc' := 95) (ls' := #[.val (.ref a), .val (.long pp), .second, .val (.long (0 : Int64)), .second, .val (.int (0 : Int32)), .val (.int (0 : Int32))]) (st' := [(.ref a)]) (by decide +kernel) rfl ?_
    refine Xl1.getf 98 (hw _ (List.mem_of_getElem? (i := 11) rfl)) FL (by decide +kernel) ?_
    intro TqAL1 XqAL1
    refine XqAL1.blk hK (L := [(.iload 6, 2, 0, 0), (.aload_n 0, 1, 0, 0)]) (pc' := 101) (ls' := #[.val (.ref a), .val (.long pp), .second, .val (.long (0 : Int64)), .second, .val (.int (0 : Int32)), .val (.int (0 : Int32))]) (st' := [(.ref a), (.int (0 : Int32)), (.ref al)]) (by decide +kernel) rfl ?_
    refine XqAL1.getf 104 (hw _ (List.mem_of_getElem? (i := 11) rfl)) FL (by decide +kernel) ?_
    intro TqAL2 XqAL2
    refine XqAL2.blk hK (L := [(.iload 6, 2, 0, 0), (.iconst 1, 1, 1, 0), (.iadd, 1, 0, 0), (.aload_n 0, 1, 0, 0)]) (pc' := 109) (ls' := #[.val (.ref a), .val (.long pp), .second, .val (.long (0 : Int64)), .second, .val (.int (0 : Int32)), .val (.int (0 : Int32))]) (st' := [(.ref a), (.int (1 : Int32)), (.ref al), (.int (0 : Int32)), (.ref al)]) (by decide +kernel) rfl ?_
    refine XqAL2.getf 112 (hw _ (List.mem_of_getElem? (i := 23) rfl)) FZ (by decide +kernel) ?_
    intro TqAL3 XqAL3
    refine XqAL3.blk hK (L := [(.iload 6, 2, 0, 0), (.isub, 1, 0, 0)]) (pc' := 115) (ls' := #[.val (.ref a), .val (.long pp), .second, .val (.long (0 : Int64)), .second, .val (.int (0 : Int32)), .val (.int (0 : Int32))]) (st' := [(.int (1 : Int32)), (.int (1 : Int32)), (.ref al), (.int (0 : Int32)), (.ref al)]) (by decide +kernel) rfl ?_
    refine XqAL3.acopy 118 0 (.long 0) AL AL rfl (hw _ (List.mem_of_getElem? (i := 30) rfl)) (hw _ (List.mem_of_getElem? (i := 33) rfl)) (hw _ (List.mem_of_getElem? (i := 31) rfl)) (hw _ (List.mem_of_getElem? (i := 32) rfl)) (by decide) (by decide) (by decide) (Nat.le_of_ble_eq_true rfl) (Nat.le_of_ble_eq_true rfl) (n2) rfl rfl (by decide +kernel) (by decide) ?_
    intro TcAL hcAL XcAL KcAL BAL
    replace BAL : AV Z hcAL al .long [.long x0, .long x0, .long x2, .long x3] := BAL
    have u0_1 := FL.keep KcAL (ninS d1 nin0)
    have u0_2 := FP.keep KcAL (ninS d1 nin0)
    have u0_3 := FN.keep KcAL (ninS d1 nin0)
    have u0_4 := FZ.keep KcAL (ninS d1 nin0)
    have u0_5 := FB.keep KcAL (ninS d1 nin0)
    have u0_6 := EX.keep KcAL
    have u0_7 := AP.keep KcAL (ninS f1.symm nin0)
    have u0_8 := AN.keep KcAL (ninS f2.symm nin0)
    refine XcAL.blk hK (L := [(.aload_n 0, 1, 0, 0)]) (pc' := 119) (ls' := #[.val (.ref a), .val (.long pp), .second, .val (.long (0 : Int64)), .second, .val (.int (0 : Int32)), .val (.int (0 : Int32))]) (st' := [(.ref a)]) (by decide +kernel) rfl ?_
    refine XcAL.getf 122 (hw _ (List.mem_of_getElem? (i := 13) rfl)) u0_2 (by decide +kernel) ?_
    intro TqAP1 XqAP1
    refine XqAP1.blk hK (L := [(.iload 6, 2, 0, 0), (.aload_n 0, 1, 0, 0)]) (pc' := 125) (ls' := #[.val (.ref a), .val (.long pp), .second, .val (.long (0 : Int64)), .second, .val (.int (0 : Int32)), .val (.int (0 : Int32))]) (st' := [(.ref a), (.int (0 : Int32)), (.ref ap)]) (by decide +kernel) rfl ?_
    refine XqAP1.getf 128 (hw _ (List.mem_of_getElem? (i := 13) rfl)) u0_2 (by decide +kernel) ?_
    intro TqAP2 XqAP2
    refine XqAP2.blk hK (L := [(.iload 6, 2, 0, 0), (.iconst 1, 1, 1, 0), (.iadd, 1, 0, 0), (.aload_n 0, 1, 0, 0)]) (pc' := 133) (ls' := #[.val (.ref a), .val (.long pp), .second, .val (.long (0 : Int64)), .second, .val (.int (0 : Int32)), .val (.int (0 : Int32))]) (st' := [(.ref a), (.int (1 : Int32)), (.ref ap), (.int (0 : Int32)), (.ref ap)]) (by decide +kernel) rfl ?_
    refine XqAP2.getf 136 (hw _ (List.mem_of_getElem? (i := 23) rfl)) u0_4 (by decide +kernel) ?_
    intro TqAP3 XqAP3
    refine XqAP3.blk hK (L := [(.iload 6, 2, 0, 0), (.isub, 1, 0, 0)]) (pc' := 139) (ls' := #[.val (.ref a), .val (.long pp), .second, .val (.long (0 : Int64)), .second, .val (.int (0 : Int32)), .val (.int (0 : Int32))]) (st' := [(.int (1 : Int32)), (.int (1 : Int32)), (.ref ap), (.int (0 : Int32)), (.ref ap)]) (by decide +kernel) rfl ?_
    refine XqAP3.acopy 142 0 (.long 0) u0_7 u0_7 rfl (hw _ (List.mem_of_getElem? (i := 30) rfl)) (hw _ (List.mem_of_getElem? (i := 33) rfl)) (hw _ (List.mem_of_getElem? (i := 31) rfl)) (hw _ (List.mem_of_getElem? (i := 32) rfl)) (by decide) (by decide) (by decide) (Nat.le_of_ble_eq_true rfl) (Nat.le_of_ble_eq_true rfl) (n3) rfl rfl (by decide +kernel) (by decide) ?_
    intro TcAP hcAP XcAP KcAP BAP
    replace BAP : AV Z hcAP ap .long [.long 0, .long 0, .long 0, .long 0] := BAP
    have u0_9 := u0_1.keep KcAP (ninS d2 nin0)
    have u0_10 := u0_2.keep KcAP (ninS d2 nin0)
    have u0_11 := u0_3.keep KcAP (ninS d2 nin0)
    have u0_12 := u0_4.keep KcAP (ninS d2 nin0)
    have u0_13 := u0_5.keep KcAP (ninS d2 nin0)
    have u0_14 := u0_6.keep KcAP
    have u0_15 := BAL.keep KcAP (ninS f1 nin0)
    have u0_16 := u0_8.keep KcAP (ninS f3.symm nin0)
    refine XcAP.blk hK (L := [(.aload_n 0, 1, 0, 0)]) (pc' := 143) (ls' := #[.val (.ref a), .val (.long pp), .second, .val (.long (0 : Int64)), .second, .val (.int (0 : Int32)), .val (.int (0 : Int32))]) (st' := [(.ref a)]) (by decide +kernel) rfl ?_
    refine XcAP.getf 146 (hw _ (List.mem_of_getElem? (i := 16) rfl)) u0_11 (by decide +kernel) ?_
    intro TqAN1 XqAN1
    refine XqAN1.blk hK (L := [(.iload 6, 2, 0, 0), (.aload_n 0, 1, 0, 0)]) (pc' := 149) (ls' := #[.val (.ref a), .val (.long pp), .second, .val (.long (0 : Int64)), .second, .val (.int (0 : Int32)), .val (.int (0 : Int32))]) (st' := [(.ref a), (.int (0 : Int32)), (.ref ai)]) (by decide +kernel) rfl ?_
    refine XqAN1.getf 152 (hw _ (List.mem_of_getElem? (i := 16) rfl)) u0_11 (by decide +kernel) ?_
    intro TqAN2 XqAN2
    refine XqAN2.blk hK (L := [(.iload 6, 2, 0, 0), (.iconst 1, 1, 1, 0), (.iadd, 1, 0, 0), (.aload_n 0, 1, 0, 0)]) (pc' := 157) (ls' := #[.val (.ref a), .val (.long pp), .second, .val (.long (0 : Int64)), .second, .val (.int (0 : Int32)), .val (.int (0 : Int32))]) (st' := [(.ref a), (.int (1 : Int32)), (.ref ai), (.int (0 : Int32)), (.ref ai)]) (by decide +kernel) rfl ?_
    refine XqAN2.getf 160 (hw _ (List.mem_of_getElem? (i := 23) rfl)) u0_12 (by decide +kernel) ?_
    intro TqAN3 XqAN3
    refine XqAN3.blk hK (L := [(.iload 6, 2, 0, 0), (.isub, 1, 0, 0)]) (pc' := 163) (ls' := #[.val (.ref a), .val (.long pp), .second, .val (.long (0 : Int64)), .second, .val (.int (0 : Int32)), .val (.int (0 : Int32))]) (st' := [(.int (1 : Int32)), (.int (1 : Int32)), (.ref ai), (.int (0 : Int32)), (.ref ai)]) (by decide +kernel) rfl ?_
    refine XqAN3.acopy 166 0 (.int 0) u0_16 u0_16 rfl (hw _ (List.mem_of_getElem? (i := 30) rfl)) (hw _ (List.mem_of_getElem? (i := 33) rfl)) (hw _ (List.mem_of_getElem? (i := 31) rfl)) (hw _ (List.mem_of_getElem? (i := 32) rfl)) (by decide) (by decide) (by decide) (Nat.le_of_ble_eq_true rfl) (Nat.le_of_ble_eq_true rfl) (n4) rfl rfl (by decide +kernel) (by decide) ?_
    intro TcAN hcAN XcAN KcAN BAN
    replace BAN : AV Z hcAN ai .int [.int 0, .int 0, .int 0, .int 0] := BAN
    have u0_17 := u0_9.keep KcAN (ninS d3 nin0)
    have u0_18 := u0_10.keep KcAN (ninS d3 nin0)
    have u0_19 := u0_11.keep KcAN (ninS d3 nin0)
    have u0_20 := u0_12.keep KcAN (ninS d3 nin0)
    have u0_21 := u0_13.keep KcAN (ninS d3 nin0)
    have u0_22 := u0_14.keep KcAN
    have u0_23 := u0_15.keep KcAN (ninS f2 nin0)
    have u0_24 := BAP.keep KcAN (ninS f3 nin0)
    refine XcAN.blk hK (L := [(.aload_n 0, 1, 0, 0)]) (pc' := 167) (ls' := #[.val (.ref a), .val (.long pp), .second, .val (.long (0 : Int64)), .second, .val (.int (0 : Int32)), .val (.int (0 : Int32))]) (st' := [(.ref a)]) (by decide +kernel) rfl ?_
    refine XcAN.getf 170 (hw _ (List.mem_of_getElem? (i := 11) rfl)) u0_17 (by decide +kernel) ?_
    intro TrAL XrAL
    refine XrAL.blk hK (L := [(.iload 6, 2, 0, 0), (.lload_n 1, 1, 0, 0)]) (pc' := 173) (ls' := #[.val (.ref a), .val (.long pp), .second, .val (.long (0 : Int64)), .second, .val (.int (0 : Int32)), .val (.int (0 : Int32))]) (st' := [(.long pp), (.int (0 : Int32)), (.ref al)]) (by decide +kernel) rfl ?_
    refine XrAL.lastore 174 u0_23 (by decide +kernel) (by decide) (Nat.le_of_ble_eq_true rfl) (n2) ?_
    intro TsAL hsAL XsAL WsAL DAL
    replace DAL : AV Z hsAL al .long [.long pp, .long x0, .long x2, .long x3] := DAL
    have u0_25 := u0_17.other WsAL (Or.inl d1)
    have u0_26 := u0_18.other WsAL (Or.inl d1)
    have u0_27 := u0_19.other WsAL (Or.inl d1)
    have u0_28 := u0_20.other WsAL (Or.inl d1)
    have u0_29 := u0_21.other WsAL (Or.inl d1)
    have u0_30 := u0_22.wr WsAL
    have u0_31 := u0_24.other WsAL f1.symm
    have u0_32 := BAN.other WsAL f2.symm
    refine XsAL.blk hK (L := [(.aload_n 0, 1, 0, 0)]) (pc' := 175) (ls' := #[.val (.ref a), .val (.long pp), .second, .val (.long (0 : Int64)), .second, .val (.int (0 : Int32)), .val (.int (0 : Int32))]) (st' := [(.ref a)]) (by decide +kernel) rfl ?_
    refine XsAL.getf 178 (hw _ (List.mem_of_getElem? (i := 13) rfl)) u0_26 (by decide +kernel) ?_
    intro TrAP XrAP
    refine XrAP.blk hK (L := [(.iload 6, 2, 0, 0), (.lload_n 3, 1, 0, 0)]) (pc' := 181) (ls' := #[.val (.ref a), .val (.long pp), .second, .val (.long (0 : Int64)), .second, .val (.int (0 : Int32)), .val (.int (0 : Int32))]) (st' := [(.long (0 : Int64)), (.int (0 : Int32)), (.ref ap)]) (by decide +kernel) rfl ?_
    refine XrAP.lastore 182 u0_31 (by decide +kernel) (by decide) (Nat.le_of_ble_eq_true rfl) (n3) ?_
    intro TsAP hsAP XsAP WsAP DAP
    replace DAP : AV Z hsAP ap .long [.long 0, .long 0, .long 0, .long 0] := DAP
    have u0_33 := u0_25.other WsAP (Or.inl d2)
    have u0_34 := u0_26.other WsAP (Or.inl d2)
    have u0_35 := u0_27.other WsAP (Or.inl d2)
    have u0_36 := u0_28.other WsAP (Or.inl d2)
    have u0_37 := u0_29.other WsAP (Or.inl d2)
    have u0_38 := u0_30.wr WsAP
    have u0_39 := DAL.other WsAP f1
    have u0_40 := u0_32.other WsAP f3.symm
    refine XsAP.blk hK (L := [(.aload_n 0, 1, 0, 0)]) (pc' := 183) (ls' := #[.val (.ref a), .val (.long pp), .second, .val (.long (0 : Int64)), .second, .val (.int (0 : Int32)), .val (.int (0 : Int32))]) (st' := [(.ref a)]) (by decide +kernel) rfl ?_
    refine XsAP.getf 186 (hw _ (List.mem_of_getElem? (i := 16) rfl)) u0_35 (by decide +kernel) ?_
    intro TrAN XrAN
    refine XrAN.blk hK (L := [(.iload 6, 2, 0, 0), (.iload 5, 2, 0, 0)]) (pc' := 190) (ls' := #[.val (.ref a), .val (.long pp), .second, .val (.long (0 : Int64)), .second, .val (.int (0 : Int32)), .val (.int (0 : Int32))]) (st' := [(.int (0 : Int32)), (.int (0 : Int32)), (.ref ai)]) (by decide +kernel) rfl ?_
    refine XrAN.iastore 191 u0_40 (by decide +kernel) (by decide) (Nat.le_of_ble_eq_true rfl) (n4) ?_
    intro TsAN hsAN XsAN WsAN DAN
    replace DAN : AV Z hsAN ai .int [.int 0, .int 0, .int 0, .int 0] := DAN
    have u0_41 := u0_33.other WsAN (Or.inl d3)
    have u0_42 := u0_34.other WsAN (Or.inl d3)
    have u0_43 := u0_35.other WsAN (Or.inl d3)
    have u0_44 := u0_36.other WsAN (Or.inl d3)
    have u0_45 := u0_37.other WsAN (Or.inl d3)
    have u0_46 := u0_38.wr WsAN
    have u0_47 := u0_39.other WsAN f2
    have u0_48 := DAP.other WsAN f3
    refine XsAN.blk hK (L := [(.aload_n 0, 1, 0, 0), (.dup, 1, 0, 0)]) (pc' := 193) (ls' := #[.val (.ref a), .val (.long pp), .second, .val (.long (0 : Int64)), .second, .val (.int (0 : Int32)), .val (.int (0 : Int32))]) (st' := [(.ref a), (.ref a)]) (by decide +kernel) rfl ?_
    refine XsAN.getf 196 (hw _ (List.mem_of_getElem? (i := 23) rfl)) u0_44 (by decide +kernel) ?_
    intro TtFZ XtFZ
    refine XtFZ.blk hK (L := [(.iconst 1, 1, 1, 0), (.iadd, 1, 0, 0)]) (pc' := 198) (ls' := #[.val (.ref a), .val (.long pp), .second, .val (.long (0 : Int64)), .second, .val (.int (0 : Int32)), .val (.int (0 : Int32))]) (st' := [(.int (2 : Int32)), (.ref a)]) (by decide +kernel) rfl ?_
    refine XtFZ.putf 201 (hw _ (List.mem_of_getElem? (i := 23) rfl)) u0_44 u0_46 (Or.inl (hw _ (List.mem_of_getElem? (i := 24) rfl))) (hw _ (List.mem_of_getElem? (i := 2) rfl)) (ty := .int) (by decide) rfl (rfl) (n1) (by decide +kernel) ?_
    intro TvFZ hvFZ XvFZ WvFZ
    have u0_49 := u0_41.other WvFZ (Or.inr (slot_ne (t := .array .long) (t' := .int) (Or.inl (hw _ (List.mem_of_getElem? (i := 12) rfl))) (Or.inl (hw _ (List.mem_of_getElem? (i := 24) rfl))) (by decide) (by decide) (by decide)))
    have u0_50 := u0_42.other WvFZ (Or.inr (slot_ne (t := .array .long) (t' := .int) (Or.inl (hw _ (List.mem_of_getElem? (i := 14) rfl))) (Or.inl (hw _ (List.mem_of_getElem? (i := 24) rfl))) (by decide) (by decide) (by decide)))
    have u0_51 := u0_43.other WvFZ (Or.inr (slot_ne (t := .array .int) (t' := .int) (Or.inl (hw _ (List.mem_of_getElem? (i := 17) rfl))) (Or.inl (hw _ (List.mem_of_getElem? (i := 24) rfl))) (by decide) (by decide) (by decide)))
    have u0_52 := u0_45.other WvFZ (Or.inr (slot_ne (t := .long) (t' := .int) (Or.inl (hw _ (List.mem_of_getElem? (i := 35) rfl))) (Or.inl (hw _ (List.mem_of_getElem? (i := 24) rfl))) (by decide) (by decide) (by decide)))
    have u0_53 := u0_46.wr WvFZ
    have u0_54 := u0_47.other WvFZ d1.symm
    have u0_55 := u0_48.other WvFZ d2.symm
    have u0_56 := DAN.other WvFZ d3.symm
    have NFZ := u0_44.same WvFZ
    refine XvFZ.blk hK (L := [(.aload_n 0, 1, 0, 0), (.dup, 1, 0, 0)]) (pc' := 203) (ls' := #[.val (.ref a), .val (.long pp), .second, .val (.long (0 : Int64)), .second, .val (.int (0 : Int32)), .val (.int (0 : Int32))]) (st' := [(.ref a), (.ref a)]) (by decide +kernel) rfl ?_
    refine XvFZ.getf 206 (hw _ (List.mem_of_getElem? (i := 34) rfl)) u0_52 (by decide +kernel) ?_
    intro TtFB XtFB
    refine XtFB.blk hK (L := [(.iload 5, 2, 0, 0), (.i2l, 1, 0, 0), (.ladd, 1, 0, 0)]) (pc' := 210) (ls' := #[.val (.ref a), .val (.long pp), .second, .val (.long (0 : Int64)), .second, .val (.int (0 : Int32)), .val (.int (0 : Int32))]) (st' := [(.long (bb + ((0 : Int32).toInt64))), (.ref a)]) (by decide +kernel) rfl ?_
    refine XtFB.putf 213 (hw _ (List.mem_of_getElem? (i := 34) rfl)) u0_52 u0_53 (Or.inl (hw _ (List.mem_of_getElem? (i := 35) rfl))) (hw _ (List.mem_of_getElem? (i := 2) rfl)) (ty := .long) (by decide) rfl (rfl) (n1) (by decide +kernel) ?_
    intro TvFB hvFB XvFB WvFB
    have u0_57 := u0_49.other WvFB (Or.inr (slot_ne (t := .array .long) (t' := .long) (Or.inl (hw _ (List.mem_of_getElem? (i := 12) rfl))) (Or.inl (hw _ (List.mem_of_getElem? (i := 35) rfl))) (by decide) (by decide) (by decide)))
    have u0_58 := u0_50.other WvFB (Or.inr (slot_ne (t := .array .long) (t' := .long) (Or.inl (hw _ (List.mem_of_getElem? (i := 14) rfl))) (Or.inl (hw _ (List.mem_of_getElem? (i := 35) rfl))) (by decide) (by decide) (by decide)))
    have u0_59 := u0_51.other WvFB (Or.inr (slot_ne (t := .array .int) (t' := .long) (Or.inl (hw _ (List.mem_of_getElem? (i := 17) rfl))) (Or.inl (hw _ (List.mem_of_getElem? (i := 35) rfl))) (by decide) (by decide) (by decide)))
    have u0_60 := NFZ.other WvFB (Or.inr (slot_ne (t := .int) (t' := .long) (Or.inl (hw _ (List.mem_of_getElem? (i := 24) rfl))) (Or.inl (hw _ (List.mem_of_getElem? (i := 35) rfl))) (by decide) (by decide) (by decide)))
    have u0_61 := u0_53.wr WvFB
    have u0_62 := u0_54.other WvFB d1.symm
    have u0_63 := u0_55.other WvFB d2.symm
    have u0_64 := u0_56.other WvFB d3.symm
    have NFB := u0_52.same WvFB
    exact XvFB.retV (by decide +kernel) (by decide) (by decide) (⟨rfl, pp, x0, x2, x3, _, ⟨⟨u0_57, u0_58, u0_59, u0_60, NFB, u0_61⟩, ⟨u0_62, u0_63, u0_64⟩, ⟨n1, n2, n3, n4⟩, ⟨d1, d2, d3⟩, ⟨f1, f2, f3⟩⟩, by simp only [srt, and_true] <;> omega, fun q => by first | (simp only [cnt, List.foldl]; done) | (simp only [cnt, List.foldl]; ac_rfl)⟩)
set_option maxRecDepth 65536 in
set_option maxHeartbeats 40000000 in
theorem rm_add2 (l : Launch) (Z : State) (a0 : Array Value) (hw : ∀ d ∈ tables_1, d.before a0 Z = true) (a al ap ai : Addr) (pp x0 x1 x2 x3 bb : Int64) (h0 : Heap) (n0 : Nat) (Z0 : n0 ≤ h0.size) (I : RI Z h0 n0 a al ap ai 2 bb [.long x0, .long x1, .long x2, .long x3]) (S : srt [x0, x1]) :
    Cnt l Z (⟨"com/example/redolith/redolith/storage/RecordIndex", "add", "(JJI)V"⟩ : MethodName) prog_167_method_7_code 7 none ({ frames := 1, cells := 0, slots := 0, locals := 40 } : Room) n0 #[(.ref a), (.long pp), (.long (0 : Int64)), (.int (0 : Int32))] h0 (fun v h => v = none ∧ ∃ y0 y1 y2 y3 b2, RI Z h n0 a al ap ai 3 b2 [.long y0, .long y1, .long y2, .long y3] ∧ srt [y0, y1, y2] ∧ ∀ q, cnt [y0, y1, y2] q = cnt [x0, x1] q + leI pp q) := by
  refine Cnt.mk (by first | exact plainFor_of_name (by first | (simp [plainName, overriddenIn]; done) | decide +kernel) | decide +kernel) Z0 ?_
  intro p e s m below meth c T X
  refine Go.cast (g' := mkF m 0 #[.val (.ref a), .val (.long pp), .second, .val (.long (0 : Int64)), .second, .val (.int (0 : Int32)), .unset] []) (by first | (simp [entryFrame, mkF, argsToLocals, Value.category, maxLocals]; done) | rfl) ?_
  have hK : (∀ q ∈ ([] : List (Nat × Int32)), (Jvm.Cond.constant "com/example/redolith/redolith/storage/RecordIndex" q.1 q.2).before a0 Z = true) ∧ (∀ q ∈ ([] : List (Nat × Int64)), (Jvm.Cond.constantLong "com/example/redolith/redolith/storage/RecordIndex" q.1 q.2).before a0 Z = true) :=
    ⟨(fun q hq => nomatch hq), (fun q hq => nomatch hq)⟩
  obtain ⟨⟨FL, FP, FN, FZ, FB, EX⟩, ⟨AL, AP, AN⟩, ⟨n1, n2, n3, n4⟩, ⟨d1, d2, d3⟩, ⟨f1, f2, f3⟩⟩ := I
  simp only [srt, and_true] at S
  refine X.blk hK (L := [(.aload_n 0, 1, 0, 0)]) (pc' := 1) (ls' := #[.val (.ref a), .val (.long pp), .second, .val (.long (0 : Int64)), .second, .val (.int (0 : Int32)), .unset]) (st' := [(.ref a)]) (by decide +kernel) rfl ?_
  refine X.getf 4 (hw _ (List.mem_of_getElem? (i := 23) rfl)) FZ (by decide +kernel) ?_
  intro Tz Xz
  refine Xz.blk hK (L := [(.aload_n 0, 1, 0, 0)]) (pc' := 5) (ls' := #[.val (.ref a), .val (.long pp), .second, .val (.long (0 : Int64)), .second, .val (.int (0 : Int32)), .unset]) (st' := [(.ref a), (.int (2 : Int32))]) (by decide +kernel) rfl ?_
  refine Xz.getf 8 (hw _ (List.mem_of_getElem? (i := 11) rfl)) FL (by decide +kernel) ?_
  intro Tz2 Xz2
  refine Xz2.alen 9 (n := (4 : Int32)) AL (by decide +kernel) (rfl) ?_
  refine Xz2.icmp .ne (54) 63 12 (by decide +kernel) (fun (c9 : ¬ (2 : Int32) = (4 : Int32)) => ?_) (fun (c9 : (2 : Int32) = (4 : Int32)) => absurd c9 (by decide : ¬ (2 : Int32) = (4 : Int32)))
  refine Xz2.blk hK (L := [(.aload_n 0, 1, 0, 0)]) (pc' := 64) (ls' := #[.val (.ref a), .val (.long pp), .second, .val (.long (0 : Int64)), .second, .val (.int (0 : Int32)), .unset]) (st' := [(.ref a)]) (by decide +kernel) rfl ?_
  refine Xz2.getf 67 (hw _ (List.mem_of_getElem? (i := 23) rfl)) FZ (by decide +kernel) ?_
  intro Tz3 Xz3
  refine Xz3.blk hK (L := [(.istore 6, 2, 0, 0)]) (pc' := 69) (ls' := #[.val (.ref a), .val (.long pp), .second, .val (.long (0 : Int64)), .second, .val (.int (0 : Int32)), .val (.int (2 : Int32))]) (st' := []) (by decide +kernel) rfl ?_
  refine Xz3.blk hK (L := [(.iload 6, 2, 0, 0)]) (pc' := 71) (ls' := #[.val (.ref a), .val (.long pp), .second, .val (.long (0 : Int64)), .second, .val (.int (0 : Int32)), .val (.int (2 : Int32))]) (st' := [(.int (2 : Int32))]) (by decide +kernel) rfl ?_
  refine Xz3.ifc .le (23) 94 74 (by decide +kernel) (fun (c71 : ¬ (0 : Int32) < (2 : Int32)) => absurd (by decide : (0 : Int32) < (2 : Int32)) c71) (fun (c71 : (0 : Int32) < (2 : Int32)) => ?_)
  refine Xz3.blk hK (L := [(.aload_n 0, 1, 0, 0)]) (pc' := 75) (ls' := #[.val (.ref a), .val (.long pp), .second, .val (.long (0 : Int64)), .second, .val (.int (0 : Int32)), .val (.int (2 : Int32))]) (st' := [(.ref a)]) (by decide +kernel) rfl ?_
  refine Xz3.getf 78 (hw _ (List.mem_of_getElem? (i := 11) rfl)) FL (by decide +kernel) ?_
  intro Tl1 Xl1
  refine Xl1.blk hK (L := [(.iload 6, 2, 0, 0), (.iconst 1, 1, 1, 0), (.isub, 1, 0, 0)]) (pc' := 82) (ls' := #[.val (.ref a), .val (.long pp), .second, .val (.long (0 : Int64)), .second, .val (.int (0 : Int32)), .val (.int (2 : Int32))]) (st' := [(.int (1 : Int32)), (.ref al)]) (by decide +kernel) rfl ?_
  refine Xl1.laload 83 AL (by decide +kernel) (by decide) (rfl) ?_
  refine Xl1.blk hK (L := [(.lload_n 1, 1, 0, 0)]) (pc' := 84) (ls' := #[.val (.ref a), .val (.long pp), .second, .val (.long (0 : Int64)), .second, .val (.int (0 : Int32)), .val (.int (2 : Int32))]) (st' := [(.long pp), (.long x1)]) (by decide +kernel) rfl ?_
  refine Xl1.lcmp .le (9) 94 88 (by decide +kernel) (fun (g1 : ¬ pp < x1) => ?_) (fun (g1 : pp < x1) => ?_)
  · have o1 := own_ge g1
    refine Xl1.blk hK (L := [(.aload_n 0, 1, 0, 0)]) (pc' := 95) (ls' := #[.val (.ref a), .val (.long pp), .second, .val (.long (0 : Int64)), .second, .val (.int (0 : Int32)), .val (.int (2 : Int32))]) (st' := [(.ref a)]) (by decide +kernel) rfl ?_
    refine Xl1.getf 98 (hw _ (List.mem_of_getElem? (i := 11) rfl)) FL (by decide +kernel) ?_
    intro TqAL1 XqAL1
    refine XqAL1.blk hK (L := [(.iload 6, 2, 0, 0), (.aload_n 0, 1, 0, 0)]) (pc' := 101) (ls' := #[.val (.ref a), .val (.long pp), .second, .val (.long (0 : Int64)), .second, .val (.int (0 : Int32)), .val (.int (2 : Int32))]) (st' := [(.ref a), (.int (2 : Int32)), (.ref al)]) (by decide +kernel) rfl ?_
    refine XqAL1.getf 104 (hw _ (List.mem_of_getElem? (i := 11) rfl)) FL (by decide +kernel) ?_
    intro TqAL2 XqAL2
    refine XqAL2.blk hK (L := [(.iload 6, 2, 0, 0), (.iconst 1, 1, 1, 0), (.iadd, 1, 0, 0), (.aload_n 0, 1, 0, 0)]) (pc' := 109) (ls' := #[.val (.ref a), .val (.long pp), .second, .val (.long (0 : Int64)), .second, .val (.int (0 : Int32)), .val (.int (2 : Int32))]) (st' := [(.ref a), (.int (3 : Int32)), (.ref al), (.int (2 : Int32)), (.ref al)]) (by decide +kernel) rfl ?_
    refine XqAL2.getf 112 (hw _ (List.mem_of_getElem? (i := 23) rfl)) FZ (by decide +kernel) ?_
    intro TqAL3 XqAL3
    refine XqAL3.blk hK (L := [(.iload 6, 2, 0, 0), (.isub, 1, 0, 0)]) (pc' := 115) (ls' := #[.val (.ref a), .val (.long pp), .second, .val (.long (0 : Int64)), .second, .val (.int (0 : Int32)), .val (.int (2 : Int32))]) (st' := [(.int (0 : Int32)), (.int (3 : Int32)), (.ref al), (.int (2 : Int32)), (.ref al)]) (by decide +kernel) rfl ?_
    refine XqAL3.acopy 118 0 (.long 0) AL AL rfl (hw _ (List.mem_of_getElem? (i := 30) rfl)) (hw _ (List.mem_of_getElem? (i := 33) rfl)) (hw _ (List.mem_of_getElem? (i := 31) rfl)) (hw _ (List.mem_of_getElem? (i := 32) rfl)) (by decide) (by decide) (by decide) (Nat.le_of_ble_eq_true rfl) (Nat.le_of_ble_eq_true rfl) (n2) rfl rfl (by decide +kernel) (by decide) ?_
    intro TcAL hcAL XcAL KcAL BAL
    replace BAL : AV Z hcAL al .long [.long x0, .long x1, .long x2, .long x3] := BAL
    have u2_1 := FL.keep KcAL (ninS d1 nin0)
    have u2_2 := FP.keep KcAL (ninS d1 nin0)
    have u2_3 := FN.keep KcAL (ninS d1 nin0)
    have u2_4 := FZ.keep KcAL (ninS d1 nin0)
    have u2_5 := FB.keep KcAL (ninS d1 nin0)
    have u2_6 := EX.keep KcAL
    have u2_7 := AP.keep KcAL (ninS f1.symm nin0)
    have u2_8 := AN.keep KcAL (ninS f2.symm nin0)
    refine XcAL.blk hK (L := [(.aload_n 0, 1, 0, 0)]) (pc' := 119) (ls' := #[.val (.ref a), .val (.long pp), .second, .val (.long (0 : Int64)), .second, .val (.int (0 : Int32)), .val (.int (2 : Int32))]) (st' := [(.ref a)]) (by decide +kernel) rfl ?_
    refine XcAL.getf 122 (hw _ (List.mem_of_getElem? (i := 13) rfl)) u2_2 (by decide +kernel) ?_
    intro TqAP1 XqAP1
    refine XqAP1.blk hK (L := [(.iload 6, 2, 0, 0), (.aload_n 0, 1, 0, 0)]) (pc' := 125) (ls' := #[.val (.ref a), .val (.long pp), .second, .val (.long (0 : Int64)), .second, .val (.int (0 : Int32)), .val (.int (2 : Int32))]) (st' := [(.ref a), (.int (2 : Int32)), (.ref ap)]) (by decide +kernel) rfl ?_
    refine XqAP1.getf 128 (hw _ (List.mem_of_getElem? (i := 13) rfl)) u2_2 (by decide +kernel) ?_
    intro TqAP2 XqAP2
    refine XqAP2.blk hK (L := [(.iload 6, 2, 0, 0), (.iconst 1, 1, 1, 0), (.iadd, 1, 0, 0), (.aload_n 0, 1, 0, 0)]) (pc' := 133) (ls' := #[.val (.ref a), .val (.long pp), .second, .val (.long (0 : Int64)), .second, .val (.int (0 : Int32)), .val (.int (2 : Int32))]) (st' := [(.ref a), (.int (3 : Int32)), (.ref ap), (.int (2 : Int32)), (.ref ap)]) (by decide +kernel) rfl ?_
    refine XqAP2.getf 136 (hw _ (List.mem_of_getElem? (i := 23) rfl)) u2_4 (by decide +kernel) ?_
    intro TqAP3 XqAP3
    refine XqAP3.blk hK (L := [(.iload 6, 2, 0, 0), (.isub, 1, 0, 0)]) (pc' := 139) (ls' := #[.val (.ref a), .val (.long pp), .second, .val (.long (0 : Int64)), .second, .val (.int (0 : Int32)), .val (.int (2 : Int32))]) (st' := [(.int (0 : Int32)), (.int (3 : Int32)), (.ref ap), (.int (2 : Int32)), (.ref ap)]) (by decide +kernel) rfl ?_
    refine XqAP3.acopy 142 0 (.long 0) u2_7 u2_7 rfl (hw _ (List.mem_of_getElem? (i := 30) rfl)) (hw _ (List.mem_of_getElem? (i := 33) rfl)) (hw _ (List.mem_of_getElem? (i := 31) rfl)) (hw _ (List.mem_of_getElem? (i := 32) rfl)) (by decide) (by decide) (by decide) (Nat.le_of_ble_eq_true rfl) (Nat.le_of_ble_eq_true rfl) (n3) rfl rfl (by decide +kernel) (by decide) ?_
    intro TcAP hcAP XcAP KcAP BAP
    replace BAP : AV Z hcAP ap .long [.long 0, .long 0, .long 0, .long 0] := BAP
    have u2_9 := u2_1.keep KcAP (ninS d2 nin0)
    have u2_10 := u2_2.keep KcAP (ninS d2 nin0)
    have u2_11 := u2_3.keep KcAP (ninS d2 nin0)
    have u2_12 := u2_4.keep KcAP (ninS d2 nin0)
    have u2_13 := u2_5.keep KcAP (ninS d2 nin0)
    have u2_14 := u2_6.keep KcAP
    have u2_15 := BAL.keep KcAP (ninS f1 nin0)
    have u2_16 := u2_8.keep KcAP (ninS f3.symm nin0)
    refine XcAP.blk hK (L := [(.aload_n 0, 1, 0, 0)]) (pc' := 143) (ls' := #[.val (.ref a), .val (.long pp), .second, .val (.long (0 : Int64)), .second, .val (.int (0 : Int32)), .val (.int (2 : Int32))]) (st' := [(.ref a)]) (by decide +kernel) rfl ?_
    refine XcAP.getf 146 (hw _ (List.mem_of_getElem? (i := 16) rfl)) u2_11 (by decide +kernel) ?_
    intro TqAN1 XqAN1
    refine XqAN1.blk hK (L := [(.iload 6, 2, 0, 0), (.aload_n 0, 1, 0, 0)]) (pc' := 149) (ls' := #[.val (.ref a), .val (.long pp), .second, .val (.long (0 : Int64)), .second, .val (.int (0 : Int32)), .val (.int (2 : Int32))]) (st' := [(.ref a), (.int (2 : Int32)), (.ref ai)]) (by decide +kernel) rfl ?_
    refine XqAN1.getf 152 (hw _ (List.mem_of_getElem? (i := 16) rfl)) u2_11 (by decide +kernel) ?_
    intro TqAN2 XqAN2
    refine XqAN2.blk hK (L := [(.iload 6, 2, 0, 0), (.iconst 1, 1, 1, 0), (.iadd, 1, 0, 0), (.aload_n 0, 1, 0, 0)]) (pc' := 157) (ls' := #[.val (.ref a), .val (.long pp), .second, .val (.long (0 : Int64)), .second, .val (.int (0 : Int32)), .val (.int (2 : Int32))]) (st' := [(.ref a), (.int (3 : Int32)), (.ref ai), (.int (2 : Int32)), (.ref ai)]) (by decide +kernel) rfl ?_
    refine XqAN2.getf 160 (hw _ (List.mem_of_getElem? (i := 23) rfl)) u2_12 (by decide +kernel) ?_
    intro TqAN3 XqAN3
    refine XqAN3.blk hK (L := [(.iload 6, 2, 0, 0), (.isub, 1, 0, 0)]) (pc' := 163) (ls' := #[.val (.ref a), .val (.long pp), .second, .val (.long (0 : Int64)), .second, .val (.int (0 : Int32)), .val (.int (2 : Int32))]) (st' := [(.int (0 : Int32)), (.int (3 : Int32)), (.ref ai), (.int (2 : Int32)), (.ref ai)]) (by decide +kernel) rfl ?_
    refine XqAN3.acopy 166 0 (.int 0) u2_16 u2_16 rfl (hw _ (List.mem_of_getElem? (i := 30) rfl)) (hw _ (List.mem_of_getElem? (i := 33) rfl)) (hw _ (List.mem_of_getElem? (i := 31) rfl)) (hw _ (List.mem_of_getElem? (i := 32) rfl)) (by decide) (by decide) (by decide) (Nat.le_of_ble_eq_true rfl) (Nat.le_of_ble_eq_true rfl) (n4) rfl rfl (by decide +kernel) (by decide) ?_
    intro TcAN hcAN XcAN KcAN BAN
    replace BAN : AV Z hcAN ai .int [.int 0, .int 0, .int 0, .int 0] := BAN
    have u2_17 := u2_9.keep KcAN (ninS d3 nin0)
    have u2_18 := u2_10.keep KcAN (ninS d3 nin0)
    have u2_19 := u2_11.keep KcAN (ninS d3 nin0)
    have u2_20 := u2_12.keep KcAN (ninS d3 nin0)
    have u2_21 := u2_13.keep KcAN (ninS d3 nin0)
    have u2_22 := u2_14.keep KcAN
    have u2_23 := u2_15.keep KcAN (ninS f2 nin0)
    have u2_24 := BAP.keep KcAN (ninS f3 nin0)
    refine XcAN.blk hK (L := [(.aload_n 0, 1, 0, 0)]) (pc' := 167) (ls' := #[.val (.ref a), .val (.long pp), .second, .val (.long (0 : Int64)), .second, .val (.int (0 : Int32)), .val (.int (2 : Int32))]) (st' := [(.ref a)]) (by decide +kernel) rfl ?_
    refine XcAN.getf 170 (hw _ (List.mem_of_getElem? (i := 11) rfl)) u2_17 (by decide +kernel) ?_
    intro TrAL XrAL
    refine XrAL.blk hK (L := [(.iload 6, 2, 0, 0), (.lload_n 1, 1, 0, 0)]) (pc' := 173) (ls' := #[.val (.ref a), .val (.long pp), .second, .val (.long (0 : Int64)), .second, .val (.int (0 : Int32)), .val (.int (2 : Int32))]) (st' := [(.long pp), (.int (2 : Int32)), (.ref al)]) (by decide +kernel) rfl ?_
    refine XrAL.lastore 174 u2_23 (by decide +kernel) (by decide) (Nat.le_of_ble_eq_true rfl) (n2) ?_
    intro TsAL hsAL XsAL WsAL DAL
    replace DAL : AV Z hsAL al .long [.long x0, .long x1, .long pp, .long x3] := DAL
    have u2_25 := u2_17.other WsAL (Or.inl d1)
    have u2_26 := u2_18.other WsAL (Or.inl d1)
    have u2_27 := u2_19.other WsAL (Or.inl d1)
    have u2_28 := u2_20.other WsAL (Or.inl d1)
    have u2_29 := u2_21.other WsAL (Or.inl d1)
    have u2_30 := u2_22.wr WsAL
    have u2_31 := u2_24.other WsAL f1.symm
    have u2_32 := BAN.other WsAL f2.symm
    refine XsAL.blk hK (L := [(.aload_n 0, 1, 0, 0)]) (pc' := 175) (ls' := #[.val (.ref a), .val (.long pp), .second, .val (.long (0 : Int64)), .second, .val (.int (0 : Int32)), .val (.int (2 : Int32))]) (st' := [(.ref a)]) (by decide +kernel) rfl ?_
    refine XsAL.getf 178 (hw _ (List.mem_of_getElem? (i := 13) rfl)) u2_26 (by decide +kernel) ?_
    intro TrAP XrAP
    refine XrAP.blk hK (L := [(.iload 6, 2, 0, 0), (.lload_n 3, 1, 0, 0)]) (pc' := 181) (ls' := #[.val (.ref a), .val (.long pp), .second, .val (.long (0 : Int64)), .second, .val (.int (0 : Int32)), .val (.int (2 : Int32))]) (st' := [(.long (0 : Int64)), (.int (2 : Int32)), (.ref ap)]) (by decide +kernel) rfl ?_
    refine XrAP.lastore 182 u2_31 (by decide +kernel) (by decide) (Nat.le_of_ble_eq_true rfl) (n3) ?_
    intro TsAP hsAP XsAP WsAP DAP
    replace DAP : AV Z hsAP ap .long [.long 0, .long 0, .long 0, .long 0] := DAP
    have u2_33 := u2_25.other WsAP (Or.inl d2)
    have u2_34 := u2_26.other WsAP (Or.inl d2)
    have u2_35 := u2_27.other WsAP (Or.inl d2)
    have u2_36 := u2_28.other WsAP (Or.inl d2)
    have u2_37 := u2_29.other WsAP (Or.inl d2)
    have u2_38 := u2_30.wr WsAP
    have u2_39 := DAL.other WsAP f1
    have u2_40 := u2_32.other WsAP f3.symm
    refine XsAP.blk hK (L := [(.aload_n 0, 1, 0, 0)]) (pc' := 183) (ls' := #[.val (.ref a), .val (.long pp), .second, .val (.long (0 : Int64)), .second, .val (.int (0 : Int32)), .val (.int (2 : Int32))]) (st' := [(.ref a)]) (by decide +kernel) rfl ?_
    refine XsAP.getf 186 (hw _ (List.mem_of_getElem? (i := 16) rfl)) u2_35 (by decide +kernel) ?_
    intro TrAN XrAN
    refine XrAN.blk hK (L := [(.iload 6, 2, 0, 0), (.iload 5, 2, 0, 0)]) (pc' := 190) (ls' := #[.val (.ref a), .val (.long pp), .second, .val (.long (0 : Int64)), .second, .val (.int (0 : Int32)), .val (.int (2 : Int32))]) (st' := [(.int (0 : Int32)), (.int (2 : Int32)), (.ref ai)]) (by decide +kernel) rfl ?_
    refine XrAN.iastore 191 u2_40 (by decide +kernel) (by decide) (Nat.le_of_ble_eq_true rfl) (n4) ?_
    intro TsAN hsAN XsAN WsAN DAN
    replace DAN : AV Z hsAN ai .int [.int 0, .int 0, .int 0, .int 0] := DAN
    have u2_41 := u2_33.other WsAN (Or.inl d3)
    have u2_42 := u2_34.other WsAN (Or.inl d3)
    have u2_43 := u2_35.other WsAN (Or.inl d3)
    have u2_44 := u2_36.other WsAN (Or.inl d3)
    have u2_45 := u2_37.other WsAN (Or.inl d3)
    have u2_46 := u2_38.wr WsAN
    have u2_47 := u2_39.other WsAN f2
    have u2_48 := DAP.other WsAN f3
    refine XsAN.blk hK (L := [(.aload_n 0, 1, 0, 0), (.dup, 1, 0, 0)]) (pc' := 193) (ls' := #[.val (.ref a), .val (.long pp), .second, .val (.long (0 : Int64)), .second, .val (.int (0 : Int32)), .val (.int (2 : Int32))]) (st' := [(.ref a), (.ref a)]) (by decide +kernel) rfl ?_
    refine XsAN.getf 196 (hw _ (List.mem_of_getElem? (i := 23) rfl)) u2_44 (by decide +kernel) ?_
    intro TtFZ XtFZ
    refine XtFZ.blk hK (L := [(.iconst 1, 1, 1, 0), (.iadd, 1, 0, 0)]) (pc' := 198) (ls' := #[.val (.ref a), .val (.long pp), .second, .val (.long (0 : Int64)), .second, .val (.int (0 : Int32)), .val (.int (2 : Int32))]) (st' := [(.int (3 : Int32)), (.ref a)]) (by decide +kernel) rfl ?_
    refine XtFZ.putf 201 (hw _ (List.mem_of_getElem? (i := 23) rfl)) u2_44 u2_46 (Or.inl (hw _ (List.mem_of_getElem? (i := 24) rfl))) (hw _ (List.mem_of_getElem? (i := 2) rfl)) (ty := .int) (by decide) rfl (rfl) (n1) (by decide +kernel) ?_
    intro TvFZ hvFZ XvFZ WvFZ
    have u2_49 := u2_41.other WvFZ (Or.inr (slot_ne (t := .array .long) (t' := .int) (Or.inl (hw _ (List.mem_of_getElem? (i := 12) rfl))) (Or.inl (hw _ (List.mem_of_getElem? (i := 24) rfl))) (by decide) (by decide) (by decide)))
    have u2_50 := u2_42.other WvFZ (Or.inr (slot_ne (t := .array .long) (t' := .int) (Or.inl (hw _ (List.mem_of_getElem? (i := 14) rfl))) (Or.inl (hw _ (List.mem_of_getElem? (i := 24) rfl))) (by decide) (by decide) (by decide)))
    have u2_51 := u2_43.other WvFZ (Or.inr (slot_ne (t := .array .int) (t' := .int) (Or.inl (hw _ (List.mem_of_getElem? (i := 17) rfl))) (Or.inl (hw _ (List.mem_of_getElem? (i := 24) rfl))) (by decide) (by decide) (by decide)))
    have u2_52 := u2_45.other WvFZ (Or.inr (slot_ne (t := .long) (t' := .int) (Or.inl (hw _ (List.mem_of_getElem? (i := 35) rfl))) (Or.inl (hw _ (List.mem_of_getElem? (i := 24) rfl))) (by decide) (by decide) (by decide)))
    have u2_53 := u2_46.wr WvFZ
    have u2_54 := u2_47.other WvFZ d1.symm
    have u2_55 := u2_48.other WvFZ d2.symm
    have u2_56 := DAN.other WvFZ d3.symm
    have NFZ := u2_44.same WvFZ
    refine XvFZ.blk hK (L := [(.aload_n 0, 1, 0, 0), (.dup, 1, 0, 0)]) (pc' := 203) (ls' := #[.val (.ref a), .val (.long pp), .second, .val (.long (0 : Int64)), .second, .val (.int (0 : Int32)), .val (.int (2 : Int32))]) (st' := [(.ref a), (.ref a)]) (by decide +kernel) rfl ?_
    refine XvFZ.getf 206 (hw _ (List.mem_of_getElem? (i := 34) rfl)) u2_52 (by decide +kernel) ?_
    intro TtFB XtFB
    refine XtFB.blk hK (L := [(.iload 5, 2, 0, 0), (.i2l, 1, 0, 0), (.ladd, 1, 0, 0)]) (pc' := 210) (ls' := #[.val (.ref a), .val (.long pp), .second, .val (.long (0 : Int64)), .second, .val (.int (0 : Int32)), .val (.int (2 : Int32))]) (st' := [(.long (bb + ((0 : Int32).toInt64))), (.ref a)]) (by decide +kernel) rfl ?_
    refine XtFB.putf 213 (hw _ (List.mem_of_getElem? (i := 34) rfl)) u2_52 u2_53 (Or.inl (hw _ (List.mem_of_getElem? (i := 35) rfl))) (hw _ (List.mem_of_getElem? (i := 2) rfl)) (ty := .long) (by decide) rfl (rfl) (n1) (by decide +kernel) ?_
    intro TvFB hvFB XvFB WvFB
    have u2_57 := u2_49.other WvFB (Or.inr (slot_ne (t := .array .long) (t' := .long) (Or.inl (hw _ (List.mem_of_getElem? (i := 12) rfl))) (Or.inl (hw _ (List.mem_of_getElem? (i := 35) rfl))) (by decide) (by decide) (by decide)))
    have u2_58 := u2_50.other WvFB (Or.inr (slot_ne (t := .array .long) (t' := .long) (Or.inl (hw _ (List.mem_of_getElem? (i := 14) rfl))) (Or.inl (hw _ (List.mem_of_getElem? (i := 35) rfl))) (by decide) (by decide) (by decide)))
    have u2_59 := u2_51.other WvFB (Or.inr (slot_ne (t := .array .int) (t' := .long) (Or.inl (hw _ (List.mem_of_getElem? (i := 17) rfl))) (Or.inl (hw _ (List.mem_of_getElem? (i := 35) rfl))) (by decide) (by decide) (by decide)))
    have u2_60 := NFZ.other WvFB (Or.inr (slot_ne (t := .int) (t' := .long) (Or.inl (hw _ (List.mem_of_getElem? (i := 24) rfl))) (Or.inl (hw _ (List.mem_of_getElem? (i := 35) rfl))) (by decide) (by decide) (by decide)))
    have u2_61 := u2_53.wr WvFB
    have u2_62 := u2_54.other WvFB d1.symm
    have u2_63 := u2_55.other WvFB d2.symm
    have u2_64 := u2_56.other WvFB d3.symm
    have NFB := u2_52.same WvFB
    exact XvFB.retV (by decide +kernel) (by decide) (by decide) (⟨rfl, x0, x1, pp, x3, _, ⟨⟨u2_57, u2_58, u2_59, u2_60, NFB, u2_61⟩, ⟨u2_62, u2_63, u2_64⟩, ⟨n1, n2, n3, n4⟩, ⟨d1, d2, d3⟩, ⟨f1, f2, f3⟩⟩, by simp only [srt, and_true] <;> omega, fun q => by first | (simp only [cnt, List.foldl]; done) | (simp only [cnt, List.foldl]; ac_rfl)⟩)
  · have o1 := own_lt g1
    refine Xl1.blk hK (L := [(.iinc 6 (-1), 3, -1, 0), (.goto (-22), 3, 0, 69)]) (pc' := 69) (ls' := #[.val (.ref a), .val (.long pp), .second, .val (.long (0 : Int64)), .second, .val (.int (0 : Int32)), .val (.int (1 : Int32))]) (st' := []) (by decide +kernel) rfl ?_
    refine Xl1.blk hK (L := [(.iload 6, 2, 0, 0)]) (pc' := 71) (ls' := #[.val (.ref a), .val (.long pp), .second, .val (.long (0 : Int64)), .second, .val (.int (0 : Int32)), .val (.int (1 : Int32))]) (st' := [(.int (1 : Int32))]) (by decide +kernel) rfl ?_
    refine Xl1.ifc .le (23) 94 74 (by decide +kernel) (fun (c71 : ¬ (0 : Int32) < (1 : Int32)) => absurd (by decide : (0 : Int32) < (1 : Int32)) c71) (fun (c71 : (0 : Int32) < (1 : Int32)) => ?_)
    refine Xl1.blk hK (L := [(.aload_n 0, 1, 0, 0)]) (pc' := 75) (ls' := #[.val (.ref a), .val (.long pp), .second, .val (.long (0 : Int64)), .second, .val (.int (0 : Int32)), .val (.int (1 : Int32))]) (st' := [(.ref a)]) (by decide +kernel) rfl ?_
    refine Xl1.getf 78 (hw _ (List.mem_of_getElem? (i := 11) rfl)) FL (by decide +kernel) ?_
    intro Tl2 Xl2
    refine Xl2.blk hK (L := [(.iload 6, 2, 0, 0), (.iconst 1, 1, 1, 0), (.isub, 1, 0, 0)]) (pc' := 82) (ls' := #[.val (.ref a), .val (.long pp), .second, .val (.long (0 : Int64)), .second, .val (.int (0 : Int32)), .val (.int (1 : Int32))]) (st' := [(.int (0 : Int32)), (.ref al)]) (by decide +kernel) rfl ?_
    refine Xl2.laload 83 AL (by decide +kernel) (by decide) (rfl) ?_
    refine Xl2.blk hK (L := [(.lload_n 1, 1, 0, 0)]) (pc' := 84) (ls' := #[.val (.ref a), .val (.long pp), .second, .val (.long (0 : Int64)), .second, .val (.int (0 : Int32)), .val (.int (1 : Int32))]) (st' := [(.long pp), (.long x0)]) (by decide +kernel) rfl ?_
    refine Xl2.lcmp .le (9) 94 88 (by decide +kernel) (fun (g2 : ¬ pp < x0) => ?_) (fun (g2 : pp < x0) => ?_)
    · have o2 := own_ge g2
      refine Xl2.blk hK (L := [(.aload_n 0, 1, 0, 0)]) (pc' := 95) (ls' := #[.val (.ref a), .val (.long pp), .second, .val (.long (0 : Int64)), .second, .val (.int (0 : Int32)), .val (.int (1 : Int32))]) (st' := [(.ref a)]) (by decide +kernel) rfl ?_
      refine Xl2.getf 98 (hw _ (List.mem_of_getElem? (i := 11) rfl)) FL (by decide +kernel) ?_
      intro TqAL1 XqAL1
      refine XqAL1.blk hK (L := [(.iload 6, 2, 0, 0), (.aload_n 0, 1, 0, 0)]) (pc' := 101) (ls' := #[.val (.ref a), .val (.long pp), .second, .val (.long (0 : Int64)), .second, .val (.int (0 : Int32)), .val (.int (1 : Int32))]) (st' := [(.ref a), (.int (1 : Int32)), (.ref al)]) (by decide +kernel) rfl ?_
      refine XqAL1.getf 104 (hw _ (List.mem_of_getElem? (i := 11) rfl)) FL (by decide +kernel) ?_
      intro TqAL2 XqAL2
      refine XqAL2.blk hK (L := [(.iload 6, 2, 0, 0), (.iconst 1, 1, 1, 0), (.iadd, 1, 0, 0), (.aload_n 0, 1, 0, 0)]) (pc' := 109) (ls' := #[.val (.ref a), .val (.long pp), .second, .val (.long (0 : Int64)), .second, .val (.int (0 : Int32)), .val (.int (1 : Int32))]) (st' := [(.ref a), (.int (2 : Int32)), (.ref al), (.int (1 : Int32)), (.ref al)]) (by decide +kernel) rfl ?_
      refine XqAL2.getf 112 (hw _ (List.mem_of_getElem? (i := 23) rfl)) FZ (by decide +kernel) ?_
      intro TqAL3 XqAL3
      refine XqAL3.blk hK (L := [(.iload 6, 2, 0, 0), (.isub, 1, 0, 0)]) (pc' := 115) (ls' := #[.val (.ref a), .val (.long pp), .second, .val (.long (0 : Int64)), .second, .val (.int (0 : Int32)), .val (.int (1 : Int32))]) (st' := [(.int (1 : Int32)), (.int (2 : Int32)), (.ref al), (.int (1 : Int32)), (.ref al)]) (by decide +kernel) rfl ?_
      refine XqAL3.acopy 118 0 (.long 0) AL AL rfl (hw _ (List.mem_of_getElem? (i := 30) rfl)) (hw _ (List.mem_of_getElem? (i := 33) rfl)) (hw _ (List.mem_of_getElem? (i := 31) rfl)) (hw _ (List.mem_of_getElem? (i := 32) rfl)) (by decide) (by decide) (by decide) (Nat.le_of_ble_eq_true rfl) (Nat.le_of_ble_eq_true rfl) (n2) rfl rfl (by decide +kernel) (by decide) ?_
      intro TcAL hcAL XcAL KcAL BAL
      replace BAL : AV Z hcAL al .long [.long x0, .long x1, .long x1, .long x3] := BAL
      have u1_1 := FL.keep KcAL (ninS d1 nin0)
      have u1_2 := FP.keep KcAL (ninS d1 nin0)
      have u1_3 := FN.keep KcAL (ninS d1 nin0)
      have u1_4 := FZ.keep KcAL (ninS d1 nin0)
      have u1_5 := FB.keep KcAL (ninS d1 nin0)
      have u1_6 := EX.keep KcAL
      have u1_7 := AP.keep KcAL (ninS f1.symm nin0)
      have u1_8 := AN.keep KcAL (ninS f2.symm nin0)
      refine XcAL.blk hK (L := [(.aload_n 0, 1, 0, 0)]) (pc' := 119) (ls' := #[.val (.ref a), .val (.long pp), .second, .val (.long (0 : Int64)), .second, .val (.int (0 : Int32)), .val (.int (1 : Int32))]) (st' := [(.ref a)]) (by decide +kernel) rfl ?_
      refine XcAL.getf 122 (hw _ (List.mem_of_getElem? (i := 13) rfl)) u1_2 (by decide +kernel) ?_
      intro TqAP1 XqAP1
      refine XqAP1.blk hK (L := [(.iload 6, 2, 0, 0), (.aload_n 0, 1, 0, 0)]) (pc' := 125) (ls' := #[.val (.ref a), .val (.long pp), .second, .val (.long (0 : Int64)), .second, .val (.int (0 : Int32)), .val (.int (1 : Int32))]) (st' := [(.ref a), (.int (1 : Int32)), (.ref ap)]) (by decide +kernel) rfl ?_
      refine XqAP1.getf 128 (hw _ (List.mem_of_getElem? (i := 13) rfl)) u1_2 (by decide +kernel) ?_
      intro TqAP2 XqAP2
      refine XqAP2.blk hK (L := [(.iload 6, 2, 0, 0), (.iconst 1, 1, 1, 0), (.iadd, 1, 0, 0), (.aload_n 0, 1, 0, 0)]) (pc' := 133) (ls' := #[.val (.ref a), .val (.long pp), .second, .val (.long (0 : Int64)), .second, .val (.int (0 : Int32)), .val (.int (1 : Int32))]) (st' := [(.ref a), (.int (2 : Int32)), (.ref ap), (.int (1 : Int32)), (.ref ap)]) (by decide +kernel) rfl ?_
      refine XqAP2.getf 136 (hw _ (List.mem_of_getElem? (i := 23) rfl)) u1_4 (by decide +kernel) ?_
      intro TqAP3 XqAP3
      refine XqAP3.blk hK (L := [(.iload 6, 2, 0, 0), (.isub, 1, 0, 0)]) (pc' := 139) (ls' := #[.val (.ref a), .val (.long pp), .second, .val (.long (0 : Int64)), .second, .val (.int (0 : Int32)), .val (.int (1 : Int32))]) (st' := [(.int (1 : Int32)), (.int (2 : Int32)), (.ref ap), (.int (1 : Int32)), (.ref ap)]) (by decide +kernel) rfl ?_
      refine XqAP3.acopy 142 0 (.long 0) u1_7 u1_7 rfl (hw _ (List.mem_of_getElem? (i := 30) rfl)) (hw _ (List.mem_of_getElem? (i := 33) rfl)) (hw _ (List.mem_of_getElem? (i := 31) rfl)) (hw _ (List.mem_of_getElem? (i := 32) rfl)) (by decide) (by decide) (by decide) (Nat.le_of_ble_eq_true rfl) (Nat.le_of_ble_eq_true rfl) (n3) rfl rfl (by decide +kernel) (by decide) ?_
      intro TcAP hcAP XcAP KcAP BAP
      replace BAP : AV Z hcAP ap .long [.long 0, .long 0, .long 0, .long 0] := BAP
      have u1_9 := u1_1.keep KcAP (ninS d2 nin0)
      have u1_10 := u1_2.keep KcAP (ninS d2 nin0)
      have u1_11 := u1_3.keep KcAP (ninS d2 nin0)
      have u1_12 := u1_4.keep KcAP (ninS d2 nin0)
      have u1_13 := u1_5.keep KcAP (ninS d2 nin0)
      have u1_14 := u1_6.keep KcAP
      have u1_15 := BAL.keep KcAP (ninS f1 nin0)
      have u1_16 := u1_8.keep KcAP (ninS f3.symm nin0)
      refine XcAP.blk hK (L := [(.aload_n 0, 1, 0, 0)]) (pc' := 143) (ls' := #[.val (.ref a), .val (.long pp), .second, .val (.long (0 : Int64)), .second, .val (.int (0 : Int32)), .val (.int (1 : Int32))]) (st' := [(.ref a)]) (by decide +kernel) rfl ?_
      refine XcAP.getf 146 (hw _ (List.mem_of_getElem? (i := 16) rfl)) u1_11 (by decide +kernel) ?_
      intro TqAN1 XqAN1
      refine XqAN1.blk hK (L := [(.iload 6, 2, 0, 0), (.aload_n 0, 1, 0, 0)]) (pc' := 149) (ls' := #[.val (.ref a), .val (.long pp), .second, .val (.long (0 : Int64)), .second, .val (.int (0 : Int32)), .val (.int (1 : Int32))]) (st' := [(.ref a), (.int (1 : Int32)), (.ref ai)]) (by decide +kernel) rfl ?_
      refine XqAN1.getf 152 (hw _ (List.mem_of_getElem? (i := 16) rfl)) u1_11 (by decide +kernel) ?_
      intro TqAN2 XqAN2
      refine XqAN2.blk hK (L := [(.iload 6, 2, 0, 0), (.iconst 1, 1, 1, 0), (.iadd, 1, 0, 0), (.aload_n 0, 1, 0, 0)]) (pc' := 157) (ls' := #[.val (.ref a), .val (.long pp), .second, .val (.long (0 : Int64)), .second, .val (.int (0 : Int32)), .val (.int (1 : Int32))]) (st' := [(.ref a), (.int (2 : Int32)), (.ref ai), (.int (1 : Int32)), (.ref ai)]) (by decide +kernel) rfl ?_
      refine XqAN2.getf 160 (hw _ (List.mem_of_getElem? (i := 23) rfl)) u1_12 (by decide +kernel) ?_
      intro TqAN3 XqAN3
      refine XqAN3.blk hK (L := [(.iload 6, 2, 0, 0), (.isub, 1, 0, 0)]) (pc' := 163) (ls' := #[.val (.ref a), .val (.long pp), .second, .val (.long (0 : Int64)), .second, .val (.int (0 : Int32)), .val (.int (1 : Int32))]) (st' := [(.int (1 : Int32)), (.int (2 : Int32)), (.ref ai), (.int (1 : Int32)), (.ref ai)]) (by decide +kernel) rfl ?_
      refine XqAN3.acopy 166 0 (.int 0) u1_16 u1_16 rfl (hw _ (List.mem_of_getElem? (i := 30) rfl)) (hw _ (List.mem_of_getElem? (i := 33) rfl)) (hw _ (List.mem_of_getElem? (i := 31) rfl)) (hw _ (List.mem_of_getElem? (i := 32) rfl)) (by decide) (by decide) (by decide) (Nat.le_of_ble_eq_true rfl) (Nat.le_of_ble_eq_true rfl) (n4) rfl rfl (by decide +kernel) (by decide) ?_
      intro TcAN hcAN XcAN KcAN BAN
      replace BAN : AV Z hcAN ai .int [.int 0, .int 0, .int 0, .int 0] := BAN
      have u1_17 := u1_9.keep KcAN (ninS d3 nin0)
      have u1_18 := u1_10.keep KcAN (ninS d3 nin0)
      have u1_19 := u1_11.keep KcAN (ninS d3 nin0)
      have u1_20 := u1_12.keep KcAN (ninS d3 nin0)
      have u1_21 := u1_13.keep KcAN (ninS d3 nin0)
      have u1_22 := u1_14.keep KcAN
      have u1_23 := u1_15.keep KcAN (ninS f2 nin0)
      have u1_24 := BAP.keep KcAN (ninS f3 nin0)
      refine XcAN.blk hK (L := [(.aload_n 0, 1, 0, 0)]) (pc' := 167) (ls' := #[.val (.ref a), .val (.long pp), .second, .val (.long (0 : Int64)), .second, .val (.int (0 : Int32)), .val (.int (1 : Int32))]) (st' := [(.ref a)]) (by decide +kernel) rfl ?_
      refine XcAN.getf 170 (hw _ (List.mem_of_getElem? (i := 11) rfl)) u1_17 (by decide +kernel) ?_
      intro TrAL XrAL
      refine XrAL.blk hK (L := [(.iload 6, 2, 0, 0), (.lload_n 1, 1, 0, 0)]) (pc' := 173) (ls' := #[.val (.ref a), .val (.long pp), .second, .val (.long (0 : Int64)), .second, .val (.int (0 : Int32)), .val (.int (1 : Int32))]) (st' := [(.long pp), (.int (1 : Int32)), (.ref al)]) (by decide +kernel) rfl ?_
      refine XrAL.lastore 174 u1_23 (by decide +kernel) (by decide) (Nat.le_of_ble_eq_true rfl) (n2) ?_
      intro TsAL hsAL XsAL WsAL DAL
      replace DAL : AV Z hsAL al .long [.long x0, .long pp, .long x1, .long x3] := DAL
      have u1_25 := u1_17.other WsAL (Or.inl d1)
      have u1_26 := u1_18.other WsAL (Or.inl d1)
      have u1_27 := u1_19.other WsAL (Or.inl d1)
      have u1_28 := u1_20.other WsAL (Or.inl d1)
      have u1_29 := u1_21.other WsAL (Or.inl d1)
      have u1_30 := u1_22.wr WsAL
      have u1_31 := u1_24.other WsAL f1.symm
      have u1_32 := BAN.other WsAL f2.symm
      refine XsAL.blk hK (L := [(.aload_n 0, 1, 0, 0)]) (pc' := 175) (ls' := #[.val (.ref a), .val (.long pp), .second, .val (.long (0 : Int64)), .second, .val (.int (0 : Int32)), .val (.int (1 : Int32))]) (st' := [(.ref a)]) (by decide +kernel) rfl ?_
      refine XsAL.getf 178 (hw _ (List.mem_of_getElem? (i := 13) rfl)) u1_26 (by decide +kernel) ?_
      intro TrAP XrAP
      refine XrAP.blk hK (L := [(.iload 6, 2, 0, 0), (.lload_n 3, 1, 0, 0)]) (pc' := 181) (ls' := #[.val (.ref a), .val (.long pp), .second, .val (.long (0 : Int64)), .second, .val (.int (0 : Int32)), .val (.int (1 : Int32))]) (st' := [(.long (0 : Int64)), (.int (1 : Int32)), (.ref ap)]) (by decide +kernel) rfl ?_
      refine XrAP.lastore 182 u1_31 (by decide +kernel) (by decide) (Nat.le_of_ble_eq_true rfl) (n3) ?_
      intro TsAP hsAP XsAP WsAP DAP
      replace DAP : AV Z hsAP ap .long [.long 0, .long 0, .long 0, .long 0] := DAP
      have u1_33 := u1_25.other WsAP (Or.inl d2)
      have u1_34 := u1_26.other WsAP (Or.inl d2)
      have u1_35 := u1_27.other WsAP (Or.inl d2)
      have u1_36 := u1_28.other WsAP (Or.inl d2)
      have u1_37 := u1_29.other WsAP (Or.inl d2)
      have u1_38 := u1_30.wr WsAP
      have u1_39 := DAL.other WsAP f1
      have u1_40 := u1_32.other WsAP f3.symm
      refine XsAP.blk hK (L := [(.aload_n 0, 1, 0, 0)]) (pc' := 183) (ls' := #[.val (.ref a), .val (.long pp), .second, .val (.long (0 : Int64)), .second, .val (.int (0 : Int32)), .val (.int (1 : Int32))]) (st' := [(.ref a)]) (by decide +kernel) rfl ?_
      refine XsAP.getf 186 (hw _ (List.mem_of_getElem? (i := 16) rfl)) u1_35 (by decide +kernel) ?_
      intro TrAN XrAN
      refine XrAN.blk hK (L := [(.iload 6, 2, 0, 0), (.iload 5, 2, 0, 0)]) (pc' := 190) (ls' := #[.val (.ref a), .val (.long pp), .second, .val (.long (0 : Int64)), .second, .val (.int (0 : Int32)), .val (.int (1 : Int32))]) (st' := [(.int (0 : Int32)), (.int (1 : Int32)), (.ref ai)]) (by decide +kernel) rfl ?_
      refine XrAN.iastore 191 u1_40 (by decide +kernel) (by decide) (Nat.le_of_ble_eq_true rfl) (n4) ?_
      intro TsAN hsAN XsAN WsAN DAN
      replace DAN : AV Z hsAN ai .int [.int 0, .int 0, .int 0, .int 0] := DAN
      have u1_41 := u1_33.other WsAN (Or.inl d3)
      have u1_42 := u1_34.other WsAN (Or.inl d3)
      have u1_43 := u1_35.other WsAN (Or.inl d3)
      have u1_44 := u1_36.other WsAN (Or.inl d3)
      have u1_45 := u1_37.other WsAN (Or.inl d3)
      have u1_46 := u1_38.wr WsAN
      have u1_47 := u1_39.other WsAN f2
      have u1_48 := DAP.other WsAN f3
      refine XsAN.blk hK (L := [(.aload_n 0, 1, 0, 0), (.dup, 1, 0, 0)]) (pc' := 193) (ls' := #[.val (.ref a), .val (.long pp), .second, .val (.long (0 : Int64)), .second, .val (.int (0 : Int32)), .val (.int (1 : Int32))]) (st' := [(.ref a), (.ref a)]) (by decide +kernel) rfl ?_
      refine XsAN.getf 196 (hw _ (List.mem_of_getElem? (i := 23) rfl)) u1_44 (by decide +kernel) ?_
      intro TtFZ XtFZ
      refine XtFZ.blk hK (L := [(.iconst 1, 1, 1, 0), (.iadd, 1, 0, 0)]) (pc' := 198) (ls' := #[.val (.ref a), .val (.long pp), .second, .val (.long (0 : Int64)), .second, .val (.int (0 : Int32)), .val (.int (1 : Int32))]) (st' := [(.int (3 : Int32)), (.ref a)]) (by decide +kernel) rfl ?_
      refine XtFZ.putf 201 (hw _ (List.mem_of_getElem? (i := 23) rfl)) u1_44 u1_46 (Or.inl (hw _ (List.mem_of_getElem? (i := 24) rfl))) (hw _ (List.mem_of_getElem? (i := 2) rfl)) (ty := .int) (by decide) rfl (rfl) (n1) (by decide +kernel) ?_
      intro TvFZ hvFZ XvFZ WvFZ
      have u1_49 := u1_41.other WvFZ (Or.inr (slot_ne (t := .array .long) (t' := .int) (Or.inl (hw _ (List.mem_of_getElem? (i := 12) rfl))) (Or.inl (hw _ (List.mem_of_getElem? (i := 24) rfl))) (by decide) (by decide) (by decide)))
      have u1_50 := u1_42.other WvFZ (Or.inr (slot_ne (t := .array .long) (t' := .int) (Or.inl (hw _ (List.mem_of_getElem? (i := 14) rfl))) (Or.inl (hw _ (List.mem_of_getElem? (i := 24) rfl))) (by decide) (by decide) (by decide)))
      have u1_51 := u1_43.other WvFZ (Or.inr (slot_ne (t := .array .int) (t' := .int) (Or.inl (hw _ (List.mem_of_getElem? (i := 17) rfl))) (Or.inl (hw _ (List.mem_of_getElem? (i := 24) rfl))) (by decide) (by decide) (by decide)))
      have u1_52 := u1_45.other WvFZ (Or.inr (slot_ne (t := .long) (t' := .int) (Or.inl (hw _ (List.mem_of_getElem? (i := 35) rfl))) (Or.inl (hw _ (List.mem_of_getElem? (i := 24) rfl))) (by decide) (by decide) (by decide)))
      have u1_53 := u1_46.wr WvFZ
      have u1_54 := u1_47.other WvFZ d1.symm
      have u1_55 := u1_48.other WvFZ d2.symm
      have u1_56 := DAN.other WvFZ d3.symm
      have NFZ := u1_44.same WvFZ
      refine XvFZ.blk hK (L := [(.aload_n 0, 1, 0, 0), (.dup, 1, 0, 0)]) (pc' := 203) (ls' := #[.val (.ref a), .val (.long pp), .second, .val (.long (0 : Int64)), .second, .val (.int (0 : Int32)), .val (.int (1 : Int32))]) (st' := [(.ref a), (.ref a)]) (by decide +kernel) rfl ?_
      refine XvFZ.getf 206 (hw _ (List.mem_of_getElem? (i := 34) rfl)) u1_52 (by decide +kernel) ?_
      intro TtFB XtFB
      refine XtFB.blk hK (L := [(.iload 5, 2, 0, 0), (.i2l, 1, 0, 0), (.ladd, 1, 0, 0)]) (pc' := 210) (ls' := #[.val (.ref a), .val (.long pp), .second, .val (.long (0 : Int64)), .second, .val (.int (0 : Int32)), .val (.int (1 : Int32))]) (st' := [(.long (bb + ((0 : Int32).toInt64))), (.ref a)]) (by decide +kernel) rfl ?_
      refine XtFB.putf 213 (hw _ (List.mem_of_getElem? (i := 34) rfl)) u1_52 u1_53 (Or.inl (hw _ (List.mem_of_getElem? (i := 35) rfl))) (hw _ (List.mem_of_getElem? (i := 2) rfl)) (ty := .long) (by decide) rfl (rfl) (n1) (by decide +kernel) ?_
      intro TvFB hvFB XvFB WvFB
      have u1_57 := u1_49.other WvFB (Or.inr (slot_ne (t := .array .long) (t' := .long) (Or.inl (hw _ (List.mem_of_getElem? (i := 12) rfl))) (Or.inl (hw _ (List.mem_of_getElem? (i := 35) rfl))) (by decide) (by decide) (by decide)))
      have u1_58 := u1_50.other WvFB (Or.inr (slot_ne (t := .array .long) (t' := .long) (Or.inl (hw _ (List.mem_of_getElem? (i := 14) rfl))) (Or.inl (hw _ (List.mem_of_getElem? (i := 35) rfl))) (by decide) (by decide) (by decide)))
      have u1_59 := u1_51.other WvFB (Or.inr (slot_ne (t := .array .int) (t' := .long) (Or.inl (hw _ (List.mem_of_getElem? (i := 17) rfl))) (Or.inl (hw _ (List.mem_of_getElem? (i := 35) rfl))) (by decide) (by decide) (by decide)))
      have u1_60 := NFZ.other WvFB (Or.inr (slot_ne (t := .int) (t' := .long) (Or.inl (hw _ (List.mem_of_getElem? (i := 24) rfl))) (Or.inl (hw _ (List.mem_of_getElem? (i := 35) rfl))) (by decide) (by decide) (by decide)))
      have u1_61 := u1_53.wr WvFB
      have u1_62 := u1_54.other WvFB d1.symm
      have u1_63 := u1_55.other WvFB d2.symm
      have u1_64 := u1_56.other WvFB d3.symm
      have NFB := u1_52.same WvFB
      exact XvFB.retV (by decide +kernel) (by decide) (by decide) (⟨rfl, x0, pp, x1, x3, _, ⟨⟨u1_57, u1_58, u1_59, u1_60, NFB, u1_61⟩, ⟨u1_62, u1_63, u1_64⟩, ⟨n1, n2, n3, n4⟩, ⟨d1, d2, d3⟩, ⟨f1, f2, f3⟩⟩, by simp only [srt, and_true] <;> omega, fun q => by first | (simp only [cnt, List.foldl]; done) | (simp only [cnt, List.foldl]; ac_rfl)⟩)
    · have o2 := own_lt g2
      refine Xl2.blk hK (L := [(.iinc 6 (-1), 3, -1, 0), (.goto (-22), 3, 0, 69)]) (pc' := 69) (ls' := #[.val (.ref a), .val (.long pp), .second, .val (.long (0 : Int64)), .second, .val (.int (0 : Int32)), .val (.int (0 : Int32))]) (st' := []) (by decide +kernel) rfl ?_
      refine Xl2.blk hK (L := [(.iload 6, 2, 0, 0)]) (pc' := 71) (ls' := #[.val (.ref a), .val (.long pp), .second, .val (.long (0 : Int64)), .second, .val (.int (0 : Int32)), .val (.int (0 : Int32))]) (st' := [(.int (0 : Int32))]) (by decide +kernel) rfl ?_
      refine Xl2.ifc .le (23) 94 74 (by decide +kernel) (fun (c71 : ¬ (0 : Int32) < (0 : Int32)) => ?_) (fun (c71 : (0 : Int32) < (0 : Int32)) => absurd c71 (by decide : ¬ (0 : Int32) < (0 : Int32)))
      refine Xl2.blk hK (L := [(.aload_n 0, 1, 0, 0)]) (pc' := 95) (ls' := #[.val (.ref a), .val (.long pp), .second, .val (.long (0 : Int64)), .second, .val (.int (0 : Int32)), .val (.int (0 : Int32))]) (st' := [(.ref a)]) (by decide +kernel) rfl ?_
      refine Xl2.getf 98 (hw _ (List.mem_of_getElem? (i := 11) rfl)) FL (by decide +kernel) ?_
      intro TqAL1 XqAL1
      refine XqAL1.blk hK (L := [(.iload 6, 2, 0, 0), (.aload_n 0, 1, 0, 0)]) (pc' := 101) (ls' := #[.val (.ref a), .val (.long pp), .second, .val (.long (0 : Int64)), .second, .val (.int (0 : Int32)), .val (.int (0 : Int32))]) (st' := [(.ref a), (.int (0 : Int32)), (.ref al)]) (by decide +kernel) rfl ?_
      refine XqAL1.getf 104 (hw _ (List.mem_of_getElem? (i := 11) rfl)) FL (by decide +kernel) ?_
      intro TqAL2 XqAL2
      refine XqAL2.blk hK (L := [(.iload 6, 2, 0, 0), (.iconst 1, 1, 1, 0), (.iadd, 1, 0, 0), (.aload_n 0, 1, 0, 0)]) (pc' := 109) (ls' := #[.val (.ref a), .val (.long pp), .second, .val (.long (0 : Int64)), .second, .val (.int (0 : Int32)), .val (.int (0 : Int32))]) (st' := [(.ref a), (.int (1 : Int32)), (.ref al), (.int (0 : Int32)), (.ref al)]) (by decide +kernel) rfl ?_
      refine XqAL2.getf 112 (hw _ (List.mem_of_getElem? (i := 23) rfl)) FZ (by decide +kernel) ?_
      intro TqAL3 XqAL3
      refine XqAL3.blk hK (L := [(.iload 6, 2, 0, 0), (.isub, 1, 0, 0)]) (pc' := 115) (ls' := #[.val (.ref a), .val (.long pp), .second, .val (.long (0 : Int64)), .second, .val (.int (0 : Int32)), .val (.int (0 : Int32))]) (st' := [(.int (2 : Int32)), (.int (1 : Int32)), (.ref al), (.int (0 : Int32)), (.ref al)]) (by decide +kernel) rfl ?_
      refine XqAL3.acopy 118 0 (.long 0) AL AL rfl (hw _ (List.mem_of_getElem? (i := 30) rfl)) (hw _ (List.mem_of_getElem? (i := 33) rfl)) (hw _ (List.mem_of_getElem? (i := 31) rfl)) (hw _ (List.mem_of_getElem? (i := 32) rfl)) (by decide) (by decide) (by decide) (Nat.le_of_ble_eq_true rfl) (Nat.le_of_ble_eq_true rfl) (n2) rfl rfl (by decide +kernel) (by decide) ?_
      intro TcAL hcAL XcAL KcAL BAL
      replace BAL : AV Z hcAL al .long [.long x0, .long x0, .long x1, .long x3] := BAL
      have u0_1 := FL.keep KcAL (ninS d1 nin0)
      have u0_2 := FP.keep KcAL (ninS d1 nin0)
      have u0_3 := FN.keep KcAL (ninS d1 nin0)
      have u0_4 := FZ.keep KcAL (ninS d1 nin0)
      have u0_5 := FB.keep KcAL (ninS d1 nin0)
      have u0_6 := EX.keep KcAL
      have u0_7 := AP.keep KcAL (ninS f1.symm nin0)
      have u0_8 := AN.keep KcAL (ninS f2.symm nin0)
      refine XcAL.blk hK (L := [(.aload_n 0, 1, 0, 0)]) (pc' := 119) (ls' := #[.val (.ref a), .val (.long pp), .second, .val (.long (0 : Int64)), .second, .val (.int (0 : Int32)), .val (.int (0 : Int32))]) (st' := [(.ref a)]) (by decide +kernel) rfl ?_
      refine XcAL.getf 122 (hw _ (List.mem_of_getElem? (i := 13) rfl)) u0_2 (by decide +kernel) ?_
      intro TqAP1 XqAP1
      refine XqAP1.blk hK (L := [(.iload 6, 2, 0, 0), (.aload_n 0, 1, 0, 0)]) (pc' := 125) (ls' := #[.val (.ref a), .val (.long pp), .second, .val (.long (0 : Int64)), .second, .val (.int (0 : Int32)), .val (.int (0 : Int32))]) (st' := [(.ref a), (.int (0 : Int32)), (.ref ap)]) (by decide +kernel) rfl ?_
      refine XqAP1.getf 128 (hw _ (List.mem_of_getElem? (i := 13) rfl)) u0_2 (by decide +kernel) ?_
      intro TqAP2 XqAP2
      refine XqAP2.blk hK (L := [(.iload 6, 2, 0, 0), (.iconst 1, 1, 1, 0), (.iadd, 1, 0, 0), (.aload_n 0, 1, 0, 0)]) (pc' := 133) (ls' := #[.val (.ref a), .val (.long pp), .second, .val (.long (0 : Int64)), .second, .val (.int (0 : Int32)), .val (.int (0 : Int32))]) (st' := [(.ref a), (.int (1 : Int32)), (.ref ap), (.int (0 : Int32)), (.ref ap)]) (by decide +kernel) rfl ?_
      refine XqAP2.getf 136 (hw _ (List.mem_of_getElem? (i := 23) rfl)) u0_4 (by decide +kernel) ?_
      intro TqAP3 XqAP3
      refine XqAP3.blk hK (L := [(.iload 6, 2, 0, 0), (.isub, 1, 0, 0)]) (pc' := 139) (ls' := #[.val (.ref a), .val (.long pp), .second, .val (.long (0 : Int64)), .second, .val (.int (0 : Int32)), .val (.int (0 : Int32))]) (st' := [(.int (2 : Int32)), (.int (1 : Int32)), (.ref ap), (.int (0 : Int32)), (.ref ap)]) (by decide +kernel) rfl ?_
      refine XqAP3.acopy 142 0 (.long 0) u0_7 u0_7 rfl (hw _ (List.mem_of_getElem? (i := 30) rfl)) (hw _ (List.mem_of_getElem? (i := 33) rfl)) (hw _ (List.mem_of_getElem? (i := 31) rfl)) (hw _ (List.mem_of_getElem? (i := 32) rfl)) (by decide) (by decide) (by decide) (Nat.le_of_ble_eq_true rfl) (Nat.le_of_ble_eq_true rfl) (n3) rfl rfl (by decide +kernel) (by decide) ?_
      intro TcAP hcAP XcAP KcAP BAP
      replace BAP : AV Z hcAP ap .long [.long 0, .long 0, .long 0, .long 0] := BAP
      have u0_9 := u0_1.keep KcAP (ninS d2 nin0)
      have u0_10 := u0_2.keep KcAP (ninS d2 nin0)
      have u0_11 := u0_3.keep KcAP (ninS d2 nin0)
      have u0_12 := u0_4.keep KcAP (ninS d2 nin0)
      have u0_13 := u0_5.keep KcAP (ninS d2 nin0)
      have u0_14 := u0_6.keep KcAP
      have u0_15 := BAL.keep KcAP (ninS f1 nin0)
      have u0_16 := u0_8.keep KcAP (ninS f3.symm nin0)
      refine XcAP.blk hK (L := [(.aload_n 0, 1, 0, 0)]) (pc' := 143) (ls' := #[.val (.ref a), .val (.long pp), .second, .val (.long (0 : Int64)), .second, .val (.int (0 : Int32)), .val (.int (0 : Int32))]) (st' := [(.ref a)]) (by decide +kernel) rfl ?_
      refine XcAP.getf 146 (hw _ (List.mem_of_getElem? (i := 16) rfl)) u0_11 (by decide +kernel) ?_
      intro TqAN1 XqAN1
      refine XqAN1.blk hK (L := [(.iload 6, 2, 0, 0), (.aload_n 0, 1, 0, 0)]) (pc' := 149) (ls' := #[.val (.ref a), .val (.long pp), .second, .val (.long (0 : Int64)), .second, .val (.int (0 : Int32)), .val (.int (0 : Int32))]) (st' := [(.ref a), (.int (0 : Int32)), (.ref ai)]) (by decide +kernel) rfl ?_
      refine XqAN1.getf 152 (hw _ (List.mem_of_getElem? (i := 16) rfl)) u0_11 (by decide +kernel) ?_
      intro TqAN2 XqAN2
      refine XqAN2.blk hK (L := [(.iload 6, 2, 0, 0), (.iconst 1, 1, 1, 0), (.iadd, 1, 0, 0), (.aload_n 0, 1, 0, 0)]) (pc' := 157) (ls' := #[.val (.ref a), .val (.long pp), .second, .val (.long (0 : Int64)), .second, .val (.int (0 : Int32)), .val (.int (0 : Int32))]) (st' := [(.ref a), (.int (1 : Int32)), (.ref ai), (.int (0 : Int32)), (.ref ai)]) (by decide +kernel) rfl ?_
      refine XqAN2.getf 160 (hw _ (List.mem_of_getElem? (i := 23) rfl)) u0_12 (by decide +kernel) ?_
      intro TqAN3 XqAN3
      refine XqAN3.blk hK (L := [(.iload 6, 2, 0, 0), (.isub, 1, 0, 0)]) (pc' := 163) (ls' := #[.val (.ref a), .val (.long pp), .second, .val (.long (0 : Int64)), .second, .val (.int (0 : Int32)), .val (.int (0 : Int32))]) (st' := [(.int (2 : Int32)), (.int (1 : Int32)), (.ref ai), (.int (0 : Int32)), (.ref ai)]) (by decide +kernel) rfl ?_
      refine XqAN3.acopy 166 0 (.int 0) u0_16 u0_16 rfl (hw _ (List.mem_of_getElem? (i := 30) rfl)) (hw _ (List.mem_of_getElem? (i := 33) rfl)) (hw _ (List.mem_of_getElem? (i := 31) rfl)) (hw _ (List.mem_of_getElem? (i := 32) rfl)) (by decide) (by decide) (by decide) (Nat.le_of_ble_eq_true rfl) (Nat.le_of_ble_eq_true rfl) (n4) rfl rfl (by decide +kernel) (by decide) ?_
      intro TcAN hcAN XcAN KcAN BAN
      replace BAN : AV Z hcAN ai .int [.int 0, .int 0, .int 0, .int 0] := BAN
      have u0_17 := u0_9.keep KcAN (ninS d3 nin0)
      have u0_18 := u0_10.keep KcAN (ninS d3 nin0)
      have u0_19 := u0_11.keep KcAN (ninS d3 nin0)
      have u0_20 := u0_12.keep KcAN (ninS d3 nin0)
      have u0_21 := u0_13.keep KcAN (ninS d3 nin0)
      have u0_22 := u0_14.keep KcAN
      have u0_23 := u0_15.keep KcAN (ninS f2 nin0)
      have u0_24 := BAP.keep KcAN (ninS f3 nin0)
      refine XcAN.blk hK (L := [(.aload_n 0, 1, 0, 0)]) (pc' := 167) (ls' := #[.val (.ref a), .val (.long pp), .second, .val (.long (0 : Int64)), .second, .val (.int (0 : Int32)), .val (.int (0 : Int32))]) (st' := [(.ref a)]) (by decide +kernel) rfl ?_
      refine XcAN.getf 170 (hw _ (List.mem_of_getElem? (i := 11) rfl)) u0_17 (by decide +kernel) ?_
      intro TrAL XrAL
      refine XrAL.blk hK (L := [(.iload 6, 2, 0, 0), (.lload_n 1, 1, 0, 0)]) (pc' := 173) (ls' := #[.val (.ref a), .val (.long pp), .second, .val (.long (0 : Int64)), .second, .val (.int (0 : Int32)), .val (.int (0 : Int32))]) (st' := [(.long pp), (.int (0 : Int32)), (.ref al)]) (by decide +kernel) rfl ?_
      refine XrAL.lastore 174 u0_23 (by decide +kernel) (by decide) (Nat.le_of_ble_eq_true rfl) (n2) ?_
      intro TsAL hsAL XsAL WsAL DAL
      replace DAL : AV Z hsAL al .long [.long pp, .long x0, .long x1, .long x3] := DAL
      have u0_25 := u0_17.other WsAL (Or.inl d1)
      have u0_26 := u0_18.other WsAL (Or.inl d1)
      have u0_27 := u0_19.other WsAL (Or.inl d1)
      have u0_28 := u0_20.other WsAL (Or.inl d1)
      have u0_29 := u0_21.other WsAL (Or.inl d1)
      have u0_30 := u0_22.wr WsAL
      have u0_31 := u0_24.other WsAL f1.symm
      have u0_32 := BAN.other WsAL f2.symm
      refine XsAL.blk hK (L := [(.aload_n 0, 1, 0, 0)]) (pc' := 175) (ls' := #[.val (.ref a), .val (.long pp), .second, .val (.long (0 : Int64)), .second, .val (.int (0 : Int32)), .val (.int (0 : Int32))]) (st' := [(.ref a)]) (by decide +kernel) rfl ?_
      refine XsAL.getf 178 (hw _ (List.mem_of_getElem? (i := 13) rfl)) u0_26 (by decide +kernel) ?_
      intro TrAP XrAP
      refine XrAP.blk hK (L := [(.iload 6, 2, 0, 0), (.lload_n 3, 1, 0, 0)]) (pc' := 181) (ls' := #[.val (.ref a), .val (.long pp), .second, .val (.long (0 : Int64)), .second, .val (.int (0 : Int32)), .val (.int (0 : Int32))]) (st' := [(.long (0 : Int64)), (.int (0 : Int32)), (.ref ap)]) (by decide +kernel) rfl ?_
      refine XrAP.lastore 182 u0_31 (by decide +kernel) (by decide) (Nat.le_of_ble_eq_true rfl) (n3) ?_
      intro TsAP hsAP XsAP WsAP DAP
      replace DAP : AV Z hsAP ap .long [.long 0, .long 0, .long 0, .long 0] := DAP
      have u0_33 := u0_25.other WsAP (Or.inl d2)
      have u0_34 := u0_26.other WsAP (Or.inl d2)
      have u0_35 := u0_27.other WsAP (Or.inl d2)
      have u0_36 := u0_28.other WsAP (Or.inl d2)
      have u0_37 := u0_29.other WsAP (Or.inl d2)
      have u0_38 := u0_30.wr WsAP
      have u0_39 := DAL.other WsAP f1
      have u0_40 := u0_32.other WsAP f3.symm
      refine XsAP.blk hK (L := [(.aload_n 0, 1, 0, 0)]) (pc' := 183) (ls' := #[.val (.ref a), .val (.long pp), .second, .val (.long (0 : Int64)), .second, .val (.int (0 : Int32)), .val (.int (0 : Int32))]) (st' := [(.ref a)]) (by decide +kernel) rfl ?_
      refine XsAP.getf 186 (hw _ (List.mem_of_getElem? (i := 16) rfl)) u0_35 (by decide +kernel) ?_
      intro TrAN XrAN
      refine XrAN.blk hK (L := [(.iload 6, 2, 0, 0), (.iload 5, 2, 0, 0)]) (pc' := 190) (ls' := #[.val (.ref a), .val (.long pp), .second, .val (.long (0 : Int64)), .second, .val (.int (0 : Int32)), .val (.int (0 : Int32))]) (st' := [(.int (0 : Int32)), (.int (0 : Int32)), (.ref ai)]) (by decide +kernel) rfl ?_
      refine XrAN.iastore 191 u0_40 (by decide +kernel) (by decide) (Nat.le_of_ble_eq_true rfl) (n4) ?_
      intro TsAN hsAN XsAN WsAN DAN
      replace DAN : AV Z hsAN ai .int [.int 0, .int 0, .int 0, .int 0] := DAN
      have u0_41 := u0_33.other WsAN (Or.inl d3)
      have u0_42 := u0_34.other WsAN (Or.inl d3)
      have u0_43 := u0_35.other WsAN (Or.inl d3)
      have u0_44 := u0_36.other WsAN (Or.inl d3)
      have u0_45 := u0_37.other WsAN (Or.inl d3)
      have u0_46 := u0_38.wr WsAN
      have u0_47 := u0_39.other WsAN f2
      have u0_48 := DAP.other WsAN f3
      refine XsAN.blk hK (L := [(.aload_n 0, 1, 0, 0), (.dup, 1, 0, 0)]) (pc' := 193) (ls' := #[.val (.ref a), .val (.long pp), .second, .val (.long (0 : Int64)), .second, .val (.int (0 : Int32)), .val (.int (0 : Int32))]) (st' := [(.ref a), (.ref a)]) (by decide +kernel) rfl ?_
      refine XsAN.getf 196 (hw _ (List.mem_of_getElem? (i := 23) rfl)) u0_44 (by decide +kernel) ?_
      intro TtFZ XtFZ
      refine XtFZ.blk hK (L := [(.iconst 1, 1, 1, 0), (.iadd, 1, 0, 0)]) (pc' := 198) (ls' := #[.val (.ref a), .val (.long pp), .second, .val (.long (0 : Int64)), .second, .val (.int (0 : Int32)), .val (.int (0 : Int32))]) (st' := [(.int (3 : Int32)), (.ref a)]) (by decide +kernel) rfl ?_
      refine XtFZ.putf 201 (hw _ (List.mem_of_getElem? (i := 23) rfl)) u0_44 u0_46 (Or.inl (hw _ (List.mem_of_getElem? (i := 24) rfl))) (hw _ (List.mem_of_getElem? (i := 2) rfl)) (ty := .int) (by decide) rfl (rfl) (n1) (by decide +kernel) ?_
      intro TvFZ hvFZ XvFZ WvFZ
      have u0_49 := u0_41.other WvFZ (Or.inr (slot_ne (t := .array .long) (t' := .int) (Or.inl (hw _ (List.mem_of_getElem? (i := 12) rfl))) (Or.inl (hw _ (List.mem_of_getElem? (i := 24) rfl))) (by decide) (by decide) (by decide)))
      have u0_50 := u0_42.other WvFZ (Or.inr (slot_ne (t := .array .long) (t' := .int) (Or.inl (hw _ (List.mem_of_getElem? (i := 14) rfl))) (Or.inl (hw _ (List.mem_of_getElem? (i := 24) rfl))) (by decide) (by decide) (by decide)))
      have u0_51 := u0_43.other WvFZ (Or.inr (slot_ne (t := .array .int) (t' := .int) (Or.inl (hw _ (List.mem_of_getElem? (i := 17) rfl))) (Or.inl (hw _ (List.mem_of_getElem? (i := 24) rfl))) (by decide) (by decide) (by decide)))
      have u0_52 := u0_45.other WvFZ (Or.inr (slot_ne (t := .long) (t' := .int) (Or.inl (hw _ (List.mem_of_getElem? (i := 35) rfl))) (Or.inl (hw _ (List.mem_of_getElem? (i := 24) rfl))) (by decide) (by decide) (by decide)))
      have u0_53 := u0_46.wr WvFZ
      have u0_54 := u0_47.other WvFZ d1.symm
      have u0_55 := u0_48.other WvFZ d2.symm
      have u0_56 := DAN.other WvFZ d3.symm
      have NFZ := u0_44.same WvFZ
      refine XvFZ.blk hK (L := [(.aload_n 0, 1, 0, 0), (.dup, 1, 0, 0)]) (pc' := 203) (ls' := #[.val (.ref a), .val (.long pp), .second, .val (.long (0 : Int64)), .second, .val (.int (0 : Int32)), .val (.int (0 : Int32))]) (st' := [(.ref a), (.ref a)]) (by decide +kernel) rfl ?_
      refine XvFZ.getf 206 (hw _ (List.mem_of_getElem? (i := 34) rfl)) u0_52 (by decide +kernel) ?_
      intro TtFB XtFB
      refine XtFB.blk hK (L := [(.iload 5, 2, 0, 0), (.i2l, 1, 0, 0), (.ladd, 1, 0, 0)]) (pc' := 210) (ls' := #[.val (.ref a), .val (.long pp), .second, .val (.long (0 : Int64)), .second, .val (.int (0 : Int32)), .val (.int (0 : Int32))]) (st' := [(.long (bb + ((0 : Int32).toInt64))), (.ref a)]) (by decide +kernel) rfl ?_
      refine XtFB.putf 213 (hw _ (List.mem_of_getElem? (i := 34) rfl)) u0_52 u0_53 (Or.inl (hw _ (List.mem_of_getElem? (i := 35) rfl))) (hw _ (List.mem_of_getElem? (i := 2) rfl)) (ty := .long) (by decide) rfl (rfl) (n1) (by decide +kernel) ?_
      intro TvFB hvFB XvFB WvFB
      have u0_57 := u0_49.other WvFB (Or.inr (slot_ne (t := .array .long) (t' := .long) (Or.inl (hw _ (List.mem_of_getElem? (i := 12) rfl))) (Or.inl (hw _ (List.mem_of_getElem? (i := 35) rfl))) (by decide) (by decide) (by decide)))
      have u0_58 := u0_50.other WvFB (Or.inr (slot_ne (t := .array .long) (t' := .long) (Or.inl (hw _ (List.mem_of_getElem? (i := 14) rfl))) (Or.inl (hw _ (List.mem_of_getElem? (i := 35) rfl))) (by decide) (by decide) (by decide)))
      have u0_59 := u0_51.other WvFB (Or.inr (slot_ne (t := .array .int) (t' := .long) (Or.inl (hw _ (List.mem_of_getElem? (i := 17) rfl))) (Or.inl (hw _ (List.mem_of_getElem? (i := 35) rfl))) (by decide) (by decide) (by decide)))
      have u0_60 := NFZ.other WvFB (Or.inr (slot_ne (t := .int) (t' := .long) (Or.inl (hw _ (List.mem_of_getElem? (i := 24) rfl))) (Or.inl (hw _ (List.mem_of_getElem? (i := 35) rfl))) (by decide) (by decide) (by decide)))
      have u0_61 := u0_53.wr WvFB
      have u0_62 := u0_54.other WvFB d1.symm
      have u0_63 := u0_55.other WvFB d2.symm
      have u0_64 := u0_56.other WvFB d3.symm
      have NFB := u0_52.same WvFB
      exact XvFB.retV (by decide +kernel) (by decide) (by decide) (⟨rfl, pp, x0, x1, x3, _, ⟨⟨u0_57, u0_58, u0_59, u0_60, NFB, u0_61⟩, ⟨u0_62, u0_63, u0_64⟩, ⟨n1, n2, n3, n4⟩, ⟨d1, d2, d3⟩, ⟨f1, f2, f3⟩⟩, by simp only [srt, and_true] <;> omega, fun q => by first | (simp only [cnt, List.foldl]; done) | (simp only [cnt, List.foldl]; ac_rfl)⟩)
set_option maxRecDepth 65536 in
set_option maxHeartbeats 40000000 in
theorem rm_add3 (l : Launch) (Z : State) (a0 : Array Value) (hw : ∀ d ∈ tables_1, d.before a0 Z = true) (a al ap ai : Addr) (pp x0 x1 x2 x3 bb : Int64) (h0 : Heap) (n0 : Nat) (Z0 : n0 ≤ h0.size) (I : RI Z h0 n0 a al ap ai 3 bb [.long x0, .long x1, .long x2, .long x3]) (S : srt [x0, x1, x2]) :
    Cnt l Z (⟨"com/example/redolith/redolith/storage/RecordIndex", "add", "(JJI)V"⟩ : MethodName) prog_167_method_7_code 7 none ({ frames := 1, cells := 0, slots := 0, locals := 40 } : Room) n0 #[(.ref a), (.long pp), (.long (0 : Int64)), (.int (0 : Int32))] h0 (fun v h => v = none ∧ ∃ y0 y1 y2 y3 b2, RI Z h n0 a al ap ai 4 b2 [.long y0, .long y1, .long y2, .long y3] ∧ srt [y0, y1, y2, y3] ∧ ∀ q, cnt [y0, y1, y2, y3] q = cnt [x0, x1, x2] q + leI pp q) := by
  refine Cnt.mk (by first | exact plainFor_of_name (by first | (simp [plainName, overriddenIn]; done) | decide +kernel) | decide +kernel) Z0 ?_
  intro p e s m below meth c T X
  refine Go.cast (g' := mkF m 0 #[.val (.ref a), .val (.long pp), .second, .val (.long (0 : Int64)), .second, .val (.int (0 : Int32)), .unset] []) (by first | (simp [entryFrame, mkF, argsToLocals, Value.category, maxLocals]; done) | rfl) ?_
  have hK : (∀ q ∈ ([] : List (Nat × Int32)), (Jvm.Cond.constant "com/example/redolith/redolith/storage/RecordIndex" q.1 q.2).before a0 Z = true) ∧ (∀ q ∈ ([] : List (Nat × Int64)), (Jvm.Cond.constantLong "com/example/redolith/redolith/storage/RecordIndex" q.1 q.2).before a0 Z = true) :=
    ⟨(fun q hq => nomatch hq), (fun q hq => nomatch hq)⟩
  obtain ⟨⟨FL, FP, FN, FZ, FB, EX⟩, ⟨AL, AP, AN⟩, ⟨n1, n2, n3, n4⟩, ⟨d1, d2, d3⟩, ⟨f1, f2, f3⟩⟩ := I
  simp only [srt, and_true] at S
  refine X.blk hK (L := [(.aload_n 0, 1, 0, 0)]) (pc' := 1) (ls' := #[.val (.ref a), .val (.long pp), .second, .val (.long (0 : Int64)), .second, .val (.int (0 : Int32)), .unset]) (st' := [(.ref a)]) (by decide +kernel) rfl ?_
  refine X.getf 4 (hw _ (List.mem_of_getElem? (i := 23) rfl)) FZ (by decide +kernel) ?_
  intro Tz Xz
  refine Xz.blk hK (L := [(.aload_n 0, 1, 0, 0)]) (pc' := 5) (ls' := #[.val (.ref a), .val (.long pp), .second, .val (.long (0 : Int64)), .second, .val (.int (0 : Int32)), .unset]) (st' := [(.ref a), (.int (3 : Int32))]) (by decide +kernel) rfl ?_
  refine Xz.getf 8 (hw _ (List.mem_of_getElem? (i := 11) rfl)) FL (by decide +kernel) ?_
  intro Tz2 Xz2
  refine Xz2.alen 9 (n := (4 : Int32)) AL (by decide +kernel) (rfl) ?_
  refine Xz2.icmp .ne (54) 63 12 (by decide +kernel) (fun (c9 : ¬ (3 : Int32) = (4 : Int32)) => ?_) (fun (c9 : (3 : Int32) = (4 : Int32)) => absurd c9 (by decide : ¬ (3 : Int32) = (4 : Int32)))
  refine Xz2.blk hK (L := [(.aload_n 0, 1, 0, 0)]) (pc' := 64) (ls' := #[.val (.ref a), .val (.long pp), .second, .val (.long (0 : Int64)), .second, .val (.int (0 : Int32)), .unset]) (st' := [(.ref a)]) (by decide +kernel) rfl ?_
  refine Xz2.getf 67 (hw _ (List.mem_of_getElem? (i := 23) rfl)) FZ (by decide +kernel) ?_
  intro Tz3 Xz3
  refine Xz3.blk hK (L := [(.istore 6, 2, 0, 0)]) (pc' := 69) (ls' := #[.val (.ref a), .val (.long pp), .second, .val (.long (0 : Int64)), .second, .val (.int (0 : Int32)), .val (.int (3 : Int32))]) (st' := []) (by decide +kernel) rfl ?_
  refine Xz3.blk hK (L := [(.iload 6, 2, 0, 0)]) (pc' := 71) (ls' := #[.val (.ref a), .val (.long pp), .second, .val (.long (0 : Int64)), .second, .val (.int (0 : Int32)), .val (.int (3 : Int32))]) (st' := [(.int (3 : Int32))]) (by decide +kernel) rfl ?_
  refine Xz3.ifc .le (23) 94 74 (by decide +kernel) (fun (c71 : ¬ (0 : Int32) < (3 : Int32)) => absurd (by decide : (0 : Int32) < (3 : Int32)) c71) (fun (c71 : (0 : Int32) < (3 : Int32)) => ?_)
  refine Xz3.blk hK (L := [(.aload_n 0, 1, 0, 0)]) (pc' := 75) (ls' := #[.val (.ref a), .val (.long pp), .second, .val (.long (0 : Int64)), .second, .val (.int (0 : Int32)), .val (.int (3 : Int32))]) (st' := [(.ref a)]) (by decide +kernel) rfl ?_
  refine Xz3.getf 78 (hw _ (List.mem_of_getElem? (i := 11) rfl)) FL (by decide +kernel) ?_
  intro Tl1 Xl1
  refine Xl1.blk hK (L := [(.iload 6, 2, 0, 0), (.iconst 1, 1, 1, 0), (.isub, 1, 0, 0)]) (pc' := 82) (ls' := #[.val (.ref a), .val (.long pp), .second, .val (.long (0 : Int64)), .second, .val (.int (0 : Int32)), .val (.int (3 : Int32))]) (st' := [(.int (2 : Int32)), (.ref al)]) (by decide +kernel) rfl ?_
  refine Xl1.laload 83 AL (by decide +kernel) (by decide) (rfl) ?_
  refine Xl1.blk hK (L := [(.lload_n 1, 1, 0, 0)]) (pc' := 84) (ls' := #[.val (.ref a), .val (.long pp), .second, .val (.long (0 : Int64)), .second, .val (.int (0 : Int32)), .val (.int (3 : Int32))]) (st' := [(.long pp), (.long x2)]) (by decide +kernel) rfl ?_
  refine Xl1.lcmp .le (9) 94 88 (by decide +kernel) (fun (g1 : ¬ pp < x2) => ?_) (fun (g1 : pp < x2) => ?_)
  · have o1 := own_ge g1
    refine Xl1.blk hK (L := [(.aload_n 0, 1, 0, 0)]) (pc' := 95) (ls' := #[.val (.ref a), .val (.long pp), .second, .val (.long (0 : Int64)), .second, .val (.int (0 : Int32)), .val (.int (3 : Int32))]) (st' := [(.ref a)]) (by decide +kernel) rfl ?_
    refine Xl1.getf 98 (hw _ (List.mem_of_getElem? (i := 11) rfl)) FL (by decide +kernel) ?_
    intro TqAL1 XqAL1
    refine XqAL1.blk hK (L := [(.iload 6, 2, 0, 0), (.aload_n 0, 1, 0, 0)]) (pc' := 101) (ls' := #[.val (.ref a), .val (.long pp), .second, .val (.long (0 : Int64)), .second, .val (.int (0 : Int32)), .val (.int (3 : Int32))]) (st' := [(.ref a), (.int (3 : Int32)), (.ref al)]) (by decide +kernel) rfl ?_
    refine XqAL1.getf 104 (hw _ (List.mem_of_getElem? (i := 11) rfl)) FL (by decide +kernel) ?_
    intro TqAL2 XqAL2
    refine XqAL2.blk hK (L := [(.iload 6, 2, 0, 0), (.iconst 1, 1, 1, 0), (.iadd, 1, 0, 0), (.aload_n 0, 1, 0, 0)]) (pc' := 109) (ls' := #[.val (.ref a), .val (.long pp), .second, .val (.long (0 : Int64)), .second, .val (.int (0 : Int32)), .val (.int (3 : Int32))]) (st' := [(.ref a), (.int (4 : Int32)), (.ref al), (.int (3 : Int32)), (.ref al)]) (by decide +kernel) rfl ?_
    refine XqAL2.getf 112 (hw _ (List.mem_of_getElem? (i := 23) rfl)) FZ (by decide +kernel) ?_
    intro TqAL3 XqAL3
    refine XqAL3.blk hK (L := [(.iload 6, 2, 0, 0), (.isub, 1, 0, 0)]) (pc' := 115) (ls' := #[.val (.ref a), .val (.long pp), .second, .val (.long (0 : Int64)), .second, .val (.int (0 : Int32)), .val (.int (3 : Int32))]) (st' := [(.int (0 : Int32)), (.int (4 : Int32)), (.ref al), (.int (3 : Int32)), (.ref al)]) (by decide +kernel) rfl ?_
    refine XqAL3.acopy 118 0 (.long 0) AL AL rfl (hw _ (List.mem_of_getElem? (i := 30) rfl)) (hw _ (List.mem_of_getElem? (i := 33) rfl)) (hw _ (List.mem_of_getElem? (i := 31) rfl)) (hw _ (List.mem_of_getElem? (i := 32) rfl)) (by decide) (by decide) (by decide) (Nat.le_of_ble_eq_true rfl) (Nat.le_of_ble_eq_true rfl) (n2) rfl rfl (by decide +kernel) (by decide) ?_
    intro TcAL hcAL XcAL KcAL BAL
    replace BAL : AV Z hcAL al .long [.long x0, .long x1, .long x2, .long x3] := BAL
    have u3_1 := FL.keep KcAL (ninS d1 nin0)
    have u3_2 := FP.keep KcAL (ninS d1 nin0)
    have u3_3 := FN.keep KcAL (ninS d1 nin0)
    have u3_4 := FZ.keep KcAL (ninS d1 nin0)
    have u3_5 := FB.keep KcAL (ninS d1 nin0)
    have u3_6 := EX.keep KcAL
    have u3_7 := AP.keep KcAL (ninS f1.symm nin0)
    have u3_8 := AN.keep KcAL (ninS f2.symm nin0)
    refine XcAL.blk hK (L := [(.aload_n 0, 1, 0, 0)]) (pc' := 119) (ls' := #[.val (.ref a), .val (.long pp), .second, .val (.long (0 : Int64)), .second, .val (.int (0 : Int32)), .val (.int (3 : Int32))]) (st' := [(.ref a)]) (by decide +kernel) rfl ?_
    refine XcAL.getf 122 (hw _ (List.mem_of_getElem? (i := 13) rfl)) u3_2 (by decide +kernel) ?_
    intro TqAP1 XqAP1
    refine XqAP1.blk hK (L := [(.iload 6, 2, 0, 0), (.aload_n 0, 1, 0, 0)]) (pc' := 125) (ls' := #[.val (.ref a), .val (.long pp), .second, .val (.long (0 : Int64)), .second, .val (.int (0 : Int32)), .val (.int (3 : Int32))]) (st' := [(.ref a), (.int (3 : Int32)), (.ref ap)]) (by decide +kernel) rfl ?_
    refine XqAP1.getf 128 (hw _ (List.mem_of_getElem? (i := 13) rfl)) u3_2 (by decide +kernel) ?_
    intro TqAP2 XqAP2
    refine XqAP2.blk hK (L := [(.iload 6, 2, 0, 0), (.iconst 1, 1, 1, 0), (.iadd, 1, 0, 0), (.aload_n 0, 1, 0, 0)]) (pc' := 133) (ls' := #[.val (.ref a), .val (.long pp), .second, .val (.long (0 : Int64)), .second, .val (.int (0 : Int32)), .val (.int (3 : Int32))]) (st' := [(.ref a), (.int (4 : Int32)), (.ref ap), (.int (3 : Int32)), (.ref ap)]) (by decide +kernel) rfl ?_
    refine XqAP2.getf 136 (hw _ (List.mem_of_getElem? (i := 23) rfl)) u3_4 (by decide +kernel) ?_
    intro TqAP3 XqAP3
    refine XqAP3.blk hK (L := [(.iload 6, 2, 0, 0), (.isub, 1, 0, 0)]) (pc' := 139) (ls' := #[.val (.ref a), .val (.long pp), .second, .val (.long (0 : Int64)), .second, .val (.int (0 : Int32)), .val (.int (3 : Int32))]) (st' := [(.int (0 : Int32)), (.int (4 : Int32)), (.ref ap), (.int (3 : Int32)), (.ref ap)]) (by decide +kernel) rfl ?_
    refine XqAP3.acopy 142 0 (.long 0) u3_7 u3_7 rfl (hw _ (List.mem_of_getElem? (i := 30) rfl)) (hw _ (List.mem_of_getElem? (i := 33) rfl)) (hw _ (List.mem_of_getElem? (i := 31) rfl)) (hw _ (List.mem_of_getElem? (i := 32) rfl)) (by decide) (by decide) (by decide) (Nat.le_of_ble_eq_true rfl) (Nat.le_of_ble_eq_true rfl) (n3) rfl rfl (by decide +kernel) (by decide) ?_
    intro TcAP hcAP XcAP KcAP BAP
    replace BAP : AV Z hcAP ap .long [.long 0, .long 0, .long 0, .long 0] := BAP
    have u3_9 := u3_1.keep KcAP (ninS d2 nin0)
    have u3_10 := u3_2.keep KcAP (ninS d2 nin0)
    have u3_11 := u3_3.keep KcAP (ninS d2 nin0)
    have u3_12 := u3_4.keep KcAP (ninS d2 nin0)
    have u3_13 := u3_5.keep KcAP (ninS d2 nin0)
    have u3_14 := u3_6.keep KcAP
    have u3_15 := BAL.keep KcAP (ninS f1 nin0)
    have u3_16 := u3_8.keep KcAP (ninS f3.symm nin0)
    refine XcAP.blk hK (L := [(.aload_n 0, 1, 0, 0)]) (pc' := 143) (ls' := #[.val (.ref a), .val (.long pp), .second, .val (.long (0 : Int64)), .second, .val (.int (0 : Int32)), .val (.int (3 : Int32))]) (st' := [(.ref a)]) (by decide +kernel) rfl ?_
    refine XcAP.getf 146 (hw _ (List.mem_of_getElem? (i := 16) rfl)) u3_11 (by decide +kernel) ?_
    intro TqAN1 XqAN1
    refine XqAN1.blk hK (L := [(.iload 6, 2, 0, 0), (.aload_n 0, 1, 0, 0)]) (pc' := 149) (ls' := #[.val (.ref a), .val (.long pp), .second, .val (.long (0 : Int64)), .second, .val (.int (0 : Int32)), .val (.int (3 : Int32))]) (st' := [(.ref a), (.int (3 : Int32)), (.ref ai)]) (by decide +kernel) rfl ?_
    refine XqAN1.getf 152 (hw _ (List.mem_of_getElem? (i := 16) rfl)) u3_11 (by decide +kernel) ?_
    intro TqAN2 XqAN2
    refine XqAN2.blk hK (L := [(.iload 6, 2, 0, 0), (.iconst 1, 1, 1, 0), (.iadd, 1, 0, 0), (.aload_n 0, 1, 0, 0)]) (pc' := 157) (ls' := #[.val (.ref a), .val (.long pp), .second, .val (.long (0 : Int64)), .second, .val (.int (0 : Int32)), .val (.int (3 : Int32))]) (st' := [(.ref a), (.int (4 : Int32)), (.ref ai), (.int (3 : Int32)), (.ref ai)]) (by decide +kernel) rfl ?_
    refine XqAN2.getf 160 (hw _ (List.mem_of_getElem? (i := 23) rfl)) u3_12 (by decide +kernel) ?_
    intro TqAN3 XqAN3
    refine XqAN3.blk hK (L := [(.iload 6, 2, 0, 0), (.isub, 1, 0, 0)]) (pc' := 163) (ls' := #[.val (.ref a), .val (.long pp), .second, .val (.long (0 : Int64)), .second, .val (.int (0 : Int32)), .val (.int (3 : Int32))]) (st' := [(.int (0 : Int32)), (.int (4 : Int32)), (.ref ai), (.int (3 : Int32)), (.ref ai)]) (by decide +kernel) rfl ?_
    refine XqAN3.acopy 166 0 (.int 0) u3_16 u3_16 rfl (hw _ (List.mem_of_getElem? (i := 30) rfl)) (hw _ (List.mem_of_getElem? (i := 33) rfl)) (hw _ (List.mem_of_getElem? (i := 31) rfl)) (hw _ (List.mem_of_getElem? (i := 32) rfl)) (by decide) (by decide) (by decide) (Nat.le_of_ble_eq_true rfl) (Nat.le_of_ble_eq_true rfl) (n4) rfl rfl (by decide +kernel) (by decide) ?_
    intro TcAN hcAN XcAN KcAN BAN
    replace BAN : AV Z hcAN ai .int [.int 0, .int 0, .int 0, .int 0] := BAN
    have u3_17 := u3_9.keep KcAN (ninS d3 nin0)
    have u3_18 := u3_10.keep KcAN (ninS d3 nin0)
    have u3_19 := u3_11.keep KcAN (ninS d3 nin0)
    have u3_20 := u3_12.keep KcAN (ninS d3 nin0)
    have u3_21 := u3_13.keep KcAN (ninS d3 nin0)
    have u3_22 := u3_14.keep KcAN
    have u3_23 := u3_15.keep KcAN (ninS f2 nin0)
    have u3_24 := BAP.keep KcAN (ninS f3 nin0)
    refine XcAN.blk hK (L := [(.aload_n 0, 1, 0, 0)]) (pc' := 167) (ls' := #[.val (.ref a), .val (.long pp), .second, .val (.long (0 : Int64)), .second, .val (.int (0 : Int32)), .val (.int (3 : Int32))]) (st' := [(.ref a)]) (by decide +kernel) rfl ?_
    refine XcAN.getf 170 (hw _ (List.mem_of_getElem? (i := 11) rfl)) u3_17 (by decide +kernel) ?_
    intro TrAL XrAL
    refine XrAL.blk hK (L := [(.iload 6, 2, 0, 0), (.lload_n 1, 1, 0, 0)]) (pc' := 173) (ls' := #[.val (.ref a), .val (.long pp), .second, .val (.long (0 : Int64)), .second, .val (.int (0 : Int32)), .val (.int (3 : Int32))]) (st' := [(.long pp), (.int (3 : Int32)), (.ref al)]) (by decide +kernel) rfl ?_
    refine XrAL.lastore 174 u3_23 (by decide +kernel) (by decide) (Nat.le_of_ble_eq_true rfl) (n2) ?_
    intro TsAL hsAL XsAL WsAL DAL
    replace DAL : AV Z hsAL al .long [.long x0, .long x1, .long x2, .long pp] := DAL
    have u3_25 := u3_17.other WsAL (Or.inl d1)
    have u3_26 := u3_18.other WsAL (Or.inl d1)
    have u3_27 := u3_19.other WsAL (Or.inl d1)
    have u3_28 := u3_20.other WsAL (Or.inl d1)
    have u3_29 := u3_21.other WsAL (Or.inl d1)
    have u3_30 := u3_22.wr WsAL
    have u3_31 := u3_24.other WsAL f1.symm
    have u3_32 := BAN.other WsAL f2.symm
    refine XsAL.blk hK (L := [(.aload_n 0, 1, 0, 0)]) (pc' := 175) (ls' := #[.val (.ref a), .val (.long pp), .second, .val (.long (0 : Int64)), .second, .val (.int (0 : Int32)), .val (.int (3 : Int32))]) (st' := [(.ref a)]) (by decide +kernel) rfl ?_
    refine XsAL.getf 178 (hw _ (List.mem_of_getElem? (i := 13) rfl)) u3_26 (by decide +kernel) ?_
    intro TrAP XrAP
    refine XrAP.blk hK (L := [(.iload 6, 2, 0, 0), (.lload_n 3, 1, 0, 0)]) (pc' := 181) (ls' := #[.val (.ref a), .val (.long pp), .second, .val (.long (0 : Int64)), .second, .val (.int (0 : Int32)), .val (.int (3 : Int32))]) (st' := [(.long (0 : Int64)), (.int (3 : Int32)), (.ref ap)]) (by decide +kernel) rfl ?_
    refine XrAP.lastore 182 u3_31 (by decide +kernel) (by decide) (Nat.le_of_ble_eq_true rfl) (n3) ?_
    intro TsAP hsAP XsAP WsAP DAP
    replace DAP : AV Z hsAP ap .long [.long 0, .long 0, .long 0, .long 0] := DAP
    have u3_33 := u3_25.other WsAP (Or.inl d2)
    have u3_34 := u3_26.other WsAP (Or.inl d2)
    have u3_35 := u3_27.other WsAP (Or.inl d2)
    have u3_36 := u3_28.other WsAP (Or.inl d2)
    have u3_37 := u3_29.other WsAP (Or.inl d2)
    have u3_38 := u3_30.wr WsAP
    have u3_39 := DAL.other WsAP f1
    have u3_40 := u3_32.other WsAP f3.symm
    refine XsAP.blk hK (L := [(.aload_n 0, 1, 0, 0)]) (pc' := 183) (ls' := #[.val (.ref a), .val (.long pp), .second, .val (.long (0 : Int64)), .second, .val (.int (0 : Int32)), .val (.int (3 : Int32))]) (st' := [(.ref a)]) (by decide +kernel) rfl ?_
    refine XsAP.getf 186 (hw _ (List.mem_of_getElem? (i := 16) rfl)) u3_35 (by decide +kernel) ?_
    intro TrAN XrAN
    refine XrAN.blk hK (L := [(.iload 6, 2, 0, 0), (.iload 5, 2, 0, 0)]) (pc' := 190) (ls' := #[.val (.ref a), .val (.long pp), .second, .val (.long (0 : Int64)), .second, .val (.int (0 : Int32)), .val (.int (3 : Int32))]) (st' := [(.int (0 : Int32)), (.int (3 : Int32)), (.ref ai)]) (by decide +kernel) rfl ?_
    refine XrAN.iastore 191 u3_40 (by decide +kernel) (by decide) (Nat.le_of_ble_eq_true rfl) (n4) ?_
    intro TsAN hsAN XsAN WsAN DAN
    replace DAN : AV Z hsAN ai .int [.int 0, .int 0, .int 0, .int 0] := DAN
    have u3_41 := u3_33.other WsAN (Or.inl d3)
    have u3_42 := u3_34.other WsAN (Or.inl d3)
    have u3_43 := u3_35.other WsAN (Or.inl d3)
    have u3_44 := u3_36.other WsAN (Or.inl d3)
    have u3_45 := u3_37.other WsAN (Or.inl d3)
    have u3_46 := u3_38.wr WsAN
    have u3_47 := u3_39.other WsAN f2
    have u3_48 := DAP.other WsAN f3
    refine XsAN.blk hK (L := [(.aload_n 0, 1, 0, 0), (.dup, 1, 0, 0)]) (pc' := 193) (ls' := #[.val (.ref a), .val (.long pp), .second, .val (.long (0 : Int64)), .second, .val (.int (0 : Int32)), .val (.int (3 : Int32))]) (st' := [(.ref a), (.ref a)]) (by decide +kernel) rfl ?_
    refine XsAN.getf 196 (hw _ (List.mem_of_getElem? (i := 23) rfl)) u3_44 (by decide +kernel) ?_
    intro TtFZ XtFZ
    refine XtFZ.blk hK (L := [(.iconst 1, 1, 1, 0), (.iadd, 1, 0, 0)]) (pc' := 198) (ls' := #[.val (.ref a), .val (.long pp), .second, .val (.long (0 : Int64)), .second, .val (.int (0 : Int32)), .val (.int (3 : Int32))]) (st' := [(.int (4 : Int32)), (.ref a)]) (by decide +kernel) rfl ?_
    refine XtFZ.putf 201 (hw _ (List.mem_of_getElem? (i := 23) rfl)) u3_44 u3_46 (Or.inl (hw _ (List.mem_of_getElem? (i := 24) rfl))) (hw _ (List.mem_of_getElem? (i := 2) rfl)) (ty := .int) (by decide) rfl (rfl) (n1) (by decide +kernel) ?_
    intro TvFZ hvFZ XvFZ WvFZ
    have u3_49 := u3_41.other WvFZ (Or.inr (slot_ne (t := .array .long) (t' := .int) (Or.inl (hw _ (List.mem_of_getElem? (i := 12) rfl))) (Or.inl (hw _ (List.mem_of_getElem? (i := 24) rfl))) (by decide) (by decide) (by decide)))
    have u3_50 := u3_42.other WvFZ (Or.inr (slot_ne (t := .array .long) (t' := .int) (Or.inl (hw _ (List.mem_of_getElem? (i := 14) rfl))) (Or.inl (hw _ (List.mem_of_getElem? (i := 24) rfl))) (by decide) (by decide) (by decide)))
    have u3_51 := u3_43.other WvFZ (Or.inr (slot_ne (t := .array .int) (t' := .int) (Or.inl (hw _ (List.mem_of_getElem? (i := 17) rfl))) (Or.inl (hw _ (List.mem_of_getElem? (i := 24) rfl))) (by decide) (by decide) (by decide)))
    have u3_52 := u3_45.other WvFZ (Or.inr (slot_ne (t := .long) (t' := .int) (Or.inl (hw _ (List.mem_of_getElem? (i := 35) rfl))) (Or.inl (hw _ (List.mem_of_getElem? (i := 24) rfl))) (by decide) (by decide) (by decide)))
    have u3_53 := u3_46.wr WvFZ
    have u3_54 := u3_47.other WvFZ d1.symm
    have u3_55 := u3_48.other WvFZ d2.symm
    have u3_56 := DAN.other WvFZ d3.symm
    have NFZ := u3_44.same WvFZ
    refine XvFZ.blk hK (L := [(.aload_n 0, 1, 0, 0), (.dup, 1, 0, 0)]) (pc' := 203) (ls' := #[.val (.ref a), .val (.long pp), .second, .val (.long (0 : Int64)), .second, .val (.int (0 : Int32)), .val (.int (3 : Int32))]) (st' := [(.ref a), (.ref a)]) (by decide +kernel) rfl ?_
    refine XvFZ.getf 206 (hw _ (List.mem_of_getElem? (i := 34) rfl)) u3_52 (by decide +kernel) ?_
    intro TtFB XtFB
    refine XtFB.blk hK (L := [(.iload 5, 2, 0, 0), (.i2l, 1, 0, 0), (.ladd, 1, 0, 0)]) (pc' := 210) (ls' := #[.val (.ref a), .val (.long pp), .second, .val (.long (0 : Int64)), .second, .val (.int (0 : Int32)), .val (.int (3 : Int32))]) (st' := [(.long (bb + ((0 : Int32).toInt64))), (.ref a)]) (by decide +kernel) rfl ?_
    refine XtFB.putf 213 (hw _ (List.mem_of_getElem? (i := 34) rfl)) u3_52 u3_53 (Or.inl (hw _ (List.mem_of_getElem? (i := 35) rfl))) (hw _ (List.mem_of_getElem? (i := 2) rfl)) (ty := .long) (by decide) rfl (rfl) (n1) (by decide +kernel) ?_
    intro TvFB hvFB XvFB WvFB
    have u3_57 := u3_49.other WvFB (Or.inr (slot_ne (t := .array .long) (t' := .long) (Or.inl (hw _ (List.mem_of_getElem? (i := 12) rfl))) (Or.inl (hw _ (List.mem_of_getElem? (i := 35) rfl))) (by decide) (by decide) (by decide)))
    have u3_58 := u3_50.other WvFB (Or.inr (slot_ne (t := .array .long) (t' := .long) (Or.inl (hw _ (List.mem_of_getElem? (i := 14) rfl))) (Or.inl (hw _ (List.mem_of_getElem? (i := 35) rfl))) (by decide) (by decide) (by decide)))
    have u3_59 := u3_51.other WvFB (Or.inr (slot_ne (t := .array .int) (t' := .long) (Or.inl (hw _ (List.mem_of_getElem? (i := 17) rfl))) (Or.inl (hw _ (List.mem_of_getElem? (i := 35) rfl))) (by decide) (by decide) (by decide)))
    have u3_60 := NFZ.other WvFB (Or.inr (slot_ne (t := .int) (t' := .long) (Or.inl (hw _ (List.mem_of_getElem? (i := 24) rfl))) (Or.inl (hw _ (List.mem_of_getElem? (i := 35) rfl))) (by decide) (by decide) (by decide)))
    have u3_61 := u3_53.wr WvFB
    have u3_62 := u3_54.other WvFB d1.symm
    have u3_63 := u3_55.other WvFB d2.symm
    have u3_64 := u3_56.other WvFB d3.symm
    have NFB := u3_52.same WvFB
    exact XvFB.retV (by decide +kernel) (by decide) (by decide) (⟨rfl, x0, x1, x2, pp, _, ⟨⟨u3_57, u3_58, u3_59, u3_60, NFB, u3_61⟩, ⟨u3_62, u3_63, u3_64⟩, ⟨n1, n2, n3, n4⟩, ⟨d1, d2, d3⟩, ⟨f1, f2, f3⟩⟩, by simp only [srt, and_true] <;> omega, fun q => by first | (simp only [cnt, List.foldl]; done) | (simp only [cnt, List.foldl]; ac_rfl)⟩)
  · have o1 := own_lt g1
    refine Xl1.blk hK (L := [(.iinc 6 (-1), 3, -1, 0), (.goto (-22), 3, 0, 69)]) (pc' := 69) (ls' := #[.val (.ref a), .val (.long pp), .second, .val (.long (0 : Int64)), .second, .val (.int (0 : Int32)), .val (.int (2 : Int32))]) (st' := []) (by decide +kernel) rfl ?_
    refine Xl1.blk hK (L := [(.iload 6, 2, 0, 0)]) (pc' := 71) (ls' := #[.val (.ref a), .val (.long pp), .second, .val (.long (0 : Int64)), .second, .val (.int (0 : Int32)), .val (.int (2 : Int32))]) (st' := [(.int (2 : Int32))]) (by decide +kernel) rfl ?_
    refine Xl1.ifc .le (23) 94 74 (by decide +kernel) (fun (c71 : ¬ (0 : Int32) < (2 : Int32)) => absurd (by decide : (0 : Int32) < (2 : Int32)) c71) (fun (c71 : (0 : Int32) < (2 : Int32)) => ?_)
    refine Xl1.blk hK (L := [(.aload_n 0, 1, 0, 0)]) (pc' := 75) (ls' := #[.val (.ref a), .val (.long pp), .second, .val (.long (0 : Int64)), .second, .val (.int (0 : Int32)), .val (.int (2 : Int32))]) (st' := [(.ref a)]) (by decide +kernel) rfl ?_
    refine Xl1.getf 78 (hw _ (List.mem_of_getElem? (i := 11) rfl)) FL (by decide +kernel) ?_
    intro Tl2 Xl2
    refine Xl2.blk hK (L := [(.iload 6, 2, 0, 0), (.iconst 1, 1, 1, 0), (.isub, 1, 0, 0)]) (pc' := 82) (ls' := #[.val (.ref a), .val (.long pp), .second, .val (.long (0 : Int64)), .second, .val (.int (0 : Int32)), .val (.int (2 : Int32))]) (st' := [(.int (1 : Int32)), (.ref al)]) (by decide +kernel) rfl ?_
    refine Xl2.laload 83 AL (by decide +kernel) (by decide) (rfl) ?_
    refine Xl2.blk hK (L := [(.lload_n 1, 1, 0, 0)]) (pc' := 84) (ls' := #[.val (.ref a), .val (.long pp), .second, .val (.long (0 : Int64)), .second, .val (.int (0 : Int32)), .val (.int (2 : Int32))]) (st' := [(.long pp), (.long x1)]) (by decide +kernel) rfl ?_
    refine Xl2.lcmp .le (9) 94 88 (by decide +kernel) (fun (g2 : ¬ pp < x1) => ?_) (fun (g2 : pp < x1) => ?_)
    · have o2 := own_ge g2
      refine Xl2.blk hK (L := [(.aload_n 0, 1, 0, 0)]) (pc' := 95) (ls' := #[.val (.ref a), .val (.long pp), .second, .val (.long (0 : Int64)), .second, .val (.int (0 : Int32)), .val (.int (2 : Int32))]) (st' := [(.ref a)]) (by decide +kernel) rfl ?_
      refine Xl2.getf 98 (hw _ (List.mem_of_getElem? (i := 11) rfl)) FL (by decide +kernel) ?_
      intro TqAL1 XqAL1
      refine XqAL1.blk hK (L := [(.iload 6, 2, 0, 0), (.aload_n 0, 1, 0, 0)]) (pc' := 101) (ls' := #[.val (.ref a), .val (.long pp), .second, .val (.long (0 : Int64)), .second, .val (.int (0 : Int32)), .val (.int (2 : Int32))]) (st' := [(.ref a), (.int (2 : Int32)), (.ref al)]) (by decide +kernel) rfl ?_
      refine XqAL1.getf 104 (hw _ (List.mem_of_getElem? (i := 11) rfl)) FL (by decide +kernel) ?_
      intro TqAL2 XqAL2
      refine XqAL2.blk hK (L := [(.iload 6, 2, 0, 0), (.iconst 1, 1, 1, 0), (.iadd, 1, 0, 0), (.aload_n 0, 1, 0, 0)]) (pc' := 109) (ls' := #[.val (.ref a), .val (.long pp), .second, .val (.long (0 : Int64)), .second, .val (.int (0 : Int32)), .val (.int (2 : Int32))]) (st' := [(.ref a), (.int (3 : Int32)), (.ref al), (.int (2 : Int32)), (.ref al)]) (by decide +kernel) rfl ?_
      refine XqAL2.getf 112 (hw _ (List.mem_of_getElem? (i := 23) rfl)) FZ (by decide +kernel) ?_
      intro TqAL3 XqAL3
      refine XqAL3.blk hK (L := [(.iload 6, 2, 0, 0), (.isub, 1, 0, 0)]) (pc' := 115) (ls' := #[.val (.ref a), .val (.long pp), .second, .val (.long (0 : Int64)), .second, .val (.int (0 : Int32)), .val (.int (2 : Int32))]) (st' := [(.int (1 : Int32)), (.int (3 : Int32)), (.ref al), (.int (2 : Int32)), (.ref al)]) (by decide +kernel) rfl ?_
      refine XqAL3.acopy 118 0 (.long 0) AL AL rfl (hw _ (List.mem_of_getElem? (i := 30) rfl)) (hw _ (List.mem_of_getElem? (i := 33) rfl)) (hw _ (List.mem_of_getElem? (i := 31) rfl)) (hw _ (List.mem_of_getElem? (i := 32) rfl)) (by decide) (by decide) (by decide) (Nat.le_of_ble_eq_true rfl) (Nat.le_of_ble_eq_true rfl) (n2) rfl rfl (by decide +kernel) (by decide) ?_
      intro TcAL hcAL XcAL KcAL BAL
      replace BAL : AV Z hcAL al .long [.long x0, .long x1, .long x2, .long x2] := BAL
      have u2_1 := FL.keep KcAL (ninS d1 nin0)
      have u2_2 := FP.keep KcAL (ninS d1 nin0)
      have u2_3 := FN.keep KcAL (ninS d1 nin0)
      have u2_4 := FZ.keep KcAL (ninS d1 nin0)
      have u2_5 := FB.keep KcAL (ninS d1 nin0)
      have u2_6 := EX.keep KcAL
      have u2_7 := AP.keep KcAL (ninS f1.symm nin0)
      have u2_8 := AN.keep KcAL (ninS f2.symm nin0)
      refine XcAL.blk hK (L := [(.aload_n 0, 1, 0, 0)]) (pc' := 119) (ls' := #[.val (.ref a), .val (.long pp), .second, .val (.long (0 : Int64)), .second, .val (.int (0 : Int32)), .val (.int (2 : Int32))]) (st' := [(.ref a)]) (by decide +kernel) rfl ?_
      refine XcAL.getf 122 (hw _ (List.mem_of_getElem? (i := 13) rfl)) u2_2 (by decide +kernel) ?_
      intro TqAP1 XqAP1
      refine XqAP1.blk hK (L := [(.iload 6, 2, 0, 0), (.aload_n 0, 1, 0, 0)]) (pc' := 125) (ls' := #[.val (.ref a), .val (.long pp), .second, .val (.long (0 : Int64)), .second, .val (.int (0 : Int32)), .val (.int (2 : Int32))]) (st' := [(.ref a), (.int (2 : Int32)), (.ref ap)]) (by decide +kernel) rfl ?_
      refine XqAP1.getf 128 (hw _ (List.mem_of_getElem? (i := 13) rfl)) u2_2 (by decide +kernel) ?_
      intro TqAP2 XqAP2
      refine XqAP2.blk hK (L := [(.iload 6, 2, 0, 0), (.iconst 1, 1, 1, 0), (.iadd, 1, 0, 0), (.aload_n 0, 1, 0, 0)]) (pc' := 133) (ls' := #[.val (.ref a), .val (.long pp), .second, .val (.long (0 : Int64)), .second, .val (.int (0 : Int32)), .val (.int (2 : Int32))]) (st' := [(.ref a), (.int (3 : Int32)), (.ref ap), (.int (2 : Int32)), (.ref ap)]) (by decide +kernel) rfl ?_
      refine XqAP2.getf 136 (hw _ (List.mem_of_getElem? (i := 23) rfl)) u2_4 (by decide +kernel) ?_
      intro TqAP3 XqAP3
      refine XqAP3.blk hK (L := [(.iload 6, 2, 0, 0), (.isub, 1, 0, 0)]) (pc' := 139) (ls' := #[.val (.ref a), .val (.long pp), .second, .val (.long (0 : Int64)), .second, .val (.int (0 : Int32)), .val (.int (2 : Int32))]) (st' := [(.int (1 : Int32)), (.int (3 : Int32)), (.ref ap), (.int (2 : Int32)), (.ref ap)]) (by decide +kernel) rfl ?_
      refine XqAP3.acopy 142 0 (.long 0) u2_7 u2_7 rfl (hw _ (List.mem_of_getElem? (i := 30) rfl)) (hw _ (List.mem_of_getElem? (i := 33) rfl)) (hw _ (List.mem_of_getElem? (i := 31) rfl)) (hw _ (List.mem_of_getElem? (i := 32) rfl)) (by decide) (by decide) (by decide) (Nat.le_of_ble_eq_true rfl) (Nat.le_of_ble_eq_true rfl) (n3) rfl rfl (by decide +kernel) (by decide) ?_
      intro TcAP hcAP XcAP KcAP BAP
      replace BAP : AV Z hcAP ap .long [.long 0, .long 0, .long 0, .long 0] := BAP
      have u2_9 := u2_1.keep KcAP (ninS d2 nin0)
      have u2_10 := u2_2.keep KcAP (ninS d2 nin0)
      have u2_11 := u2_3.keep KcAP (ninS d2 nin0)
      have u2_12 := u2_4.keep KcAP (ninS d2 nin0)
      have u2_13 := u2_5.keep KcAP (ninS d2 nin0)
      have u2_14 := u2_6.keep KcAP
      have u2_15 := BAL.keep KcAP (ninS f1 nin0)
      have u2_16 := u2_8.keep KcAP (ninS f3.symm nin0)
      refine XcAP.blk hK (L := [(.aload_n 0, 1, 0, 0)]) (pc' := 143) (ls' := #[.val (.ref a), .val (.long pp), .second, .val (.long (0 : Int64)), .second, .val (.int (0 : Int32)), .val (.int (2 : Int32))]) (st' := [(.ref a)]) (by decide +kernel) rfl ?_
      refine XcAP.getf 146 (hw _ (List.mem_of_getElem? (i := 16) rfl)) u2_11 (by decide +kernel) ?_
      intro TqAN1 XqAN1
      refine XqAN1.blk hK (L := [(.iload 6, 2, 0, 0), (.aload_n 0, 1, 0, 0)]) (pc' := 149) (ls' := #[.val (.ref a), .val (.long pp), .second, .val (.long (0 : Int64)), .second, .val (.int (0 : Int32)), .val (.int (2 : Int32))]) (st' := [(.ref a), (.int (2 : Int32)), (.ref ai)]) (by decide +kernel) rfl ?_
      refine XqAN1.getf 152 (hw _ (List.mem_of_getElem? (i := 16) rfl)) u2_11 (by decide +kernel) ?_
      intro TqAN2 XqAN2
      refine XqAN2.blk hK (L := [(.iload 6, 2, 0, 0), (.iconst 1, 1, 1, 0), (.iadd, 1, 0, 0), (.aload_n 0, 1, 0, 0)]) (pc' := 157) (ls' := #[.val (.ref a), .val (.long pp), .second, .val (.long (0 : Int64)), .second, .val (.int (0 : Int32)), .val (.int (2 : Int32))]) (st' := [(.ref a), (.int (3 : Int32)), (.ref ai), (.int (2 : Int32)), (.ref ai)]) (by decide +kernel) rfl ?_
      refine XqAN2.getf 160 (hw _ (List.mem_of_getElem? (i := 23) rfl)) u2_12 (by decide +kernel) ?_
      intro TqAN3 XqAN3
      refine XqAN3.blk hK (L := [(.iload 6, 2, 0, 0), (.isub, 1, 0, 0)]) (pc' := 163) (ls' := #[.val (.ref a), .val (.long pp), .second, .val (.long (0 : Int64)), .second, .val (.int (0 : Int32)), .val (.int (2 : Int32))]) (st' := [(.int (1 : Int32)), (.int (3 : Int32)), (.ref ai), (.int (2 : Int32)), (.ref ai)]) (by decide +kernel) rfl ?_
      refine XqAN3.acopy 166 0 (.int 0) u2_16 u2_16 rfl (hw _ (List.mem_of_getElem? (i := 30) rfl)) (hw _ (List.mem_of_getElem? (i := 33) rfl)) (hw _ (List.mem_of_getElem? (i := 31) rfl)) (hw _ (List.mem_of_getElem? (i := 32) rfl)) (by decide) (by decide) (by decide) (Nat.le_of_ble_eq_true rfl) (Nat.le_of_ble_eq_true rfl) (n4) rfl rfl (by decide +kernel) (by decide) ?_
      intro TcAN hcAN XcAN KcAN BAN
      replace BAN : AV Z hcAN ai .int [.int 0, .int 0, .int 0, .int 0] := BAN
      have u2_17 := u2_9.keep KcAN (ninS d3 nin0)
      have u2_18 := u2_10.keep KcAN (ninS d3 nin0)
      have u2_19 := u2_11.keep KcAN (ninS d3 nin0)
      have u2_20 := u2_12.keep KcAN (ninS d3 nin0)
      have u2_21 := u2_13.keep KcAN (ninS d3 nin0)
      have u2_22 := u2_14.keep KcAN
      have u2_23 := u2_15.keep KcAN (ninS f2 nin0)
      have u2_24 := BAP.keep KcAN (ninS f3 nin0)
      refine XcAN.blk hK (L := [(.aload_n 0, 1, 0, 0)]) (pc' := 167) (ls' := #[.val (.ref a), .val (.long pp), .second, .val (.long (0 : Int64)), .second, .val (.int (0 : Int32)), .val (.int (2 : Int32))]) (st' := [(.ref a)]) (by decide +kernel) rfl ?_
      refine XcAN.getf 170 (hw _ (List.mem_of_getElem? (i := 11) rfl)) u2_17 (by decide +kernel) ?_
      intro TrAL XrAL
      refine XrAL.blk hK (L := [(.iload 6, 2, 0, 0), (.lload_n 1, 1, 0, 0)]) (pc' := 173) (ls' := #[.val (.ref a), .val (.long pp), .second, .val (.long (0 : Int64)), .second, .val (.int (0 : Int32)), .val (.int (2 : Int32))]) (st' := [(.long pp), (.int (2 : Int32)), (.ref al)]) (by decide +kernel) rfl ?_
      refine XrAL.lastore 174 u2_23 (by decide +kernel) (by decide) (Nat.le_of_ble_eq_true rfl) (n2) ?_
      intro TsAL hsAL XsAL WsAL DAL
      replace DAL : AV Z hsAL al .long [.long x0, .long x1, .long pp, .long x2] := DAL
      have u2_25 := u2_17.other WsAL (Or.inl d1)
      have u2_26 := u2_18.other WsAL (Or.inl d1)
      have u2_27 := u2_19.other WsAL (Or.inl d1)
      have u2_28 := u2_20.other WsAL (Or.inl d1)
      have u2_29 := u2_21.other WsAL (Or.inl d1)
      have u2_30 := u2_22.wr WsAL
      have u2_31 := u2_24.other WsAL f1.symm
      have u2_32 := BAN.other WsAL f2.symm
      refine XsAL.blk hK (L := [(.aload_n 0, 1, 0, 0)]) (pc' := 175) (ls' := #[.val (.ref a), .val (.long pp), .second, .val (.long (0 : Int64)), .second, .val (.int (0 : Int32)), .val (.int (2 : Int32))]) (st' := [(.ref a)]) (by decide +kernel) rfl ?_
      refine XsAL.getf 178 (hw _ (List.mem_of_getElem? (i := 13) rfl)) u2_26 (by decide +kernel) ?_
      intro TrAP XrAP
      refine XrAP.blk hK (L := [(.iload 6, 2, 0, 0), (.lload_n 3, 1, 0, 0)]) (pc' := 181) (ls' := #[.val (.ref a), .val (.long pp), .second, .val (.long (0 : Int64)), .second, .val (.int (0 : Int32)), .val (.int (2 : Int32))]) (st' := [(.long (0 : Int64)), (.int (2 : Int32)), (.ref ap)]) (by decide +kernel) rfl ?_
      refine XrAP.lastore 182 u2_31 (by decide +kernel) (by decide) (Nat.le_of_ble_eq_true rfl) (n3) ?_
      intro TsAP hsAP XsAP WsAP DAP
      replace DAP : AV Z hsAP ap .long [.long 0, .long 0, .long 0, .long 0] := DAP
      have u2_33 := u2_25.other WsAP (Or.inl d2)
      have u2_34 := u2_26.other WsAP (Or.inl d2)
      have u2_35 := u2_27.other WsAP (Or.inl d2)
      have u2_36 := u2_28.other WsAP (Or.inl d2)
      have u2_37 := u2_29.other WsAP (Or.inl d2)
      have u2_38 := u2_30.wr WsAP
      have u2_39 := DAL.other WsAP f1
      have u2_40 := u2_32.other WsAP f3.symm
      refine XsAP.blk hK (L := [(.aload_n 0, 1, 0, 0)]) (pc' := 183) (ls' := #[.val (.ref a), .val (.long pp), .second, .val (.long (0 : Int64)), .second, .val (.int (0 : Int32)), .val (.int (2 : Int32))]) (st' := [(.ref a)]) (by decide +kernel) rfl ?_
      refine XsAP.getf 186 (hw _ (List.mem_of_getElem? (i := 16) rfl)) u2_35 (by decide +kernel) ?_
      intro TrAN XrAN
      refine XrAN.blk hK (L := [(.iload 6, 2, 0, 0), (.iload 5, 2, 0, 0)]) (pc' := 190) (ls' := #[.val (.ref a), .val (.long pp), .second, .val (.long (0 : Int64)), .second, .val (.int (0 : Int32)), .val (.int (2 : Int32))]) (st' := [(.int (0 : Int32)), (.int (2 : Int32)), (.ref ai)]) (by decide +kernel) rfl ?_
      refine XrAN.iastore 191 u2_40 (by decide +kernel) (by decide) (Nat.le_of_ble_eq_true rfl) (n4) ?_
      intro TsAN hsAN XsAN WsAN DAN
      replace DAN : AV Z hsAN ai .int [.int 0, .int 0, .int 0, .int 0] := DAN
      have u2_41 := u2_33.other WsAN (Or.inl d3)
      have u2_42 := u2_34.other WsAN (Or.inl d3)
      have u2_43 := u2_35.other WsAN (Or.inl d3)
      have u2_44 := u2_36.other WsAN (Or.inl d3)
      have u2_45 := u2_37.other WsAN (Or.inl d3)
      have u2_46 := u2_38.wr WsAN
      have u2_47 := u2_39.other WsAN f2
      have u2_48 := DAP.other WsAN f3
      refine XsAN.blk hK (L := [(.aload_n 0, 1, 0, 0), (.dup, 1, 0, 0)]) (pc' := 193) (ls' := #[.val (.ref a), .val (.long pp), .second, .val (.long (0 : Int64)), .second, .val (.int (0 : Int32)), .val (.int (2 : Int32))]) (st' := [(.ref a), (.ref a)]) (by decide +kernel) rfl ?_
      refine XsAN.getf 196 (hw _ (List.mem_of_getElem? (i := 23) rfl)) u2_44 (by decide +kernel) ?_
      intro TtFZ XtFZ
      refine XtFZ.blk hK (L := [(.iconst 1, 1, 1, 0), (.iadd, 1, 0, 0)]) (pc' := 198) (ls' := #[.val (.ref a), .val (.long pp), .second, .val (.long (0 : Int64)), .second, .val (.int (0 : Int32)), .val (.int (2 : Int32))]) (st' := [(.int (4 : Int32)), (.ref a)]) (by decide +kernel) rfl ?_
      refine XtFZ.putf 201 (hw _ (List.mem_of_getElem? (i := 23) rfl)) u2_44 u2_46 (Or.inl (hw _ (List.mem_of_getElem? (i := 24) rfl))) (hw _ (List.mem_of_getElem? (i := 2) rfl)) (ty := .int) (by decide) rfl (rfl) (n1) (by decide +kernel) ?_
      intro TvFZ hvFZ XvFZ WvFZ
      have u2_49 := u2_41.other WvFZ (Or.inr (slot_ne (t := .array .long) (t' := .int) (Or.inl (hw _ (List.mem_of_getElem? (i := 12) rfl))) (Or.inl (hw _ (List.mem_of_getElem? (i := 24) rfl))) (by decide) (by decide) (by decide)))
      have u2_50 := u2_42.other WvFZ (Or.inr (slot_ne (t := .array .long) (t' := .int) (Or.inl (hw _ (List.mem_of_getElem? (i := 14) rfl))) (Or.inl (hw _ (List.mem_of_getElem? (i := 24) rfl))) (by decide) (by decide) (by decide)))
      have u2_51 := u2_43.other WvFZ (Or.inr (slot_ne (t := .array .int) (t' := .int) (Or.inl (hw _ (List.mem_of_getElem? (i := 17) rfl))) (Or.inl (hw _ (List.mem_of_getElem? (i := 24) rfl))) (by decide) (by decide) (by decide)))
      have u2_52 := u2_45.other WvFZ (Or.inr (slot_ne (t := .long) (t' := .int) (Or.inl (hw _ (List.mem_of_getElem? (i := 35) rfl))) (Or.inl (hw _ (List.mem_of_getElem? (i := 24) rfl))) (by decide) (by decide) (by decide)))
      have u2_53 := u2_46.wr WvFZ
      have u2_54 := u2_47.other WvFZ d1.symm
      have u2_55 := u2_48.other WvFZ d2.symm
      have u2_56 := DAN.other WvFZ d3.symm
      have NFZ := u2_44.same WvFZ
      refine XvFZ.blk hK (L := [(.aload_n 0, 1, 0, 0), (.dup, 1, 0, 0)]) (pc' := 203) (ls' := #[.val (.ref a), .val (.long pp), .second, .val (.long (0 : Int64)), .second, .val (.int (0 : Int32)), .val (.int (2 : Int32))]) (st' := [(.ref a), (.ref a)]) (by decide +kernel) rfl ?_
      refine XvFZ.getf 206 (hw _ (List.mem_of_getElem? (i := 34) rfl)) u2_52 (by decide +kernel) ?_
      intro TtFB XtFB
      refine XtFB.blk hK (L := [(.iload 5, 2, 0, 0), (.i2l, 1, 0, 0), (.ladd, 1, 0, 0)]) (pc' := 210) (ls' := #[.val (.ref a), .val (.long pp), .second, .val (.long (0 : Int64)), .second, .val (.int (0 : Int32)), .val (.int (2 : Int32))]) (st' := [(.long (bb + ((0 : Int32).toInt64))), (.ref a)]) (by decide +kernel) rfl ?_
      refine XtFB.putf 213 (hw _ (List.mem_of_getElem? (i := 34) rfl)) u2_52 u2_53 (Or.inl (hw _ (List.mem_of_getElem? (i := 35) rfl))) (hw _ (List.mem_of_getElem? (i := 2) rfl)) (ty := .long) (by decide) rfl (rfl) (n1) (by decide +kernel) ?_
      intro TvFB hvFB XvFB WvFB
      have u2_57 := u2_49.other WvFB (Or.inr (slot_ne (t := .array .long) (t' := .long) (Or.inl (hw _ (List.mem_of_getElem? (i := 12) rfl))) (Or.inl (hw _ (List.mem_of_getElem? (i := 35) rfl))) (by decide) (by decide) (by decide)))
      have u2_58 := u2_50.other WvFB (Or.inr (slot_ne (t := .array .long) (t' := .long) (Or.inl (hw _ (List.mem_of_getElem? (i := 14) rfl))) (Or.inl (hw _ (List.mem_of_getElem? (i := 35) rfl))) (by decide) (by decide) (by decide)))
      have u2_59 := u2_51.other WvFB (Or.inr (slot_ne (t := .array .int) (t' := .long) (Or.inl (hw _ (List.mem_of_getElem? (i := 17) rfl))) (Or.inl (hw _ (List.mem_of_getElem? (i := 35) rfl))) (by decide) (by decide) (by decide)))
      have u2_60 := NFZ.other WvFB (Or.inr (slot_ne (t := .int) (t' := .long) (Or.inl (hw _ (List.mem_of_getElem? (i := 24) rfl))) (Or.inl (hw _ (List.mem_of_getElem? (i := 35) rfl))) (by decide) (by decide) (by decide)))
      have u2_61 := u2_53.wr WvFB
      have u2_62 := u2_54.other WvFB d1.symm
      have u2_63 := u2_55.other WvFB d2.symm
      have u2_64 := u2_56.other WvFB d3.symm
      have NFB := u2_52.same WvFB
      exact XvFB.retV (by decide +kernel) (by decide) (by decide) (⟨rfl, x0, x1, pp, x2, _, ⟨⟨u2_57, u2_58, u2_59, u2_60, NFB, u2_61⟩, ⟨u2_62, u2_63, u2_64⟩, ⟨n1, n2, n3, n4⟩, ⟨d1, d2, d3⟩, ⟨f1, f2, f3⟩⟩, by simp only [srt, and_true] <;> omega, fun q => by first | (simp only [cnt, List.foldl]; done) | (simp only [cnt, List.foldl]; ac_rfl)⟩)
    · have o2 := own_lt g2
      refine Xl2.blk hK (L := [(.iinc 6 (-1), 3, -1, 0), (.goto (-22), 3, 0, 69)]) (pc' := 69) (ls' := #[.val (.ref a), .val (.long pp), .second, .val (.long (0 : Int64)), .second, .val (.int (0 : Int32)), .val (.int (1 : Int32))]) (st' := []) (by decide +kernel) rfl ?_
      refine Xl2.blk hK (L := [(.iload 6, 2, 0, 0)]) (pc' := 71) (ls' := #[.val (.ref a), .val (.long pp), .second, .val (.long (0 : Int64)), .second, .val (.int (0 : Int32)), .val (.int (1 : Int32))]) (st' := [(.int (1 : Int32))]) (by decide +kernel) rfl ?_
      refine Xl2.ifc .le (23) 94 74 (by decide +kernel) (fun (c71 : ¬ (0 : Int32) < (1 : Int32)) => absurd (by decide : (0 : Int32) < (1 : Int32)) c71) (fun (c71 : (0 : Int32) < (1 : Int32)) => ?_)
      refine Xl2.blk hK (L := [(.aload_n 0, 1, 0, 0)]) (pc' := 75) (ls' := #[.val (.ref a), .val (.long pp), .second, .val (.long (0 : Int64)), .second, .val (.int (0 : Int32)), .val (.int (1 : Int32))]) (st' := [(.ref a)]) (by decide +kernel) rfl ?_
      refine Xl2.getf 78 (hw _ (List.mem_of_getElem? (i := 11) rfl)) FL (by decide +kernel) ?_
      intro Tl3 Xl3
      refine Xl3.blk hK (L := [(.iload 6, 2, 0, 0), (.iconst 1, 1, 1, 0), (.isub, 1, 0, 0)]) (pc' := 82) (ls' := #[.val (.ref a), .val (.long pp), .second, .val (.long (0 : Int64)), .second, .val (.int (0 : Int32)), .val (.int (1 : Int32))]) (st' := [(.int (0 : Int32)), (.ref al)]) (by decide +kernel) rfl ?_
      refine Xl3.laload 83 AL (by decide +kernel) (by decide) (rfl) ?_
      refine Xl3.blk hK (L := [(.lload_n 1, 1, 0, 0)]) (pc' := 84) (ls' := #[.val (.ref a), .val (.long pp), .second, .val (.long (0 : Int64)), .second, .val (.int (0 : Int32)), .val (.int (1 : Int32))]) (st' := [(.long pp), (.long x0)]) (by decide +kernel) rfl ?_
      refine Xl3.lcmp .le (9) 94 88 (by decide +kernel) (fun (g3 : ¬ pp < x0) => ?_) (fun (g3 : pp < x0) => ?_)
      · have o3 := own_ge g3
        refine Xl3.blk hK (L := [(.aload_n 0, 1, 0, 0)]) (pc' := 95) (ls' := #[.val (.ref a), .val (.long pp), .second, .val (.long (0 : Int64)), .second, .val (.int (0 : Int32)), .val (.int (1 : Int32))]) (st' := [(.ref a)]) (by decide +kernel) rfl ?_
        refine Xl3.getf 98 (hw _ (List.mem_of_getElem? (i := 11) rfl)) FL (by decide +kernel) ?_
        intro TqAL1 XqAL1
        refine XqAL1.blk hK (L := [(.iload 6, 2, 0, 0), (.aload_n 0, 1, 0, 0)]) (pc' := 101) (ls' := #[.val (.ref a), .val (.long pp), .second, .val (.long (0 : Int64)), .second, .val (.int (0 : Int32)), .val (.int (1 : Int32))]) (st' := [(.ref a), (.int (1 : Int32)), (.ref al)]) (by decide +kernel) rfl ?_
        refine XqAL1.getf 104 (hw _ (List.mem_of_getElem? (i := 11) rfl)) FL (by decide +kernel) ?_
        intro TqAL2 XqAL2
        refine XqAL2.blk hK (L := [(.iload 6, 2, 0, 0), (.iconst 1, 1, 1, 0), (.iadd, 1, 0, 0), (.aload_n 0, 1, 0, 0)]) (pc' := 109) (ls' := #[.val (.ref a), .val (.long pp), .second, .val (.long (0 : Int64)), .second, .val (.int (0 : Int32)), .val (.int (1 : Int32))]) (st' := [(.ref a), (.int (2 : Int32)), (.ref al), (.int (1 : Int32)), (.ref al)]) (by decide +kernel) rfl ?_
        refine XqAL2.getf 112 (hw _ (List.mem_of_getElem? (i := 23) rfl)) FZ (by decide +kernel) ?_
        intro TqAL3 XqAL3
        refine XqAL3.blk hK (L := [(.iload 6, 2, 0, 0), (.isub, 1, 0, 0)]) (pc' := 115) (ls' := #[.val (.ref a), .val (.long pp), .second, .val (.long (0 : Int64)), .second, .val (.int (0 : Int32)), .val (.int (1 : Int32))]) (st' := [(.int (2 : Int32)), (.int (2 : Int32)), (.ref al), (.int (1 : Int32)), (.ref al)]) (by decide +kernel) rfl ?_
        refine XqAL3.acopy 118 0 (.long 0) AL AL rfl (hw _ (List.mem_of_getElem? (i := 30) rfl)) (hw _ (List.mem_of_getElem? (i := 33) rfl)) (hw _ (List.mem_of_getElem? (i := 31) rfl)) (hw _ (List.mem_of_getElem? (i := 32) rfl)) (by decide) (by decide) (by decide) (Nat.le_of_ble_eq_true rfl) (Nat.le_of_ble_eq_true rfl) (n2) rfl rfl (by decide +kernel) (by decide) ?_
        intro TcAL hcAL XcAL KcAL BAL
        replace BAL : AV Z hcAL al .long [.long x0, .long x1, .long x1, .long x2] := BAL
        have u1_1 := FL.keep KcAL (ninS d1 nin0)
        have u1_2 := FP.keep KcAL (ninS d1 nin0)
        have u1_3 := FN.keep KcAL (ninS d1 nin0)
        have u1_4 := FZ.keep KcAL (ninS d1 nin0)
        have u1_5 := FB.keep KcAL (ninS d1 nin0)
        have u1_6 := EX.keep KcAL
        have u1_7 := AP.keep KcAL (ninS f1.symm nin0)
        have u1_8 := AN.keep KcAL (ninS f2.symm nin0)
        refine XcAL.blk hK (L := [(.aload_n 0, 1, 0, 0)]) (pc' := 119) (ls' := #[.val (.ref a), .val (.long pp), .second, .val (.long (0 : Int64)), .second, .val (.int (0 : Int32)), .val (.int (1 : Int32))]) (st' := [(.ref a)]) (by decide +kernel) rfl ?_
        refine XcAL.getf 122 (hw _ (List.mem_of_getElem? (i := 13) rfl)) u1_2 (by decide +kernel) ?_
        intro TqAP1 XqAP1
        refine XqAP1.blk hK (L := [(.iload 6, 2, 0, 0), (.aload_n 0, 1, 0, 0)]) (pc' := 125) (ls' := #[.val (.ref a), .val (.long pp), .second, .val (.long (0 : Int64)), .second, .val (.int (0 : Int32)), .val (.int (1 : Int32))]) (st' := [(.ref a), (.int (1 : Int32)), (.ref ap)]) (by decide +kernel) rfl ?_
        refine XqAP1.getf 128 (hw _ (List.mem_of_getElem? (i := 13) rfl)) u1_2 (by decide +kernel) ?_
        intro TqAP2 XqAP2
        refine XqAP2.blk hK (L := [(.iload 6, 2, 0, 0), (.iconst 1, 1, 1, 0), (.iadd, 1, 0, 0), (.aload_n 0, 1, 0, 0)]) (pc' := 133) (ls' := #[.val (.ref a), .val (.long pp), .second, .val (.long (0 : Int64)), .second, .val (.int (0 : Int32)), .val (.int (1 : Int32))]) (st' := [(.ref a), (.int (2 : Int32)), (.ref ap), (.int (1 : Int32)), (.ref ap)]) (by decide +kernel) rfl ?_
        refine XqAP2.getf 136 (hw _ (List.mem_of_getElem? (i := 23) rfl)) u1_4 (by decide +kernel) ?_
        intro TqAP3 XqAP3
        refine XqAP3.blk hK (L := [(.iload 6, 2, 0, 0), (.isub, 1, 0, 0)]) (pc' := 139) (ls' := #[.val (.ref a), .val (.long pp), .second, .val (.long (0 : Int64)), .second, .val (.int (0 : Int32)), .val (.int (1 : Int32))]) (st' := [(.int (2 : Int32)), (.int (2 : Int32)), (.ref ap), (.int (1 : Int32)), (.ref ap)]) (by decide +kernel) rfl ?_
        refine XqAP3.acopy 142 0 (.long 0) u1_7 u1_7 rfl (hw _ (List.mem_of_getElem? (i := 30) rfl)) (hw _ (List.mem_of_getElem? (i := 33) rfl)) (hw _ (List.mem_of_getElem? (i := 31) rfl)) (hw _ (List.mem_of_getElem? (i := 32) rfl)) (by decide) (by decide) (by decide) (Nat.le_of_ble_eq_true rfl) (Nat.le_of_ble_eq_true rfl) (n3) rfl rfl (by decide +kernel) (by decide) ?_
        intro TcAP hcAP XcAP KcAP BAP
        replace BAP : AV Z hcAP ap .long [.long 0, .long 0, .long 0, .long 0] := BAP
        have u1_9 := u1_1.keep KcAP (ninS d2 nin0)
        have u1_10 := u1_2.keep KcAP (ninS d2 nin0)
        have u1_11 := u1_3.keep KcAP (ninS d2 nin0)
        have u1_12 := u1_4.keep KcAP (ninS d2 nin0)
        have u1_13 := u1_5.keep KcAP (ninS d2 nin0)
        have u1_14 := u1_6.keep KcAP
        have u1_15 := BAL.keep KcAP (ninS f1 nin0)
        have u1_16 := u1_8.keep KcAP (ninS f3.symm nin0)
        refine XcAP.blk hK (L := [(.aload_n 0, 1, 0, 0)]) (pc' := 143) (ls' := #[.val (.ref a), .val (.long pp), .second, .val (.long (0 : Int64)), .second, .val (.int (0 : Int32)), .val (.int (1 : Int32))]) (st' := [(.ref a)]) (by decide +kernel) rfl ?_
        refine XcAP.getf 146 (hw _ (List.mem_of_getElem? (i := 16) rfl)) u1_11 (by decide +kernel) ?_
        intro TqAN1 XqAN1
        refine XqAN1.blk hK (L := [(.iload 6, 2, 0, 0), (.aload_n 0, 1, 0, 0)]) (pc' := 149) (ls' := #[.val (.ref a), .val (.long pp), .second, .val (.long (0 : Int64)), .second, .val (.int (0 : Int32)), .val (.int (1 : Int32))]) (st' := [(.ref a), (.int (1 : Int32)), (.ref ai)]) (by decide +kernel) rfl ?_
        refine XqAN1.getf 152 (hw _ (List.mem_of_getElem? (i := 16) rfl)) u1_11 (by decide +kernel) ?_
        intro TqAN2 XqAN2
        refine XqAN2.blk hK (L := [(.iload 6, 2, 0, 0), (.iconst 1, 1, 1, 0), (.iadd, 1, 0, 0), (.aload_n 0, 1, 0, 0)]) (pc' := 157) (ls' := #[.val (.ref a), .val (.long pp), .second, .val (.long (0 : Int64)), .second, .val (.int (0 : Int32)), .val (.int (1 : Int32))]) (st' := [(.ref a), (.int (2 : Int32)), (.ref ai), (.int (1 : Int32)), (.ref ai)]) (by decide +kernel) rfl ?_
        refine XqAN2.getf 160 (hw _ (List.mem_of_getElem? (i := 23) rfl)) u1_12 (by decide +kernel) ?_
        intro TqAN3 XqAN3
        refine XqAN3.blk hK (L := [(.iload 6, 2, 0, 0), (.isub, 1, 0, 0)]) (pc' := 163) (ls' := #[.val (.ref a), .val (.long pp), .second, .val (.long (0 : Int64)), .second, .val (.int (0 : Int32)), .val (.int (1 : Int32))]) (st' := [(.int (2 : Int32)), (.int (2 : Int32)), (.ref ai), (.int (1 : Int32)), (.ref ai)]) (by decide +kernel) rfl ?_
        refine XqAN3.acopy 166 0 (.int 0) u1_16 u1_16 rfl (hw _ (List.mem_of_getElem? (i := 30) rfl)) (hw _ (List.mem_of_getElem? (i := 33) rfl)) (hw _ (List.mem_of_getElem? (i := 31) rfl)) (hw _ (List.mem_of_getElem? (i := 32) rfl)) (by decide) (by decide) (by decide) (Nat.le_of_ble_eq_true rfl) (Nat.le_of_ble_eq_true rfl) (n4) rfl rfl (by decide +kernel) (by decide) ?_
        intro TcAN hcAN XcAN KcAN BAN
        replace BAN : AV Z hcAN ai .int [.int 0, .int 0, .int 0, .int 0] := BAN
        have u1_17 := u1_9.keep KcAN (ninS d3 nin0)
        have u1_18 := u1_10.keep KcAN (ninS d3 nin0)
        have u1_19 := u1_11.keep KcAN (ninS d3 nin0)
        have u1_20 := u1_12.keep KcAN (ninS d3 nin0)
        have u1_21 := u1_13.keep KcAN (ninS d3 nin0)
        have u1_22 := u1_14.keep KcAN
        have u1_23 := u1_15.keep KcAN (ninS f2 nin0)
        have u1_24 := BAP.keep KcAN (ninS f3 nin0)
        refine XcAN.blk hK (L := [(.aload_n 0, 1, 0, 0)]) (pc' := 167) (ls' := #[.val (.ref a), .val (.long pp), .second, .val (.long (0 : Int64)), .second, .val (.int (0 : Int32)), .val (.int (1 : Int32))]) (st' := [(.ref a)]) (by decide +kernel) rfl ?_
        refine XcAN.getf 170 (hw _ (List.mem_of_getElem? (i := 11) rfl)) u1_17 (by decide +kernel) ?_
        intro TrAL XrAL
        refine XrAL.blk hK (L := [(.iload 6, 2, 0, 0), (.lload_n 1, 1, 0, 0)]) (pc' := 173) (ls' := #[.val (.ref a), .val (.long pp), .second, .val (.long (0 : Int64)), .second, .val (.int (0 : Int32)), .val (.int (1 : Int32))]) (st' := [(.long pp), (.int (1 : Int32)), (.ref al)]) (by decide +kernel) rfl ?_
        refine XrAL.lastore 174 u1_23 (by decide +kernel) (by decide) (Nat.le_of_ble_eq_true rfl) (n2) ?_
        intro TsAL hsAL XsAL WsAL DAL
        replace DAL : AV Z hsAL al .long [.long x0, .long pp, .long x1, .long x2] := DAL
        have u1_25 := u1_17.other WsAL (Or.inl d1)
        have u1_26 := u1_18.other WsAL (Or.inl d1)
        have u1_27 := u1_19.other WsAL (Or.inl d1)
        have u1_28 := u1_20.other WsAL (Or.inl d1)
        have u1_29 := u1_21.other WsAL (Or.inl d1)
        have u1_30 := u1_22.wr WsAL
        have u1_31 := u1_24.other WsAL f1.symm
        have u1_32 := BAN.other WsAL f2.symm
        refine XsAL.blk hK (L := [(.aload_n 0, 1, 0, 0)]) (pc' := 175) (ls' := #[.val (.ref a), .val (.long pp), .second, .val (.long (0 : Int64)), .second, .val (.int (0 : Int32)), .val (.int (1 : Int32))]) (st' := [(.ref a)]) (by decide +kernel) rfl ?_
        refine XsAL.getf 178 (hw _ (List.mem_of_getElem? (i := 13) rfl)) u1_26 (by decide +kernel) ?_
        intro TrAP XrAP
        refine XrAP.blk hK (L := [(.iload 6, 2, 0, 0), (.lload_n 3, 1, 0, 0)]) (pc' := 181) (ls' := #[.val (.ref a), .val (.long pp), .second, .val (.long (0 : Int64)), .second, .val (.int (0 : Int32)), .val (.int (1 : Int32))]) (st' := [(.long (0 : Int64)), (.int (1 : Int32)), (.ref ap)]) (by decide +kernel) rfl ?_
        refine XrAP.lastore 182 u1_31 (by decide +kernel) (by decide) (Nat.le_of_ble_eq_true rfl) (n3) ?_
        intro TsAP hsAP XsAP WsAP DAP
        replace DAP : AV Z hsAP ap .long [.long 0, .long 0, .long 0, .long 0] := DAP
        have u1_33 := u1_25.other WsAP (Or.inl d2)
        have u1_34 := u1_26.other WsAP (Or.inl d2)
        have u1_35 := u1_27.other WsAP (Or.inl d2)
        have u1_36 := u1_28.other WsAP (Or.inl d2)
        have u1_37 := u1_29.other WsAP (Or.inl d2)
        have u1_38 := u1_30.wr WsAP
        have u1_39 := DAL.other WsAP f1
        have u1_40 := u1_32.other WsAP f3.symm
        refine XsAP.blk hK (L := [(.aload_n 0, 1, 0, 0)]) (pc' := 183) (ls' := #[.val (.ref a), .val (.long pp), .second, .val (.long (0 : Int64)), .second, .val (.int (0 : Int32)), .val (.int (1 : Int32))]) (st' := [(.ref a)]) (by decide +kernel) rfl ?_
        refine XsAP.getf 186 (hw _ (List.mem_of_getElem? (i := 16) rfl)) u1_35 (by decide +kernel) ?_
        intro TrAN XrAN
        refine XrAN.blk hK (L := [(.iload 6, 2, 0, 0), (.iload 5, 2, 0, 0)]) (pc' := 190) (ls' := #[.val (.ref a), .val (.long pp), .second, .val (.long (0 : Int64)), .second, .val (.int (0 : Int32)), .val (.int (1 : Int32))]) (st' := [(.int (0 : Int32)), (.int (1 : Int32)), (.ref ai)]) (by decide +kernel) rfl ?_
        refine XrAN.iastore 191 u1_40 (by decide +kernel) (by decide) (Nat.le_of_ble_eq_true rfl) (n4) ?_
        intro TsAN hsAN XsAN WsAN DAN
        replace DAN : AV Z hsAN ai .int [.int 0, .int 0, .int 0, .int 0] := DAN
        have u1_41 := u1_33.other WsAN (Or.inl d3)
        have u1_42 := u1_34.other WsAN (Or.inl d3)
        have u1_43 := u1_35.other WsAN (Or.inl d3)
        have u1_44 := u1_36.other WsAN (Or.inl d3)
        have u1_45 := u1_37.other WsAN (Or.inl d3)
        have u1_46 := u1_38.wr WsAN
        have u1_47 := u1_39.other WsAN f2
        have u1_48 := DAP.other WsAN f3
        refine XsAN.blk hK (L := [(.aload_n 0, 1, 0, 0), (.dup, 1, 0, 0)]) (pc' := 193) (ls' := #[.val (.ref a), .val (.long pp), .second, .val (.long (0 : Int64)), .second, .val (.int (0 : Int32)), .val (.int (1 : Int32))]) (st' := [(.ref a), (.ref a)]) (by decide +kernel) rfl ?_
        refine XsAN.getf 196 (hw _ (List.mem_of_getElem? (i := 23) rfl)) u1_44 (by decide +kernel) ?_
        intro TtFZ XtFZ
        refine XtFZ.blk hK (L := [(.iconst 1, 1, 1, 0), (.iadd, 1, 0, 0)]) (pc' := 198) (ls' := #[.val (.ref a), .val (.long pp), .second, .val (.long (0 : Int64)), .second, .val (.int (0 : Int32)), .val (.int (1 : Int32))]) (st' := [(.int (4 : Int32)), (.ref a)]) (by decide +kernel) rfl ?_
        refine XtFZ.putf 201 (hw _ (List.mem_of_getElem? (i := 23) rfl)) u1_44 u1_46 (Or.inl (hw _ (List.mem_of_getElem? (i := 24) rfl))) (hw _ (List.mem_of_getElem? (i := 2) rfl)) (ty := .int) (by decide) rfl (rfl) (n1) (by decide +kernel) ?_
        intro TvFZ hvFZ XvFZ WvFZ
        have u1_49 := u1_41.other WvFZ (Or.inr (slot_ne (t := .array .long) (t' := .int) (Or.inl (hw _ (List.mem_of_getElem? (i := 12) rfl))) (Or.inl (hw _ (List.mem_of_getElem? (i := 24) rfl))) (by decide) (by decide) (by decide)))
        have u1_50 := u1_42.other WvFZ (Or.inr (slot_ne (t := .array .long) (t' := .int) (Or.inl (hw _ (List.mem_of_getElem? (i := 14) rfl))) (Or.inl (hw _ (List.mem_of_getElem? (i := 24) rfl))) (by decide) (by decide) (by decide)))
        have u1_51 := u1_43.other WvFZ (Or.inr (slot_ne (t := .array .int) (t' := .int) (Or.inl (hw _ (List.mem_of_getElem? (i := 17) rfl))) (Or.inl (hw _ (List.mem_of_getElem? (i := 24) rfl))) (by decide) (by decide) (by decide)))
        have u1_52 := u1_45.other WvFZ (Or.inr (slot_ne (t := .long) (t' := .int) (Or.inl (hw _ (List.mem_of_getElem? (i := 35) rfl))) (Or.inl (hw _ (List.mem_of_getElem? (i := 24) rfl))) (by decide) (by decide) (by decide)))
        have u1_53 := u1_46.wr WvFZ
        have u1_54 := u1_47.other WvFZ d1.symm
        have u1_55 := u1_48.other WvFZ d2.symm
        have u1_56 := DAN.other WvFZ d3.symm
        have NFZ := u1_44.same WvFZ
        refine XvFZ.blk hK (L := [(.aload_n 0, 1, 0, 0), (.dup, 1, 0, 0)]) (pc' := 203) (ls' := #[.val (.ref a), .val (.long pp), .second, .val (.long (0 : Int64)), .second, .val (.int (0 : Int32)), .val (.int (1 : Int32))]) (st' := [(.ref a), (.ref a)]) (by decide +kernel) rfl ?_
        refine XvFZ.getf 206 (hw _ (List.mem_of_getElem? (i := 34) rfl)) u1_52 (by decide +kernel) ?_
        intro TtFB XtFB
        refine XtFB.blk hK (L := [(.iload 5, 2, 0, 0), (.i2l, 1, 0, 0), (.ladd, 1, 0, 0)]) (pc' := 210) (ls' := #[.val (.ref a), .val (.long pp), .second, .val (.long (0 : Int64)), .second, .val (.int (0 : Int32)), .val (.int (1 : Int32))]) (st' := [(.long (bb + ((0 : Int32).toInt64))), (.ref a)]) (by decide +kernel) rfl ?_
        refine XtFB.putf 213 (hw _ (List.mem_of_getElem? (i := 34) rfl)) u1_52 u1_53 (Or.inl (hw _ (List.mem_of_getElem? (i := 35) rfl))) (hw _ (List.mem_of_getElem? (i := 2) rfl)) (ty := .long) (by decide) rfl (rfl) (n1) (by decide +kernel) ?_
        intro TvFB hvFB XvFB WvFB
        have u1_57 := u1_49.other WvFB (Or.inr (slot_ne (t := .array .long) (t' := .long) (Or.inl (hw _ (List.mem_of_getElem? (i := 12) rfl))) (Or.inl (hw _ (List.mem_of_getElem? (i := 35) rfl))) (by decide) (by decide) (by decide)))
        have u1_58 := u1_50.other WvFB (Or.inr (slot_ne (t := .array .long) (t' := .long) (Or.inl (hw _ (List.mem_of_getElem? (i := 14) rfl))) (Or.inl (hw _ (List.mem_of_getElem? (i := 35) rfl))) (by decide) (by decide) (by decide)))
        have u1_59 := u1_51.other WvFB (Or.inr (slot_ne (t := .array .int) (t' := .long) (Or.inl (hw _ (List.mem_of_getElem? (i := 17) rfl))) (Or.inl (hw _ (List.mem_of_getElem? (i := 35) rfl))) (by decide) (by decide) (by decide)))
        have u1_60 := NFZ.other WvFB (Or.inr (slot_ne (t := .int) (t' := .long) (Or.inl (hw _ (List.mem_of_getElem? (i := 24) rfl))) (Or.inl (hw _ (List.mem_of_getElem? (i := 35) rfl))) (by decide) (by decide) (by decide)))
        have u1_61 := u1_53.wr WvFB
        have u1_62 := u1_54.other WvFB d1.symm
        have u1_63 := u1_55.other WvFB d2.symm
        have u1_64 := u1_56.other WvFB d3.symm
        have NFB := u1_52.same WvFB
        exact XvFB.retV (by decide +kernel) (by decide) (by decide) (⟨rfl, x0, pp, x1, x2, _, ⟨⟨u1_57, u1_58, u1_59, u1_60, NFB, u1_61⟩, ⟨u1_62, u1_63, u1_64⟩, ⟨n1, n2, n3, n4⟩, ⟨d1, d2, d3⟩, ⟨f1, f2, f3⟩⟩, by simp only [srt, and_true] <;> omega, fun q => by first | (simp only [cnt, List.foldl]; done) | (simp only [cnt, List.foldl]; ac_rfl)⟩)
      · have o3 := own_lt g3
        refine Xl3.blk hK (L := [(.iinc 6 (-1), 3, -1, 0), (.goto (-22), 3, 0, 69)]) (pc' := 69) (ls' := #[.val (.ref a), .val (.long pp), .second, .val (.long (0 : Int64)), .second, .val (.int (0 : Int32)), .val (.int (0 : Int32))]) (st' := []) (by decide +kernel) rfl ?_
        refine Xl3.blk hK (L := [(.iload 6, 2, 0, 0)]) (pc' := 71) (ls' := #[.val (.ref a), .val (.long pp), .second, .val (.long (0 : Int64)), .second, .val (.int (0 : Int32)), .val (.int (0 : Int32))]) (st' := [(.int (0 : Int32))]) (by decide +kernel) rfl ?_
        refine Xl3.ifc .le (23) 94 74 (by decide +kernel) (fun (c71 : ¬ (0 : Int32) < (0 : Int32)) => ?_) (fun (c71 : (0 : Int32) < (0 : Int32)) => absurd c71 (by decide : ¬ (0 : Int32) < (0 : Int32)))
        refine Xl3.blk hK (L := [(.aload_n 0, 1, 0, 0)]) (pc' := 95) (ls' := #[.val (.ref a), .val (.long pp), .second, .val (.long (0 : Int64)), .second, .val (.int (0 : Int32)), .val (.int (0 : Int32))]) (st' := [(.ref a)]) (by decide +kernel) rfl ?_
        refine Xl3.getf 98 (hw _ (List.mem_of_getElem? (i := 11) rfl)) FL (by decide +kernel) ?_
        intro TqAL1 XqAL1
        refine XqAL1.blk hK (L := [(.iload 6, 2, 0, 0), (.aload_n 0, 1, 0, 0)]) (pc' := 101) (ls' := #[.val (.ref a), .val (.long pp), .second, .val (.long (0 : Int64)), .second, .val (.int (0 : Int32)), .val (.int (0 : Int32))]) (st' := [(.ref a), (.int (0 : Int32)), (.ref al)]) (by decide +kernel) rfl ?_
        refine XqAL1.getf 104 (hw _ (List.mem_of_getElem? (i := 11) rfl)) FL (by decide +kernel) ?_
        intro TqAL2 XqAL2
        refine XqAL2.blk hK (L := [(.iload 6, 2, 0, 0), (.iconst 1, 1, 1, 0), (.iadd, 1, 0, 0), (.aload_n 0, 1, 0, 0)]) (pc' := 109) (ls' := #[.val (.ref a), .val (.long pp), .second, .val (.long (0 : Int64)), .second, .val (.int (0 : Int32)), .val (.int (0 : Int32))]) (st' := [(.ref a), (.int (1 : Int32)), (.ref al), (.int (0 : Int32)), (.ref al)]) (by decide +kernel) rfl ?_
        refine XqAL2.getf 112 (hw _ (List.mem_of_getElem? (i := 23) rfl)) FZ (by decide +kernel) ?_
        intro TqAL3 XqAL3
        refine XqAL3.blk hK (L := [(.iload 6, 2, 0, 0), (.isub, 1, 0, 0)]) (pc' := 115) (ls' := #[.val (.ref a), .val (.long pp), .second, .val (.long (0 : Int64)), .second, .val (.int (0 : Int32)), .val (.int (0 : Int32))]) (st' := [(.int (3 : Int32)), (.int (1 : Int32)), (.ref al), (.int (0 : Int32)), (.ref al)]) (by decide +kernel) rfl ?_
        refine XqAL3.acopy 118 0 (.long 0) AL AL rfl (hw _ (List.mem_of_getElem? (i := 30) rfl)) (hw _ (List.mem_of_getElem? (i := 33) rfl)) (hw _ (List.mem_of_getElem? (i := 31) rfl)) (hw _ (List.mem_of_getElem? (i := 32) rfl)) (by decide) (by decide) (by decide) (Nat.le_of_ble_eq_true rfl) (Nat.le_of_ble_eq_true rfl) (n2) rfl rfl (by decide +kernel) (by decide) ?_
        intro TcAL hcAL XcAL KcAL BAL
        replace BAL : AV Z hcAL al .long [.long x0, .long x0, .long x1, .long x2] := BAL
        have u0_1 := FL.keep KcAL (ninS d1 nin0)
        have u0_2 := FP.keep KcAL (ninS d1 nin0)
        have u0_3 := FN.keep KcAL (ninS d1 nin0)
        have u0_4 := FZ.keep KcAL (ninS d1 nin0)
        have u0_5 := FB.keep KcAL (ninS d1 nin0)
        have u0_6 := EX.keep KcAL
        have u0_7 := AP.keep KcAL (ninS f1.symm nin0)
        have u0_8 := AN.keep KcAL (ninS f2.symm nin0)
        refine XcAL.blk hK (L := [(.aload_n 0, 1, 0, 0)]) (pc' := 119) (ls' := #[.val (.ref a), .val (.long pp), .second, .val (.long (0 : Int64)), .second, .val (.int (0 : Int32)), .val (.int (0 : Int32))]) (st' := [(.ref a)]) (by decide +kernel) rfl ?_
        refine XcAL.getf 122 (hw _ (List.mem_of_getElem? (i := 13) rfl)) u0_2 (by decide +kernel) ?_
        intro TqAP1 XqAP1
        refine XqAP1.blk hK (L := [(.iload 6, 2, 0, 0), (.aload_n 0, 1, 0, 0)]) (pc' := 125) (ls' := #[.val (.ref a), .val (.long pp), .second, .val (.long (0 : Int64)), .second, .val (.int (0 : Int32)), .val (.int (0 : Int32))]) (st' := [(.ref a), (.int (0 : Int32)), (.ref ap)]) (by decide +kernel) rfl ?_
        refine XqAP1.getf 128 (hw _ (List.mem_of_getElem? (i := 13) rfl)) u0_2 (by decide +kernel) ?_
        intro TqAP2 XqAP2
        refine XqAP2.blk hK (L := [(.iload 6, 2, 0, 0), (.iconst 1, 1, 1, 0), (.iadd, 1, 0, 0), (.aload_n 0, 1, 0, 0)]) (pc' := 133) (ls' := #[.val (.ref a), .val (.long pp), .second, .val (.long (0 : Int64)), .second, .val (.int (0 : Int32)), .val (.int (0 : Int32))]) (st' := [(.ref a), (.int (1 : Int32)), (.ref ap), (.int (0 : Int32)), (.ref ap)]) (by decide +kernel) rfl ?_
        refine XqAP2.getf 136 (hw _ (List.mem_of_getElem? (i := 23) rfl)) u0_4 (by decide +kernel) ?_
        intro TqAP3 XqAP3
        refine XqAP3.blk hK (L := [(.iload 6, 2, 0, 0), (.isub, 1, 0, 0)]) (pc' := 139) (ls' := #[.val (.ref a), .val (.long pp), .second, .val (.long (0 : Int64)), .second, .val (.int (0 : Int32)), .val (.int (0 : Int32))]) (st' := [(.int (3 : Int32)), (.int (1 : Int32)), (.ref ap), (.int (0 : Int32)), (.ref ap)]) (by decide +kernel) rfl ?_
        refine XqAP3.acopy 142 0 (.long 0) u0_7 u0_7 rfl (hw _ (List.mem_of_getElem? (i := 30) rfl)) (hw _ (List.mem_of_getElem? (i := 33) rfl)) (hw _ (List.mem_of_getElem? (i := 31) rfl)) (hw _ (List.mem_of_getElem? (i := 32) rfl)) (by decide) (by decide) (by decide) (Nat.le_of_ble_eq_true rfl) (Nat.le_of_ble_eq_true rfl) (n3) rfl rfl (by decide +kernel) (by decide) ?_
        intro TcAP hcAP XcAP KcAP BAP
        replace BAP : AV Z hcAP ap .long [.long 0, .long 0, .long 0, .long 0] := BAP
        have u0_9 := u0_1.keep KcAP (ninS d2 nin0)
        have u0_10 := u0_2.keep KcAP (ninS d2 nin0)
        have u0_11 := u0_3.keep KcAP (ninS d2 nin0)
        have u0_12 := u0_4.keep KcAP (ninS d2 nin0)
        have u0_13 := u0_5.keep KcAP (ninS d2 nin0)
        have u0_14 := u0_6.keep KcAP
        have u0_15 := BAL.keep KcAP (ninS f1 nin0)
        have u0_16 := u0_8.keep KcAP (ninS f3.symm nin0)
        refine XcAP.blk hK (L := [(.aload_n 0, 1, 0, 0)]) (pc' := 143) (ls' := #[.val (.ref a), .val (.long pp), .second, .val (.long (0 : Int64)), .second, .val (.int (0 : Int32)), .val (.int (0 : Int32))]) (st' := [(.ref a)]) (by decide +kernel) rfl ?_
        refine XcAP.getf 146 (hw _ (List.mem_of_getElem? (i := 16) rfl)) u0_11 (by decide +kernel) ?_
        intro TqAN1 XqAN1
        refine XqAN1.blk hK (L := [(.iload 6, 2, 0, 0), (.aload_n 0, 1, 0, 0)]) (pc' := 149) (ls' := #[.val (.ref a), .val (.long pp), .second, .val (.long (0 : Int64)), .second, .val (.int (0 : Int32)), .val (.int (0 : Int32))]) (st' := [(.ref a), (.int (0 : Int32)), (.ref ai)]) (by decide +kernel) rfl ?_
        refine XqAN1.getf 152 (hw _ (List.mem_of_getElem? (i := 16) rfl)) u0_11 (by decide +kernel) ?_
        intro TqAN2 XqAN2
        refine XqAN2.blk hK (L := [(.iload 6, 2, 0, 0), (.iconst 1, 1, 1, 0), (.iadd, 1, 0, 0), (.aload_n 0, 1, 0, 0)]) (pc' := 157) (ls' := #[.val (.ref a), .val (.long pp), .second, .val (.long (0 : Int64)), .second, .val (.int (0 : Int32)), .val (.int (0 : Int32))]) (st' := [(.ref a), (.int (1 : Int32)), (.ref ai), (.int (0 : Int32)), (.ref ai)]) (by decide +kernel) rfl ?_
        refine XqAN2.getf 160 (hw _ (List.mem_of_getElem? (i := 23) rfl)) u0_12 (by decide +kernel) ?_
        intro TqAN3 XqAN3
        refine XqAN3.blk hK (L := [(.iload 6, 2, 0, 0), (.isub, 1, 0, 0)]) (pc' := 163) (ls' := #[.val (.ref a), .val (.long pp), .second, .val (.long (0 : Int64)), .second, .val (.int (0 : Int32)), .val (.int (0 : Int32))]) (st' := [(.int (3 : Int32)), (.int (1 : Int32)), (.ref ai), (.int (0 : Int32)), (.ref ai)]) (by decide +kernel) rfl ?_
        refine XqAN3.acopy 166 0 (.int 0) u0_16 u0_16 rfl (hw _ (List.mem_of_getElem? (i := 30) rfl)) (hw _ (List.mem_of_getElem? (i := 33) rfl)) (hw _ (List.mem_of_getElem? (i := 31) rfl)) (hw _ (List.mem_of_getElem? (i := 32) rfl)) (by decide) (by decide) (by decide) (Nat.le_of_ble_eq_true rfl) (Nat.le_of_ble_eq_true rfl) (n4) rfl rfl (by decide +kernel) (by decide) ?_
        intro TcAN hcAN XcAN KcAN BAN
        replace BAN : AV Z hcAN ai .int [.int 0, .int 0, .int 0, .int 0] := BAN
        have u0_17 := u0_9.keep KcAN (ninS d3 nin0)
        have u0_18 := u0_10.keep KcAN (ninS d3 nin0)
        have u0_19 := u0_11.keep KcAN (ninS d3 nin0)
        have u0_20 := u0_12.keep KcAN (ninS d3 nin0)
        have u0_21 := u0_13.keep KcAN (ninS d3 nin0)
        have u0_22 := u0_14.keep KcAN
        have u0_23 := u0_15.keep KcAN (ninS f2 nin0)
        have u0_24 := BAP.keep KcAN (ninS f3 nin0)
        refine XcAN.blk hK (L := [(.aload_n 0, 1, 0, 0)]) (pc' := 167) (ls' := #[.val (.ref a), .val (.long pp), .second, .val (.long (0 : Int64)), .second, .val (.int (0 : Int32)), .val (.int (0 : Int32))]) (st' := [(.ref a)]) (by decide +kernel) rfl ?_
        refine XcAN.getf 170 (hw _ (List.mem_of_getElem? (i := 11) rfl)) u0_17 (by decide +kernel) ?_
        intro TrAL XrAL
        refine XrAL.blk hK (L := [(.iload 6, 2, 0, 0), (.lload_n 1, 1, 0, 0)]) (pc' := 173) (ls' := #[.val (.ref a), .val (.long pp), .second, .val (.long (0 : Int64)), .second, .val (.int (0 : Int32)), .val (.int (0 : Int32))]) (st' := [(.long pp), (.int (0 : Int32)), (.ref al)]) (by decide +kernel) rfl ?_
        refine XrAL.lastore 174 u0_23 (by decide +kernel) (by decide) (Nat.le_of_ble_eq_true rfl) (n2) ?_
        intro TsAL hsAL XsAL WsAL DAL
        replace DAL : AV Z hsAL al .long [.long pp, .long x0, .long x1, .long x2] := DAL
        have u0_25 := u0_17.other WsAL (Or.inl d1)
        have u0_26 := u0_18.other WsAL (Or.inl d1)
        have u0_27 := u0_19.other WsAL (Or.inl d1)
        have u0_28 := u0_20.other WsAL (Or.inl d1)
        have u0_29 := u0_21.other WsAL (Or.inl d1)
        have u0_30 := u0_22.wr WsAL
        have u0_31 := u0_24.other WsAL f1.symm
        have u0_32 := BAN.other WsAL f2.symm
        refine XsAL.blk hK (L := [(.aload_n 0, 1, 0, 0)]) (pc' := 175) (ls' := #[.val (.ref a), .val (.long pp), .second, .val (.long (0 : Int64)), .second, .val (.int (0 : Int32)), .val (.int (0 : Int32))]) (st' := [(.ref a)]) (by decide +kernel) rfl ?_
        refine XsAL.getf 178 (hw _ (List.mem_of_getElem? (i := 13) rfl)) u0_26 (by decide +kernel) ?_
        intro TrAP XrAP
        refine XrAP.blk hK (L := [(.iload 6, 2, 0, 0), (.lload_n 3, 1, 0, 0)]) (pc' := 181) (ls' := #[.val (.ref a), .val (.long pp), .second, .val (.long (0 : Int64)), .second, .val (.int (0 : Int32)), .val (.int (0 : Int32))]) (st' := [(.long (0 : Int64)), (.int (0 : Int32)), (.ref ap)]) (by decide +kernel) rfl ?_
        refine XrAP.lastore 182 u0_31 (by decide +kernel) (by decide) (Nat.le_of_ble_eq_true rfl) (n3) ?_
        intro TsAP hsAP XsAP WsAP DAP
        replace DAP : AV Z hsAP ap .long [.long 0, .long 0, .long 0, .long 0] := DAP
        have u0_33 := u0_25.other WsAP (Or.inl d2)
        have u0_34 := u0_26.other WsAP (Or.inl d2)
        have u0_35 := u0_27.other WsAP (Or.inl d2)
        have u0_36 := u0_28.other WsAP (Or.inl d2)
        have u0_37 := u0_29.other WsAP (Or.inl d2)
        have u0_38 := u0_30.wr WsAP
        have u0_39 := DAL.other WsAP f1
        have u0_40 := u0_32.other WsAP f3.symm
        refine XsAP.blk hK (L := [(.aload_n 0, 1, 0, 0)]) (pc' := 183) (ls' := #[.val (.ref a), .val (.long pp), .second, .val (.long (0 : Int64)), .second, .val (.int (0 : Int32)), .val (.int (0 : Int32))]) (st' := [(.ref a)]) (by decide +kernel) rfl ?_
        refine XsAP.getf 186 (hw _ (List.mem_of_getElem? (i := 16) rfl)) u0_35 (by decide +kernel) ?_
        intro TrAN XrAN
        refine XrAN.blk hK (L := [(.iload 6, 2, 0, 0), (.iload 5, 2, 0, 0)]) (pc' := 190) (ls' := #[.val (.ref a), .val (.long pp), .second, .val (.long (0 : Int64)), .second, .val (.int (0 : Int32)), .val (.int (0 : Int32))]) (st' := [(.int (0 : Int32)), (.int (0 : Int32)), (.ref ai)]) (by decide +kernel) rfl ?_
        refine XrAN.iastore 191 u0_40 (by decide +kernel) (by decide) (Nat.le_of_ble_eq_true rfl) (n4) ?_
        intro TsAN hsAN XsAN WsAN DAN
        replace DAN : AV Z hsAN ai .int [.int 0, .int 0, .int 0, .int 0] := DAN
        have u0_41 := u0_33.other WsAN (Or.inl d3)
        have u0_42 := u0_34.other WsAN (Or.inl d3)
        have u0_43 := u0_35.other WsAN (Or.inl d3)
        have u0_44 := u0_36.other WsAN (Or.inl d3)
        have u0_45 := u0_37.other WsAN (Or.inl d3)
        have u0_46 := u0_38.wr WsAN
        have u0_47 := u0_39.other WsAN f2
        have u0_48 := DAP.other WsAN f3
        refine XsAN.blk hK (L := [(.aload_n 0, 1, 0, 0), (.dup, 1, 0, 0)]) (pc' := 193) (ls' := #[.val (.ref a), .val (.long pp), .second, .val (.long (0 : Int64)), .second, .val (.int (0 : Int32)), .val (.int (0 : Int32))]) (st' := [(.ref a), (.ref a)]) (by decide +kernel) rfl ?_
        refine XsAN.getf 196 (hw _ (List.mem_of_getElem? (i := 23) rfl)) u0_44 (by decide +kernel) ?_
        intro TtFZ XtFZ
        refine XtFZ.blk hK (L := [(.iconst 1, 1, 1, 0), (.iadd, 1, 0, 0)]) (pc' := 198) (ls' := #[.val (.ref a), .val (.long pp), .second, .val (.long (0 : Int64)), .second, .val (.int (0 : Int32)), .val (.int (0 : Int32))]) (st' := [(.int (4 : Int32)), (.ref a)]) (by decide +kernel) rfl ?_
        refine XtFZ.putf 201 (hw _ (List.mem_of_getElem? (i := 23) rfl)) u0_44 u0_46 (Or.inl (hw _ (List.mem_of_getElem? (i := 24) rfl))) (hw _ (List.mem_of_getElem? (i := 2) rfl)) (ty := .int) (by decide) rfl (rfl) (n1) (by decide +kernel) ?_
        intro TvFZ hvFZ XvFZ WvFZ
        have u0_49 := u0_41.other WvFZ (Or.inr (slot_ne (t := .array .long) (t' := .int) (Or.inl (hw _ (List.mem_of_getElem? (i := 12) rfl))) (Or.inl (hw _ (List.mem_of_getElem? (i := 24) rfl))) (by decide) (by decide) (by decide)))
        have u0_50 := u0_42.other WvFZ (Or.inr (slot_ne (t := .array .long) (t' := .int) (Or.inl (hw _ (List.mem_of_getElem? (i := 14) rfl))) (Or.inl (hw _ (List.mem_of_getElem? (i := 24) rfl))) (by decide) (by decide) (by decide)))
        have u0_51 := u0_43.other WvFZ (Or.inr (slot_ne (t := .array .int) (t' := .int) (Or.inl (hw _ (List.mem_of_getElem? (i := 17) rfl))) (Or.inl (hw _ (List.mem_of_getElem? (i := 24) rfl))) (by decide) (by decide) (by decide)))
        have u0_52 := u0_45.other WvFZ (Or.inr (slot_ne (t := .long) (t' := .int) (Or.inl (hw _ (List.mem_of_getElem? (i := 35) rfl))) (Or.inl (hw _ (List.mem_of_getElem? (i := 24) rfl))) (by decide) (by decide) (by decide)))
        have u0_53 := u0_46.wr WvFZ
        have u0_54 := u0_47.other WvFZ d1.symm
        have u0_55 := u0_48.other WvFZ d2.symm
        have u0_56 := DAN.other WvFZ d3.symm
        have NFZ := u0_44.same WvFZ
        refine XvFZ.blk hK (L := [(.aload_n 0, 1, 0, 0), (.dup, 1, 0, 0)]) (pc' := 203) (ls' := #[.val (.ref a), .val (.long pp), .second, .val (.long (0 : Int64)), .second, .val (.int (0 : Int32)), .val (.int (0 : Int32))]) (st' := [(.ref a), (.ref a)]) (by decide +kernel) rfl ?_
        refine XvFZ.getf 206 (hw _ (List.mem_of_getElem? (i := 34) rfl)) u0_52 (by decide +kernel) ?_
        intro TtFB XtFB
        refine XtFB.blk hK (L := [(.iload 5, 2, 0, 0), (.i2l, 1, 0, 0), (.ladd, 1, 0, 0)]) (pc' := 210) (ls' := #[.val (.ref a), .val (.long pp), .second, .val (.long (0 : Int64)), .second, .val (.int (0 : Int32)), .val (.int (0 : Int32))]) (st' := [(.long (bb + ((0 : Int32).toInt64))), (.ref a)]) (by decide +kernel) rfl ?_
        refine XtFB.putf 213 (hw _ (List.mem_of_getElem? (i := 34) rfl)) u0_52 u0_53 (Or.inl (hw _ (List.mem_of_getElem? (i := 35) rfl))) (hw _ (List.mem_of_getElem? (i := 2) rfl)) (ty := .long) (by decide) rfl (rfl) (n1) (by decide +kernel) ?_
        intro TvFB hvFB XvFB WvFB
        have u0_57 := u0_49.other WvFB (Or.inr (slot_ne (t := .array .long) (t' := .long) (Or.inl (hw _ (List.mem_of_getElem? (i := 12) rfl))) (Or.inl (hw _ (List.mem_of_getElem? (i := 35) rfl))) (by decide) (by decide) (by decide)))
        have u0_58 := u0_50.other WvFB (Or.inr (slot_ne (t := .array .long) (t' := .long) (Or.inl (hw _ (List.mem_of_getElem? (i := 14) rfl))) (Or.inl (hw _ (List.mem_of_getElem? (i := 35) rfl))) (by decide) (by decide) (by decide)))
        have u0_59 := u0_51.other WvFB (Or.inr (slot_ne (t := .array .int) (t' := .long) (Or.inl (hw _ (List.mem_of_getElem? (i := 17) rfl))) (Or.inl (hw _ (List.mem_of_getElem? (i := 35) rfl))) (by decide) (by decide) (by decide)))
        have u0_60 := NFZ.other WvFB (Or.inr (slot_ne (t := .int) (t' := .long) (Or.inl (hw _ (List.mem_of_getElem? (i := 24) rfl))) (Or.inl (hw _ (List.mem_of_getElem? (i := 35) rfl))) (by decide) (by decide) (by decide)))
        have u0_61 := u0_53.wr WvFB
        have u0_62 := u0_54.other WvFB d1.symm
        have u0_63 := u0_55.other WvFB d2.symm
        have u0_64 := u0_56.other WvFB d3.symm
        have NFB := u0_52.same WvFB
        exact XvFB.retV (by decide +kernel) (by decide) (by decide) (⟨rfl, pp, x0, x1, x2, _, ⟨⟨u0_57, u0_58, u0_59, u0_60, NFB, u0_61⟩, ⟨u0_62, u0_63, u0_64⟩, ⟨n1, n2, n3, n4⟩, ⟨d1, d2, d3⟩, ⟨f1, f2, f3⟩⟩, by simp only [srt, and_true] <;> omega, fun q => by first | (simp only [cnt, List.foldl]; done) | (simp only [cnt, List.foldl]; ac_rfl)⟩)
set_option maxRecDepth 65536 in
set_option maxHeartbeats 40000000 in
theorem rm_law (l : Launch) (Z : State) (a0 : Array Value) (hw : ∀ d ∈ tables_1, d.before a0 Z = true) (p1 : Int32) (p2 p3 p4 p5 p6 : Int64) (h0 : Heap) (n0 : Nat) (Z0 : n0 ≤ h0.size)  :
    Cnt l Z x code maxLocals ret room_1 n0 #[(.int p1), (.long p2), (.long p3), (.long p4), (.long p5), (.long p6)] h0 (fun v h => v = some (.int 1)) := by
  refine Cnt.mk (by first | exact plainFor_of_name (by first | (simp [plainName, overriddenIn]; done) | decide +kernel) | decide +kernel) Z0 ?_
  intro p e s m below meth c T X
  refine Go.cast (g' := mkF m 0 #[.val (.int p1), .val (.long p2), .second, .val (.long p3), .second, .val (.long p4), .second, .val (.long p5), .second, .val (.long p6), .second, .unset, .unset, .unset] []) (by first | (simp [entryFrame, mkF, argsToLocals, Value.category, maxLocals]; done) | rfl) ?_
  have hK : (∀ q ∈ ([(7, (2147483647 : Int32))] : List (Nat × Int32)), (Jvm.Cond.constant "com/example/redolith/redolith/storage/RecordIndexAbovePinLaw" q.1 q.2).before a0 Z = true) ∧ (∀ q ∈ ([] : List (Nat × Int64)), (Jvm.Cond.constantLong "com/example/redolith/redolith/storage/RecordIndexAbovePinLaw" q.1 q.2).before a0 Z = true) :=
    ⟨(fun q hq => by
      rcases List.mem_cons.mp hq with rfl | hq
      · exact hw _ (List.mem_of_getElem? (i := 0) rfl)
      exact nomatch hq), (fun q hq => nomatch hq)⟩
  refine X.blk hK (L := [(.iload_n 0, 1, 0, 0), (.ldc 7, 2, 0, 0), (.iand, 1, 0, 0), (.iconst 5, 1, 5, 0)]) (pc' := 5) (ls' := #[.val (.int p1), .val (.long p2), .second, .val (.long p3), .second, .val (.long p4), .second, .val (.long p5), .second, .val (.long p6), .second, .unset, .unset, .unset]) (st' := [(.int (5 : Int32)), (.int (p1 &&& (2147483647 : Int32)))]) (by decide +kernel) rfl ?_
  refine X.irem 6 (by decide +kernel) (by decide) ?_
  rcases own_5 p1 with q_m | q_m | q_m | q_m | q_m
  · rw [q_m]
    refine X.blk hK (L := [(.istore 11, 2, 0, 0)]) (pc' := 8) (ls' := #[.val (.int p1), .val (.long p2), .second, .val (.long p3), .second, .val (.long p4), .second, .val (.long p5), .second, .val (.long p6), .second, .val (.int (0 : Int32)), .unset, .unset]) (st' := []) (by decide +kernel) rfl ?_
    refine X.newobj 11 (hw _ (List.mem_of_getElem? (i := 1) rfl)) (hw _ (List.mem_of_getElem? (i := 2) rfl)) (hw _ (List.mem_of_getElem? (i := 3) rfl)) (by decide +kernel) (by decide) ?_
    intro Tn hn Xn En Bn Dn
    obtain ⟨an, gn⟩ : ∃ z, z = h0.size := ⟨_, rfl⟩
    rw [← gn] at Bn ⊢
    simp only [← gn] at Dn
    refine Xn.blk hK (L := [(.dup, 1, 0, 0)]) (pc' := 12) (ls' := #[.val (.int p1), .val (.long p2), .second, .val (.long p3), .second, .val (.long p4), .second, .val (.long p5), .second, .val (.long p6), .second, .val (.int (0 : Int32)), .unset, .unset]) (st' := [(.ref an), (.ref an)]) (by decide +kernel) rfl ?_
    refine Xn.callI 15 1 (argsL := []) (rest := [(.ref an)]) (rm_init l Z a0 hw an hn n0 Xn.size (Dn (Or.inl (hw _ (List.mem_of_getElem? (i := 12) rfl))) (ty := .array .long) (by decide)) (Dn (Or.inl (hw _ (List.mem_of_getElem? (i := 14) rfl))) (ty := .array .long) (by decide)) (Dn (Or.inl (hw _ (List.mem_of_getElem? (i := 17) rfl))) (ty := .array .int) (by decide)) (Dn (Or.inl (hw _ (List.mem_of_getElem? (i := 24) rfl))) (ty := .int) (by decide)) (Dn (Or.inl (hw _ (List.mem_of_getElem? (i := 35) rfl))) (ty := .long) (by decide)) Bn (by rw [gn]; exact Z0)) rfl (hw _ (List.mem_of_getElem? (i := 4) rfl)) (hw _ (List.mem_of_getElem? (i := 5) rfl)) (hw _ (List.mem_of_getElem? (i := 3) rfl)) (hw _ (List.mem_of_getElem? (i := 6) rfl)) (by decide) (ps := []) (r := none) (by decide +kernel) rfl rfl rfl rfl (by decide +kernel) (by decide) ?_
    rintro Ti hi vi Xi ⟨rfl, al, ap, ai, I0⟩
    show Go p e below s _ n0 _ (Ti.setTop (mkF m 15 #[.val (.int p1), .val (.long p2), .second, .val (.long p3), .second, .val (.long p4), .second, .val (.long p5), .second, .val (.long p6), .second, .val (.int (0 : Int32)), .unset, .unset] [(.ref an)]))
    refine Xi.blk hK (L := [(.astore 12, 2, 0, 0), (.iconst 0, 1, 0, 0), (.istore 13, 2, 0, 0), (.iload 11, 2, 0, 0)]) (pc' := 22) (ls' := #[.val (.int p1), .val (.long p2), .second, .val (.long p3), .second, .val (.long p4), .second, .val (.long p5), .second, .val (.long p6), .second, .val (.int (0 : Int32)), .val (.ref an), .val (.int (0 : Int32))]) (st' := [(.int (0 : Int32))]) (by decide +kernel) rfl ?_
    refine Xi.ifc .le (22) 44 25 (by decide +kernel) (fun (c22 : ¬ (0 : Int32) < (0 : Int32)) => ?_) (fun (c22 : (0 : Int32) < (0 : Int32)) => absurd c22 (by decide : ¬ (0 : Int32) < (0 : Int32)))
    refine Xi.blk hK (L := [(.iload 11, 2, 0, 0), (.iconst 1, 1, 1, 0)]) (pc' := 47) (ls' := #[.val (.int p1), .val (.long p2), .second, .val (.long p3), .second, .val (.long p4), .second, .val (.long p5), .second, .val (.long p6), .second, .val (.int (0 : Int32)), .val (.ref an), .val (.int (0 : Int32))]) (st' := [(.int (1 : Int32)), (.int (0 : Int32))]) (by decide +kernel) rfl ?_
    refine Xi.icmp .le (22) 69 50 (by decide +kernel) (fun (c47 : ¬ (1 : Int32) < (0 : Int32)) => ?_) (fun (c47 : (1 : Int32) < (0 : Int32)) => absurd c47 (by decide : ¬ (1 : Int32) < (0 : Int32)))
    refine Xi.blk hK (L := [(.iload 11, 2, 0, 0), (.iconst 2, 1, 2, 0)]) (pc' := 72) (ls' := #[.val (.int p1), .val (.long p2), .second, .val (.long p3), .second, .val (.long p4), .second, .val (.long p5), .second, .val (.long p6), .second, .val (.int (0 : Int32)), .val (.ref an), .val (.int (0 : Int32))]) (st' := [(.int (2 : Int32)), (.int (0 : Int32))]) (by decide +kernel) rfl ?_
    refine Xi.icmp .le (24) 96 75 (by decide +kernel) (fun (c72 : ¬ (2 : Int32) < (0 : Int32)) => ?_) (fun (c72 : (2 : Int32) < (0 : Int32)) => absurd c72 (by decide : ¬ (2 : Int32) < (0 : Int32)))
    refine Xi.blk hK (L := [(.iload 11, 2, 0, 0), (.iconst 3, 1, 3, 0)]) (pc' := 99) (ls' := #[.val (.int p1), .val (.long p2), .second, .val (.long p3), .second, .val (.long p4), .second, .val (.long p5), .second, .val (.long p6), .second, .val (.int (0 : Int32)), .val (.ref an), .val (.int (0 : Int32))]) (st' := [(.int (3 : Int32)), (.int (0 : Int32))]) (by decide +kernel) rfl ?_
    refine Xi.icmp .le (24) 123 102 (by decide +kernel) (fun (c99 : ¬ (3 : Int32) < (0 : Int32)) => ?_) (fun (c99 : (3 : Int32) < (0 : Int32)) => absurd c99 (by decide : ¬ (3 : Int32) < (0 : Int32)))
    refine Xi.blk hK (L := [(.aload 12, 2, 0, 0), (.lload 9, 2, 0, 0)]) (pc' := 127) (ls' := #[.val (.int p1), .val (.long p2), .second, .val (.long p3), .second, .val (.long p4), .second, .val (.long p5), .second, .val (.long p6), .second, .val (.int (0 : Int32)), .val (.ref an), .val (.int (0 : Int32))]) (st' := [(.long p6), (.ref an)]) (by decide +kernel) rfl ?_
    refine Xi.callV 130 0 (argsL := [(.long p6)]) (rest := []) I0.1.2.2.2.2.2 (rm_ab0 l Z a0 hw an al ap ai p6 0 0 0 0 0 hi n0 Xi.size I0 trivial) (hw _ (List.mem_of_getElem? (i := 18) rfl)) (hw _ (List.mem_of_getElem? (i := 19) rfl)) (hw _ (List.mem_of_getElem? (i := 21) rfl)) (hw _ (List.mem_of_getElem? (i := 20) rfl)) (hw _ (List.mem_of_getElem? (i := 3) rfl)) (hw _ (List.mem_of_getElem? (i := 22) rfl)) (by decide) (ps := [.long]) (r := some .int) (by decide +kernel) rfl rfl rfl rfl (by decide +kernel) (by decide) ?_
    rintro Tb hb vb Xb ⟨rfl, rfl⟩
    show Go p e below s _ n0 _ (Tb.setTop (mkF m 130 #[.val (.int p1), .val (.long p2), .second, .val (.long p3), .second, .val (.long p4), .second, .val (.long p5), .second, .val (.long p6), .second, .val (.int (0 : Int32)), .val (.ref an), .val (.int (0 : Int32))] [(.int (cnt [] p6))]))
    refine Xb.blk hK (L := [(.iload 13, 2, 0, 0)]) (pc' := 132) (ls' := #[.val (.int p1), .val (.long p2), .second, .val (.long p3), .second, .val (.long p4), .second, .val (.long p5), .second, .val (.long p6), .second, .val (.int (0 : Int32)), .val (.ref an), .val (.int (0 : Int32))]) (st' := [(.int (0 : Int32)), (.int (cnt [] p6))]) (by decide +kernel) rfl ?_
    refine Xb.icmp .ne (7) 139 135 (by decide +kernel) (fun (c132 : ¬ (cnt [] p6) = (0 : Int32)) => absurd (rfl : (cnt [] p6) = (0 : Int32)) c132) (fun (c132 : (cnt [] p6) = (0 : Int32)) => ?_)
    refine Xb.blk hK (L := [(.iconst 1, 1, 1, 0), (.goto 4, 3, 0, 140)]) (pc' := 140) (ls' := #[.val (.int p1), .val (.long p2), .second, .val (.long p3), .second, .val (.long p4), .second, .val (.long p5), .second, .val (.long p6), .second, .val (.int (0 : Int32)), .val (.ref an), .val (.int (0 : Int32))]) (st' := [(.int (1 : Int32))]) (by decide +kernel) rfl ?_
    exact Xb.retZ (by decide +kernel) (by decide) (by decide) (Or.inr rfl) (rfl)
  · rw [q_m]
    refine X.blk hK (L := [(.istore 11, 2, 0, 0)]) (pc' := 8) (ls' := #[.val (.int p1), .val (.long p2), .second, .val (.long p3), .second, .val (.long p4), .second, .val (.long p5), .second, .val (.long p6), .second, .val (.int (1 : Int32)), .unset, .unset]) (st' := []) (by decide +kernel) rfl ?_
    refine X.newobj 11 (hw _ (List.mem_of_getElem? (i := 1) rfl)) (hw _ (List.mem_of_getElem? (i := 2) rfl)) (hw _ (List.mem_of_getElem? (i := 3) rfl)) (by decide +kernel) (by decide) ?_
    intro Tn hn Xn En Bn Dn
    obtain ⟨an, gn⟩ : ∃ z, z = h0.size := ⟨_, rfl⟩
    rw [← gn] at Bn ⊢
    simp only [← gn] at Dn
    refine Xn.blk hK (L := [(.dup, 1, 0, 0)]) (pc' := 12) (ls' := #[.val (.int p1), .val (.long p2), .second, .val (.long p3), .second, .val (.long p4), .second, .val (.long p5), .second, .val (.long p6), .second, .val (.int (1 : Int32)), .unset, .unset]) (st' := [(.ref an), (.ref an)]) (by decide +kernel) rfl ?_
    refine Xn.callI 15 1 (argsL := []) (rest := [(.ref an)]) (rm_init l Z a0 hw an hn n0 Xn.size (Dn (Or.inl (hw _ (List.mem_of_getElem? (i := 12) rfl))) (ty := .array .long) (by decide)) (Dn (Or.inl (hw _ (List.mem_of_getElem? (i := 14) rfl))) (ty := .array .long) (by decide)) (Dn (Or.inl (hw _ (List.mem_of_getElem? (i := 17) rfl))) (ty := .array .int) (by decide)) (Dn (Or.inl (hw _ (List.mem_of_getElem? (i := 24) rfl))) (ty := .int) (by decide)) (Dn (Or.inl (hw _ (List.mem_of_getElem? (i := 35) rfl))) (ty := .long) (by decide)) Bn (by rw [gn]; exact Z0)) rfl (hw _ (List.mem_of_getElem? (i := 4) rfl)) (hw _ (List.mem_of_getElem? (i := 5) rfl)) (hw _ (List.mem_of_getElem? (i := 3) rfl)) (hw _ (List.mem_of_getElem? (i := 6) rfl)) (by decide) (ps := []) (r := none) (by decide +kernel) rfl rfl rfl rfl (by decide +kernel) (by decide) ?_
    rintro Ti hi vi Xi ⟨rfl, al, ap, ai, I0⟩
    show Go p e below s _ n0 _ (Ti.setTop (mkF m 15 #[.val (.int p1), .val (.long p2), .second, .val (.long p3), .second, .val (.long p4), .second, .val (.long p5), .second, .val (.long p6), .second, .val (.int (1 : Int32)), .unset, .unset] [(.ref an)]))
    refine Xi.blk hK (L := [(.astore 12, 2, 0, 0), (.iconst 0, 1, 0, 0), (.istore 13, 2, 0, 0), (.iload 11, 2, 0, 0)]) (pc' := 22) (ls' := #[.val (.int p1), .val (.long p2), .second, .val (.long p3), .second, .val (.long p4), .second, .val (.long p5), .second, .val (.long p6), .second, .val (.int (1 : Int32)), .val (.ref an), .val (.int (0 : Int32))]) (st' := [(.int (1 : Int32))]) (by decide +kernel) rfl ?_
    refine Xi.ifc .le (22) 44 25 (by decide +kernel) (fun (c22 : ¬ (0 : Int32) < (1 : Int32)) => absurd (by decide : (0 : Int32) < (1 : Int32)) c22) (fun (c22 : (0 : Int32) < (1 : Int32)) => ?_)
    refine Xi.blk hK (L := [(.aload 12, 2, 0, 0), (.lload_n 1, 1, 0, 0), (.lconst 0, 1, 0, 0), (.iconst 0, 1, 0, 0)]) (pc' := 30) (ls' := #[.val (.int p1), .val (.long p2), .second, .val (.long p3), .second, .val (.long p4), .second, .val (.long p5), .second, .val (.long p6), .second, .val (.int (1 : Int32)), .val (.ref an), .val (.int (0 : Int32))]) (st' := [(.int (0 : Int32)), (.long (0 : Int64)), (.long p2), (.ref an)]) (by decide +kernel) rfl ?_
    refine Xi.callV 33 0 (argsL := [(.long p2), (.long (0 : Int64)), (.int (0 : Int32))]) (rest := []) I0.1.2.2.2.2.2 (rm_add0 l Z a0 hw an al ap ai p2 0 0 0 0 0 hi n0 Xi.size I0 trivial) (hw _ (List.mem_of_getElem? (i := 25) rfl)) (hw _ (List.mem_of_getElem? (i := 26) rfl)) (hw _ (List.mem_of_getElem? (i := 28) rfl)) (hw _ (List.mem_of_getElem? (i := 27) rfl)) (hw _ (List.mem_of_getElem? (i := 3) rfl)) (hw _ (List.mem_of_getElem? (i := 29) rfl)) (by decide) (ps := [.long, .long, .int]) (r := none) (by decide +kernel) rfl rfl rfl rfl (by decide +kernel) (by decide) ?_
    rintro Ta0 ha0 va0 Xa0 ⟨rfl, y00, y01, y02, y03, bb0, I1, S0, c0⟩
    show Go p e below s _ n0 _ (Ta0.setTop (mkF m 33 #[.val (.int p1), .val (.long p2), .second, .val (.long p3), .second, .val (.long p4), .second, .val (.long p5), .second, .val (.long p6), .second, .val (.int (1 : Int32)), .val (.ref an), .val (.int (0 : Int32))] []))
    refine Xa0.blk hK (L := [(.iload 13, 2, 0, 0), (.lload_n 1, 1, 0, 0), (.lload 9, 2, 0, 0)]) (pc' := 38) (ls' := #[.val (.int p1), .val (.long p2), .second, .val (.long p3), .second, .val (.long p4), .second, .val (.long p5), .second, .val (.long p6), .second, .val (.int (1 : Int32)), .val (.ref an), .val (.int (0 : Int32))]) (st' := [(.long p6), (.long p2), (.int (0 : Int32))]) (by decide +kernel) rfl ?_
    refine Xa0.callS 41 1 (argsL := [(.long p2), (.long p6)]) (rest := [(.int (0 : Int32))]) (rm_le l Z a0 hw p2 p6 ha0 n0 Xa0.size) (hw _ (List.mem_of_getElem? (i := 36) rfl)) (hw _ (List.mem_of_getElem? (i := 37) rfl)) (hw _ (List.mem_of_getElem? (i := 38) rfl)) (hw _ (List.mem_of_getElem? (i := 39) rfl)) (by decide) (ps := [.long, .long]) (r := some .int) (by decide +kernel) rfl rfl rfl rfl (by decide +kernel) (by decide) ?_
    rintro Tl0 hl0 vl0 Xl0 ⟨rfl, rfl⟩
    show Go p e below s _ n0 _ (Tl0.setTop (mkF m 41 #[.val (.int p1), .val (.long p2), .second, .val (.long p3), .second, .val (.long p4), .second, .val (.long p5), .second, .val (.long p6), .second, .val (.int (1 : Int32)), .val (.ref an), .val (.int (0 : Int32))] [(.int (leI p2 p6)), (.int (0 : Int32))]))
    refine Xl0.blk hK (L := [(.iadd, 1, 0, 0), (.istore 13, 2, 0, 0), (.iload 11, 2, 0, 0), (.iconst 1, 1, 1, 0)]) (pc' := 47) (ls' := #[.val (.int p1), .val (.long p2), .second, .val (.long p3), .second, .val (.long p4), .second, .val (.long p5), .second, .val (.long p6), .second, .val (.int (1 : Int32)), .val (.ref an), .val (.int ((0 : Int32) + (leI p2 p6)))]) (st' := [(.int (1 : Int32)), (.int (1 : Int32))]) (by decide +kernel) rfl ?_
    refine Xl0.icmp .le (22) 69 50 (by decide +kernel) (fun (c47 : ¬ (1 : Int32) < (1 : Int32)) => ?_) (fun (c47 : (1 : Int32) < (1 : Int32)) => absurd c47 (by decide : ¬ (1 : Int32) < (1 : Int32)))
    refine Xl0.blk hK (L := [(.iload 11, 2, 0, 0), (.iconst 2, 1, 2, 0)]) (pc' := 72) (ls' := #[.val (.int p1), .val (.long p2), .second, .val (.long p3), .second, .val (.long p4), .second, .val (.long p5), .second, .val (.long p6), .second, .val (.int (1 : Int32)), .val (.ref an), .val (.int ((0 : Int32) + (leI p2 p6)))]) (st' := [(.int (2 : Int32)), (.int (1 : Int32))]) (by decide +kernel) rfl ?_
    refine Xl0.icmp .le (24) 96 75 (by decide +kernel) (fun (c72 : ¬ (2 : Int32) < (1 : Int32)) => ?_) (fun (c72 : (2 : Int32) < (1 : Int32)) => absurd c72 (by decide : ¬ (2 : Int32) < (1 : Int32)))
    refine Xl0.blk hK (L := [(.iload 11, 2, 0, 0), (.iconst 3, 1, 3, 0)]) (pc' := 99) (ls' := #[.val (.int p1), .val (.long p2), .second, .val (.long p3), .second, .val (.long p4), .second, .val (.long p5), .second, .val (.long p6), .second, .val (.int (1 : Int32)), .val (.ref an), .val (.int ((0 : Int32) + (leI p2 p6)))]) (st' := [(.int (3 : Int32)), (.int (1 : Int32))]) (by decide +kernel) rfl ?_
    refine Xl0.icmp .le (24) 123 102 (by decide +kernel) (fun (c99 : ¬ (3 : Int32) < (1 : Int32)) => ?_) (fun (c99 : (3 : Int32) < (1 : Int32)) => absurd c99 (by decide : ¬ (3 : Int32) < (1 : Int32)))
    refine Xl0.blk hK (L := [(.aload 12, 2, 0, 0), (.lload 9, 2, 0, 0)]) (pc' := 127) (ls' := #[.val (.int p1), .val (.long p2), .second, .val (.long p3), .second, .val (.long p4), .second, .val (.long p5), .second, .val (.long p6), .second, .val (.int (1 : Int32)), .val (.ref an), .val (.int ((0 : Int32) + (leI p2 p6)))]) (st' := [(.long p6), (.ref an)]) (by decide +kernel) rfl ?_
    refine Xl0.callV 130 0 (argsL := [(.long p6)]) (rest := []) I1.1.2.2.2.2.2 (rm_ab1 l Z a0 hw an al ap ai p6 y00 y01 y02 y03 bb0 ha0 n0 Xl0.size I1 S0) (hw _ (List.mem_of_getElem? (i := 18) rfl)) (hw _ (List.mem_of_getElem? (i := 19) rfl)) (hw _ (List.mem_of_getElem? (i := 21) rfl)) (hw _ (List.mem_of_getElem? (i := 20) rfl)) (hw _ (List.mem_of_getElem? (i := 3) rfl)) (hw _ (List.mem_of_getElem? (i := 22) rfl)) (by decide) (ps := [.long]) (r := some .int) (by decide +kernel) rfl rfl rfl rfl (by decide +kernel) (by decide) ?_
    rintro Tb hb vb Xb ⟨rfl, rfl⟩
    show Go p e below s _ n0 _ (Tb.setTop (mkF m 130 #[.val (.int p1), .val (.long p2), .second, .val (.long p3), .second, .val (.long p4), .second, .val (.long p5), .second, .val (.long p6), .second, .val (.int (1 : Int32)), .val (.ref an), .val (.int ((0 : Int32) + (leI p2 p6)))] [(.int (cnt [y00] p6))]))
    refine Xb.blk hK (L := [(.iload 13, 2, 0, 0)]) (pc' := 132) (ls' := #[.val (.int p1), .val (.long p2), .second, .val (.long p3), .second, .val (.long p4), .second, .val (.long p5), .second, .val (.long p6), .second, .val (.int (1 : Int32)), .val (.ref an), .val (.int ((0 : Int32) + (leI p2 p6)))]) (st' := [(.int ((0 : Int32) + (leI p2 p6))), (.int (cnt [y00] p6))]) (by decide +kernel) rfl ?_
    refine Xb.icmp .ne (7) 139 135 (by decide +kernel) (fun (c132 : ¬ (cnt [y00] p6) = ((0 : Int32) + (leI p2 p6))) => absurd (by rw [c0]; rfl : (cnt [y00] p6) = ((0 : Int32) + (leI p2 p6))) c132) (fun (c132 : (cnt [y00] p6) = ((0 : Int32) + (leI p2 p6))) => ?_)
    refine Xb.blk hK (L := [(.iconst 1, 1, 1, 0), (.goto 4, 3, 0, 140)]) (pc' := 140) (ls' := #[.val (.int p1), .val (.long p2), .second, .val (.long p3), .second, .val (.long p4), .second, .val (.long p5), .second, .val (.long p6), .second, .val (.int (1 : Int32)), .val (.ref an), .val (.int ((0 : Int32) + (leI p2 p6)))]) (st' := [(.int (1 : Int32))]) (by decide +kernel) rfl ?_
    exact Xb.retZ (by decide +kernel) (by decide) (by decide) (Or.inr rfl) (rfl)
  · rw [q_m]
    refine X.blk hK (L := [(.istore 11, 2, 0, 0)]) (pc' := 8) (ls' := #[.val (.int p1), .val (.long p2), .second, .val (.long p3), .second, .val (.long p4), .second, .val (.long p5), .second, .val (.long p6), .second, .val (.int (2 : Int32)), .unset, .unset]) (st' := []) (by decide +kernel) rfl ?_
    refine X.newobj 11 (hw _ (List.mem_of_getElem? (i := 1) rfl)) (hw _ (List.mem_of_getElem? (i := 2) rfl)) (hw _ (List.mem_of_getElem? (i := 3) rfl)) (by decide +kernel) (by decide) ?_
    intro Tn hn Xn En Bn Dn
    obtain ⟨an, gn⟩ : ∃ z, z = h0.size := ⟨_, rfl⟩
    rw [← gn] at Bn ⊢
    simp only [← gn] at Dn
    refine Xn.blk hK (L := [(.dup, 1, 0, 0)]) (pc' := 12) (ls' := #[.val (.int p1), .val (.long p2), .second, .val (.long p3), .second, .val (.long p4), .second, .val (.long p5), .second, .val (.long p6), .second, .val (.int (2 : Int32)), .unset, .unset]) (st' := [(.ref an), (.ref an)]) (by decide +kernel) rfl ?_
    refine Xn.callI 15 1 (argsL := []) (rest := [(.ref an)]) (rm_init l Z a0 hw an hn n0 Xn.size (Dn (Or.inl (hw _ (List.mem_of_getElem? (i := 12) rfl))) (ty := .array .long) (by decide)) (Dn (Or.inl (hw _ (List.mem_of_getElem? (i := 14) rfl))) (ty := .array .long) (by decide)) (Dn (Or.inl (hw _ (List.mem_of_getElem? (i := 17) rfl))) (ty := .array .int) (by decide)) (Dn (Or.inl (hw _ (List.mem_of_getElem? (i := 24) rfl))) (ty := .int) (by decide)) (Dn (Or.inl (hw _ (List.mem_of_getElem? (i := 35) rfl))) (ty := .long) (by decide)) Bn (by rw [gn]; exact Z0)) rfl (hw _ (List.mem_of_getElem? (i := 4) rfl)) (hw _ (List.mem_of_getElem? (i := 5) rfl)) (hw _ (List.mem_of_getElem? (i := 3) rfl)) (hw _ (List.mem_of_getElem? (i := 6) rfl)) (by decide) (ps := []) (r := none) (by decide +kernel) rfl rfl rfl rfl (by decide +kernel) (by decide) ?_
    rintro Ti hi vi Xi ⟨rfl, al, ap, ai, I0⟩
    show Go p e below s _ n0 _ (Ti.setTop (mkF m 15 #[.val (.int p1), .val (.long p2), .second, .val (.long p3), .second, .val (.long p4), .second, .val (.long p5), .second, .val (.long p6), .second, .val (.int (2 : Int32)), .unset, .unset] [(.ref an)]))
    refine Xi.blk hK (L := [(.astore 12, 2, 0, 0), (.iconst 0, 1, 0, 0), (.istore 13, 2, 0, 0), (.iload 11, 2, 0, 0)]) (pc' := 22) (ls' := #[.val (.int p1), .val (.long p2), .second, .val (.long p3), .second, .val (.long p4), .second, .val (.long p5), .second, .val (.long p6), .second, .val (.int (2 : Int32)), .val (.ref an), .val (.int (0 : Int32))]) (st' := [(.int (2 : Int32))]) (by decide +kernel) rfl ?_
    refine Xi.ifc .le (22) 44 25 (by decide +kernel) (fun (c22 : ¬ (0 : Int32) < (2 : Int32)) => absurd (by decide : (0 : Int32) < (2 : Int32)) c22) (fun (c22 : (0 : Int32) < (2 : Int32)) => ?_)
    refine Xi.blk hK (L := [(.aload 12, 2, 0, 0), (.lload_n 1, 1, 0, 0), (.lconst 0, 1, 0, 0), (.iconst 0, 1, 0, 0)]) (pc' := 30) (ls' := #[.val (.int p1), .val (.long p2), .second, .val (.long p3), .second, .val (.long p4), .second, .val (.long p5), .second, .val (.long p6), .second, .val (.int (2 : Int32)), .val (.ref an), .val (.int (0 : Int32))]) (st' := [(.int (0 : Int32)), (.long (0 : Int64)), (.long p2), (.ref an)]) (by decide +kernel) rfl ?_
    refine Xi.callV 33 0 (argsL := [(.long p2), (.long (0 : Int64)), (.int (0 : Int32))]) (rest := []) I0.1.2.2.2.2.2 (rm_add0 l Z a0 hw an al ap ai p2 0 0 0 0 0 hi n0 Xi.size I0 trivial) (hw _ (List.mem_of_getElem? (i := 25) rfl)) (hw _ (List.mem_of_getElem? (i := 26) rfl)) (hw _ (List.mem_of_getElem? (i := 28) rfl)) (hw _ (List.mem_of_getElem? (i := 27) rfl)) (hw _ (List.mem_of_getElem? (i := 3) rfl)) (hw _ (List.mem_of_getElem? (i := 29) rfl)) (by decide) (ps := [.long, .long, .int]) (r := none) (by decide +kernel) rfl rfl rfl rfl (by decide +kernel) (by decide) ?_
    rintro Ta0 ha0 va0 Xa0 ⟨rfl, y00, y01, y02, y03, bb0, I1, S0, c0⟩
    show Go p e below s _ n0 _ (Ta0.setTop (mkF m 33 #[.val (.int p1), .val (.long p2), .second, .val (.long p3), .second, .val (.long p4), .second, .val (.long p5), .second, .val (.long p6), .second, .val (.int (2 : Int32)), .val (.ref an), .val (.int (0 : Int32))] []))
    refine Xa0.blk hK (L := [(.iload 13, 2, 0, 0), (.lload_n 1, 1, 0, 0), (.lload 9, 2, 0, 0)]) (pc' := 38) (ls' := #[.val (.int p1), .val (.long p2), .second, .val (.long p3), .second, .val (.long p4), .second, .val (.long p5), .second, .val (.long p6), .second, .val (.int (2 : Int32)), .val (.ref an), .val (.int (0 : Int32))]) (st' := [(.long p6), (.long p2), (.int (0 : Int32))]) (by decide +kernel) rfl ?_
    refine Xa0.callS 41 1 (argsL := [(.long p2), (.long p6)]) (rest := [(.int (0 : Int32))]) (rm_le l Z a0 hw p2 p6 ha0 n0 Xa0.size) (hw _ (List.mem_of_getElem? (i := 36) rfl)) (hw _ (List.mem_of_getElem? (i := 37) rfl)) (hw _ (List.mem_of_getElem? (i := 38) rfl)) (hw _ (List.mem_of_getElem? (i := 39) rfl)) (by decide) (ps := [.long, .long]) (r := some .int) (by decide +kernel) rfl rfl rfl rfl (by decide +kernel) (by decide) ?_
    rintro Tl0 hl0 vl0 Xl0 ⟨rfl, rfl⟩
    show Go p e below s _ n0 _ (Tl0.setTop (mkF m 41 #[.val (.int p1), .val (.long p2), .second, .val (.long p3), .second, .val (.long p4), .second, .val (.long p5), .second, .val (.long p6), .second, .val (.int (2 : Int32)), .val (.ref an), .val (.int (0 : Int32))] [(.int (leI p2 p6)), (.int (0 : Int32))]))
    refine Xl0.blk hK (L := [(.iadd, 1, 0, 0), (.istore 13, 2, 0, 0), (.iload 11, 2, 0, 0), (.iconst 1, 1, 1, 0)]) (pc' := 47) (ls' := #[.val (.int p1), .val (.long p2), .second, .val (.long p3), .second, .val (.long p4), .second, .val (.long p5), .second, .val (.long p6), .second, .val (.int (2 : Int32)), .val (.ref an), .val (.int ((0 : Int32) + (leI p2 p6)))]) (st' := [(.int (1 : Int32)), (.int (2 : Int32))]) (by decide +kernel) rfl ?_
    refine Xl0.icmp .le (22) 69 50 (by decide +kernel) (fun (c47 : ¬ (1 : Int32) < (2 : Int32)) => absurd (by decide : (1 : Int32) < (2 : Int32)) c47) (fun (c47 : (1 : Int32) < (2 : Int32)) => ?_)
    refine Xl0.blk hK (L := [(.aload 12, 2, 0, 0), (.lload_n 3, 1, 0, 0), (.lconst 0, 1, 0, 0), (.iconst 0, 1, 0, 0)]) (pc' := 55) (ls' := #[.val (.int p1), .val (.long p2), .second, .val (.long p3), .second, .val (.long p4), .second, .val (.long p5), .second, .val (.long p6), .second, .val (.int (2 : Int32)), .val (.ref an), .val (.int ((0 : Int32) + (leI p2 p6)))]) (st' := [(.int (0 : Int32)), (.long (0 : Int64)), (.long p3), (.ref an)]) (by decide +kernel) rfl ?_
    refine Xl0.callV 58 0 (argsL := [(.long p3), (.long (0 : Int64)), (.int (0 : Int32))]) (rest := []) I1.1.2.2.2.2.2 (rm_add1 l Z a0 hw an al ap ai p3 y00 y01 y02 y03 bb0 ha0 n0 Xl0.size I1 S0) (hw _ (List.mem_of_getElem? (i := 25) rfl)) (hw _ (List.mem_of_getElem? (i := 26) rfl)) (hw _ (List.mem_of_getElem? (i := 28) rfl)) (hw _ (List.mem_of_getElem? (i := 27) rfl)) (hw _ (List.mem_of_getElem? (i := 3) rfl)) (hw _ (List.mem_of_getElem? (i := 29) rfl)) (by decide) (ps := [.long, .long, .int]) (r := none) (by decide +kernel) rfl rfl rfl rfl (by decide +kernel) (by decide) ?_
    rintro Ta1 ha1 va1 Xa1 ⟨rfl, y10, y11, y12, y13, bb1, I2, S1, c1⟩
    show Go p e below s _ n0 _ (Ta1.setTop (mkF m 58 #[.val (.int p1), .val (.long p2), .second, .val (.long p3), .second, .val (.long p4), .second, .val (.long p5), .second, .val (.long p6), .second, .val (.int (2 : Int32)), .val (.ref an), .val (.int ((0 : Int32) + (leI p2 p6)))] []))
    refine Xa1.blk hK (L := [(.iload 13, 2, 0, 0), (.lload_n 3, 1, 0, 0), (.lload 9, 2, 0, 0)]) (pc' := 63) (ls' := #[.val (.int p1), .val (.long p2), .second, .val (.long p3), .second, .val (.long p4), .second, .val (.long p5), .second, .val (.long p6), .second, .val (.int (2 : Int32)), .val (.ref an), .val (.int ((0 : Int32) + (leI p2 p6)))]) (st' := [(.long p6), (.long p3), (.int ((0 : Int32) + (leI p2 p6)))]) (by decide +kernel) rfl ?_
    refine Xa1.callS 66 1 (argsL := [(.long p3), (.long p6)]) (rest := [(.int ((0 : Int32) + (leI p2 p6)))]) (rm_le l Z a0 hw p3 p6 ha1 n0 Xa1.size) (hw _ (List.mem_of_getElem? (i := 36) rfl)) (hw _ (List.mem_of_getElem? (i := 37) rfl)) (hw _ (List.mem_of_getElem? (i := 38) rfl)) (hw _ (List.mem_of_getElem? (i := 39) rfl)) (by decide) (ps := [.long, .long]) (r := some .int) (by decide +kernel) rfl rfl rfl rfl (by decide +kernel) (by decide) ?_
    rintro Tl1 hl1 vl1 Xl1 ⟨rfl, rfl⟩
    show Go p e below s _ n0 _ (Tl1.setTop (mkF m 66 #[.val (.int p1), .val (.long p2), .second, .val (.long p3), .second, .val (.long p4), .second, .val (.long p5), .second, .val (.long p6), .second, .val (.int (2 : Int32)), .val (.ref an), .val (.int ((0 : Int32) + (leI p2 p6)))] [(.int (leI p3 p6)), (.int ((0 : Int32) + (leI p2 p6)))]))
    refine Xl1.blk hK (L := [(.iadd, 1, 0, 0), (.istore 13, 2, 0, 0), (.iload 11, 2, 0, 0), (.iconst 2, 1, 2, 0)]) (pc' := 72) (ls' := #[.val (.int p1), .val (.long p2), .second, .val (.long p3), .second, .val (.long p4), .second, .val (.long p5), .second, .val (.long p6), .second, .val (.int (2 : Int32)), .val (.ref an), .val (.int (((0 : Int32) + (leI p2 p6)) + (leI p3 p6)))]) (st' := [(.int (2 : Int32)), (.int (2 : Int32))]) (by decide +kernel) rfl ?_
    refine Xl1.icmp .le (24) 96 75 (by decide +kernel) (fun (c72 : ¬ (2 : Int32) < (2 : Int32)) => ?_) (fun (c72 : (2 : Int32) < (2 : Int32)) => absurd c72 (by decide : ¬ (2 : Int32) < (2 : Int32)))
    refine Xl1.blk hK (L := [(.iload 11, 2, 0, 0), (.iconst 3, 1, 3, 0)]) (pc' := 99) (ls' := #[.val (.int p1), .val (.long p2), .second, .val (.long p3), .second, .val (.long p4), .second, .val (.long p5), .second, .val (.long p6), .second, .val (.int (2 : Int32)), .val (.ref an), .val (.int (((0 : Int32) + (leI p2 p6)) + (leI p3 p6)))]) (st' := [(.int (3 : Int32)), (.int (2 : Int32))]) (by decide +kernel) rfl ?_
    refine Xl1.icmp .le (24) 123 102 (by decide +kernel) (fun (c99 : ¬ (3 : Int32) < (2 : Int32)) => ?_) (fun (c99 : (3 : Int32) < (2 : Int32)) => absurd c99 (by decide : ¬ (3 : Int32) < (2 : Int32)))
    refine Xl1.blk hK (L := [(.aload 12, 2, 0, 0), (.lload 9, 2, 0, 0)]) (pc' := 127) (ls' := #[.val (.int p1), .val (.long p2), .second, .val (.long p3), .second, .val (.long p4), .second, .val (.long p5), .second, .val (.long p6), .second, .val (.int (2 : Int32)), .val (.ref an), .val (.int (((0 : Int32) + (leI p2 p6)) + (leI p3 p6)))]) (st' := [(.long p6), (.ref an)]) (by decide +kernel) rfl ?_
    refine Xl1.callV 130 0 (argsL := [(.long p6)]) (rest := []) I2.1.2.2.2.2.2 (rm_ab2 l Z a0 hw an al ap ai p6 y10 y11 y12 y13 bb1 ha1 n0 Xl1.size I2 S1) (hw _ (List.mem_of_getElem? (i := 18) rfl)) (hw _ (List.mem_of_getElem? (i := 19) rfl)) (hw _ (List.mem_of_getElem? (i := 21) rfl)) (hw _ (List.mem_of_getElem? (i := 20) rfl)) (hw _ (List.mem_of_getElem? (i := 3) rfl)) (hw _ (List.mem_of_getElem? (i := 22) rfl)) (by decide) (ps := [.long]) (r := some .int) (by decide +kernel) rfl rfl rfl rfl (by decide +kernel) (by decide) ?_
    rintro Tb hb vb Xb ⟨rfl, rfl⟩
    show Go p e below s _ n0 _ (Tb.setTop (mkF m 130 #[.val (.int p1), .val (.long p2), .second, .val (.long p3), .second, .val (.long p4), .second, .val (.long p5), .second, .val (.long p6), .second, .val (.int (2 : Int32)), .val (.ref an), .val (.int (((0 : Int32) + (leI p2 p6)) + (leI p3 p6)))] [(.int (cnt [y10, y11] p6))]))
    refine Xb.blk hK (L := [(.iload 13, 2, 0, 0)]) (pc' := 132) (ls' := #[.val (.int p1), .val (.long p2), .second, .val (.long p3), .second, .val (.long p4), .second, .val (.long p5), .second, .val (.long p6), .second, .val (.int (2 : Int32)), .val (.ref an), .val (.int (((0 : Int32) + (leI p2 p6)) + (leI p3 p6)))]) (st' := [(.int (((0 : Int32) + (leI p2 p6)) + (leI p3 p6))), (.int (cnt [y10, y11] p6))]) (by decide +kernel) rfl ?_
    refine Xb.icmp .ne (7) 139 135 (by decide +kernel) (fun (c132 : ¬ (cnt [y10, y11] p6) = (((0 : Int32) + (leI p2 p6)) + (leI p3 p6))) => absurd (by rw [c1, c0]; rfl : (cnt [y10, y11] p6) = (((0 : Int32) + (leI p2 p6)) + (leI p3 p6))) c132) (fun (c132 : (cnt [y10, y11] p6) = (((0 : Int32) + (leI p2 p6)) + (leI p3 p6))) => ?_)
    refine Xb.blk hK (L := [(.iconst 1, 1, 1, 0), (.goto 4, 3, 0, 140)]) (pc' := 140) (ls' := #[.val (.int p1), .val (.long p2), .second, .val (.long p3), .second, .val (.long p4), .second, .val (.long p5), .second, .val (.long p6), .second, .val (.int (2 : Int32)), .val (.ref an), .val (.int (((0 : Int32) + (leI p2 p6)) + (leI p3 p6)))]) (st' := [(.int (1 : Int32))]) (by decide +kernel) rfl ?_
    exact Xb.retZ (by decide +kernel) (by decide) (by decide) (Or.inr rfl) (rfl)
  · rw [q_m]
    refine X.blk hK (L := [(.istore 11, 2, 0, 0)]) (pc' := 8) (ls' := #[.val (.int p1), .val (.long p2), .second, .val (.long p3), .second, .val (.long p4), .second, .val (.long p5), .second, .val (.long p6), .second, .val (.int (3 : Int32)), .unset, .unset]) (st' := []) (by decide +kernel) rfl ?_
    refine X.newobj 11 (hw _ (List.mem_of_getElem? (i := 1) rfl)) (hw _ (List.mem_of_getElem? (i := 2) rfl)) (hw _ (List.mem_of_getElem? (i := 3) rfl)) (by decide +kernel) (by decide) ?_
    intro Tn hn Xn En Bn Dn
    obtain ⟨an, gn⟩ : ∃ z, z = h0.size := ⟨_, rfl⟩
    rw [← gn] at Bn ⊢
    simp only [← gn] at Dn
    refine Xn.blk hK (L := [(.dup, 1, 0, 0)]) (pc' := 12) (ls' := #[.val (.int p1), .val (.long p2), .second, .val (.long p3), .second, .val (.long p4), .second, .val (.long p5), .second, .val (.long p6), .second, .val (.int (3 : Int32)), .unset, .unset]) (st' := [(.ref an), (.ref an)]) (by decide +kernel) rfl ?_
    refine Xn.callI 15 1 (argsL := []) (rest := [(.ref an)]) (rm_init l Z a0 hw an hn n0 Xn.size (Dn (Or.inl (hw _ (List.mem_of_getElem? (i := 12) rfl))) (ty := .array .long) (by decide)) (Dn (Or.inl (hw _ (List.mem_of_getElem? (i := 14) rfl))) (ty := .array .long) (by decide)) (Dn (Or.inl (hw _ (List.mem_of_getElem? (i := 17) rfl))) (ty := .array .int) (by decide)) (Dn (Or.inl (hw _ (List.mem_of_getElem? (i := 24) rfl))) (ty := .int) (by decide)) (Dn (Or.inl (hw _ (List.mem_of_getElem? (i := 35) rfl))) (ty := .long) (by decide)) Bn (by rw [gn]; exact Z0)) rfl (hw _ (List.mem_of_getElem? (i := 4) rfl)) (hw _ (List.mem_of_getElem? (i := 5) rfl)) (hw _ (List.mem_of_getElem? (i := 3) rfl)) (hw _ (List.mem_of_getElem? (i := 6) rfl)) (by decide) (ps := []) (r := none) (by decide +kernel) rfl rfl rfl rfl (by decide +kernel) (by decide) ?_
    rintro Ti hi vi Xi ⟨rfl, al, ap, ai, I0⟩
    show Go p e below s _ n0 _ (Ti.setTop (mkF m 15 #[.val (.int p1), .val (.long p2), .second, .val (.long p3), .second, .val (.long p4), .second, .val (.long p5), .second, .val (.long p6), .second, .val (.int (3 : Int32)), .unset, .unset] [(.ref an)]))
    refine Xi.blk hK (L := [(.astore 12, 2, 0, 0), (.iconst 0, 1, 0, 0), (.istore 13, 2, 0, 0), (.iload 11, 2, 0, 0)]) (pc' := 22) (ls' := #[.val (.int p1), .val (.long p2), .second, .val (.long p3), .second, .val (.long p4), .second, .val (.long p5), .second, .val (.long p6), .second, .val (.int (3 : Int32)), .val (.ref an), .val (.int (0 : Int32))]) (st' := [(.int (3 : Int32))]) (by decide +kernel) rfl ?_
    refine Xi.ifc .le (22) 44 25 (by decide +kernel) (fun (c22 : ¬ (0 : Int32) < (3 : Int32)) => absurd (by decide : (0 : Int32) < (3 : Int32)) c22) (fun (c22 : (0 : Int32) < (3 : Int32)) => ?_)
    refine Xi.blk hK (L := [(.aload 12, 2, 0, 0), (.lload_n 1, 1, 0, 0), (.lconst 0, 1, 0, 0), (.iconst 0, 1, 0, 0)]) (pc' := 30) (ls' := #[.val (.int p1), .val (.long p2), .second, .val (.long p3), .second, .val (.long p4), .second, .val (.long p5), .second, .val (.long p6), .second, .val (.int (3 : Int32)), .val (.ref an), .val (.int (0 : Int32))]) (st' := [(.int (0 : Int32)), (.long (0 : Int64)), (.long p2), (.ref an)]) (by decide +kernel) rfl ?_
    refine Xi.callV 33 0 (argsL := [(.long p2), (.long (0 : Int64)), (.int (0 : Int32))]) (rest := []) I0.1.2.2.2.2.2 (rm_add0 l Z a0 hw an al ap ai p2 0 0 0 0 0 hi n0 Xi.size I0 trivial) (hw _ (List.mem_of_getElem? (i := 25) rfl)) (hw _ (List.mem_of_getElem? (i := 26) rfl)) (hw _ (List.mem_of_getElem? (i := 28) rfl)) (hw _ (List.mem_of_getElem? (i := 27) rfl)) (hw _ (List.mem_of_getElem? (i := 3) rfl)) (hw _ (List.mem_of_getElem? (i := 29) rfl)) (by decide) (ps := [.long, .long, .int]) (r := none) (by decide +kernel) rfl rfl rfl rfl (by decide +kernel) (by decide) ?_
    rintro Ta0 ha0 va0 Xa0 ⟨rfl, y00, y01, y02, y03, bb0, I1, S0, c0⟩
    show Go p e below s _ n0 _ (Ta0.setTop (mkF m 33 #[.val (.int p1), .val (.long p2), .second, .val (.long p3), .second, .val (.long p4), .second, .val (.long p5), .second, .val (.long p6), .second, .val (.int (3 : Int32)), .val (.ref an), .val (.int (0 : Int32))] []))
    refine Xa0.blk hK (L := [(.iload 13, 2, 0, 0), (.lload_n 1, 1, 0, 0), (.lload 9, 2, 0, 0)]) (pc' := 38) (ls' := #[.val (.int p1), .val (.long p2), .second, .val (.long p3), .second, .val (.long p4), .second, .val (.long p5), .second, .val (.long p6), .second, .val (.int (3 : Int32)), .val (.ref an), .val (.int (0 : Int32))]) (st' := [(.long p6), (.long p2), (.int (0 : Int32))]) (by decide +kernel) rfl ?_
    refine Xa0.callS 41 1 (argsL := [(.long p2), (.long p6)]) (rest := [(.int (0 : Int32))]) (rm_le l Z a0 hw p2 p6 ha0 n0 Xa0.size) (hw _ (List.mem_of_getElem? (i := 36) rfl)) (hw _ (List.mem_of_getElem? (i := 37) rfl)) (hw _ (List.mem_of_getElem? (i := 38) rfl)) (hw _ (List.mem_of_getElem? (i := 39) rfl)) (by decide) (ps := [.long, .long]) (r := some .int) (by decide +kernel) rfl rfl rfl rfl (by decide +kernel) (by decide) ?_
    rintro Tl0 hl0 vl0 Xl0 ⟨rfl, rfl⟩
    show Go p e below s _ n0 _ (Tl0.setTop (mkF m 41 #[.val (.int p1), .val (.long p2), .second, .val (.long p3), .second, .val (.long p4), .second, .val (.long p5), .second, .val (.long p6), .second, .val (.int (3 : Int32)), .val (.ref an), .val (.int (0 : Int32))] [(.int (leI p2 p6)), (.int (0 : Int32))]))
    refine Xl0.blk hK (L := [(.iadd, 1, 0, 0), (.istore 13, 2, 0, 0), (.iload 11, 2, 0, 0), (.iconst 1, 1, 1, 0)]) (pc' := 47) (ls' := #[.val (.int p1), .val (.long p2), .second, .val (.long p3), .second, .val (.long p4), .second, .val (.long p5), .second, .val (.long p6), .second, .val (.int (3 : Int32)), .val (.ref an), .val (.int ((0 : Int32) + (leI p2 p6)))]) (st' := [(.int (1 : Int32)), (.int (3 : Int32))]) (by decide +kernel) rfl ?_
    refine Xl0.icmp .le (22) 69 50 (by decide +kernel) (fun (c47 : ¬ (1 : Int32) < (3 : Int32)) => absurd (by decide : (1 : Int32) < (3 : Int32)) c47) (fun (c47 : (1 : Int32) < (3 : Int32)) => ?_)
    refine Xl0.blk hK (L := [(.aload 12, 2, 0, 0), (.lload_n 3, 1, 0, 0), (.lconst 0, 1, 0, 0), (.iconst 0, 1, 0, 0)]) (pc' := 55) (ls' := #[.val (.int p1), .val (.long p2), .second, .val (.long p3), .second, .val (.long p4), .second, .val (.long p5), .second, .val (.long p6), .second, .val (.int (3 : Int32)), .val (.ref an), .val (.int ((0 : Int32) + (leI p2 p6)))]) (st' := [(.int (0 : Int32)), (.long (0 : Int64)), (.long p3), (.ref an)]) (by decide +kernel) rfl ?_
    refine Xl0.callV 58 0 (argsL := [(.long p3), (.long (0 : Int64)), (.int (0 : Int32))]) (rest := []) I1.1.2.2.2.2.2 (rm_add1 l Z a0 hw an al ap ai p3 y00 y01 y02 y03 bb0 ha0 n0 Xl0.size I1 S0) (hw _ (List.mem_of_getElem? (i := 25) rfl)) (hw _ (List.mem_of_getElem? (i := 26) rfl)) (hw _ (List.mem_of_getElem? (i := 28) rfl)) (hw _ (List.mem_of_getElem? (i := 27) rfl)) (hw _ (List.mem_of_getElem? (i := 3) rfl)) (hw _ (List.mem_of_getElem? (i := 29) rfl)) (by decide) (ps := [.long, .long, .int]) (r := none) (by decide +kernel) rfl rfl rfl rfl (by decide +kernel) (by decide) ?_
    rintro Ta1 ha1 va1 Xa1 ⟨rfl, y10, y11, y12, y13, bb1, I2, S1, c1⟩
    show Go p e below s _ n0 _ (Ta1.setTop (mkF m 58 #[.val (.int p1), .val (.long p2), .second, .val (.long p3), .second, .val (.long p4), .second, .val (.long p5), .second, .val (.long p6), .second, .val (.int (3 : Int32)), .val (.ref an), .val (.int ((0 : Int32) + (leI p2 p6)))] []))
    refine Xa1.blk hK (L := [(.iload 13, 2, 0, 0), (.lload_n 3, 1, 0, 0), (.lload 9, 2, 0, 0)]) (pc' := 63) (ls' := #[.val (.int p1), .val (.long p2), .second, .val (.long p3), .second, .val (.long p4), .second, .val (.long p5), .second, .val (.long p6), .second, .val (.int (3 : Int32)), .val (.ref an), .val (.int ((0 : Int32) + (leI p2 p6)))]) (st' := [(.long p6), (.long p3), (.int ((0 : Int32) + (leI p2 p6)))]) (by decide +kernel) rfl ?_
    refine Xa1.callS 66 1 (argsL := [(.long p3), (.long p6)]) (rest := [(.int ((0 : Int32) + (leI p2 p6)))]) (rm_le l Z a0 hw p3 p6 ha1 n0 Xa1.size) (hw _ (List.mem_of_getElem? (i := 36) rfl)) (hw _ (List.mem_of_getElem? (i := 37) rfl)) (hw _ (List.mem_of_getElem? (i := 38) rfl)) (hw _ (List.mem_of_getElem? (i := 39) rfl)) (by decide) (ps := [.long, .long]) (r := some .int) (by decide +kernel) rfl rfl rfl rfl (by decide +kernel) (by decide) ?_
    rintro Tl1 hl1 vl1 Xl1 ⟨rfl, rfl⟩
    show Go p e below s _ n0 _ (Tl1.setTop (mkF m 66 #[.val (.int p1), .val (.long p2), .second, .val (.long p3), .second, .val (.long p4), .second, .val (.long p5), .second, .val (.long p6), .second, .val (.int (3 : Int32)), .val (.ref an), .val (.int ((0 : Int32) + (leI p2 p6)))] [(.int (leI p3 p6)), (.int ((0 : Int32) + (leI p2 p6)))]))
    refine Xl1.blk hK (L := [(.iadd, 1, 0, 0), (.istore 13, 2, 0, 0), (.iload 11, 2, 0, 0), (.iconst 2, 1, 2, 0)]) (pc' := 72) (ls' := #[.val (.int p1), .val (.long p2), .second, .val (.long p3), .second, .val (.long p4), .second, .val (.long p5), .second, .val (.long p6), .second, .val (.int (3 : Int32)), .val (.ref an), .val (.int (((0 : Int32) + (leI p2 p6)) + (leI p3 p6)))]) (st' := [(.int (2 : Int32)), (.int (3 : Int32))]) (by decide +kernel) rfl ?_
    refine Xl1.icmp .le (24) 96 75 (by decide +kernel) (fun (c72 : ¬ (2 : Int32) < (3 : Int32)) => absurd (by decide : (2 : Int32) < (3 : Int32)) c72) (fun (c72 : (2 : Int32) < (3 : Int32)) => ?_)
    refine Xl1.blk hK (L := [(.aload 12, 2, 0, 0), (.lload 5, 2, 0, 0), (.lconst 0, 1, 0, 0), (.iconst 0, 1, 0, 0)]) (pc' := 81) (ls' := #[.val (.int p1), .val (.long p2), .second, .val (.long p3), .second, .val (.long p4), .second, .val (.long p5), .second, .val (.long p6), .second, .val (.int (3 : Int32)), .val (.ref an), .val (.int (((0 : Int32) + (leI p2 p6)) + (leI p3 p6)))]) (st' := [(.int (0 : Int32)), (.long (0 : Int64)), (.long p4), (.ref an)]) (by decide +kernel) rfl ?_
    refine Xl1.callV 84 0 (argsL := [(.long p4), (.long (0 : Int64)), (.int (0 : Int32))]) (rest := []) I2.1.2.2.2.2.2 (rm_add2 l Z a0 hw an al ap ai p4 y10 y11 y12 y13 bb1 ha1 n0 Xl1.size I2 S1) (hw _ (List.mem_of_getElem? (i := 25) rfl)) (hw _ (List.mem_of_getElem? (i := 26) rfl)) (hw _ (List.mem_of_getElem? (i := 28) rfl)) (hw _ (List.mem_of_getElem? (i := 27) rfl)) (hw _ (List.mem_of_getElem? (i := 3) rfl)) (hw _ (List.mem_of_getElem? (i := 29) rfl)) (by decide) (ps := [.long, .long, .int]) (r := none) (by decide +kernel) rfl rfl rfl rfl (by decide +kernel) (by decide) ?_
    rintro Ta2 ha2 va2 Xa2 ⟨rfl, y20, y21, y22, y23, bb2, I3, S2, c2⟩
    show Go p e below s _ n0 _ (Ta2.setTop (mkF m 84 #[.val (.int p1), .val (.long p2), .second, .val (.long p3), .second, .val (.long p4), .second, .val (.long p5), .second, .val (.long p6), .second, .val (.int (3 : Int32)), .val (.ref an), .val (.int (((0 : Int32) + (leI p2 p6)) + (leI p3 p6)))] []))
    refine Xa2.blk hK (L := [(.iload 13, 2, 0, 0), (.lload 5, 2, 0, 0), (.lload 9, 2, 0, 0)]) (pc' := 90) (ls' := #[.val (.int p1), .val (.long p2), .second, .val (.long p3), .second, .val (.long p4), .second, .val (.long p5), .second, .val (.long p6), .second, .val (.int (3 : Int32)), .val (.ref an), .val (.int (((0 : Int32) + (leI p2 p6)) + (leI p3 p6)))]) (st' := [(.long p6), (.long p4), (.int (((0 : Int32) + (leI p2 p6)) + (leI p3 p6)))]) (by decide +kernel) rfl ?_
    refine Xa2.callS 93 1 (argsL := [(.long p4), (.long p6)]) (rest := [(.int (((0 : Int32) + (leI p2 p6)) + (leI p3 p6)))]) (rm_le l Z a0 hw p4 p6 ha2 n0 Xa2.size) (hw _ (List.mem_of_getElem? (i := 36) rfl)) (hw _ (List.mem_of_getElem? (i := 37) rfl)) (hw _ (List.mem_of_getElem? (i := 38) rfl)) (hw _ (List.mem_of_getElem? (i := 39) rfl)) (by decide) (ps := [.long, .long]) (r := some .int) (by decide +kernel) rfl rfl rfl rfl (by decide +kernel) (by decide) ?_
    rintro Tl2 hl2 vl2 Xl2 ⟨rfl, rfl⟩
    show Go p e below s _ n0 _ (Tl2.setTop (mkF m 93 #[.val (.int p1), .val (.long p2), .second, .val (.long p3), .second, .val (.long p4), .second, .val (.long p5), .second, .val (.long p6), .second, .val (.int (3 : Int32)), .val (.ref an), .val (.int (((0 : Int32) + (leI p2 p6)) + (leI p3 p6)))] [(.int (leI p4 p6)), (.int (((0 : Int32) + (leI p2 p6)) + (leI p3 p6)))]))
    refine Xl2.blk hK (L := [(.iadd, 1, 0, 0), (.istore 13, 2, 0, 0), (.iload 11, 2, 0, 0), (.iconst 3, 1, 3, 0)]) (pc' := 99) (ls' := #[.val (.int p1), .val (.long p2), .second, .val (.long p3), .second, .val (.long p4), .second, .val (.long p5), .second, .val (.long p6), .second, .val (.int (3 : Int32)), .val (.ref an), .val (.int ((((0 : Int32) + (leI p2 p6)) + (leI p3 p6)) + (leI p4 p6)))]) (st' := [(.int (3 : Int32)), (.int (3 : Int32))]) (by decide +kernel) rfl ?_
    refine Xl2.icmp .le (24) 123 102 (by decide +kernel) (fun (c99 : ¬ (3 : Int32) < (3 : Int32)) => ?_) (fun (c99 : (3 : Int32) < (3 : Int32)) => absurd c99 (by decide : ¬ (3 : Int32) < (3 : Int32)))
    refine Xl2.blk hK (L := [(.aload 12, 2, 0, 0), (.lload 9, 2, 0, 0)]) (pc' := 127) (ls' := #[.val (.int p1), .val (.long p2), .second, .val (.long p3), .second, .val (.long p4), .second, .val (.long p5), .second, .val (.long p6), .second, .val (.int (3 : Int32)), .val (.ref an), .val (.int ((((0 : Int32) + (leI p2 p6)) + (leI p3 p6)) + (leI p4 p6)))]) (st' := [(.long p6), (.ref an)]) (by decide +kernel) rfl ?_
    refine Xl2.callV 130 0 (argsL := [(.long p6)]) (rest := []) I3.1.2.2.2.2.2 (rm_ab3 l Z a0 hw an al ap ai p6 y20 y21 y22 y23 bb2 ha2 n0 Xl2.size I3 S2) (hw _ (List.mem_of_getElem? (i := 18) rfl)) (hw _ (List.mem_of_getElem? (i := 19) rfl)) (hw _ (List.mem_of_getElem? (i := 21) rfl)) (hw _ (List.mem_of_getElem? (i := 20) rfl)) (hw _ (List.mem_of_getElem? (i := 3) rfl)) (hw _ (List.mem_of_getElem? (i := 22) rfl)) (by decide) (ps := [.long]) (r := some .int) (by decide +kernel) rfl rfl rfl rfl (by decide +kernel) (by decide) ?_
    rintro Tb hb vb Xb ⟨rfl, rfl⟩
    show Go p e below s _ n0 _ (Tb.setTop (mkF m 130 #[.val (.int p1), .val (.long p2), .second, .val (.long p3), .second, .val (.long p4), .second, .val (.long p5), .second, .val (.long p6), .second, .val (.int (3 : Int32)), .val (.ref an), .val (.int ((((0 : Int32) + (leI p2 p6)) + (leI p3 p6)) + (leI p4 p6)))] [(.int (cnt [y20, y21, y22] p6))]))
    refine Xb.blk hK (L := [(.iload 13, 2, 0, 0)]) (pc' := 132) (ls' := #[.val (.int p1), .val (.long p2), .second, .val (.long p3), .second, .val (.long p4), .second, .val (.long p5), .second, .val (.long p6), .second, .val (.int (3 : Int32)), .val (.ref an), .val (.int ((((0 : Int32) + (leI p2 p6)) + (leI p3 p6)) + (leI p4 p6)))]) (st' := [(.int ((((0 : Int32) + (leI p2 p6)) + (leI p3 p6)) + (leI p4 p6))), (.int (cnt [y20, y21, y22] p6))]) (by decide +kernel) rfl ?_
    refine Xb.icmp .ne (7) 139 135 (by decide +kernel) (fun (c132 : ¬ (cnt [y20, y21, y22] p6) = ((((0 : Int32) + (leI p2 p6)) + (leI p3 p6)) + (leI p4 p6))) => absurd (by rw [c2, c1, c0]; rfl : (cnt [y20, y21, y22] p6) = ((((0 : Int32) + (leI p2 p6)) + (leI p3 p6)) + (leI p4 p6))) c132) (fun (c132 : (cnt [y20, y21, y22] p6) = ((((0 : Int32) + (leI p2 p6)) + (leI p3 p6)) + (leI p4 p6))) => ?_)
    refine Xb.blk hK (L := [(.iconst 1, 1, 1, 0), (.goto 4, 3, 0, 140)]) (pc' := 140) (ls' := #[.val (.int p1), .val (.long p2), .second, .val (.long p3), .second, .val (.long p4), .second, .val (.long p5), .second, .val (.long p6), .second, .val (.int (3 : Int32)), .val (.ref an), .val (.int ((((0 : Int32) + (leI p2 p6)) + (leI p3 p6)) + (leI p4 p6)))]) (st' := [(.int (1 : Int32))]) (by decide +kernel) rfl ?_
    exact Xb.retZ (by decide +kernel) (by decide) (by decide) (Or.inr rfl) (rfl)
  · rw [q_m]
    refine X.blk hK (L := [(.istore 11, 2, 0, 0)]) (pc' := 8) (ls' := #[.val (.int p1), .val (.long p2), .second, .val (.long p3), .second, .val (.long p4), .second, .val (.long p5), .second, .val (.long p6), .second, .val (.int (4 : Int32)), .unset, .unset]) (st' := []) (by decide +kernel) rfl ?_
    refine X.newobj 11 (hw _ (List.mem_of_getElem? (i := 1) rfl)) (hw _ (List.mem_of_getElem? (i := 2) rfl)) (hw _ (List.mem_of_getElem? (i := 3) rfl)) (by decide +kernel) (by decide) ?_
    intro Tn hn Xn En Bn Dn
    obtain ⟨an, gn⟩ : ∃ z, z = h0.size := ⟨_, rfl⟩
    rw [← gn] at Bn ⊢
    simp only [← gn] at Dn
    refine Xn.blk hK (L := [(.dup, 1, 0, 0)]) (pc' := 12) (ls' := #[.val (.int p1), .val (.long p2), .second, .val (.long p3), .second, .val (.long p4), .second, .val (.long p5), .second, .val (.long p6), .second, .val (.int (4 : Int32)), .unset, .unset]) (st' := [(.ref an), (.ref an)]) (by decide +kernel) rfl ?_
    refine Xn.callI 15 1 (argsL := []) (rest := [(.ref an)]) (rm_init l Z a0 hw an hn n0 Xn.size (Dn (Or.inl (hw _ (List.mem_of_getElem? (i := 12) rfl))) (ty := .array .long) (by decide)) (Dn (Or.inl (hw _ (List.mem_of_getElem? (i := 14) rfl))) (ty := .array .long) (by decide)) (Dn (Or.inl (hw _ (List.mem_of_getElem? (i := 17) rfl))) (ty := .array .int) (by decide)) (Dn (Or.inl (hw _ (List.mem_of_getElem? (i := 24) rfl))) (ty := .int) (by decide)) (Dn (Or.inl (hw _ (List.mem_of_getElem? (i := 35) rfl))) (ty := .long) (by decide)) Bn (by rw [gn]; exact Z0)) rfl (hw _ (List.mem_of_getElem? (i := 4) rfl)) (hw _ (List.mem_of_getElem? (i := 5) rfl)) (hw _ (List.mem_of_getElem? (i := 3) rfl)) (hw _ (List.mem_of_getElem? (i := 6) rfl)) (by decide) (ps := []) (r := none) (by decide +kernel) rfl rfl rfl rfl (by decide +kernel) (by decide) ?_
    rintro Ti hi vi Xi ⟨rfl, al, ap, ai, I0⟩
    show Go p e below s _ n0 _ (Ti.setTop (mkF m 15 #[.val (.int p1), .val (.long p2), .second, .val (.long p3), .second, .val (.long p4), .second, .val (.long p5), .second, .val (.long p6), .second, .val (.int (4 : Int32)), .unset, .unset] [(.ref an)]))
    refine Xi.blk hK (L := [(.astore 12, 2, 0, 0), (.iconst 0, 1, 0, 0), (.istore 13, 2, 0, 0), (.iload 11, 2, 0, 0)]) (pc' := 22) (ls' := #[.val (.int p1), .val (.long p2), .second, .val (.long p3), .second, .val (.long p4), .second, .val (.long p5), .second, .val (.long p6), .second, .val (.int (4 : Int32)), .val (.ref an), .val (.int (0 : Int32))]) (st' := [(.int (4 : Int32))]) (by decide +kernel) rfl ?_
    refine Xi.ifc .le (22) 44 25 (by decide +kernel) (fun (c22 : ¬ (0 : Int32) < (4 : Int32)) => absurd (by decide : (0 : Int32) < (4 : Int32)) c22) (fun (c22 : (0 : Int32) < (4 : Int32)) => ?_)
    refine Xi.blk hK (L := [(.aload 12, 2, 0, 0), (.lload_n 1, 1, 0, 0), (.lconst 0, 1, 0, 0), (.iconst 0, 1, 0, 0)]) (pc' := 30) (ls' := #[.val (.int p1), .val (.long p2), .second, .val (.long p3), .second, .val (.long p4), .second, .val (.long p5), .second, .val (.long p6), .second, .val (.int (4 : Int32)), .val (.ref an), .val (.int (0 : Int32))]) (st' := [(.int (0 : Int32)), (.long (0 : Int64)), (.long p2), (.ref an)]) (by decide +kernel) rfl ?_
    refine Xi.callV 33 0 (argsL := [(.long p2), (.long (0 : Int64)), (.int (0 : Int32))]) (rest := []) I0.1.2.2.2.2.2 (rm_add0 l Z a0 hw an al ap ai p2 0 0 0 0 0 hi n0 Xi.size I0 trivial) (hw _ (List.mem_of_getElem? (i := 25) rfl)) (hw _ (List.mem_of_getElem? (i := 26) rfl)) (hw _ (List.mem_of_getElem? (i := 28) rfl)) (hw _ (List.mem_of_getElem? (i := 27) rfl)) (hw _ (List.mem_of_getElem? (i := 3) rfl)) (hw _ (List.mem_of_getElem? (i := 29) rfl)) (by decide) (ps := [.long, .long, .int]) (r := none) (by decide +kernel) rfl rfl rfl rfl (by decide +kernel) (by decide) ?_
    rintro Ta0 ha0 va0 Xa0 ⟨rfl, y00, y01, y02, y03, bb0, I1, S0, c0⟩
    show Go p e below s _ n0 _ (Ta0.setTop (mkF m 33 #[.val (.int p1), .val (.long p2), .second, .val (.long p3), .second, .val (.long p4), .second, .val (.long p5), .second, .val (.long p6), .second, .val (.int (4 : Int32)), .val (.ref an), .val (.int (0 : Int32))] []))
    refine Xa0.blk hK (L := [(.iload 13, 2, 0, 0), (.lload_n 1, 1, 0, 0), (.lload 9, 2, 0, 0)]) (pc' := 38) (ls' := #[.val (.int p1), .val (.long p2), .second, .val (.long p3), .second, .val (.long p4), .second, .val (.long p5), .second, .val (.long p6), .second, .val (.int (4 : Int32)), .val (.ref an), .val (.int (0 : Int32))]) (st' := [(.long p6), (.long p2), (.int (0 : Int32))]) (by decide +kernel) rfl ?_
    refine Xa0.callS 41 1 (argsL := [(.long p2), (.long p6)]) (rest := [(.int (0 : Int32))]) (rm_le l Z a0 hw p2 p6 ha0 n0 Xa0.size) (hw _ (List.mem_of_getElem? (i := 36) rfl)) (hw _ (List.mem_of_getElem? (i := 37) rfl)) (hw _ (List.mem_of_getElem? (i := 38) rfl)) (hw _ (List.mem_of_getElem? (i := 39) rfl)) (by decide) (ps := [.long, .long]) (r := some .int) (by decide +kernel) rfl rfl rfl rfl (by decide +kernel) (by decide) ?_
    rintro Tl0 hl0 vl0 Xl0 ⟨rfl, rfl⟩
    show Go p e below s _ n0 _ (Tl0.setTop (mkF m 41 #[.val (.int p1), .val (.long p2), .second, .val (.long p3), .second, .val (.long p4), .second, .val (.long p5), .second, .val (.long p6), .second, .val (.int (4 : Int32)), .val (.ref an), .val (.int (0 : Int32))] [(.int (leI p2 p6)), (.int (0 : Int32))]))
    refine Xl0.blk hK (L := [(.iadd, 1, 0, 0), (.istore 13, 2, 0, 0), (.iload 11, 2, 0, 0), (.iconst 1, 1, 1, 0)]) (pc' := 47) (ls' := #[.val (.int p1), .val (.long p2), .second, .val (.long p3), .second, .val (.long p4), .second, .val (.long p5), .second, .val (.long p6), .second, .val (.int (4 : Int32)), .val (.ref an), .val (.int ((0 : Int32) + (leI p2 p6)))]) (st' := [(.int (1 : Int32)), (.int (4 : Int32))]) (by decide +kernel) rfl ?_
    refine Xl0.icmp .le (22) 69 50 (by decide +kernel) (fun (c47 : ¬ (1 : Int32) < (4 : Int32)) => absurd (by decide : (1 : Int32) < (4 : Int32)) c47) (fun (c47 : (1 : Int32) < (4 : Int32)) => ?_)
    refine Xl0.blk hK (L := [(.aload 12, 2, 0, 0), (.lload_n 3, 1, 0, 0), (.lconst 0, 1, 0, 0), (.iconst 0, 1, 0, 0)]) (pc' := 55) (ls' := #[.val (.int p1), .val (.long p2), .second, .val (.long p3), .second, .val (.long p4), .second, .val (.long p5), .second, .val (.long p6), .second, .val (.int (4 : Int32)), .val (.ref an), .val (.int ((0 : Int32) + (leI p2 p6)))]) (st' := [(.int (0 : Int32)), (.long (0 : Int64)), (.long p3), (.ref an)]) (by decide +kernel) rfl ?_
    refine Xl0.callV 58 0 (argsL := [(.long p3), (.long (0 : Int64)), (.int (0 : Int32))]) (rest := []) I1.1.2.2.2.2.2 (rm_add1 l Z a0 hw an al ap ai p3 y00 y01 y02 y03 bb0 ha0 n0 Xl0.size I1 S0) (hw _ (List.mem_of_getElem? (i := 25) rfl)) (hw _ (List.mem_of_getElem? (i := 26) rfl)) (hw _ (List.mem_of_getElem? (i := 28) rfl)) (hw _ (List.mem_of_getElem? (i := 27) rfl)) (hw _ (List.mem_of_getElem? (i := 3) rfl)) (hw _ (List.mem_of_getElem? (i := 29) rfl)) (by decide) (ps := [.long, .long, .int]) (r := none) (by decide +kernel) rfl rfl rfl rfl (by decide +kernel) (by decide) ?_
    rintro Ta1 ha1 va1 Xa1 ⟨rfl, y10, y11, y12, y13, bb1, I2, S1, c1⟩
    show Go p e below s _ n0 _ (Ta1.setTop (mkF m 58 #[.val (.int p1), .val (.long p2), .second, .val (.long p3), .second, .val (.long p4), .second, .val (.long p5), .second, .val (.long p6), .second, .val (.int (4 : Int32)), .val (.ref an), .val (.int ((0 : Int32) + (leI p2 p6)))] []))
    refine Xa1.blk hK (L := [(.iload 13, 2, 0, 0), (.lload_n 3, 1, 0, 0), (.lload 9, 2, 0, 0)]) (pc' := 63) (ls' := #[.val (.int p1), .val (.long p2), .second, .val (.long p3), .second, .val (.long p4), .second, .val (.long p5), .second, .val (.long p6), .second, .val (.int (4 : Int32)), .val (.ref an), .val (.int ((0 : Int32) + (leI p2 p6)))]) (st' := [(.long p6), (.long p3), (.int ((0 : Int32) + (leI p2 p6)))]) (by decide +kernel) rfl ?_
    refine Xa1.callS 66 1 (argsL := [(.long p3), (.long p6)]) (rest := [(.int ((0 : Int32) + (leI p2 p6)))]) (rm_le l Z a0 hw p3 p6 ha1 n0 Xa1.size) (hw _ (List.mem_of_getElem? (i := 36) rfl)) (hw _ (List.mem_of_getElem? (i := 37) rfl)) (hw _ (List.mem_of_getElem? (i := 38) rfl)) (hw _ (List.mem_of_getElem? (i := 39) rfl)) (by decide) (ps := [.long, .long]) (r := some .int) (by decide +kernel) rfl rfl rfl rfl (by decide +kernel) (by decide) ?_
    rintro Tl1 hl1 vl1 Xl1 ⟨rfl, rfl⟩
    show Go p e below s _ n0 _ (Tl1.setTop (mkF m 66 #[.val (.int p1), .val (.long p2), .second, .val (.long p3), .second, .val (.long p4), .second, .val (.long p5), .second, .val (.long p6), .second, .val (.int (4 : Int32)), .val (.ref an), .val (.int ((0 : Int32) + (leI p2 p6)))] [(.int (leI p3 p6)), (.int ((0 : Int32) + (leI p2 p6)))]))
    refine Xl1.blk hK (L := [(.iadd, 1, 0, 0), (.istore 13, 2, 0, 0), (.iload 11, 2, 0, 0), (.iconst 2, 1, 2, 0)]) (pc' := 72) (ls' := #[.val (.int p1), .val (.long p2), .second, .val (.long p3), .second, .val (.long p4), .second, .val (.long p5), .second, .val (.long p6), .second, .val (.int (4 : Int32)), .val (.ref an), .val (.int (((0 : Int32) + (leI p2 p6)) + (leI p3 p6)))]) (st' := [(.int (2 : Int32)), (.int (4 : Int32))]) (by decide +kernel) rfl ?_
    refine Xl1.icmp .le (24) 96 75 (by decide +kernel) (fun (c72 : ¬ (2 : Int32) < (4 : Int32)) => absurd (by decide : (2 : Int32) < (4 : Int32)) c72) (fun (c72 : (2 : Int32) < (4 : Int32)) => ?_)
    refine Xl1.blk hK (L := [(.aload 12, 2, 0, 0), (.lload 5, 2, 0, 0), (.lconst 0, 1, 0, 0), (.iconst 0, 1, 0, 0)]) (pc' := 81) (ls' := #[.val (.int p1), .val (.long p2), .second, .val (.long p3), .second, .val (.long p4), .second, .val (.long p5), .second, .val (.long p6), .second, .val (.int (4 : Int32)), .val (.ref an), .val (.int (((0 : Int32) + (leI p2 p6)) + (leI p3 p6)))]) (st' := [(.int (0 : Int32)), (.long (0 : Int64)), (.long p4), (.ref an)]) (by decide +kernel) rfl ?_
    refine Xl1.callV 84 0 (argsL := [(.long p4), (.long (0 : Int64)), (.int (0 : Int32))]) (rest := []) I2.1.2.2.2.2.2 (rm_add2 l Z a0 hw an al ap ai p4 y10 y11 y12 y13 bb1 ha1 n0 Xl1.size I2 S1) (hw _ (List.mem_of_getElem? (i := 25) rfl)) (hw _ (List.mem_of_getElem? (i := 26) rfl)) (hw _ (List.mem_of_getElem? (i := 28) rfl)) (hw _ (List.mem_of_getElem? (i := 27) rfl)) (hw _ (List.mem_of_getElem? (i := 3) rfl)) (hw _ (List.mem_of_getElem? (i := 29) rfl)) (by decide) (ps := [.long, .long, .int]) (r := none) (by decide +kernel) rfl rfl rfl rfl (by decide +kernel) (by decide) ?_
    rintro Ta2 ha2 va2 Xa2 ⟨rfl, y20, y21, y22, y23, bb2, I3, S2, c2⟩
    show Go p e below s _ n0 _ (Ta2.setTop (mkF m 84 #[.val (.int p1), .val (.long p2), .second, .val (.long p3), .second, .val (.long p4), .second, .val (.long p5), .second, .val (.long p6), .second, .val (.int (4 : Int32)), .val (.ref an), .val (.int (((0 : Int32) + (leI p2 p6)) + (leI p3 p6)))] []))
    refine Xa2.blk hK (L := [(.iload 13, 2, 0, 0), (.lload 5, 2, 0, 0), (.lload 9, 2, 0, 0)]) (pc' := 90) (ls' := #[.val (.int p1), .val (.long p2), .second, .val (.long p3), .second, .val (.long p4), .second, .val (.long p5), .second, .val (.long p6), .second, .val (.int (4 : Int32)), .val (.ref an), .val (.int (((0 : Int32) + (leI p2 p6)) + (leI p3 p6)))]) (st' := [(.long p6), (.long p4), (.int (((0 : Int32) + (leI p2 p6)) + (leI p3 p6)))]) (by decide +kernel) rfl ?_
    refine Xa2.callS 93 1 (argsL := [(.long p4), (.long p6)]) (rest := [(.int (((0 : Int32) + (leI p2 p6)) + (leI p3 p6)))]) (rm_le l Z a0 hw p4 p6 ha2 n0 Xa2.size) (hw _ (List.mem_of_getElem? (i := 36) rfl)) (hw _ (List.mem_of_getElem? (i := 37) rfl)) (hw _ (List.mem_of_getElem? (i := 38) rfl)) (hw _ (List.mem_of_getElem? (i := 39) rfl)) (by decide) (ps := [.long, .long]) (r := some .int) (by decide +kernel) rfl rfl rfl rfl (by decide +kernel) (by decide) ?_
    rintro Tl2 hl2 vl2 Xl2 ⟨rfl, rfl⟩
    show Go p e below s _ n0 _ (Tl2.setTop (mkF m 93 #[.val (.int p1), .val (.long p2), .second, .val (.long p3), .second, .val (.long p4), .second, .val (.long p5), .second, .val (.long p6), .second, .val (.int (4 : Int32)), .val (.ref an), .val (.int (((0 : Int32) + (leI p2 p6)) + (leI p3 p6)))] [(.int (leI p4 p6)), (.int (((0 : Int32) + (leI p2 p6)) + (leI p3 p6)))]))
    refine Xl2.blk hK (L := [(.iadd, 1, 0, 0), (.istore 13, 2, 0, 0), (.iload 11, 2, 0, 0), (.iconst 3, 1, 3, 0)]) (pc' := 99) (ls' := #[.val (.int p1), .val (.long p2), .second, .val (.long p3), .second, .val (.long p4), .second, .val (.long p5), .second, .val (.long p6), .second, .val (.int (4 : Int32)), .val (.ref an), .val (.int ((((0 : Int32) + (leI p2 p6)) + (leI p3 p6)) + (leI p4 p6)))]) (st' := [(.int (3 : Int32)), (.int (4 : Int32))]) (by decide +kernel) rfl ?_
    refine Xl2.icmp .le (24) 123 102 (by decide +kernel) (fun (c99 : ¬ (3 : Int32) < (4 : Int32)) => absurd (by decide : (3 : Int32) < (4 : Int32)) c99) (fun (c99 : (3 : Int32) < (4 : Int32)) => ?_)
    refine Xl2.blk hK (L := [(.aload 12, 2, 0, 0), (.lload 7, 2, 0, 0), (.lconst 0, 1, 0, 0), (.iconst 0, 1, 0, 0)]) (pc' := 108) (ls' := #[.val (.int p1), .val (.long p2), .second, .val (.long p3), .second, .val (.long p4), .second, .val (.long p5), .second, .val (.long p6), .second, .val (.int (4 : Int32)), .val (.ref an), .val (.int ((((0 : Int32) + (leI p2 p6)) + (leI p3 p6)) + (leI p4 p6)))]) (st' := [(.int (0 : Int32)), (.long (0 : Int64)), (.long p5), (.ref an)]) (by decide +kernel) rfl ?_
    refine Xl2.callV 111 0 (argsL := [(.long p5), (.long (0 : Int64)), (.int (0 : Int32))]) (rest := []) I3.1.2.2.2.2.2 (rm_add3 l Z a0 hw an al ap ai p5 y20 y21 y22 y23 bb2 ha2 n0 Xl2.size I3 S2) (hw _ (List.mem_of_getElem? (i := 25) rfl)) (hw _ (List.mem_of_getElem? (i := 26) rfl)) (hw _ (List.mem_of_getElem? (i := 28) rfl)) (hw _ (List.mem_of_getElem? (i := 27) rfl)) (hw _ (List.mem_of_getElem? (i := 3) rfl)) (hw _ (List.mem_of_getElem? (i := 29) rfl)) (by decide) (ps := [.long, .long, .int]) (r := none) (by decide +kernel) rfl rfl rfl rfl (by decide +kernel) (by decide) ?_
    rintro Ta3 ha3 va3 Xa3 ⟨rfl, y30, y31, y32, y33, bb3, I4, S3, c3⟩
    show Go p e below s _ n0 _ (Ta3.setTop (mkF m 111 #[.val (.int p1), .val (.long p2), .second, .val (.long p3), .second, .val (.long p4), .second, .val (.long p5), .second, .val (.long p6), .second, .val (.int (4 : Int32)), .val (.ref an), .val (.int ((((0 : Int32) + (leI p2 p6)) + (leI p3 p6)) + (leI p4 p6)))] []))
    refine Xa3.blk hK (L := [(.iload 13, 2, 0, 0), (.lload 7, 2, 0, 0), (.lload 9, 2, 0, 0)]) (pc' := 117) (ls' := #[.val (.int p1), .val (.long p2), .second, .val (.long p3), .second, .val (.long p4), .second, .val (.long p5), .second, .val (.long p6), .second, .val (.int (4 : Int32)), .val (.ref an), .val (.int ((((0 : Int32) + (leI p2 p6)) + (leI p3 p6)) + (leI p4 p6)))]) (st' := [(.long p6), (.long p5), (.int ((((0 : Int32) + (leI p2 p6)) + (leI p3 p6)) + (leI p4 p6)))]) (by decide +kernel) rfl ?_
    refine Xa3.callS 120 1 (argsL := [(.long p5), (.long p6)]) (rest := [(.int ((((0 : Int32) + (leI p2 p6)) + (leI p3 p6)) + (leI p4 p6)))]) (rm_le l Z a0 hw p5 p6 ha3 n0 Xa3.size) (hw _ (List.mem_of_getElem? (i := 36) rfl)) (hw _ (List.mem_of_getElem? (i := 37) rfl)) (hw _ (List.mem_of_getElem? (i := 38) rfl)) (hw _ (List.mem_of_getElem? (i := 39) rfl)) (by decide) (ps := [.long, .long]) (r := some .int) (by decide +kernel) rfl rfl rfl rfl (by decide +kernel) (by decide) ?_
    rintro Tl3 hl3 vl3 Xl3 ⟨rfl, rfl⟩
    show Go p e below s _ n0 _ (Tl3.setTop (mkF m 120 #[.val (.int p1), .val (.long p2), .second, .val (.long p3), .second, .val (.long p4), .second, .val (.long p5), .second, .val (.long p6), .second, .val (.int (4 : Int32)), .val (.ref an), .val (.int ((((0 : Int32) + (leI p2 p6)) + (leI p3 p6)) + (leI p4 p6)))] [(.int (leI p5 p6)), (.int ((((0 : Int32) + (leI p2 p6)) + (leI p3 p6)) + (leI p4 p6)))]))
    refine Xl3.blk hK (L := [(.iadd, 1, 0, 0), (.istore 13, 2, 0, 0), (.aload 12, 2, 0, 0), (.lload 9, 2, 0, 0)]) (pc' := 127) (ls' := #[.val (.int p1), .val (.long p2), .second, .val (.long p3), .second, .val (.long p4), .second, .val (.long p5), .second, .val (.long p6), .second, .val (.int (4 : Int32)), .val (.ref an), .val (.int (((((0 : Int32) + (leI p2 p6)) + (leI p3 p6)) + (leI p4 p6)) + (leI p5 p6)))]) (st' := [(.long p6), (.ref an)]) (by decide +kernel) rfl ?_
    refine Xl3.callV 130 0 (argsL := [(.long p6)]) (rest := []) I4.1.2.2.2.2.2 (rm_ab4 l Z a0 hw an al ap ai p6 y30 y31 y32 y33 bb3 ha3 n0 Xl3.size I4 S3) (hw _ (List.mem_of_getElem? (i := 18) rfl)) (hw _ (List.mem_of_getElem? (i := 19) rfl)) (hw _ (List.mem_of_getElem? (i := 21) rfl)) (hw _ (List.mem_of_getElem? (i := 20) rfl)) (hw _ (List.mem_of_getElem? (i := 3) rfl)) (hw _ (List.mem_of_getElem? (i := 22) rfl)) (by decide) (ps := [.long]) (r := some .int) (by decide +kernel) rfl rfl rfl rfl (by decide +kernel) (by decide) ?_
    rintro Tb hb vb Xb ⟨rfl, rfl⟩
    show Go p e below s _ n0 _ (Tb.setTop (mkF m 130 #[.val (.int p1), .val (.long p2), .second, .val (.long p3), .second, .val (.long p4), .second, .val (.long p5), .second, .val (.long p6), .second, .val (.int (4 : Int32)), .val (.ref an), .val (.int (((((0 : Int32) + (leI p2 p6)) + (leI p3 p6)) + (leI p4 p6)) + (leI p5 p6)))] [(.int (cnt [y30, y31, y32, y33] p6))]))
    refine Xb.blk hK (L := [(.iload 13, 2, 0, 0)]) (pc' := 132) (ls' := #[.val (.int p1), .val (.long p2), .second, .val (.long p3), .second, .val (.long p4), .second, .val (.long p5), .second, .val (.long p6), .second, .val (.int (4 : Int32)), .val (.ref an), .val (.int (((((0 : Int32) + (leI p2 p6)) + (leI p3 p6)) + (leI p4 p6)) + (leI p5 p6)))]) (st' := [(.int (((((0 : Int32) + (leI p2 p6)) + (leI p3 p6)) + (leI p4 p6)) + (leI p5 p6))), (.int (cnt [y30, y31, y32, y33] p6))]) (by decide +kernel) rfl ?_
    refine Xb.icmp .ne (7) 139 135 (by decide +kernel) (fun (c132 : ¬ (cnt [y30, y31, y32, y33] p6) = (((((0 : Int32) + (leI p2 p6)) + (leI p3 p6)) + (leI p4 p6)) + (leI p5 p6))) => absurd (by rw [c3, c2, c1, c0]; rfl : (cnt [y30, y31, y32, y33] p6) = (((((0 : Int32) + (leI p2 p6)) + (leI p3 p6)) + (leI p4 p6)) + (leI p5 p6))) c132) (fun (c132 : (cnt [y30, y31, y32, y33] p6) = (((((0 : Int32) + (leI p2 p6)) + (leI p3 p6)) + (leI p4 p6)) + (leI p5 p6))) => ?_)
    refine Xb.blk hK (L := [(.iconst 1, 1, 1, 0), (.goto 4, 3, 0, 140)]) (pc' := 140) (ls' := #[.val (.int p1), .val (.long p2), .second, .val (.long p3), .second, .val (.long p4), .second, .val (.long p5), .second, .val (.long p6), .second, .val (.int (4 : Int32)), .val (.ref an), .val (.int (((((0 : Int32) + (leI p2 p6)) + (leI p3 p6)) + (leI p4 p6)) + (leI p5 p6)))]) (st' := [(.int (1 : Int32))]) (by decide +kernel) rfl ?_
    exact Xb.retZ (by decide +kernel) (by decide) (by decide) (Or.inr rfl) (rfl)
set_option maxRecDepth 65536 in
set_option maxHeartbeats 40000000 in
theorem comes_1 {Post : Tables → Env → Array Value → State → Outcome → State → Prop} (hpost : ∀ tb e args s v u, (limb_1_1.after args s (.returned v) u = true ∧ limb_1_2.after args s (.returned v) u = true ∧ True) → FrameEnd s (.returned v) u (Jvm.fieldLocs frame_1_writes args s ++ Jvm.arrayLocs frame_1_arrays args s ++ Jvm.staticLocs frame_1_statics s) 16 128 → Post tb e args s (.returned v) u) :
    ArmFor flags0 classFile x code maxLocals ret World_1 tables_1 room_1 Calls_1 rest_1 Pre_1 Post := by
  intro l hfl _ _ p e ha hc hk s m args below hf hA hF happ hP
  obtain ⟨hcalls, hrest, hpre⟩ := hP
  obtain ⟨-, -, -, hnamed, -, -, -, hat⟩ := (Spec.applies_iff hf).mp happ
  obtain ⟨hg, hn⟩ := and_e (Cond.before_iff.mp (show (Jvm.Cond.and given_1 narrow_1).before args s = true from hpre))
  obtain ⟨hc0, hg⟩ := and_e hg
  obtain ⟨hk0, hg⟩ := and_e hg
  obtain ⟨hk1, hg⟩ := and_e hg
  obtain ⟨hk2, hg⟩ := and_e hg
  obtain ⟨hk3, hg⟩ := and_e hg
  obtain ⟨hk4, hg⟩ := and_e hg
  have hk5 := hg
  obtain ⟨w0, w1, w2, w3, w4, w5, rfl⟩ : ∃ w0 w1 w2 w3 w4 w5 : Value, args = #[w0, w1, w2, w3, w4, w5] := by
    have hs : args.size = 6 := by simpa [Cond.value, given_1] using hc0
    obtain ⟨L⟩ := args
    match L, hs with
    | [w0, w1, w2, w3, w4, w5], _ => exact ⟨w0, w1, w2, w3, w4, w5, rfl⟩
  have hw := fun d (hd : d ∈ tables_1) => atoms_spec (ws := Jvm.Cond.code x code maxLocals ret :: tables_1) hat d (List.mem_cons_of_mem _ hd)
  obtain ⟨i0, e0⟩ := is_v hk0
  obtain rfl : w0 = (.int i0) := Option.some.inj e0
  obtain ⟨i1, e1⟩ := isL_v hk1
  obtain rfl : w1 = (.long i1) := Option.some.inj e1
  obtain ⟨i2, e2⟩ := isL_v hk2
  obtain rfl : w2 = (.long i2) := Option.some.inj e2
  obtain ⟨i3, e3⟩ := isL_v hk3
  obtain rfl : w3 = (.long i3) := Option.some.inj e3
  obtain ⟨i4, e4⟩ := isL_v hk4
  obtain rfl : w4 = (.long i4) := Option.some.inj e4
  obtain ⟨i5, e5⟩ := isL_v hk5
  obtain rfl : w5 = (.long i5) := Option.some.inj e5
  obtain ⟨n, o, h1, h2, h3, v, L, rfl, ⟨hv, -, N⟩, hq⟩ := rm_law l s _ hw i0 i1 i2 i3 i4 i5 s.heap s.heap.size (Nat.le_refl _) tables_1 p e ha hc hk s m _ below hf ((Spec.applies_iff_loose hf).mp happ).1 ⟨rfl, State.Warmed39.refl s, rfl⟩ trivial
  obtain rfl : v = some (.int 1) := hv
  refine ⟨n, _, h1, h2, h3, hpost _ _ _ _ _ _ ⟨Cond.after_iff.mpr rfl, Cond.after_iff.mpr (eq_i res_at (Term.int_eval (1)) rfl), trivial⟩ ⟨hq.1, hq.2.1, (hq.2.2.sift fun y hy => Or.inr (N y hy)).mono (by decide) (by decide)⟩⟩
theorem main_1_1 : Claimed_1_1 := comes_1 fun _ _ _ _ _ _ h hF => ⟨h.1, hF⟩
theorem main_1_2 : Claimed_1_2 := comes_1 fun _ _ _ _ _ _ h hF => ⟨h.2.1, hF⟩
end Jvm.Pilot.@@N@@
namespace Jvm.Pilot.@@N@@
open Jvm Jvm.ClassFile Sem Op Lib Jvm.Free Jvm.Stand Jvm.Pilot.@@N@@.Jvm.D
/-! MADE BY PROGRAM (witnessworld.py) out of the Statement's table words and the real class files: 12 classes; the members and pool entries that the words name. The judged class is class 1, her method 2. -/
namespace start1
open Jvm.ClassFile
def u (s : String) : CpInfo := .utf8 (stringToUtf16 s)
/-- a pool by its gaps: so many unusable entries, then the entry; so many at the end -/
def gap : Nat → List CpInfo → List CpInfo
  | 0, r => r
  | n + 1, r => .unusable :: gap n r
def poolList (es : List (Nat × CpInfo)) (last : Nat) : List CpInfo := es.foldr (fun e r => gap e.1 (e.2 :: r)) (gap last [])
def pool (es : List (Nat × CpInfo)) (last : Nat) : Array CpInfo := ⟨poolList es last⟩
def fileOf (pool : Array CpInfo) (this : Nat) (attrs : Array Attribute := #[]) (ms : Array MethodInfo := #[]) (fl : Nat := 33) (sup : Nat := 0) (ifs : Array Nat := #[]) (fds : Array FieldInfo := #[]) : ClassFile where
  minorVersion := 0
  majorVersion := 65
  constantPool := pool
  accessFlags := fl
  thisClass := this
  superClass := sup
  interfaces := ifs
  fields := fds
  methods := ms
  attributes := attrs
def plain (name : String) (sup : Option ClassId) : Class where
  name := name
  kind := .ordinary
  loader := none
  accessFlags := 33
  super := sup
  interfaces := #[]
  cf := none
  fields := #[]
  methods := #[]
  instanceTypes := #[]
  staticTypes := #[]
  resolved := #[]
  callSites := []
  init := .initialized
  statics := none
  mirror := none

def pool0 : Array CpInfo := pool [(5, u "<init>"), (0, u "()V"), (1, .class_ 10), (1, u "java/lang/Object")] 113

def k0c0 : Code := { maxStack := 0, maxLocals := 1, code := object_method_1_code, exceptionTable := #[], attributes := #[] }
def k0m0 : Method := { name := "<init>", desc := "()V", sig := { parameters := [], returnType := none }, accessFlags := 1, code := some k0c0 }
/-- java/lang/Object -/
def k0 : Class := { plain "java/lang/Object" none with
  accessFlags := 33
  interfaces := #[]
  cf := some (fileOf pool0 8 #[] #[{ accessFlags := 1, nameIndex := 5, descriptorIndex := 6, attributes := #[] }] 33 0 #[] #[])
  fields := #[]
  methods := #[k0m0]
  instanceTypes := #[]
  staticTypes := #[]
  resolved := Array.replicate 124 none
  statics := none }

def pool1 : Array CpInfo := pool [(2, .class_ 4), (0, .nameAndType 5 6), (0, u "java/lang/Object"), (0, u "<init>"), (0, u "()V"), (0, .integer 2147483647), (0, .class_ 9), (0, u "com/example/redolith/redolith/storage/RecordIndex"), (0, .methodref 8 3), (0, .methodref 8 12), (0, .nameAndType 13 14), (0, u "add"), (0, u "(JJI)V"), (0, .methodref 16 17), (0, .class_ 18), (0, .nameAndType 19 20), (0, u "com/example/redolith/redolith/storage/RecordIndexAbovePinLaw"), (0, u "le"), (0, u "(JJ)I"), (0, .methodref 8 22), (0, .nameAndType 23 24), (0, u "above"), (0, u "(J)I"), (3, u "law"), (0, u "(IJJJJJ)Z")] 2

def k1m0 : Method := { name := "<init>", desc := "()V", sig := { parameters := [], returnType := none }, accessFlags := 2, code := none }
def k1c1 : Code := { maxStack := 4, maxLocals := 4, code := method_2_code, exceptionTable := #[], attributes := #[] }
def k1m1 : Method := { name := "le", desc := "(JJ)I", sig := { parameters := [.long, .long], returnType := some .int }, accessFlags := 10, code := some k1c1 }
def k1c2 : Code := { maxStack := 6, maxLocals := 14, code := code, exceptionTable := #[], attributes := #[] }
def k1m2 : Method := { name := "law", desc := "(IJJJJJ)Z", sig := { parameters := [.int, .long, .long, .long, .long, .long], returnType := some .boolean }, accessFlags := 9, code := some k1c2 }
/-- com/example/redolith/redolith/storage/RecordIndexAbovePinLaw -/
def k1 : Class := { plain "com/example/redolith/redolith/storage/RecordIndexAbovePinLaw" (some 0) with
  accessFlags := 49
  interfaces := #[]
  cf := some (fileOf pool1 16 #[] #[{ accessFlags := 2, nameIndex := 5, descriptorIndex := 6, attributes := #[] }, { accessFlags := 10, nameIndex := 19, descriptorIndex := 20, attributes := #[] }, { accessFlags := 9, nameIndex := 28, descriptorIndex := 29, attributes := #[] }] 49 2 #[] #[])
  fields := #[]
  methods := #[k1m0, k1m1, k1m2]
  instanceTypes := #[]
  staticTypes := #[]
  resolved := Array.replicate 32 none
  statics := none }

def pool2 : Array CpInfo := pool [(1, .methodref 2 3), (0, .class_ 4), (0, .nameAndType 5 6), (0, u "java/lang/Object"), (0, u "<init>"), (0, u "()V"), (0, .fieldref 8 9), (0, .class_ 10), (0, .nameAndType 11 12), (0, u "com/example/redolith/redolith/storage/RecordIndex"), (0, u "lsns"), (0, u "[J"), (0, .fieldref 8 14), (0, .nameAndType 15 12), (0, u "positions"), (0, .fieldref 8 17), (0, .nameAndType 18 19), (0, u "lengths"), (0, u "[I"), (0, .fieldref 8 21), (0, .nameAndType 22 23), (0, u "size"), (0, u "I"), (0, .fieldref 8 25), (0, .nameAndType 26 27), (0, u "bytes"), (0, u "J"), (9, .methodref 38 39), (0, .class_ 40), (0, .nameAndType 41 42), (0, u "java/lang/System"), (0, u "arraycopy"), (0, u "(Ljava/lang/Object;ILjava/lang/Object;II)V"), (2, u "above"), (0, u "(J)I"), (92, u "add"), (0, u "(JJI)V")] 37

def k2c0 : Code := { maxStack := 2, maxLocals := 1, code := prog_167_method_1_code, exceptionTable := #[], attributes := #[] }
def k2m0 : Method := { name := "<init>", desc := "()V", sig := { parameters := [], returnType := none }, accessFlags := 0, code := some k2c0 }
def k2c1 : Code := { maxStack := 6, maxLocals := 7, code := prog_167_method_7_code, exceptionTable := #[], attributes := #[] }
def k2m1 : Method := { name := "add", desc := "(JJI)V", sig := { parameters := [.long, .long, .int], returnType := none }, accessFlags := 0, code := some k2c1 }
def k2c2 : Code := { maxStack := 4, maxLocals := 6, code := prog_167_method_12_code, exceptionTable := #[], attributes := #[] }
def k2m2 : Method := { name := "above", desc := "(J)I", sig := { parameters := [.long], returnType := some .int }, accessFlags := 0, code := some k2c2 }
/-- com/example/redolith/redolith/storage/RecordIndex -/
def k2 : Class := { plain "com/example/redolith/redolith/storage/RecordIndex" (some 0) with
  accessFlags := 48
  interfaces := #[]
  cf := some (fileOf pool2 8 #[] #[{ accessFlags := 0, nameIndex := 5, descriptorIndex := 6, attributes := #[] }, { accessFlags := 0, nameIndex := 139, descriptorIndex := 140, attributes := #[] }, { accessFlags := 0, nameIndex := 45, descriptorIndex := 46, attributes := #[] }] 48 2 #[] #[{ accessFlags := 2, nameIndex := 11, descriptorIndex := 12, attributes := #[] }, { accessFlags := 2, nameIndex := 15, descriptorIndex := 12, attributes := #[] }, { accessFlags := 2, nameIndex := 18, descriptorIndex := 19, attributes := #[] }, { accessFlags := 2, nameIndex := 22, descriptorIndex := 23, attributes := #[] }, { accessFlags := 2, nameIndex := 26, descriptorIndex := 27, attributes := #[] }])
  fields := #[{ name := "lsns", type := (.array .long), accessFlags := 2, slot := 0, constantValue := 0 }, { name := "positions", type := (.array .long), accessFlags := 2, slot := 1, constantValue := 0 }, { name := "lengths", type := (.array .int), accessFlags := 2, slot := 2, constantValue := 0 }, { name := "size", type := .int, accessFlags := 2, slot := 3, constantValue := 0 }, { name := "bytes", type := .long, accessFlags := 2, slot := 4, constantValue := 0 }]
  methods := #[k2m0, k2m1, k2m2]
  instanceTypes := #[(.array .long), (.array .long), (.array .int), .int, .long]
  staticTypes := #[]
  resolved := Array.replicate 178 none
  statics := none }

def pool3 : Array CpInfo := pool [(2, .class_ 4), (1, u "java/lang/Object"), (0, u "<init>"), (0, u "()V"), (1, .class_ 10), (1, u "java/lang/System"), (0, u "allowSecurityManager"), (0, u "I"), (16, u "cons"), (0, u "Ljava/io/Console;"), (77, .class_ 110), (1, u "java/lang/System$CallersHolder"), (43, u "initialErrStream"), (0, u "Ljava/io/PrintStream;"), (19, u "security"), (0, u "Ljava/lang/SecurityManager;"), (31, .class_ 209), (0, u "java/lang/System$1"), (7, u "props"), (0, u "Ljava/util/Properties;"), (2, u "lineSeparator"), (0, u "Ljava/lang/String;"), (96, .class_ 321), (1, u "java/lang/System$LoggerFinder"), (5, .class_ 328), (0, u "java/lang/System$Logger"), (67, u "err"), (2, u "out"), (91, u "notSupportedJnuEncoding"), (15, u "in"), (17, u "initialIn"), (0, u "Ljava/io/InputStream;"), (35, u "bootLayer"), (0, u "Ljava/lang/ModuleLayer;"), (99, .class_ 664), (0, u "java/lang/System$2"), (9, u "NEVER"), (2, u "MAYBE"), (49, u "arraycopy"), (0, u "(Ljava/lang/Object;ILjava/lang/Object;II)V"), (72, .class_ 802), (0, u "java/lang/System$Logger$Level")] 31

def k3m0 : Method := { name := "<init>", desc := "()V", sig := { parameters := [], returnType := none }, accessFlags := 2, code := none }
def k3m1 : Method := { name := "arraycopy", desc := "(Ljava/lang/Object;ILjava/lang/Object;II)V", sig := { parameters := [(.object "java/lang/Object"), .int, (.object "java/lang/Object"), .int, .int], returnType := none }, accessFlags := 265, code := none }
/-- java/lang/System -/
def k3 : Class := { plain "java/lang/System" (some 0) with
  accessFlags := 49
  interfaces := #[]
  cf := some (fileOf pool3 8 #[.nestMembers #[319, 327, 801, 108, 663, 208]] #[{ accessFlags := 2, nameIndex := 5, descriptorIndex := 6, attributes := #[] }, { accessFlags := 265, nameIndex := 727, descriptorIndex := 728, attributes := #[] }] 49 2 #[] #[{ accessFlags := 25, nameIndex := 507, descriptorIndex := 526, attributes := #[] }, { accessFlags := 25, nameIndex := 399, descriptorIndex := 155, attributes := #[] }, { accessFlags := 25, nameIndex := 396, descriptorIndex := 155, attributes := #[] }, { accessFlags := 10, nameIndex := 525, descriptorIndex := 526, attributes := #[] }, { accessFlags := 26, nameIndex := 674, descriptorIndex := 12, attributes := #[] }, { accessFlags := 26, nameIndex := 677, descriptorIndex := 12, attributes := #[] }, { accessFlags := 10, nameIndex := 11, descriptorIndex := 12, attributes := #[] }, { accessFlags := 74, nameIndex := 175, descriptorIndex := 176, attributes := #[] }, { accessFlags := 10, nameIndex := 491, descriptorIndex := 222, attributes := #[] }, { accessFlags := 74, nameIndex := 29, descriptorIndex := 30, attributes := #[] }, { accessFlags := 74, nameIndex := 154, descriptorIndex := 155, attributes := #[] }, { accessFlags := 10, nameIndex := 217, descriptorIndex := 218, attributes := #[] }, { accessFlags := 10, nameIndex := 221, descriptorIndex := 222, attributes := #[] }, { accessFlags := 8, nameIndex := 562, descriptorIndex := 563, attributes := #[] }])
  fields := #[{ name := "in", type := (.object "java/io/InputStream"), accessFlags := 25, slot := 0, constantValue := 0 }, { name := "out", type := (.object "java/io/PrintStream"), accessFlags := 25, slot := 1, constantValue := 0 }, { name := "err", type := (.object "java/io/PrintStream"), accessFlags := 25, slot := 2, constantValue := 0 }, { name := "initialIn", type := (.object "java/io/InputStream"), accessFlags := 10, slot := 3, constantValue := 0 }, { name := "NEVER", type := .int, accessFlags := 26, slot := 4, constantValue := 0 }, { name := "MAYBE", type := .int, accessFlags := 26, slot := 5, constantValue := 0 }, { name := "allowSecurityManager", type := .int, accessFlags := 10, slot := 6, constantValue := 0 }, { name := "security", type := (.object "java/lang/SecurityManager"), accessFlags := 74, slot := 7, constantValue := 0 }, { name := "notSupportedJnuEncoding", type := (.object "java/lang/String"), accessFlags := 10, slot := 8, constantValue := 0 }, { name := "cons", type := (.object "java/io/Console"), accessFlags := 74, slot := 9, constantValue := 0 }, { name := "initialErrStream", type := (.object "java/io/PrintStream"), accessFlags := 74, slot := 10, constantValue := 0 }, { name := "props", type := (.object "java/util/Properties"), accessFlags := 10, slot := 11, constantValue := 0 }, { name := "lineSeparator", type := (.object "java/lang/String"), accessFlags := 10, slot := 12, constantValue := 0 }, { name := "bootLayer", type := (.object "java/lang/ModuleLayer"), accessFlags := 8, slot := 13, constantValue := 0 }]
  methods := #[k3m0, k3m1]
  instanceTypes := #[]
  staticTypes := #[(.object "java/io/InputStream"), (.object "java/io/PrintStream"), (.object "java/io/PrintStream"), (.object "java/io/InputStream"), .int, .int, .int, (.object "java/lang/SecurityManager"), (.object "java/lang/String"), (.object "java/io/Console"), (.object "java/io/PrintStream"), (.object "java/util/Properties"), (.object "java/lang/String"), (.object "java/lang/ModuleLayer")]
  resolved := Array.replicate 834 none
  statics := none }

def pool4 : Array CpInfo := pool [(1, u "java/lang/Cloneable"), (0, .class_ 1), (0, u "java/lang/Object"), (0, .class_ 3)] 3

/-- java/lang/Cloneable -/
def k4 : Class := { plain "java/lang/Cloneable" (some 0) with
  accessFlags := 1537
  interfaces := #[]
  cf := some (fileOf pool4 2 #[] #[] 1537 4 #[] #[])
  fields := #[]
  methods := #[]
  instanceTypes := #[]
  staticTypes := #[]
  resolved := Array.replicate 8 none
  statics := none }

def pool5 : Array CpInfo := pool [(1, u "java/io/Serializable"), (0, .class_ 1), (0, u "java/lang/Object"), (0, .class_ 3)] 3

/-- java/io/Serializable -/
def k5 : Class := { plain "java/io/Serializable" (some 0) with
  accessFlags := 1537
  interfaces := #[]
  cf := some (fileOf pool5 2 #[] #[] 1537 4 #[] #[])
  fields := #[]
  methods := #[]
  instanceTypes := #[]
  staticTypes := #[]
  resolved := Array.replicate 8 none
  statics := none }

/-- the primitive byte -/
def k6 : Class := { plain "byte" none with kind := .primitive 'B', accessFlags := 0x411 }
/-- [B -/
def k7 : Class := { plain "[B" (some 0) with kind := .array 6 .byte, interfaces := #[4, 5], accessFlags := 1041 }

/-- the primitive int -/
def k8 : Class := { plain "int" none with kind := .primitive 'I', accessFlags := 0x411 }
/-- [I -/
def k9 : Class := { plain "[I" (some 0) with kind := .array 8 .int, interfaces := #[4, 5], accessFlags := 1041 }

/-- the primitive long -/
def k10 : Class := { plain "long" none with kind := .primitive 'J', accessFlags := 0x411 }
/-- [J -/
def k11 : Class := { plain "[J" (some 0) with kind := .array 10 .long, interfaces := #[4, 5], accessFlags := 1041 }

def heap : Heap := #[]
def classes : Array Class := #[k0, k1, k2, k3, k4, k5, k6, k7, k8, k9, k10, k11]
def interned : List (Array UInt16 × Addr) := []
def slotsUsed : Nat := 0
def theMethod : MethodId := ⟨1, 2⟩
def args0 : Array Value := #[.int 5, .long 9, .long 3, .long 2, .long 2, .long 1]
def aboutOver (below : List Frame) : State where
  vm := { classes := classes, interned := interned.toArray }
  heap := heap
  slotsUsed := slotsUsed
  threads := #[{ frames := .invoking theMethod args0 :: below }]
def below0 : List Frame := [.native { method := ⟨0, 0⟩, args := #[] }]
def about1 : State := aboutOver below0
def p0 : Program := .bare "" "" ""
def e0 : Env := launch0.env 0 0 0
theorem w_frames : about1.frames = Frame.invoking theMethod args0 :: below0 := rfl
set_option maxRecDepth 65536 in
theorem w_args : argsFit about1.vm theMethod args0 = true := by decide +kernel
set_option maxRecDepth 65536 in
theorem w_heap : heapFits about1 = true := by decide +kernel
set_option maxRecDepth 65536 in
theorem w_runnable : about1.curStatus? = some .runnable := by decide +kernel
set_option maxRecDepth 65536 in
theorem w_alone : about1.alone = true := by decide +kernel
set_option maxRecDepth 65536 in
theorem w_named : about1.methodNamed? x = some theMethod := by decide +kernel
set_option maxRecDepth 65536 in
theorem w_hears : about1.hears theMethod below0 = true := by decide +kernel
set_option maxRecDepth 65536 in
theorem w_ripe : about1.ripe theMethod args0 below0 = true := by decide +kernel
theorem w_running : about1.status = .running := rfl
set_option maxRecDepth 65536 in
theorem w_room : about1.hasRoom e0.platform room_1 = true :=
  launch0.hasRoom_least _ room_1 (by decide +kernel) (by decide +kernel) (by decide +kernel) (by decide +kernel) (by decide +kernel) (by decide +kernel)
theorem allAtoms_all (ts : List Jvm.Cond) (a : Array Jvm.Value) (st : Jvm.State) : (allAtoms ts).before a st = ts.all (fun c => c.before a st) := by
  induction ts with
  | nil => rfl
  | cons c t ih =>
    show (Jvm.Cond.and c (allAtoms t)).before a st = _
    rw [Jvm.Cond.before_and, ih, List.all_cons]
def words1 : List Jvm.Cond := Jvm.Cond.code x code maxLocals ret :: tables_1
/-- a 'code' word, met by the world's own term for the bytes: nothing is compared byte by byte -/
theorem code_word {y : MethodName} {bytes : ByteArray} {mx : Nat} {rt : Option FieldType} {a : Array Value} {s : State} {m : MethodId} {meth : Method} {c : Code} (h1 : s.methodNamed? y = some m) (h2 : s.vm.method? m = some meth) (h3 : meth.code = some c) (h4 : c.code = bytes)
    (h5 : (c.maxLocals == mx && c.exceptionTable.isEmpty && decide (c.maxStack ≤ mostOperands) && decide (meth.sig.returnType = rt) && !meth.locks && decide (parseMethodDescriptor y.desc = some meth.sig)) = true) : (Jvm.Cond.code y bytes mx rt).before a s = true := by
  simp only [Bool.and_eq_true, beq_iff_eq, Bool.not_eq_true', decide_eq_true_eq] at h5
  obtain ⟨⟨⟨⟨⟨g1, g2⟩, g3⟩, g4⟩, g5⟩, g6⟩ := h5
  simp [Cond.before, Cond.holds, Cond.value, h1, h2, h3, h4, g1, g2, g3, g4, g5, g6]
def isCode : Jvm.Cond → Bool
  | .code _ _ _ _ => true
  | _ => false
theorem all_split {L : List Jvm.Cond} {P : Jvm.Cond → Bool} (h1 : L.all (fun c => isCode c || P c) = true) (h2 : ∀ c ∈ L.filter isCode, P c = true) : L.all P = true := by
  refine List.all_eq_true.mpr fun c hc => ?_
  have h := List.all_eq_true.mp h1 c hc
  rcases Bool.eq_false_or_eq_true (isCode c) with hi | hi
  · exact h2 c (List.mem_filter.mpr ⟨hc, hi⟩)
  · simpa [hi] using h
set_option maxRecDepth 65536 in
theorem w_c0 : (Jvm.Cond.code x code maxLocals ret).before args0 about1 = true := code_word (m := ⟨1, 2⟩) (meth := k1m2) (c := k1c2) (by decide +kernel) rfl rfl rfl (by decide +kernel)
set_option maxRecDepth 65536 in
theorem w_c1 : (Jvm.Cond.code ({ cls := "com/example/redolith/redolith/storage/RecordIndex", name := "<init>", desc := "()V" } : Jvm.MethodName) prog_167_method_1_code (1 : Nat) (Option.none : Option Jvm.ClassFile.FieldType)).before args0 about1 = true := code_word (m := ⟨2, 0⟩) (meth := k2m0) (c := k2c0) (by decide +kernel) rfl rfl rfl (by decide +kernel)
set_option maxRecDepth 65536 in
theorem w_c2 : (Jvm.Cond.code ({ cls := "java/lang/Object", name := "<init>", desc := "()V" } : Jvm.MethodName) object_method_1_code (1 : Nat) (Option.none : Option Jvm.ClassFile.FieldType)).before args0 about1 = true := code_word (m := ⟨0, 0⟩) (meth := k0m0) (c := k0c0) (by decide +kernel) rfl rfl rfl (by decide +kernel)
set_option maxRecDepth 65536 in
theorem w_c3 : (Jvm.Cond.code ({ cls := "com/example/redolith/redolith/storage/RecordIndex", name := "above", desc := "(J)I" } : Jvm.MethodName) prog_167_method_12_code (6 : Nat) (Option.some Jvm.ClassFile.FieldType.int)).before args0 about1 = true := code_word (m := ⟨2, 2⟩) (meth := k2m2) (c := k2c2) (by decide +kernel) rfl rfl rfl (by decide +kernel)
set_option maxRecDepth 65536 in
theorem w_c4 : (Jvm.Cond.code ({ cls := "com/example/redolith/redolith/storage/RecordIndex", name := "add", desc := "(JJI)V" } : Jvm.MethodName) prog_167_method_7_code (7 : Nat) (Option.none : Option Jvm.ClassFile.FieldType)).before args0 about1 = true := code_word (m := ⟨2, 1⟩) (meth := k2m1) (c := k2c1) (by decide +kernel) rfl rfl rfl (by decide +kernel)
set_option maxRecDepth 65536 in
theorem w_c5 : (Jvm.Cond.code ({ cls := "com/example/redolith/redolith/storage/RecordIndexAbovePinLaw", name := "le", desc := "(JJ)I" } : Jvm.MethodName) method_2_code (4 : Nat) (Option.some Jvm.ClassFile.FieldType.int)).before args0 about1 = true := code_word (m := ⟨1, 1⟩) (meth := k1m1) (c := k1c1) (by decide +kernel) rfl rfl rfl (by decide +kernel)
def codes1 : List Jvm.Cond := [Jvm.Cond.code x code maxLocals ret, Jvm.Cond.code ({ cls := "com/example/redolith/redolith/storage/RecordIndex", name := "<init>", desc := "()V" } : Jvm.MethodName) prog_167_method_1_code (1 : Nat) (Option.none : Option Jvm.ClassFile.FieldType), Jvm.Cond.code ({ cls := "java/lang/Object", name := "<init>", desc := "()V" } : Jvm.MethodName) object_method_1_code (1 : Nat) (Option.none : Option Jvm.ClassFile.FieldType), Jvm.Cond.code ({ cls := "com/example/redolith/redolith/storage/RecordIndex", name := "above", desc := "(J)I" } : Jvm.MethodName) prog_167_method_12_code (6 : Nat) (Option.some Jvm.ClassFile.FieldType.int), Jvm.Cond.code ({ cls := "com/example/redolith/redolith/storage/RecordIndex", name := "add", desc := "(JJI)V" } : Jvm.MethodName) prog_167_method_7_code (7 : Nat) (Option.none : Option Jvm.ClassFile.FieldType), Jvm.Cond.code ({ cls := "com/example/redolith/redolith/storage/RecordIndexAbovePinLaw", name := "le", desc := "(JJ)I" } : Jvm.MethodName) method_2_code (4 : Nat) (Option.some Jvm.ClassFile.FieldType.int)]
set_option maxRecDepth 65536 in
theorem codes_eq : words1.filter isCode = codes1 := rfl
theorem w_codes : ∀ c ∈ words1.filter isCode, c.before args0 about1 = true := by
  rw [codes_eq]
  intro c hc
  simp only [codes1, List.mem_cons, List.not_mem_nil, or_false] at hc
  rcases hc with rfl | rfl | rfl | rfl | rfl | rfl
  · exact w_c0
  · exact w_c1
  · exact w_c2
  · exact w_c3
  · exact w_c4
  · exact w_c5
set_option maxRecDepth 65536 in
theorem w_t1 : (words1.take 24).all (fun c => isCode c || c.before args0 about1) = true := by decide +kernel
set_option maxRecDepth 65536 in
theorem w_t2 : (words1.drop 24).all (fun c => isCode c || c.before args0 about1) = true := by decide +kernel
theorem w_tables : (allAtoms (Jvm.Cond.code x code maxLocals ret :: tables_1)).before args0 about1 = true := by
  rw [allAtoms_all]
  show words1.all (fun c => c.before args0 about1) = true
  refine all_split ?_ w_codes
  rw [← List.take_append_drop 24 words1, List.all_append, w_t1, w_t2]
  rfl
set_option maxRecDepth 65536 in
theorem w_case : (Jvm.Cond.and given_1 narrow_1).before args0 about1 = true := by decide +kernel
theorem w_applies : (headSpec (Jvm.Cond.code x code maxLocals ret :: tables_1) room_1).applies x e0.platform about1 = true :=
  (Spec.applies_iff w_frames).mpr ⟨w_running, w_runnable, w_alone, w_named, w_hears, w_ripe, w_room, w_tables⟩
theorem atStart : AtStart classFile x code maxLocals ret World_1 tables_1 room_1 Calls_1 rest_1 Pre_1 launch0 p0 e0 about1 theMethod args0 below0 :=
  ⟨lists_1, trivial, launch0.admits_env _ _ _, launch0.least_env, fairChoices_fair.cas, fairChoices_fair.clock, w_frames, w_args, w_heap, w_applies, trivial, trivial, w_case⟩
end start1
theorem witness_1 : WitnessClaimed_1 := ⟨start1.p0, start1.e0, start1.about1, start1.theMethod, start1.args0, start1.below0, start1.atStart⟩
end Jvm.Pilot.@@N@@
