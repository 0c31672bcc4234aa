import JvmDerived
import JvmDerived.Pilot.@@N@@Statement
import JvmDerived.Pilot.@@N@@Code
set_option linter.unusedVariables false
set_option linter.unusedSimpArgs false
namespace Jvm.OwnW
open Sem ClassFile Op Lib Bundle Jvm.Stand Jvm.Free Jvm.LawKit Jvm.RoadKit
/-! OwnW: a walk as one goal. Go: 'from every state of the walk that stands over this heap, with this frame, the method comes to its end with Q'. Each step is one lemma; tables, written places, rebased starts and booked constants ride inside. -/
abbrev Gb : Type := Launch × State × Array Value × List (String × Nat)
abbrev Gb.l (G : Gb) : Launch := G.1
abbrev Gb.Z (G : Gb) : State := G.2.1
abbrev Gb.a0 (G : Gb) : Array Value := G.2.2.1
abbrev Gb.EL (G : Gb) : List (String × Nat) := G.2.2.2
abbrev Cx : Type := (Program × Env × State × MethodId) × (Array Value × List Frame × Method × Code)
abbrev Cx.p (B : Cx) : Program := B.1.1
abbrev Cx.e (B : Cx) : Env := B.1.2.1
abbrev Cx.s (B : Cx) : State := B.1.2.2.1
abbrev Cx.m (B : Cx) : MethodId := B.1.2.2.2
abbrev Cx.as (B : Cx) : Array Value := B.2.1
abbrev Cx.bl (B : Cx) : List Frame := B.2.2.1
abbrev Cx.mt (B : Cx) : Method := B.2.2.2.1
abbrev Cx.c (B : Cx) : Code := B.2.2.2.2
abbrev Mt : Type := (String × String × Room) × (List (Nat × Instr × Nat) × Nat × Option FieldType)
abbrev Mt.own (M : Mt) : String := M.1.1
abbrev Mt.nm (M : Mt) : String := M.1.2.1
abbrev Mt.R (M : Mt) : Room := M.1.2.2
abbrev Mt.P (M : Mt) : List (Nat × Instr × Nat) := M.2.1
abbrev Mt.maxL (M : Mt) : Nat := M.2.2.1
abbrev Mt.ret (M : Mt) : Option FieldType := M.2.2.2
abbrev Wd (G : Gb) (d : Jvm.Cond) : Prop := d.before G.a0 G.Z = true
def Wo (G : Gb) (B : Cx) (own : String) (R : Room) (h : Heap) (sf : List Addr) (cells slots : Nat) (T : State) (vm0 : Vm) (k0 : Nat) (locs : List Loc) : Prop :=
  Stand B.p G.l B.e R (B.s.setVm vm0) B.m B.as B.bl B.mt B.c T locs cells slots ∧ T.heap = h ∧ B.s.Since vm0 k0 ∧ k0 ≤ h.size ∧
  G.Z.Warmed39 vm0 ∧ vm0.findClass own = some B.m.cls ∧ Fr G.Z.heap.size locs ∧ Ext G.Z.heap h ∧ CHr G.Z G.EL B.s.vm B.s.heap vm0 h ∧
  ∀ x ∈ sf, Safe G.Z G.EL vm0 h x ∧ x < h.size
def Fin (G : Gb) (B : Cx) (R : Room) (Q : Option Value → Heap → (Addr → Prop) → Prop) (u : State) : Prop :=
  ∃ (t : State) (v : Option Value) (L : List Loc), Steps B.p.tables B.e B.bl u t ∧ t.status = .running ∧ Ended t B.bl (.returned v) ∧ Q v t.heap (fun x => Safe G.Z G.EL t.vm t.heap x ∧ x < t.heap.size) ∧ Fr G.Z.heap.size L ∧ Ext G.Z.heap t.heap ∧
    CHr G.Z G.EL B.s.vm B.s.heap t.vm t.heap ∧ ReturnedEndW B.s (.returned v) t L R.cells R.slots
def Go (G : Gb) (B : Cx) (M : Mt) (Q : Option Value → Heap → (Addr → Prop) → Prop) (h : Heap) (sf : List Addr) (cells slots pc : Nat) (Ls : Array Slot) (st : List Value) : Prop :=
  ∀ T vm0 k0 locs, Wo G B M.own M.R h sf cells slots T vm0 k0 locs → Fin G B M.R Q (T.setTop (mkF B.m pc Ls st))
def Kd (G : Gb) (B : Cx) (M : Mt) : Prop :=
  B.p.tables.exec = Jvm.exec ∧ (∀ q ∈ M.P, decode B.c.code q.1 = .ok q.2) ∧ B.c.maxLocals = M.maxL ∧ B.mt.sig.returnType = M.ret ∧ B.mt.locks = false ∧ B.mt.name = M.nm ∧ EW G.Z G.a0 G.EL
/-- a contract: from these arguments over this heap it returns, and Q holds of what is returned and of the heap behind -/
def Ctr (G : Gb) (ws : List Jvm.Cond) (y : MethodName) (bytes : ByteArray) (maxL : Nat) (ret : Option FieldType) (rm : Room) (as' : Array Value) (h : Heap) (sf : List Addr) (Q : Option Value → Heap → (Addr → Prop) → Prop) : Prop :=
  MetFree G.l y (head1 (Jvm.Cond.code y bytes maxL ret :: ws) rm)
    (fun a U => a = as' ∧ G.Z.Warmed39 U.vm ∧ U.heap = h ∧ CHv G.Z G.EL U.vm h ∧ Ext G.Z.heap h ∧ ∀ x ∈ sf, Safe G.Z G.EL U.vm h x ∧ x < h.size) (fun _ _ _ _ _ => True)
    (fun _ U o U' => ∃ v L, o = .returned v ∧ (Q v U'.heap (fun x => Safe G.Z G.EL U'.vm U'.heap x ∧ x < U'.heap.size) ∧ Fr G.Z.heap.size L ∧ Ext G.Z.heap U'.heap) ∧ CHr G.Z G.EL U.vm U.heap U'.vm U'.heap ∧ ReturnedEndW U o U' L rm.cells rm.slots)
section Base
variable {G : Gb} {B : Cx} {M : Mt} {R : Room} {Q : Option Value → Heap → (Addr → Prop) → Prop} {h : Heap} {sf : List Addr} {cells slots pc : Nat} {Ls : Array Slot} {st : List Value}
theorem Fin.pre {u u' : State} (f : Fin G B R Q u') (k : ∀ target, Steps B.p.tables B.e B.bl u' target → Steps B.p.tables B.e B.bl u target) : Fin G B R Q u := by
  obtain ⟨t, v, L, s, r⟩ := f
  exact ⟨t, v, L, k _ s, r⟩
theorem Kd.dec (K : Kd G B M) {k : Nat} {i : Instr} {len : Nat} (hd : M.P[k]? = some (pc, i, len)) : decode B.c.code pc = .ok (i, len) := K.2.1 (pc, i, len) (List.mem_of_getElem? hd)
/-! ### plain steps -/
def intAt (Ls : Array Slot) (k : Nat) : Option Int32 := match Ls[k]? with | some (.val (.int v)) => some v | _ => none
def longAt (Ls : Array Slot) (k : Nat) : Option Int64 := match Ls[k]? with | some (.val (.long v)) => some v | _ => none
def refAt (Ls : Array Slot) (k : Nat) : Option Value := match Ls[k]? with | some (.val (.ref a)) => some (.ref a) | some (.val .null) => some .null | _ => none
theorem intAt_ok {k : Nat} {v : Int32} (q : intAt Ls k = some v) : Ls[k]? = some (.val (.int v)) := by
  unfold intAt at q; split at q
  · rename_i u; cases q; exact u
  · cases q
theorem longAt_ok {k : Nat} {v : Int64} (q : longAt Ls k = some v) : Ls[k]? = some (.val (.long v)) := by
  unfold longAt at q; split at q
  · rename_i u; cases q; exact u
  · cases q
theorem refAt_ok {k : Nat} {v : Value} (q : refAt Ls k = some v) : Ls[k]? = some (.val v) ∧ v.isRef = true := by
  unfold refAt at q; split at q
  · rename_i u; cases q; exact ⟨u, rfl⟩
  · rename_i u; cases q; exact ⟨u, rfl⟩
  · cases q
def sem1 (i : Instr) (n pc : Nat) (Ls : Array Slot) (st : List Value) : Option (Nat × Array Slot × List Value) :=
  match i, n, st with
  | .aconst_null, 1, st => some (pc + 1, Ls, .null :: st)
  | .iconst z, 1, st => some (pc + 1, Ls, .int (Int32.ofInt z) :: st)
  | .bipush z, 2, st => some (pc + 2, Ls, .int (Int8.ofInt z).toInt32 :: st)
  | .sipush z, 3, st => some (pc + 3, Ls, .int (Int16.ofInt z).toInt32 :: st)
  | .iload k, 2, st => (intAt Ls k).map fun v => (pc + 2, Ls, .int v :: st)
  | .iload_n k, 1, st => (intAt Ls k.val).map fun v => (pc + 1, Ls, .int v :: st)
  | .lload k, 2, st => (longAt Ls k).map fun v => (pc + 2, Ls, .long v :: st)
  | .lload_n k, 1, st => (longAt Ls k.val).map fun v => (pc + 1, Ls, .long v :: st)
  | .aload k, 2, st => (refAt Ls k).map fun v => (pc + 2, Ls, v :: st)
  | .aload_n k, 1, st => (refAt Ls k.val).map fun v => (pc + 1, Ls, v :: st)
  | .istore k, 2, .int x :: st => (storeLocals Ls k (.int x)).map fun l => (pc + 2, l, st)
  | .istore_n k, 1, .int x :: st => (storeLocals Ls k.val (.int x)).map fun l => (pc + 1, l, st)
  | .astore k, 2, .ref x :: st => (storeLocals Ls k (.ref x)).map fun l => (pc + 2, l, st)
  | .astore k, 2, .null :: st => (storeLocals Ls k .null).map fun l => (pc + 2, l, st)
  | .astore_n k, 1, .ref x :: st => (storeLocals Ls k.val (.ref x)).map fun l => (pc + 1, l, st)
  | .astore_n k, 1, .null :: st => (storeLocals Ls k.val .null).map fun l => (pc + 1, l, st)
  | .pop, 1, x :: st => if x.category = 1 then some (pc + 1, Ls, st) else none
  | .dup, 1, x :: st => if x.category = 1 then some (pc + 1, Ls, x :: x :: st) else none
  | .dup_x1, 1, x :: y :: st => if x.category = 1 then (if y.category = 1 then some (pc + 1, Ls, x :: y :: x :: st) else none) else none
  | .iadd, 1, .int y :: .int x :: st => some (pc + 1, Ls, .int (x + y) :: st)
  | .isub, 1, .int y :: .int x :: st => some (pc + 1, Ls, .int (x - y) :: st)
  | .imul, 1, .int y :: .int x :: st => some (pc + 1, Ls, .int (x * y) :: st)
  | .iand, 1, .int y :: .int x :: st => some (pc + 1, Ls, .int (x &&& y) :: st)
  | .ior, 1, .int y :: .int x :: st => some (pc + 1, Ls, .int (x ||| y) :: st)
  | .ixor, 1, .int y :: .int x :: st => some (pc + 1, Ls, .int (x ^^^ y) :: st)
  | .ishl, 1, .int y :: .int x :: st => some (pc + 1, Ls, .int (x <<< (y &&& 31)) :: st)
  | .ishr, 1, .int y :: .int x :: st => some (pc + 1, Ls, .int (x >>> (y &&& 31)) :: st)
  | .iushr, 1, .int y :: .int x :: st => some (pc + 1, Ls, .int (XT.ushr x y) :: st)
  | .lushr, 1, .int y :: .long x :: st => some (pc + 1, Ls, .long (XT.ushrL x y) :: st)
  | .i2l, 1, .int x :: st => some (pc + 1, Ls, .long x.toInt64 :: st)
  | .l2i, 1, .long x :: st => some (pc + 1, Ls, .int x.toInt32 :: st)
  | .i2b, 1, .int x :: st => some (pc + 1, Ls, .int x.toInt8.toInt32 :: st)
  | .i2c, 1, .int x :: st => some (pc + 1, Ls, .int x.toUInt32.toUInt16.toUInt32.toInt32 :: st)
  | .lcmp, 1, .long y :: .long x :: st => some (pc + 1, Ls, .int (XT.cmpL x y) :: st)
  | .iinc k z, 3, st => (intAt Ls k).bind fun x => (storeLocals Ls k (.int (x + Int32.ofInt z))).map fun l => (pc + 3, l, st)
  | .goto o, 3, st => if 0 ≤ (pc : Int) + o then some (((pc : Int) + o).toNat, Ls, st) else none
  | _, _, _ => none
theorem sem1_ok {tb : Tables} [Ours tb] {e : Env} {below : List Frame} {T target : State} {m : MethodId} {c : Code} (h : At T m c below) (hx : tb.exec = Jvm.exec) {i : Instr} {n : Nat} {f : Nat × Array Slot × List Value}
    (hd : decode c.code pc = .ok (i, n)) (hs : sem1 i n pc Ls st = some f) (hr : Steps tb e below (T.setTop (mkF m f.1 f.2.1 f.2.2)) target) : Steps tb e below (T.setTop (mkF m pc Ls st)) target := by
  unfold sem1 at hs
  split at hs
  · cases hs; exact XS.aconstNull h hx rfl hd hr
  · cases hs; exact XS.iconst h hx rfl hd hr
  · cases hs; exact XS.bipush h hx rfl hd hr
  · cases hs; exact XS.sipush h hx rfl hd hr
  · obtain ⟨v, q, rfl⟩ := Option.map_eq_some_iff.mp hs; exact XS.iload h hx rfl hd (intAt_ok q) hr
  · obtain ⟨v, q, rfl⟩ := Option.map_eq_some_iff.mp hs; exact XS.iloadN h hx rfl hd (intAt_ok q) hr
  · obtain ⟨v, q, rfl⟩ := Option.map_eq_some_iff.mp hs; exact XT.lload h hx rfl hd (longAt_ok q) hr
  · obtain ⟨v, q, rfl⟩ := Option.map_eq_some_iff.mp hs; exact XT.lloadN h hx rfl hd (longAt_ok q) hr
  · obtain ⟨v, q, rfl⟩ := Option.map_eq_some_iff.mp hs; exact XS.aload h hx rfl hd (refAt_ok q).1 (refAt_ok q).2 hr
  · obtain ⟨v, q, rfl⟩ := Option.map_eq_some_iff.mp hs; exact XS.aloadN h hx rfl hd (refAt_ok q).1 (refAt_ok q).2 hr
  · obtain ⟨v, q, rfl⟩ := Option.map_eq_some_iff.mp hs; exact XS.istore h hx rfl hd rfl q hr
  · obtain ⟨v, q, rfl⟩ := Option.map_eq_some_iff.mp hs; exact XS.istoreN h hx rfl hd rfl q hr
  · obtain ⟨v, q, rfl⟩ := Option.map_eq_some_iff.mp hs; exact XS.astore h hx rfl hd rfl rfl q hr
  · obtain ⟨v, q, rfl⟩ := Option.map_eq_some_iff.mp hs; exact XS.astore h hx rfl hd rfl rfl q hr
  · obtain ⟨v, q, rfl⟩ := Option.map_eq_some_iff.mp hs; exact XS.astoreN h hx rfl hd rfl rfl q hr
  · obtain ⟨v, q, rfl⟩ := Option.map_eq_some_iff.mp hs; exact XS.astoreN h hx rfl hd rfl rfl q hr
  · split at hs
    · rename_i q; cases hs; exact XT.pop h hx rfl hd rfl q hr
    · cases hs
  · split at hs
    · rename_i q; cases hs; exact XS.dup h hx rfl hd rfl q hr
    · cases hs
  · split at hs
    · rename_i q
      split at hs
      · rename_i q'; cases hs; exact XT.dupX1 h hx rfl hd rfl q q' hr
      · cases hs
    · cases hs
  · cases hs; exact XS.iadd h hx rfl hd rfl hr
  · cases hs; exact XS.isub h hx rfl hd rfl hr
  · cases hs; exact XS.imul h hx rfl hd rfl hr
  · cases hs; exact XS.iand h hx rfl hd rfl hr
  · cases hs; exact XT.ior h hx rfl hd rfl hr
  · cases hs; exact XT.ixor h hx rfl hd rfl hr
  · cases hs; exact XT.ishl h hx rfl hd rfl hr
  · cases hs; exact XT.ishr h hx rfl hd rfl hr
  · cases hs; exact XT.iushr h hx rfl hd rfl hr
  · cases hs; exact XT.lushr h hx rfl hd rfl hr
  · cases hs; exact XT.i2l h hx rfl hd rfl hr
  · cases hs; exact XT.l2i h hx rfl hd rfl hr
  · cases hs; exact XT.i2b h hx rfl hd rfl hr
  · cases hs; exact XT.i2c h hx rfl hd rfl hr
  · cases hs; exact XT.lcmp h hx rfl hd rfl hr
  · obtain ⟨x, q, hs⟩ := Option.bind_eq_some_iff.mp hs
    obtain ⟨v, q', rfl⟩ := Option.map_eq_some_iff.mp hs; exact XS.iinc h hx rfl hd (intAt_ok q) q' hr
  · split at hs
    · rename_i q; cases hs; exact XS.goto h hx rfl (pc0 := pc) rfl hd q rfl hr
    · cases hs
  · cases hs
def runs : Nat → List (Nat × Instr × Nat) → Nat × Array Slot × List Value → Option (Nat × Array Slot × List Value)
  | 0, _, f => some f
  | _ + 1, [], _ => none
  | n + 1, q :: P, f => if q.1 = f.1 then (sem1 q.2.1 q.2.2 f.1 f.2.1 f.2.2).bind fun f' => runs n P f' else none
theorem runs_ok {tb : Tables} [Ours tb] {e : Env} {below : List Frame} {T target : State} {m : MethodId} {c : Code} (h : At T m c below) (hx : tb.exec = Jvm.exec) : ∀ (n : Nat) (P : List (Nat × Instr × Nat)) (f f' : Nat × Array Slot × List Value),
    (∀ q ∈ P, decode c.code q.1 = .ok q.2) → runs n P f = some f' → Steps tb e below (T.setTop (mkF m f'.1 f'.2.1 f'.2.2)) target → Steps tb e below (T.setTop (mkF m f.1 f.2.1 f.2.2)) target
  | 0, _, f, f', _, hs, hr => by cases hs; exact hr
  | _ + 1, [], _, _, _, hs, _ => by cases hs
  | n + 1, q :: P, f, f', hP, hs, hr => by
    simp only [runs] at hs
    split at hs
    · rename_i u
      obtain ⟨g, q1, q2⟩ := Option.bind_eq_some_iff.mp hs
      exact sem1_ok h hx (by rw [← u]; exact hP q (List.mem_cons_self ..)) q1 (runs_ok h hx n P g f' (fun z hz => hP z (List.mem_cons_of_mem _ hz)) q2 hr)
    · cases hs
theorem go_run (K : Kd G B M) (k n : Nat) {pc' : Nat} {Ls' : Array Slot} {st' : List Value} (hr : runs n (M.P.drop k) (pc, Ls, st) = some (pc', Ls', st')) (g : Go G B M Q h sf cells slots pc' Ls' st') : Go G B M Q h sf cells slots pc Ls st := by
  intro T vm0 k0 locs W
  exact (g T vm0 k0 locs W).pre fun target q => runs_ok W.1.here K.1 n _ (pc, Ls, st) (pc', Ls', st') (fun z hz => K.2.1 z (List.mem_of_mem_drop hz)) hr q
/-! ### branches -/
theorem go_if2 (K : Kd G B M) {k : Nat} {cd : ClassFile.Cond} {o : Int} {x : Int32} (hd : M.P[k]? = some (pc, .ifCond cd o, 3)) {pc' : Nat} (ho : 0 ≤ (pc : Int) + o ∧ ((pc : Int) + o).toNat = pc') {A : Prop} [Decidable A] (hA : A → ifCond.holds cd x = true) (hN : ¬ A → ifCond.holds cd x = false)
    (gT : A → Go G B M Q h sf cells slots pc' Ls st) (gF : ¬ A → Go G B M Q h sf cells slots (pc + 3) Ls st) : Go G B M Q h sf cells slots pc Ls (.int x :: st) := by
  intro T vm0 k0 locs W
  by_cases a : A
  · exact (gT a T vm0 k0 locs W).pre fun target hr => XS.ifYes W.1.here K.1 rfl (pc0 := pc) (pc' := pc') rfl (K.dec hd) rfl (hA a) ho.1 ho.2 hr
  · exact (gF a T vm0 k0 locs W).pre fun target hr => XS.ifNo W.1.here K.1 rfl (K.dec hd) rfl (hN a) hr
theorem go_icmp2 (K : Kd G B M) {k : Nat} {cd : ClassFile.Cond} {o : Int} {x y : Int32} (hd : M.P[k]? = some (pc, .if_icmp cd o, 3)) {pc' : Nat} (ho : 0 ≤ (pc : Int) + o ∧ ((pc : Int) + o).toNat = pc') {A : Prop} [Decidable A] (hA : A → if_icmp.holds cd x y = true) (hN : ¬ A → if_icmp.holds cd x y = false)
    (gT : A → Go G B M Q h sf cells slots pc' Ls st) (gF : ¬ A → Go G B M Q h sf cells slots (pc + 3) Ls st) : Go G B M Q h sf cells slots pc Ls (.int y :: .int x :: st) := by
  intro T vm0 k0 locs W
  by_cases a : A
  · exact (gT a T vm0 k0 locs W).pre fun target hr => XS.icmpYes W.1.here K.1 rfl (pc0 := pc) (pc' := pc') rfl (K.dec hd) rfl (hA a) ho.1 ho.2 hr
  · exact (gF a T vm0 k0 locs W).pre fun target hr => XS.icmpNo W.1.here K.1 rfl (K.dec hd) rfl (hN a) hr
theorem go_ifeq (K : Kd G B M) {k : Nat} {o : Int} {x : Int32} (hd : M.P[k]? = some (pc, .ifCond .eq o, 3)) {pc' : Nat} (ho : 0 ≤ (pc : Int) + o ∧ ((pc : Int) + o).toNat = pc') (gT : x = 0 → Go G B M Q h sf cells slots pc' Ls st) (gF : ¬ x = 0 → Go G B M Q h sf cells slots (pc + 3) Ls st) : Go G B M Q h sf cells slots pc Ls (.int x :: st) :=
  go_if2 K hd ho (fun q => by rw [if0]; exact (teq q).1) (fun q => by rw [if0]; exact (feq q).1) gT gF
theorem go_ifne (K : Kd G B M) {k : Nat} {o : Int} {x : Int32} (hd : M.P[k]? = some (pc, .ifCond .ne o, 3)) {pc' : Nat} (ho : 0 ≤ (pc : Int) + o ∧ ((pc : Int) + o).toNat = pc') (gT : ¬ x = 0 → Go G B M Q h sf cells slots pc' Ls st) (gF : x = 0 → Go G B M Q h sf cells slots (pc + 3) Ls st) : Go G B M Q h sf cells slots pc Ls (.int x :: st) :=
  go_if2 K hd ho (A := ¬ x = 0) (fun q => by rw [if0]; exact (feq q).2) (fun q => by rw [if0]; exact (teq (Decidable.not_not.mp q)).2) gT (fun q => gF (Decidable.not_not.mp q))
theorem go_iflt (K : Kd G B M) {k : Nat} {o : Int} {x : Int32} (hd : M.P[k]? = some (pc, .ifCond .lt o, 3)) {pc' : Nat} (ho : 0 ≤ (pc : Int) + o ∧ ((pc : Int) + o).toNat = pc') (gT : x < 0 → Go G B M Q h sf cells slots pc' Ls st) (gF : ¬ x < 0 → Go G B M Q h sf cells slots (pc + 3) Ls st) : Go G B M Q h sf cells slots pc Ls (.int x :: st) :=
  go_if2 K hd ho (fun q => by rw [if0]; exact (tlt q).1) (fun q => by rw [if0]; exact (flt q).1) gT gF
theorem go_ifge (K : Kd G B M) {k : Nat} {o : Int} {x : Int32} (hd : M.P[k]? = some (pc, .ifCond .ge o, 3)) {pc' : Nat} (ho : 0 ≤ (pc : Int) + o ∧ ((pc : Int) + o).toNat = pc') (gT : ¬ x < 0 → Go G B M Q h sf cells slots pc' Ls st) (gF : x < 0 → Go G B M Q h sf cells slots (pc + 3) Ls st) : Go G B M Q h sf cells slots pc Ls (.int x :: st) :=
  go_if2 K hd ho (A := ¬ x < 0) (fun q => by rw [if0]; exact (flt q).2.1) (fun q => by rw [if0]; exact (tlt (Decidable.not_not.mp q)).2.1) gT (fun q => gF (Decidable.not_not.mp q))
theorem go_ifgt (K : Kd G B M) {k : Nat} {o : Int} {x : Int32} (hd : M.P[k]? = some (pc, .ifCond .gt o, 3)) {pc' : Nat} (ho : 0 ≤ (pc : Int) + o ∧ ((pc : Int) + o).toNat = pc') (gT : 0 < x → Go G B M Q h sf cells slots pc' Ls st) (gF : ¬ 0 < x → Go G B M Q h sf cells slots (pc + 3) Ls st) : Go G B M Q h sf cells slots pc Ls (.int x :: st) :=
  go_if2 K hd ho (fun q => by rw [if0]; exact (tlt q).2.2.1) (fun q => by rw [if0]; exact (flt q).2.2.1) gT gF
theorem go_ifle (K : Kd G B M) {k : Nat} {o : Int} {x : Int32} (hd : M.P[k]? = some (pc, .ifCond .le o, 3)) {pc' : Nat} (ho : 0 ≤ (pc : Int) + o ∧ ((pc : Int) + o).toNat = pc') (gT : ¬ 0 < x → Go G B M Q h sf cells slots pc' Ls st) (gF : 0 < x → Go G B M Q h sf cells slots (pc + 3) Ls st) : Go G B M Q h sf cells slots pc Ls (.int x :: st) :=
  go_if2 K hd ho (A := ¬ 0 < x) (fun q => by rw [if0]; exact (flt q).2.2.2) (fun q => by rw [if0]; exact (tlt (Decidable.not_not.mp q)).2.2.2) gT (fun q => gF (Decidable.not_not.mp q))
theorem go_icmpeq (K : Kd G B M) {k : Nat} {o : Int} {x y : Int32} (hd : M.P[k]? = some (pc, .if_icmp .eq o, 3)) {pc' : Nat} (ho : 0 ≤ (pc : Int) + o ∧ ((pc : Int) + o).toNat = pc') (gT : x = y → Go G B M Q h sf cells slots pc' Ls st) (gF : ¬ x = y → Go G B M Q h sf cells slots (pc + 3) Ls st) : Go G B M Q h sf cells slots pc Ls (.int y :: .int x :: st) :=
  go_icmp2 K hd ho (fun q => (teq q).1) (fun q => (feq q).1) gT gF
theorem go_icmpne (K : Kd G B M) {k : Nat} {o : Int} {x y : Int32} (hd : M.P[k]? = some (pc, .if_icmp .ne o, 3)) {pc' : Nat} (ho : 0 ≤ (pc : Int) + o ∧ ((pc : Int) + o).toNat = pc') (gT : ¬ x = y → Go G B M Q h sf cells slots pc' Ls st) (gF : x = y → Go G B M Q h sf cells slots (pc + 3) Ls st) : Go G B M Q h sf cells slots pc Ls (.int y :: .int x :: st) :=
  go_icmp2 K hd ho (A := ¬ x = y) (fun q => (feq q).2) (fun q => (teq (Decidable.not_not.mp q)).2) gT (fun q => gF (Decidable.not_not.mp q))
theorem go_icmplt (K : Kd G B M) {k : Nat} {o : Int} {x y : Int32} (hd : M.P[k]? = some (pc, .if_icmp .lt o, 3)) {pc' : Nat} (ho : 0 ≤ (pc : Int) + o ∧ ((pc : Int) + o).toNat = pc') (gT : x < y → Go G B M Q h sf cells slots pc' Ls st) (gF : ¬ x < y → Go G B M Q h sf cells slots (pc + 3) Ls st) : Go G B M Q h sf cells slots pc Ls (.int y :: .int x :: st) :=
  go_icmp2 K hd ho (fun q => (tlt q).1) (fun q => (flt q).1) gT gF
theorem go_icmpge (K : Kd G B M) {k : Nat} {o : Int} {x y : Int32} (hd : M.P[k]? = some (pc, .if_icmp .ge o, 3)) {pc' : Nat} (ho : 0 ≤ (pc : Int) + o ∧ ((pc : Int) + o).toNat = pc') (gT : ¬ x < y → Go G B M Q h sf cells slots pc' Ls st) (gF : x < y → Go G B M Q h sf cells slots (pc + 3) Ls st) : Go G B M Q h sf cells slots pc Ls (.int y :: .int x :: st) :=
  go_icmp2 K hd ho (A := ¬ x < y) (fun q => (flt q).2.1) (fun q => (tlt (Decidable.not_not.mp q)).2.1) gT (fun q => gF (Decidable.not_not.mp q))
theorem go_icmpgt (K : Kd G B M) {k : Nat} {o : Int} {x y : Int32} (hd : M.P[k]? = some (pc, .if_icmp .gt o, 3)) {pc' : Nat} (ho : 0 ≤ (pc : Int) + o ∧ ((pc : Int) + o).toNat = pc') (gT : y < x → Go G B M Q h sf cells slots pc' Ls st) (gF : ¬ y < x → Go G B M Q h sf cells slots (pc + 3) Ls st) : Go G B M Q h sf cells slots pc Ls (.int y :: .int x :: st) :=
  go_icmp2 K hd ho (fun q => (tlt q).2.2.1) (fun q => (flt q).2.2.1) gT gF
theorem go_icmple (K : Kd G B M) {k : Nat} {o : Int} {x y : Int32} (hd : M.P[k]? = some (pc, .if_icmp .le o, 3)) {pc' : Nat} (ho : 0 ≤ (pc : Int) + o ∧ ((pc : Int) + o).toNat = pc') (gT : ¬ y < x → Go G B M Q h sf cells slots pc' Ls st) (gF : y < x → Go G B M Q h sf cells slots (pc + 3) Ls st) : Go G B M Q h sf cells slots pc Ls (.int y :: .int x :: st) :=
  go_icmp2 K hd ho (A := ¬ y < x) (fun q => (flt q).2.2.2) (fun q => (tlt (Decidable.not_not.mp q)).2.2.2) gT (fun q => gF (Decidable.not_not.mp q))
theorem go_ifnullY (K : Kd G B M) {k : Nat} {o : Int} (hd : M.P[k]? = some (pc, .ifnull o, 3)) {pc' : Nat} (ho : 0 ≤ (pc : Int) + o ∧ ((pc : Int) + o).toNat = pc') (g : Go G B M Q h sf cells slots pc' Ls st) : Go G B M Q h sf cells slots pc Ls (.null :: st) := by
  intro T vm0 k0 locs W
  exact (g T vm0 k0 locs W).pre fun target hr => XS.ifnullYes W.1.here K.1 rfl (pc0 := pc) (pc' := pc') rfl (K.dec hd) rfl ho.1 ho.2 hr
theorem go_ifnullN (K : Kd G B M) {k : Nat} {o : Int} {a : Addr} (hd : M.P[k]? = some (pc, .ifnull o, 3)) (g : Go G B M Q h sf cells slots (pc + 3) Ls st) : Go G B M Q h sf cells slots pc Ls (.ref a :: st) := by
  intro T vm0 k0 locs W
  exact (g T vm0 k0 locs W).pre fun target hr => XS.ifnullNo W.1.here K.1 rfl (K.dec hd) rfl hr
theorem go_ifnonY (K : Kd G B M) {k : Nat} {o : Int} {a : Addr} (hd : M.P[k]? = some (pc, .ifnonnull o, 3)) {pc' : Nat} (ho : 0 ≤ (pc : Int) + o ∧ ((pc : Int) + o).toNat = pc') (g : Go G B M Q h sf cells slots pc' Ls st) : Go G B M Q h sf cells slots pc Ls (.ref a :: st) := by
  intro T vm0 k0 locs W
  exact (g T vm0 k0 locs W).pre fun target hr => XT.ifnonnullYes W.1.here K.1 rfl (pc0 := pc) (pc' := pc') rfl (K.dec hd) rfl ho.1 ho.2 hr
theorem go_ifnonN (K : Kd G B M) {k : Nat} {o : Int} (hd : M.P[k]? = some (pc, .ifnonnull o, 3)) (g : Go G B M Q h sf cells slots (pc + 3) Ls st) : Go G B M Q h sf cells slots pc Ls (.null :: st) := by
  intro T vm0 k0 locs W
  exact (g T vm0 k0 locs W).pre fun target hr => XT.ifnonnullNo W.1.here K.1 rfl (K.dec hd) rfl hr
theorem go_acmp (K : Kd G B M) {k : Nat} {cd : ACond} {o : Int} {x y : Value} (hd : M.P[k]? = some (pc, .if_acmp cd o, 3)) (h1 : x.isRef = true) (h2 : y.isRef = true) {same : Bool} (hq : decide (x = y) = same) {pc' : Nat} (ho : 0 ≤ (pc : Int) + o) (hp : pc' = if acV cd same = true then ((pc : Int) + o).toNat else pc + 3)
    (g : Go G B M Q h sf cells slots pc' Ls st) : Go G B M Q h sf cells slots pc Ls (y :: x :: st) := by
  intro T vm0 k0 locs W
  exact (g T vm0 k0 locs W).pre fun target hr => RoadKit.acmp W.1 K.1 rfl h1 h2 (pc0 := pc) rfl (K.dec hd) rfl hq ho hp hr
theorem go_irem (K : Kd G B M) {k : Nat} {x y : Int32} (hd : M.P[k]? = some (pc, .irem, 1)) (hy : y ≠ 0) (g : Go G B M Q h sf cells slots (pc + 1) Ls (.int (x % y) :: st)) : Go G B M Q h sf cells slots pc Ls (.int y :: .int x :: st) := by
  intro T vm0 k0 locs W
  exact (g T vm0 k0 locs W).pre fun target hr => iremM W.1 K.1 rfl (K.dec hd) rfl hy hr
/-! ### the end -/
theorem go_leave (K : Kd G B M) {v : Option Value} (hv : M.ret = none → v = none) (q : ∀ Sf : Addr → Prop, (∀ x ∈ sf, Sf x) → Q v h Sf)
    (rt : ∀ (T : State) (vm0 : Vm) (locs : List Loc) (fs : List Frame), Stand B.p G.l B.e M.R (B.s.setVm vm0) B.m B.as B.bl B.mt B.c T locs cells slots →
      (∀ (f : JFrame) (acts : List Action), f.method = B.m → f.locked = none → f.entered = [] → (doReturn B.e (T.setTop f) acts v).1 = T.setFrames fs) → Steps B.p.tables B.e B.bl (T.setTop (mkF B.m pc Ls st)) (T.setFrames fs))
    (hc : cells ≤ M.R.cells) (hs : slots ≤ M.R.slots) : Go G B M Q h sf cells slots pc Ls st := by
  intro T vm0 k0 locs W
  obtain ⟨X, eT, hS, hk, hZ, hown, hF, hE, hC, hs0⟩ := W
  obtain ⟨fs, hr, hrun, hend, hW⟩ := X.leaveW hS (by rw [eT]; exact hk) (v := v) (fun z => hv (by rw [← K.2.2.2.1]; exact z)) K.2.2.2.2.1
  obtain ⟨w1, w2, w3, w4⟩ := hW
  have A := CHv.at X hZ K.2.2.2.2.2.2 hC.1
  refine ⟨_, v, locs, rt T vm0 locs fs X hr, hrun, hend, ?_, hF, ?_, ?_, w1, w2, w3, w4.mono hc hs⟩
  · show Q v T.heap (fun x => Safe G.Z G.EL T.vm T.heap x ∧ x < T.heap.size)
    rw [eT]
    exact q _ fun x hx => ⟨A.safe (hs0 x hx).2 (hs0 x hx).1, (hs0 x hx).2⟩
  · show Ext G.Z.heap T.heap
    rw [eT]; exact hE
  · show CHr G.Z G.EL B.s.vm B.s.heap T.vm T.heap
    rw [eT]; exact hC.trans A
theorem go_return (K : Kd G B M) {k : Nat} (hd : M.P[k]? = some (pc, .return_, 1)) (hr : M.ret = none) (hc : Nat.ble cells M.R.cells = true) (hs : Nat.ble slots M.R.slots = true) (q : ∀ Sf : Addr → Prop, (∀ x ∈ sf, Sf x) → Q none h Sf) : Go G B M Q h sf cells slots pc Ls [] :=
  go_leave K (fun _ => rfl) q (fun T vm0 locs fs X hl => X.returnOut K.1 (K.2.2.2.1.trans hr) (K.dec hd) hl) (Nat.le_of_ble_eq_true hc) (Nat.le_of_ble_eq_true hs)
theorem go_ret (K : Kd G B M) {k : Nat} {i : Instr} {t : FieldType} {w : Value} (hd : M.P[k]? = some (pc, i, 1)) (hr : M.ret = some t) (hn : narrow t w = w)
    (hi : (i = .ireturn ∧ (t = .int ∨ t = .boolean ∨ t = .byte ∨ t = .char ∨ t = .short) ∧ ∃ z, w = .int z) ∨ (i = .lreturn ∧ t = .long ∧ ∃ z, w = .long z) ∨ (i = .dreturn ∧ t = .double ∧ ∃ z, w = .double z) ∨ (i = .freturn ∧ t = .float ∧ ∃ z, w = .float z) ∨ (i = .areturn ∧ t.isReference = true ∧ w.isRef = true))
    (hc : Nat.ble cells M.R.cells = true) (hs : Nat.ble slots M.R.slots = true) (q : ∀ Sf : Addr → Prop, (∀ x ∈ sf, Sf x) → Q (some w) h Sf) : Go G B M Q h sf cells slots pc Ls (w :: st) :=
  go_leave K (fun z => by rw [hr] at z; cases z) q (fun T vm0 locs fs X hl => retOut X K.1 (K.2.2.2.1.trans hr) hn hi (K.dec hd) hl) (Nat.le_of_ble_eq_true hc) (Nat.le_of_ble_eq_true hs)
theorem go_ireturn (K : Kd G B M) {k : Nat} {t : FieldType} {z : Int32} (hd : M.P[k]? = some (pc, .ireturn, 1)) (hr : M.ret = some t) (ht : t = .int ∨ t = .boolean ∨ t = .byte ∨ t = .char ∨ t = .short) (hn : narrow t (.int z) = .int z) (hc : Nat.ble cells M.R.cells = true) (hs : Nat.ble slots M.R.slots = true) (q : ∀ Sf : Addr → Prop, (∀ x ∈ sf, Sf x) → Q (some (.int z)) h Sf) : Go G B M Q h sf cells slots pc Ls (.int z :: st) :=
  go_ret K hd hr hn (Or.inl ⟨rfl, ht, z, rfl⟩) hc hs q
theorem go_areturn (K : Kd G B M) {k : Nat} {t : FieldType} {w : Value} (hd : M.P[k]? = some (pc, .areturn, 1)) (hr : M.ret = some t) (ht : t.isReference = true) (hw : w.isRef = true) (hn : narrow t w = w) (hc : Nat.ble cells M.R.cells = true) (hs : Nat.ble slots M.R.slots = true) (q : ∀ Sf : Addr → Prop, (∀ x ∈ sf, Sf x) → Q (some w) h Sf) : Go G B M Q h sf cells slots pc Ls (w :: st) :=
  go_ret K hd hr hn (Or.inr (Or.inr (Or.inr (Or.inr ⟨rfl, ht, hw⟩)))) hc hs q
theorem go_lreturn (K : Kd G B M) {k : Nat} {z : Int64} (hd : M.P[k]? = some (pc, .lreturn, 1)) (hr : M.ret = some .long) (hc : Nat.ble cells M.R.cells = true) (hs : Nat.ble slots M.R.slots = true) (q : ∀ Sf : Addr → Prop, (∀ x ∈ sf, Sf x) → Q (some (.long z)) h Sf) : Go G B M Q h sf cells slots pc Ls (.long z :: st) :=
  go_ret K hd hr rfl (Or.inr (Or.inl ⟨rfl, rfl, z, rfl⟩)) hc hs q
end Base
end Jvm.OwnW
namespace Jvm.OwnW
open Sem ClassFile Op Lib Bundle Jvm.Stand Jvm.Free Jvm.LawKit Jvm.RoadKit
section Heap
variable {G : Gb} {B : Cx} {M : Mt} {R : Room} {Q : Option Value → Heap → (Addr → Prop) → Prop} {h : Heap} {sf : List Addr} {cells slots pc : Nat} {Ls : Array Slot} {st : List Value}
theorem go_getfield (K : Kd G B M) {k ix : Nat} {R0 O n d host : String} {a : Addr} {v : Value} (hd : M.P[k]? = some (pc, .getfield ix, 3)) (w : Wd G (.fieldLink M.own ix R0 n d) ∨ Wd G (.fieldLinkNest M.own ix R0 n d host)) (via : Via G.Z R0 O n d) (F : Fld G.Z h a O n d v)
    (g : Go G B M Q h sf cells slots (pc + 3) Ls (v :: st)) : Go G B M Q h sf cells slots pc Ls (.ref a :: st) := by
  intro T vm0 k0 locs W
  obtain ⟨X, eT, hS, hk, hZ, hown, hF, hE, hC, hs⟩ := W
  obtain ⟨T', X', e', st'⟩ := RoadKit.getF X K.1 hZ hown w via eT F (g := mkF B.m pc Ls (.ref a :: st)) rfl rfl (K.dec hd)
  exact (g T' vm0 k0 locs ⟨X', e', hS, hk, hZ, hown, hF, hE, hC, hs⟩).pre st'
theorem go_getstatic (K : Kd G B M) {k ix : Nat} {R0 O n d host : String} {v : Value} (hd : M.P[k]? = some (pc, .getstatic ix, 3)) (w : Wd G (.fieldLink M.own ix R0 n d) ∨ Wd G (.fieldLinkNest M.own ix R0 n d host)) (via : Via G.Z R0 O n d) (F : Sta G.Z G.Z.heap O n d v)
    (g : Go G B M Q h sf cells slots (pc + 3) Ls (v :: st)) : Go G B M Q h sf cells slots pc Ls st := by
  intro T vm0 k0 locs W
  obtain ⟨X, eT, hS, hk, hZ, hown, hF, hE, hC, hs⟩ := W
  obtain ⟨T', X', e', st'⟩ := getS2 X K.1 hZ hown w via eT (F.ext hE) (g := mkF B.m pc Ls st) rfl (K.dec hd)
  exact (g T' vm0 k0 locs ⟨X', e', hS, hk, hZ, hown, hF, hE, hC, hs⟩).pre st'
theorem go_new (K : Kd G B M) {k ix n : Nat} {C : String} (hd : M.P[k]? = some (pc, .new ix, 3)) (w : Wd G (.classLink M.own ix C)) (wi : Wd G (.instantiable C n)) (wz : Wd G (.initialized C)) (hc : Nat.ble (cells + 1) M.R.cells = true) (hl : Nat.ble (slots + n) M.R.slots = true)
    (g : ∀ (h' : Heap) (a : Addr), a = h.size → G.Z.heap.size ≤ a → Ext h h' → Exa G.Z h' a C → (∀ {O nm d : String} {ty : FieldType}, Laid G.Z G.a0 C O nm d → parseFieldDescriptor d = some ty → Fld G.Z h' a O nm d (defaultValue ty)) → Go G B M Q h' (a :: sf) (cells + 1) (slots + n) (pc + 3) Ls (.ref a :: st)) : Go G B M Q h sf cells slots pc Ls st := by
  intro T vm0 k0 locs W
  obtain ⟨X, eT, hS, hk, hZ, hown, hF, hE, hC, hs⟩ := W
  obtain ⟨T', h', X', e', E', A', D', -, st'⟩ := newO X K.1 hZ hown w wi wz eT (g := mkF B.m pc Ls st) rfl (K.dec hd) (Nat.le_of_ble_eq_true hc) (Nat.le_of_ble_eq_true hl)
  refine (g h' h.size rfl hE.1 E' A' D' T' vm0 k0 locs ⟨X', e', hS, Nat.le_trans hk E'.1, hZ, hown, hF, ⟨Nat.le_trans hE.1 E'.1, fun x c q => E'.2 x c (hE.2 x c q)⟩, hC.trans (CHr.ext E' hC.1), fun x hx => ?_⟩).pre st'
  rcases List.mem_cons.mp hx with rfl | hx
  · exact ⟨Safe.ext E' hC.1 (Safe.new (Nat.le_refl _)), A'.lt⟩
  · exact ⟨Safe.ext E' hC.1 (hs x hx).1, Nat.lt_of_lt_of_le (hs x hx).2 E'.1⟩
theorem go_wr (K : Kd G B M) {a : Addr} {sl pc' : Nat} {v : Value} {st' : List Value} (ha : G.Z.heap.size ≤ a) (hsf : a ∈ sf ∨ ∀ vm0 : Vm, G.Z.vm.Alike vm0 → Safe G.Z G.EL vm0 h a)
    (law : ∀ (T : State) (vm0 : Vm) (locs : List Loc), Stand B.p G.l B.e M.R (B.s.setVm vm0) B.m B.as B.bl B.mt B.c T locs cells slots → T.heap = h → G.Z.Warmed39 vm0 → vm0.findClass M.own = some B.m.cls →
      ∃ (T' : State) (h' : Heap), Stand B.p G.l B.e M.R (B.s.setVm vm0) B.m B.as B.bl B.mt B.c T' (locs ++ [⟨a, sl⟩]) cells slots ∧ T'.heap = h' ∧ Wr h h' a sl v ∧ ∀ target, Steps B.p.tables B.e B.bl (T'.setTop (mkF B.m pc' Ls st')) target → Steps B.p.tables B.e B.bl (T.setTop (mkF B.m pc Ls st)) target)
    (g : ∀ h' : Heap, Wr h h' a sl v → Go G B M Q h' sf cells slots pc' Ls st') : Go G B M Q h sf cells slots pc Ls st := by
  intro T vm0 k0 locs W
  obtain ⟨X, eT, hS, hk, hZ, hown, hF, hE, hC, hs⟩ := W
  obtain ⟨T', h', X', e', W', st''⟩ := law T vm0 locs X eT hZ hown
  have S : Safe G.Z G.EL vm0 h a := hsf.elim (fun q => (hs a q).1) (fun q => q vm0 hZ.alike)
  exact (g h' W' T' vm0 k0 _ ⟨X', e', hS, by rw [W'.size]; exact hk, hZ, hown, Fr.snoc X' hF ha, (Old.wr (n0 := G.Z.heap.size) ⟨rfl, hE⟩ W' ha).2, hC.trans (CHr.wr W' S hC.1), fun x hx => ⟨Safe.wr W' S hC.1 (hs x hx).1, by rw [W'.size]; exact (hs x hx).2⟩⟩).pre st''
theorem go_putfield (K : Kd G B M) {k ix kk : Nat} {R0 O n d host C : String} {ty : FieldType} {a : Addr} {v old : Value} (hd : M.P[k]? = some (pc, .putfield ix, 3)) (w : Wd G (.fieldLink M.own ix R0 n d) ∨ Wd G (.fieldLinkNest M.own ix R0 n d host)) (via : Via G.Z R0 O n d) (F : Fld G.Z h a O n d old) (E : Exa G.Z h a C)
    (L : Wd G (.lays C O n d) ∨ (Wd G (.laysFinal C O n d) ∧ M.own = O ∧ M.nm = "<init>")) (wi : Wd G (.instantiable C kk)) (hty : parseFieldDescriptor d = some ty) (hn : narrow ty v = v) (hf : fits ty v = true) (ha : G.Z.heap.size ≤ a) (hsf : a ∈ sf ∨ (C ≠ "java/lang/String" ∧ C ≠ "[B"))
    (g : ∀ h' : Heap, Wr h h' a (RoadKit.slotOf G.Z O n d) v → Go G B M Q h' sf cells slots (pc + 3) Ls st) : Go G B M Q h sf cells slots pc Ls (v :: .ref a :: st) :=
  go_wr K ha (hsf.imp id fun q vm0 hal => Safe.exa hal E q.1 q.2) (fun T vm0 locs X eT hZ hown => RoadKit.putF X K.1 hZ hown w via eT F E (L.imp id fun q => ⟨q.1, q.2.1, K.2.2.2.2.2.1.trans q.2.2⟩) wi hty hn hf (g := mkF B.m pc Ls (v :: .ref a :: st)) rfl rfl (K.dec hd)) g
theorem go_newarray (K : Kd G B M) {k cap : Nat} {aty : ArrayType} {n : Int32} (hd : M.P[k]? = some (pc, .newarray aty, 2)) (w : Wd G (.arrayClass (newarray.typeOf aty))) (hn : ¬ n < 0) (hcap : n.toNatClampNeg ≤ cap) (hb : Nat.ble (cap * 8) 536870912 = true) (hc : Nat.ble (cells + 1) M.R.cells = true) (hl : Nat.ble (slots + cap) M.R.slots = true)
    (g : ∀ (h' : Heap) (a : Addr) (kA : ClassId), a = h.size → G.Z.heap.size ≤ a → Ext h h' → Arv G.Z h' a kA (newarray.typeOf aty) n [] (defaultValue (newarray.typeOf aty)) → Go G B M Q h' (a :: sf) (cells + 1) (slots + cap) (pc + 2) Ls (.ref a :: st)) : Go G B M Q h sf cells slots pc Ls (.int n :: st) := by
  intro T vm0 k0 locs W
  obtain ⟨X, eT, hS, hk, hZ, hown, hF, hE, hC, hs⟩ := W
  obtain ⟨T', h', cA, X', e', E', A', st'⟩ := newP X K.1 hZ w eT (g := mkF B.m pc Ls (.int n :: st)) rfl (K.dec hd) rfl hn hcap (Nat.le_of_ble_eq_true hb) (Nat.le_of_ble_eq_true hc) (Nat.le_of_ble_eq_true hl)
  refine (g h' h.size cA rfl hE.1 E' (Arv.new A' hn) T' vm0 k0 locs ⟨X', e', hS, Nat.le_trans hk E'.1, hZ, hown, hF, ⟨Nat.le_trans hE.1 E'.1, fun x c q => E'.2 x c (hE.2 x c q)⟩, hC.trans (CHr.ext E' hC.1), fun x hx => ?_⟩).pre st'
  rcases List.mem_cons.mp hx with rfl | hx
  · exact ⟨Safe.ext E' hC.1 (Safe.new (Nat.le_refl _)), A'.lt⟩
  · exact ⟨Safe.ext E' hC.1 (hs x hx).1, Nat.lt_of_lt_of_le (hs x hx).2 E'.1⟩
theorem go_castore (K : Kd G B M) {k i : Nat} {a : Addr} {kA : ClassId} {z j x : Int32} {vs : List Value} {dv : Value} (hd : M.P[k]? = some (pc, .castore, 1)) (A : Arv G.Z h a kA .char z vs dv) (hj : ¬ j < 0 ∧ j < z) (hi : j.toNatClampNeg = i) (hl : i < vs.length) (ha : G.Z.heap.size ≤ a)
    (g : ∀ h' : Heap, Wr h h' a j.toNatClampNeg (.int (nar .char x)) → Arv G.Z h' a kA .char z (vs.set i (.int (nar .char x))) dv → Go G B M Q h' sf cells slots (pc + 1) Ls st) : Go G B M Q h sf cells slots pc Ls (.int x :: .int j :: .ref a :: st) := by
  obtain ⟨c, A1, q1, S, q3, H, Gf⟩ := A
  exact go_wr K ha (Or.inr fun vm0 hal => Safe.arr hal A1 (by decide)) (fun T vm0 locs X eT hZ hown => stC X K.1 hZ eT A1 (inb_of S hj) (g := mkF B.m pc Ls (.int x :: .int j :: .ref a :: st)) rfl rfl (K.dec hd)) fun h' W => g h' W (Arv.set A1 q1 S q3 H Gf (fits_nar_char _) W i hi hl)
theorem go_bastore (K : Kd G B M) {k i : Nat} {a : Addr} {kA : ClassId} {z j x : Int32} {vs : List Value} {dv : Value} (hd : M.P[k]? = some (pc, .bastore, 1)) (A : Arv G.Z h a kA .byte z vs dv) (hj : ¬ j < 0 ∧ j < z) (hi : j.toNatClampNeg = i) (hl : i < vs.length) (ha : G.Z.heap.size ≤ a) (hsf : a ∈ sf)
    (g : ∀ h' : Heap, Wr h h' a j.toNatClampNeg (.int (nar .byte x)) → Arv G.Z h' a kA .byte z (vs.set i (.int (nar .byte x))) dv → Go G B M Q h' sf cells slots (pc + 1) Ls st) : Go G B M Q h sf cells slots pc Ls (.int x :: .int j :: .ref a :: st) := by
  obtain ⟨c, A1, q1, S, q3, H, Gf⟩ := A
  exact go_wr K ha (Or.inl hsf) (fun T vm0 locs X eT hZ hown => stB X K.1 hZ eT A1 (inb_of S hj) (g := mkF B.m pc Ls (.int x :: .int j :: .ref a :: st)) rfl rfl (K.dec hd)) fun h' W => g h' W (Arv.set A1 q1 S q3 H Gf (fits_nar_byte _) W i hi hl)
theorem go_iastore (K : Kd G B M) {k i : Nat} {a : Addr} {kA : ClassId} {z j x : Int32} {vs : List Value} {dv : Value} (hd : M.P[k]? = some (pc, .iastore, 1)) (A : Arv G.Z h a kA .int z vs dv) (hj : ¬ j < 0 ∧ j < z) (hi : j.toNatClampNeg = i) (hl : i < vs.length) (ha : G.Z.heap.size ≤ a)
    (g : ∀ h' : Heap, Wr h h' a j.toNatClampNeg (.int x) → Arv G.Z h' a kA .int z (vs.set i (.int x)) dv → Go G B M Q h' sf cells slots (pc + 1) Ls st) : Go G B M Q h sf cells slots pc Ls (.int x :: .int j :: .ref a :: st) := by
  obtain ⟨c, A1, q1, S, q3, H, Gf⟩ := A
  exact go_wr K ha (Or.inr fun vm0 hal => Safe.arr hal A1 (by decide)) (fun T vm0 locs X eT hZ hown => stI X K.1 hZ eT A1 (inb_of S hj) (g := mkF B.m pc Ls (.int x :: .int j :: .ref a :: st)) rfl rfl (K.dec hd)) fun h' W => g h' W (Arv.set A1 q1 S q3 H Gf rfl W i hi hl)
theorem go_caload (K : Kd G B M) {k : Nat} {a : Addr} {kA : ClassId} {z j : Int32} {vs : List Value} {v dv : Value} (hd : M.P[k]? = some (pc, .caload, 1)) (A : Arv G.Z h a kA .char z vs dv) (hj : ¬ j < 0 ∧ j < z) (hv : vs.getD j.toNatClampNeg dv = v)
    (g : Go G B M Q h sf cells slots (pc + 1) Ls (v :: st)) : Go G B M Q h sf cells slots pc Ls (.int j :: .ref a :: st) := by
  intro T vm0 k0 locs W
  obtain ⟨c, A1, q1, S, q3, H, Gf⟩ := A
  have X := W.1
  exact (g T vm0 k0 locs W).pre fun target hr => X.caload K.1 (j := j) (v := v) (by rw [W.2.1]; exact A1.1) (State.isArrayOf_alike W.2.2.2.2.1.alike A1.2.1) A1.2.2 (inb_of S hj) (H.at (inb_of S hj) hv) (g := mkF B.m pc Ls (.int j :: .ref a :: st)) rfl rfl (K.dec hd) _ hr
theorem go_baload (K : Kd G B M) {k : Nat} {a : Addr} {kA : ClassId} {z j : Int32} {vs : List Value} {v dv : Value} (hd : M.P[k]? = some (pc, .baload, 1)) (A : Arv G.Z h a kA .byte z vs dv) (hj : ¬ j < 0 ∧ j < z) (hv : vs.getD j.toNatClampNeg dv = v)
    (g : Go G B M Q h sf cells slots (pc + 1) Ls (v :: st)) : Go G B M Q h sf cells slots pc Ls (.int j :: .ref a :: st) := by
  intro T vm0 k0 locs W
  obtain ⟨c, A1, q1, S, q3, H, Gf⟩ := A
  have X := W.1
  exact (g T vm0 k0 locs W).pre fun target hr => X.baloadBytes K.1 (j := j) (v := v) (by rw [W.2.1]; exact A1.1) (State.isArrayOf_alike W.2.2.2.2.1.alike A1.2.1) A1.2.2 (inb_of S hj) (H.at (inb_of S hj) hv) (g := mkF B.m pc Ls (.int j :: .ref a :: st)) rfl rfl (K.dec hd) _ hr
theorem go_iaload (K : Kd G B M) {k : Nat} {a : Addr} {kA : ClassId} {z j : Int32} {vs : List Value} {v dv : Value} (hd : M.P[k]? = some (pc, .iaload, 1)) (A : Arv G.Z h a kA .int z vs dv) (hj : ¬ j < 0 ∧ j < z) (hv : vs.getD j.toNatClampNeg dv = v)
    (g : Go G B M Q h sf cells slots (pc + 1) Ls (v :: st)) : Go G B M Q h sf cells slots pc Ls (.int j :: .ref a :: st) := by
  intro T vm0 k0 locs W
  obtain ⟨c, A1, q1, S, q3, H, Gf⟩ := A
  have X := W.1
  exact (g T vm0 k0 locs W).pre fun target hr => X.iaload K.1 (j := j) (v := v) (by rw [W.2.1]; exact A1.1) (State.isArrayOf_alike W.2.2.2.2.1.alike A1.2.1) A1.2.2 (inb_of S hj) (H.at (inb_of S hj) hv) (g := mkF B.m pc Ls (.int j :: .ref a :: st)) rfl rfl (K.dec hd) _ hr
theorem go_aaload (K : Kd G B M) {k : Nat} {a : Addr} {kA : ClassId} {ty : FieldType} {z j : Int32} {vs : List Value} {v dv : Value} (hd : M.P[k]? = some (pc, .aaload, 1)) (A : Arv G.Z h a kA ty z vs dv) (hty : ty.isReference = true) (hj : ¬ j < 0 ∧ j < z) (hv : vs.getD j.toNatClampNeg dv = v)
    (g : Go G B M Q h sf cells slots (pc + 1) Ls (v :: st)) : Go G B M Q h sf cells slots pc Ls (.int j :: .ref a :: st) := by
  intro T vm0 k0 locs W
  obtain ⟨c, A1, q1, S, q3, H, Gf⟩ := A
  have X := W.1
  exact (g T vm0 k0 locs W).pre fun target hr => X.aaload K.1 (j := j) (v := v) (by rw [W.2.1]; exact A1.1) (State.isArrayOf_alike W.2.2.2.2.1.alike A1.2.1) hty A1.2.2 (inb_of S hj) (H.at (inb_of S hj) hv) (g := mkF B.m pc Ls (.int j :: .ref a :: st)) rfl rfl (K.dec hd) _ hr
theorem go_arraylength (K : Kd G B M) {k : Nat} {a : Addr} {kA : ClassId} {ty : FieldType} {z : Int32} {vs : List Value} {dv : Value} (hd : M.P[k]? = some (pc, .arraylength, 1)) (A : Arv G.Z h a kA ty z vs dv)
    (g : Go G B M Q h sf cells slots (pc + 1) Ls (.int z :: st)) : Go G B M Q h sf cells slots pc Ls (.ref a :: st) := by
  intro T vm0 k0 locs W
  obtain ⟨c, A1, q1, S, q3, H, Gf⟩ := A
  have X := W.1
  exact (g T vm0 k0 locs W).pre fun target hr => X.arraylength K.1 (by rw [W.2.1]; exact A1.1) (State.isArrayOf_alike W.2.2.2.2.1.alike A1.2.1) (g := mkF B.m pc Ls (.ref a :: st)) rfl rfl (K.dec hd) _ (by rw [len_of S q3]; exact hr)
theorem go_cast (K : Kd G B M) {k ix : Nat} {C : String} {a : Addr} (hd : M.P[k]? = some (pc, .checkcast ix, 3)) (w : Wd G (.classLink M.own ix C)) (F : Ins G.Z h a C true)
    (g : Go G B M Q h sf cells slots (pc + 3) Ls (.ref a :: st)) : Go G B M Q h sf cells slots pc Ls (.ref a :: st) := by
  intro T vm0 k0 locs W
  obtain ⟨X, eT, hS, hk, hZ, hown, hF, hE, hC, hs⟩ := W
  obtain ⟨T', X', e', st'⟩ := castY X K.1 hZ hown w eT F (g := mkF B.m pc Ls (.ref a :: st)) rfl rfl (K.dec hd)
  exact (g T' vm0 k0 locs ⟨X', e', hS, hk, hZ, hown, hF, hE, hC, hs⟩).pre st'
theorem go_instY (K : Kd G B M) {k ix : Nat} {C : String} {a : Addr} (hd : M.P[k]? = some (pc, .instanceof ix, 3)) (w : Wd G (.classLink M.own ix C)) (F : Ins G.Z h a C true)
    (g : Go G B M Q h sf cells slots (pc + 3) Ls (.int 1 :: st)) : Go G B M Q h sf cells slots pc Ls (.ref a :: st) := by
  intro T vm0 k0 locs W
  obtain ⟨X, eT, hS, hk, hZ, hown, hF, hE, hC, hs⟩ := W
  obtain ⟨T', X', e', st'⟩ := instY X K.1 hZ hown w eT F (g := mkF B.m pc Ls (.ref a :: st)) rfl rfl (K.dec hd)
  exact (g T' vm0 k0 locs ⟨X', e', hS, hk, hZ, hown, hF, hE, hC, hs⟩).pre st'
theorem go_instN (K : Kd G B M) {k ix : Nat} {C D : String} {a : Addr} (hd : M.P[k]? = some (pc, .instanceof ix, 3)) (w : Wd G (.classLink M.own ix C)) (E : Exa G.Z h a D) (F : ∃ c t, G.Z.vm.findClass D = some c ∧ G.Z.vm.findClass C = some t ∧ G.Z.vm.assignable c t = false)
    (g : Go G B M Q h sf cells slots (pc + 3) Ls (.int 0 :: st)) : Go G B M Q h sf cells slots pc Ls (.ref a :: st) := by
  intro T vm0 k0 locs W
  obtain ⟨X, eT, hS, hk, hZ, hown, hF, hE, hC, hs⟩ := W
  obtain ⟨T', X', e', st'⟩ := instNo X K.1 hZ hown w eT E F (g := mkF B.m pc Ls (.ref a :: st)) rfl rfl (K.dec hd)
  exact (g T' vm0 k0 locs ⟨X', e', hS, hk, hZ, hown, hF, hE, hC, hs⟩).pre st'
theorem go_inst0 (K : Kd G B M) {k ix : Nat} (hd : M.P[k]? = some (pc, .instanceof ix, 3)) (g : Go G B M Q h sf cells slots (pc + 3) Ls (.int 0 :: st)) : Go G B M Q h sf cells slots pc Ls (.null :: st) := by
  intro T vm0 k0 locs W
  exact (g T vm0 k0 locs W).pre fun target hr => W.1.instanceofNull K.1 (g := mkF B.m pc Ls (.null :: st)) rfl rfl (K.dec hd) target hr
theorem go_init0 (K : Kd G B M) {k ix : Nat} {a : Addr} (hd : M.P[k]? = some (pc, .invokespecial ix, 3)) (w1 : Wd G (.methodLink M.own ix Lib.objectInit)) (w2 : Wd G (.instanceMethod Lib.objectInit)) (w3 : Wd G (.code Lib.objectInit ⟨#[0xb1]⟩ 1 none)) (hsz : Ls.size = M.maxL)
    (hf : Nat.ble 1 M.R.frames = true) (hl : Nat.ble ((st.map fun v => v.category).sum + 12) M.R.locals = true) (g : Go G B M Q h sf cells slots (pc + 3) Ls st) : Go G B M Q h sf cells slots pc Ls (.ref a :: st) := by
  intro T vm0 k0 locs W
  obtain ⟨X, eT, hS, hk, hZ, hown, hF, hE, hC, hs⟩ := W
  obtain ⟨T', X', e', st'⟩ := initO X K.1 hZ hown w1 w2 w3 eT (g := mkF B.m pc Ls (.ref a :: st)) rfl (hsz.trans K.2.2.1.symm) rfl (K.dec hd) (Nat.le_of_ble_eq_true hf) (W := (st.map fun v => v.category).sum) (by show 2 * 0 + _ ≤ _; omega) (Nat.le_of_ble_eq_true hl)
  exact (g T' vm0 k0 locs ⟨X', e', hS, hk, hZ, hown, hF, hE, hC, hs⟩).pre st'
theorem go_ldcI (K : Kd G B M) {k ix : Nat} {v : Int32} (hd : M.P[k]? = some (pc, .ldc ix, 2)) (w : Wd G (.constant M.own ix v)) (g : Go G B M Q h sf cells slots (pc + 2) Ls (.int v :: st)) : Go G B M Q h sf cells slots pc Ls st := by
  intro T vm0 k0 locs W
  obtain ⟨X, eT, hS, hk, hZ, hown, hF, hE, hC, hs⟩ := id W
  exact (g T vm0 k0 locs W).pre (X.ldcInt K.1 hown (mv hZ w) (g := mkF B.m pc Ls st) rfl (K.dec hd))
/-- 'ldc' of a String constant, of which nothing is asked -/
theorem go_ldc (K : Kd G B M) {k ix n : Nat} {text : String} (hd : M.P[k]? = some (pc, .ldc ix, 2)) (w : Wd G (.stringLink M.own ix text)) (wS : ∀ d ∈ Bundle.stringAtoms, Wd G d) (hn : Nat.ble (4 * text.toList.length) n = true) (hb : Nat.ble n 536870912 = true) (hc : Nat.ble (cells + 2) M.R.cells = true) (hl : Nat.ble (slots + (n + 4)) M.R.slots = true)
    (g : ∀ (h' : Heap) (a : Addr), Ext h h' → Go G B M Q h' sf (cells + 2) (slots + (n + 4)) (pc + 2) Ls (.ref a :: st)) : Go G B M Q h sf cells slots pc Ls st := by
  intro T vm0 k0 locs W
  obtain ⟨X, eT, hS, hk, hZ, hown, hF, hE, hC, hs⟩ := W
  obtain ⟨a, T', h', k1, X', e', E', hS', hk', hZ', hown', hC', -, st'⟩ := ldcOH X K.1 hZ hown w wS eT hS hk K.2.2.2.2.2.2 hC.1 (g := mkF B.m pc Ls st) rfl (K.dec hd) (Nat.le_of_ble_eq_true hn) (Nat.le_of_ble_eq_true hb) (Nat.le_of_ble_eq_true hc) (Nat.le_of_ble_eq_true hl)
  exact (g h' a E' T' T'.vm k1 locs ⟨X', e', hS', hk', hZ', hown', hF, ⟨Nat.le_trans hE.1 E'.1, fun x c q => E'.2 x c (hE.2 x c q)⟩, hC.trans hC', fun x hx => ⟨hC'.safe (hs x hx).2 (hs x hx).1, Nat.lt_of_lt_of_le (hs x hx).2 E'.1⟩⟩).pre st'
/-- 'ldc' of a String constant whose text is known -/
theorem go_ldcS (K : Kd G B M) {k ix n : Nat} {text : String} (hd : M.P[k]? = some (pc, .ldc ix, 2)) (w : Wd G (.stringLink M.own ix text)) (wS : ∀ d ∈ Bundle.stringAtoms, Wd G d) (hmem : (M.own, ix) ∈ G.EL)
    {vs : List Value} {z : Int32} (ht : (∀ c ∈ text.toList, c.toNat < 256) ∧ text.toList.map (fun c => Value.int (Jvm.Lit.byteI c.toNat.toUInt16)) = vs) (hz : ¬ z < 0) (hzl : z.toNatClampNeg = vs.length)
    (hn : Nat.ble (4 * text.toList.length) n = true) (hb : Nat.ble n 536870912 = true) (hc : Nat.ble (cells + 2) M.R.cells = true) (hl : Nat.ble (slots + (n + 4)) M.R.slots = true)
    (g : ∀ (h' : Heap) (a b : Addr) (kb : ClassId), Ext h h' → Exa G.Z h' a "java/lang/String" → Fld G.Z h' a "java/lang/String" "coder" "B" (.int 0) → Fld G.Z h' a "java/lang/String" "value" "[B" (.ref b) → Arv G.Z h' b kb .byte z vs (.int 0) → (∀ x ∈ sf, x ≠ a ∧ x ≠ b) →
      Go G B M Q h' sf (cells + 2) (slots + (n + 4)) (pc + 2) Ls (.ref a :: st)) : Go G B M Q h sf cells slots pc Ls st := by
  intro T vm0 k0 locs W
  obtain ⟨X, eT, hS, hk, hZ, hown, hF, hE, hC, hs⟩ := W
  obtain ⟨a, T', h', k1, b, kb, X', e', E', hS', hk', hZ', hown', A1, A2, A3, A4, -, -, hC', -, hne, st'⟩ := ldcCH X K.1 hZ hown w wS eT hS hk K.2.2.2.2.2.2 hmem hC.1 ht hz hzl (g := mkF B.m pc Ls st) rfl (K.dec hd) (Nat.le_of_ble_eq_true hn) (Nat.le_of_ble_eq_true hb) (Nat.le_of_ble_eq_true hc) (Nat.le_of_ble_eq_true hl)
  have hsf : ∀ x ∈ sf, Safe G.Z G.EL T'.vm h' x ∧ x < h'.size := fun x hx => ⟨hC'.safe (hs x hx).2 (hs x hx).1, Nat.lt_of_lt_of_le (hs x hx).2 E'.1⟩
  exact (g h' a b kb E' A1 A2 A3 A4 (fun x hx => hne x (hsf x hx).1) T' T'.vm k1 locs ⟨X', e', hS', hk', hZ', hown', hF, ⟨Nat.le_trans hE.1 E'.1, fun x c q => E'.2 x c (hE.2 x c q)⟩, hC.trans hC', hsf⟩).pre st'
end Heap
/-! ### contracts and calls -/
section Calls
variable {G : Gb} {B : Cx} {M : Mt} {R : Room} {Q : Option Value → Heap → (Addr → Prop) → Prop} {h : Heap} {sf : List Addr} {cells slots pc : Nat} {Ls : Array Slot} {st : List Value}
theorem ctr_of (M : Mt) {ws : List Jvm.Cond} {y : MethodName} {bytes : ByteArray} {as' : Array Value} (ho : M.own = y.cls) (hnm : M.nm = y.name) (pf : plainFor y = true) (hP : ∀ q ∈ M.P, decode bytes q.1 = .ok q.2) (hEL : EW G.Z G.a0 G.EL) {Ls : Array Slot} (ef : ∀ m, entryFrame m as' M.maxL = mkF m 0 Ls [])
    (H : ∀ B : Cx, Kd G B M → Ext G.Z.heap h → Go G B M Q h sf 0 0 0 Ls []) : Ctr G ws y bytes M.maxL M.ret M.R as' h sf Q := by
  refine MetFree.of_bodySF pf hisR ?_
  intro p e s m args below meth c s₁ Bd hml hP' hK
  obtain ⟨rfl, hZ, hh, hCH, hE, hs⟩ := hP'
  have hK : Kd G ((p, e, s, m), (args, below, meth, c)) M := ⟨Bd.exec, fun q hq => by show decode c.code q.1 = _; rw [Bd.bytes]; exact hP q hq, hml, Bd.returns, Bd.notSynchronized, (name_of_methodNamed Bd.named Bd.method).1.trans hnm.symm, hEL⟩
  have X0 : Stand p G.l e M.R s m args below meth c s₁ [] 0 0 := Stand.of_body Bd
  have X1 : Stand p G.l e M.R (s.setVm s.vm) m args below meth c s₁ [] 0 0 := X0
  have e0 : s₁.heap = h := by rw [← hh, Bd.state]; rfl
  have hown : s.vm.findClass M.own = some m.cls := by rw [ho]; exact findClass_of_methodNamed Bd.named
  have hb : CHr G.Z G.EL s.vm s.heap s.vm h := by rw [hh]; exact CHr.refl hCH
  obtain ⟨t, v, L, k1, k2, k3, k4, k5, k6, k7, k8⟩ := H ((p, e, s, m), (args, below, meth, c)) hK hE s₁ s.vm 0 [] ⟨X1, e0, (State.WarmedH.refl s).since 0, Nat.zero_le _, hZ, hown, Fr.nil _, hE, hb, hs⟩
  refine ⟨t, .returned v, ?_, k2, k3, v, L, rfl, ⟨k4, k5, k6⟩, k7, k8⟩
  rw [ef m]
  exact k1
theorem backG {y : MethodName} {bytes : ByteArray} {maxL : Nat} {ret : Option FieldType} {rm : Room} {len W : Nat} {as' : Array Value} {Qc : Option Value → Heap → (Addr → Prop) → Prop} {sf' : List Addr} {p : Program} {e : Env} {below : List Frame} {s : State} {args : Array Value} {vm0 : Vm}
    (C : Ctr G [] y bytes maxL ret rm as' h sf' Qc) (hZ : G.Z.Warmed39 vm0) (wc : Wd G (.code y bytes maxL ret)) (wz : Wd G (.initialized y.cls)) (hf : rm.frames + 1 ≤ R.frames) (hl : W + (maxL + 11) + rm.locals ≤ R.locals) (hEL : EW G.Z G.a0 G.EL) (H : CHv G.Z G.EL vm0 h) (hE : Ext G.Z.heap h) (hs : ∀ x ∈ sf', Safe G.Z G.EL vm0 h x ∧ x < h.size) :
    BackS G.l R p e below (s.setVm vm0) args y len W (fun A a => a = as' ∧ A.U.heap = h ∧ A.cells + rm.cells ≤ R.cells ∧ A.slots + rm.slots ≤ R.slots)
      (fun A _ v B => ∃ L, (Qc v B.U.heap (fun x => Safe G.Z G.EL B.U.vm B.U.heap x ∧ x < B.U.heap.size) ∧ Fr G.Z.heap.size L ∧ Ext G.Z.heap B.U.heap) ∧ B.locs = A.locs ++ L ∧ B.cells = A.cells + rm.cells ∧ B.slots = A.slots + rm.slots ∧ CHr G.Z G.EL vm0 h B.U.vm B.U.heap) := by
  refine BackS.of_freeW (bytes := bytes) (maxL := maxL) (ret := ret) (E := fun _ first o t L k n => k = rm.cells ∧ n = rm.slots ∧ (∃ v, o = .returned v ∧ Qc v t.heap (fun x => Safe G.Z G.EL t.vm t.heap x ∧ x < t.heap.size) ∧ Fr G.Z.heap.size L ∧ Ext G.Z.heap t.heap) ∧ CHr G.Z G.EL first.vm first.heap t.vm t.heap) C hf hl ?_ ?_ ?_ ?_ ?_
  · intro m meth c A a Y hp
    have hU : G.Z.Warmed39 A.U.vm := wtrans (s := s.setVm vm0) hZ Y.warmed
    refine ⟨?_, mv hU wc, mv hU wz, hp.2.2.1, hp.2.2.2⟩
    show (Jvm.Cond.and _ .tt).before a A.U = true
    rw [Cond.before_and, mv hU wc]; rfl
  · intro m meth c A a g mk Y hp
    have A1 := CHv.at Y hZ hEL H
    exact ⟨hp.1, wtrans (s := s.setVm vm0) hZ Y.warmed, hp.2.1, A1.1, hE, fun x hx => ⟨A1.safe (hs x hx).2 (hs x hx).1, (hs x hx).2⟩⟩
  · intros; trivial
  · intro _ _ _ _ q
    obtain ⟨v, L, h1, h2, h3, h4⟩ := q
    exact ⟨L, _, _, h4, rfl, rfl, ⟨v, h1, h2⟩, h3⟩
  · intro m meth c A a g mk v t L k n Y hp _ _ q
    obtain ⟨e1, e2, ⟨v', e3, e4⟩, e5⟩ := q
    cases e3; subst e1 e2
    refine ⟨L, e4, rfl, rfl, rfl, (CHv.at Y hZ hEL H).trans ?_⟩
    rw [← hp.2.1]; exact e5
/-- the room that a call asks of its maker -/
def rok (R : Room) (rest : List Value) (maxL : Nat) (rm : Room) (cells slots : Nat) : Bool :=
  Nat.ble (rm.frames + 1) R.frames && (Nat.ble ((rest.map fun v => v.category).sum + (maxL + 11) + rm.locals) R.locals && (Nat.ble (cells + rm.cells) R.cells && Nat.ble (slots + rm.slots) R.slots))
theorem rok_ok {rest : List Value} {maxL : Nat} {rm : Room} (q : rok R rest maxL rm cells slots = true) : rm.frames + 1 ≤ R.frames ∧ (rest.map fun v => v.category).sum + (maxL + 11) + rm.locals ≤ R.locals ∧ cells + rm.cells ≤ R.cells ∧ slots + rm.slots ≤ R.slots := by
  simp only [rok, Bool.and_eq_true] at q
  exact ⟨Nat.le_of_ble_eq_true q.1, Nat.le_of_ble_eq_true q.2.1, Nat.le_of_ble_eq_true q.2.2.1, Nat.le_of_ble_eq_true q.2.2.2⟩
/-- behind any call: the walk goes on -/
theorem call_on {rm : Room} {Qc : Option Value → Heap → (Addr → Prop) → Prop} {pc' : Nat} {rest : List Value} {T : State} {vm0 : Vm} {k0 : Nat} {locs : List Loc} (W : Wo G B M.own M.R h sf cells slots T vm0 k0 locs)
    (call : ∃ (v : Option Value) (vm₁ : Vm) (A : Pt), (B.s.setVm vm0).WarmedH vm₁ ∧ Stand B.p G.l B.e M.R ((B.s.setVm vm0).setVm A.U.vm) B.m B.as B.bl B.mt B.c A.U A.locs A.cells A.slots ∧ (B.s.setVm vm0).Since A.U.vm A.U.heap.size ∧ T.heap.size ≤ A.U.heap.size ∧
      (∃ L, (Qc v A.U.heap (fun x => Safe G.Z G.EL A.U.vm A.U.heap x ∧ x < A.U.heap.size) ∧ Fr G.Z.heap.size L ∧ Ext G.Z.heap A.U.heap) ∧ A.locs = locs ++ L ∧ A.cells = cells + rm.cells ∧ A.slots = slots + rm.slots ∧ CHr G.Z G.EL vm0 h A.U.vm A.U.heap) ∧
      Steps B.p.tables B.e B.bl (T.setTop (mkF B.m pc Ls st)) (A.U.setTop (mkF B.m pc' Ls (v.toList ++ rest))))
    (g : ∀ (v : Option Value) (h' : Heap) (Sf : Addr → Prop), h.size ≤ h'.size → Qc v h' Sf → ∃ nw : List Addr, (∀ x ∈ nw, Sf x) ∧ Go G B M Q h' (nw ++ sf) (cells + rm.cells) (slots + rm.slots) pc' Ls (v.toList ++ rest)) : Fin G B M.R Q (T.setTop (mkF B.m pc Ls st)) := by
  obtain ⟨X, eT, hS, hk, hZ, hown, hF, hE, hC, hs⟩ := W
  obtain ⟨v, vm₁, ⟨U, L0, c0, n0⟩, -, X', hS', hgr, ⟨L, ⟨hq, hfr, hext⟩, e1, e2, e3, hC'⟩, stp⟩ := call
  dsimp only [Pt.U, Pt.locs, Pt.cells, Pt.slots] at X' hS' hgr hq hfr hext e1 e2 e3 hC' stp
  subst e1 e2 e3
  rw [eT] at hgr
  obtain ⟨nw, n1, n2⟩ := g v U.heap _ hgr hq
  refine (n2 U U.vm U.heap.size _ ⟨X', rfl, hS.trans hS' (Nat.le_trans hk hgr), Nat.le_refl _, State.Warmed39.trans (t := B.s.setVm vm0) hZ hS'.1, (hS'.1.alike.findClass _ _).trans hown, hF.app hfr, hext, hC.trans hC', fun x hx => ?_⟩).pre fun target hr => stp.trans hr
  rcases List.mem_append.mp hx with hx | hx
  · exact n1 x hx
  · exact ⟨hC'.safe (hs x hx).2 (hs x hx).1, Nat.lt_of_lt_of_le (hs x hx).2 hgr⟩
theorem go_staticN (K : Kd G B M) {k ix : Nat} {y : MethodName} {bytes : ByteArray} {maxL : Nat} {ret : Option FieldType} {rm : Room} {argsL rest : List Value} {ps : List FieldType} {rt : Option FieldType} {sf' : List Addr} {Qc : Option Value → Heap → (Addr → Prop) → Prop} (hd : M.P[k]? = some (pc, .invokestatic ix, 3))
    (w1 : Wd G (.methodLink M.own ix y)) (w2 : Wd G (.static y)) (w3 : Wd G (.initialized y.cls)) (w4 : Wd G (.code y bytes maxL ret)) (hy : y.cls ≠ "java/lang/invoke/MethodHandle" ∧ y.cls ≠ "java/lang/invoke/VarHandle") (pd : parseMethodDescriptor y.desc = some ⟨ps, rt⟩)
    (C : Ctr G [] y bytes maxL ret rm argsL.toArray h sf' Qc) (hst : st = argsL.reverse ++ rest) (hlen : argsL.length = ps.length) (hsz : Ls.size = M.maxL) (hsub : ∀ x ∈ sf', x ∈ sf) (hrm : rok M.R rest maxL rm cells slots = true)
    (g : ∀ (v : Option Value) (h' : Heap) (Sf : Addr → Prop), h.size ≤ h'.size → Qc v h' Sf → ∃ nw : List Addr, (∀ x ∈ nw, Sf x) ∧ Go G B M Q h' (nw ++ sf) (cells + rm.cells) (slots + rm.slots) (pc + 3) Ls (v.toList ++ rest)) : Go G B M Q h sf cells slots pc Ls st := by
  intro T vm0 k0 locs W
  obtain ⟨r1, r2, r3, r4⟩ := rok_ok hrm
  obtain ⟨X, eT, hS, hk, hZ, hown, hF, hE, hC, hs⟩ := id W
  subst hst
  exact call_on W (callSS X K.1 hown (mv hZ w1) (mv hZ w2) (mv hZ w3) (mv hZ w4) hy (backG (W := (rest.map fun v => v.category).sum) C hZ w4 w3 r1 r2 K.2.2.2.2.2.2 hC.1 hE (fun x hx => hs x (hsub x hx))) (g := mkF B.m pc Ls (argsL.reverse ++ rest)) rfl (hsz.trans K.2.2.1.symm) (argsL := argsL) (rest := rest) (lenOf pd hlen) rfl (by show 2 * 0 + _ ≤ _; omega) (K.dec hd) (fun vm₁ _ => ⟨rfl, eT, r3, r4⟩)) g
theorem go_static (K : Kd G B M) {k ix : Nat} {y : MethodName} {bytes : ByteArray} {maxL : Nat} {ret : Option FieldType} {rm : Room} {argsL rest : List Value} {ps : List FieldType} {rt : Option FieldType} {sf' : List Addr} {Qc : Option Value → Heap → (Addr → Prop) → Prop} (hd : M.P[k]? = some (pc, .invokestatic ix, 3))
    (w1 : Wd G (.methodLink M.own ix y)) (w2 : Wd G (.static y)) (w3 : Wd G (.initialized y.cls)) (w4 : Wd G (.code y bytes maxL ret)) (hy : y.cls ≠ "java/lang/invoke/MethodHandle" ∧ y.cls ≠ "java/lang/invoke/VarHandle") (pd : parseMethodDescriptor y.desc = some ⟨ps, rt⟩)
    (C : Ctr G [] y bytes maxL ret rm argsL.toArray h sf' Qc) (hst : st = argsL.reverse ++ rest) (hlen : argsL.length = ps.length) (hsz : Ls.size = M.maxL) (hsub : ∀ x ∈ sf', x ∈ sf) (hrm : rok M.R rest maxL rm cells slots = true)
    (g : ∀ (v : Option Value) (h' : Heap) (Sf : Addr → Prop), h.size ≤ h'.size → Qc v h' Sf → Go G B M Q h' sf (cells + rm.cells) (slots + rm.slots) (pc + 3) Ls (v.toList ++ rest)) : Go G B M Q h sf cells slots pc Ls st :=
  go_staticN K hd w1 w2 w3 w4 hy pd C hst hlen hsz hsub hrm fun v h' Sf z q => ⟨[], (fun _ u => nomatch u), g v h' Sf z q⟩
theorem go_specialN (K : Kd G B M) {k ix : Nat} {y : MethodName} {bytes : ByteArray} {maxL : Nat} {rm : Room} {a : Addr} {argsL rest : List Value} {ps : List FieldType} {rt : Option FieldType} {sf' : List Addr} {Qc : Option Value → Heap → (Addr → Prop) → Prop} (hd : M.P[k]? = some (pc, .invokespecial ix, 3)) (hy1 : y.name = "<init>")
    (w1 : Wd G (.methodLink M.own ix y)) (w2 : Wd G (.instanceMethod y)) (w3 : Wd G (.initialized y.cls)) (w4 : Wd G (.code y bytes maxL none)) (hy : y.cls ≠ "java/lang/invoke/MethodHandle" ∧ y.cls ≠ "java/lang/invoke/VarHandle") (pd : parseMethodDescriptor y.desc = some ⟨ps, rt⟩)
    (C : Ctr G [] y bytes maxL none rm (.ref a :: argsL).toArray h sf' Qc) (hst : st = argsL.reverse ++ .ref a :: rest) (hlen : argsL.length = ps.length) (hsz : Ls.size = M.maxL) (hsub : ∀ x ∈ sf', x ∈ sf) (hrm : rok M.R rest maxL rm cells slots = true)
    (g : ∀ (v : Option Value) (h' : Heap) (Sf : Addr → Prop), h.size ≤ h'.size → Qc v h' Sf → ∃ nw : List Addr, (∀ x ∈ nw, Sf x) ∧ Go G B M Q h' (nw ++ sf) (cells + rm.cells) (slots + rm.slots) (pc + 3) Ls (v.toList ++ rest)) : Go G B M Q h sf cells slots pc Ls st := by
  intro T vm0 k0 locs W
  obtain ⟨r1, r2, r3, r4⟩ := rok_ok hrm
  obtain ⟨X, eT, hS, hk, hZ, hown, hF, hE, hC, hs⟩ := id W
  subst hst
  exact call_on W (X.specialBackS K.1 hy1 hown (mv hZ w1) (mv hZ w2) (mv hZ w4) hy (backG (W := (rest.map fun v => v.category).sum) C hZ w4 w3 r1 r2 K.2.2.2.2.2.2 hC.1 hE (fun x hx => hs x (hsub x hx))) (g := mkF B.m pc Ls (argsL.reverse ++ .ref a :: rest)) rfl (hsz.trans K.2.2.1.symm) (Steps.refl _) (a := a) (argsL := argsL) (rest := rest) (lenOf pd hlen) rfl (by show 2 * 0 + _ ≤ _; omega) (K.dec hd) (fun vm₁ _ => ⟨rfl, eT, r3, r4⟩)) g
theorem go_special (K : Kd G B M) {k ix : Nat} {y : MethodName} {bytes : ByteArray} {maxL : Nat} {rm : Room} {a : Addr} {argsL rest : List Value} {ps : List FieldType} {rt : Option FieldType} {sf' : List Addr} {Qc : Option Value → Heap → (Addr → Prop) → Prop} (hd : M.P[k]? = some (pc, .invokespecial ix, 3)) (hy1 : y.name = "<init>")
    (w1 : Wd G (.methodLink M.own ix y)) (w2 : Wd G (.instanceMethod y)) (w3 : Wd G (.initialized y.cls)) (w4 : Wd G (.code y bytes maxL none)) (hy : y.cls ≠ "java/lang/invoke/MethodHandle" ∧ y.cls ≠ "java/lang/invoke/VarHandle") (pd : parseMethodDescriptor y.desc = some ⟨ps, rt⟩)
    (C : Ctr G [] y bytes maxL none rm (.ref a :: argsL).toArray h sf' Qc) (hst : st = argsL.reverse ++ .ref a :: rest) (hlen : argsL.length = ps.length) (hsz : Ls.size = M.maxL) (hsub : ∀ x ∈ sf', x ∈ sf) (hrm : rok M.R rest maxL rm cells slots = true)
    (g : ∀ (v : Option Value) (h' : Heap) (Sf : Addr → Prop), h.size ≤ h'.size → Qc v h' Sf → Go G B M Q h' sf (cells + rm.cells) (slots + rm.slots) (pc + 3) Ls (v.toList ++ rest)) : Go G B M Q h sf cells slots pc Ls st :=
  go_specialN K hd hy1 w1 w2 w3 w4 hy pd C hst hlen hsz hsub hrm fun v h' Sf z q => ⟨[], (fun _ u => nomatch u), g v h' Sf z q⟩
theorem go_virtualN (K : Kd G B M) {k ix : Nat} {y z : MethodName} {bytes : ByteArray} {maxL : Nat} {ret : Option FieldType} {rm : Room} {C : String} {a : Addr} {argsL rest : List Value} {ps : List FieldType} {rt : Option FieldType} {sf' : List Addr} {Qc : Option Value → Heap → (Addr → Prop) → Prop} (hd : M.P[k]? = some (pc, .invokevirtual ix, 3))
    (w1 : Wd G (.methodLink M.own ix y)) (w2 : Wd G (.declares y)) (w3 : Wd G (.selects C y z)) (w4 : Wd G (.instanceMethod z)) (w5 : Wd G (.initialized z.cls)) (w6 : Wd G (.code z bytes maxL ret)) (hy : y.cls ≠ "java/lang/invoke/MethodHandle" ∧ y.cls ≠ "java/lang/invoke/VarHandle") (pd : parseMethodDescriptor y.desc = some ⟨ps, rt⟩) (E : Exa G.Z h a C)
    (nf : ∀ vm0 : Vm, G.Z.Warmed39 vm0 → NotFace (B.s.setVm vm0) y)
    (Ct : Ctr G [] z bytes maxL ret rm (.ref a :: argsL).toArray h sf' Qc) (hst : st = argsL.reverse ++ .ref a :: rest) (hlen : argsL.length = ps.length) (hsz : Ls.size = M.maxL) (hsub : ∀ x ∈ sf', x ∈ sf) (hrm : rok M.R rest maxL rm cells slots = true)
    (g : ∀ (v : Option Value) (h' : Heap) (Sf : Addr → Prop), h.size ≤ h'.size → Qc v h' Sf → ∃ nw : List Addr, (∀ x ∈ nw, Sf x) ∧ Go G B M Q h' (nw ++ sf) (cells + rm.cells) (slots + rm.slots) (pc + 3) Ls (v.toList ++ rest)) : Go G B M Q h sf cells slots pc Ls st := by
  intro T vm0 k0 locs W
  obtain ⟨r1, r2, r3, r4⟩ := rok_ok hrm
  obtain ⟨X, eT, hS, hk, hZ, hown, hF, hE, hC, hs⟩ := id W
  obtain ⟨cB, kB, i1, i2, i3⟩ := isOf (s := B.s.setVm vm0) hZ eT E
  subst hst
  exact call_on W (X.virtualBackS K.1 hown (mv hZ w1) (mv hZ w2) (nf vm0 hZ) (mv hZ w3) (mv hZ w4) hy (backG (W := (rest.map fun v => v.category).sum) Ct hZ w6 w5 r1 r2 K.2.2.2.2.2.2 hC.1 hE (fun x hx => hs x (hsub x hx))) i1 i3 (g := mkF B.m pc Ls (argsL.reverse ++ .ref a :: rest)) rfl (hsz.trans K.2.2.1.symm) (Steps.refl _) (argsL := argsL) (rest := rest) (lenOf pd hlen) rfl (by show 2 * 0 + _ ≤ _; omega) (K.dec hd) (fun vm₁ _ => ⟨rfl, eT, r3, r4⟩)) g
theorem go_virtual (K : Kd G B M) {k ix : Nat} {y z : MethodName} {bytes : ByteArray} {maxL : Nat} {ret : Option FieldType} {rm : Room} {C : String} {a : Addr} {argsL rest : List Value} {ps : List FieldType} {rt : Option FieldType} {sf' : List Addr} {Qc : Option Value → Heap → (Addr → Prop) → Prop} (hd : M.P[k]? = some (pc, .invokevirtual ix, 3))
    (w1 : Wd G (.methodLink M.own ix y)) (w2 : Wd G (.declares y)) (w3 : Wd G (.selects C y z)) (w4 : Wd G (.instanceMethod z)) (w5 : Wd G (.initialized z.cls)) (w6 : Wd G (.code z bytes maxL ret)) (hy : y.cls ≠ "java/lang/invoke/MethodHandle" ∧ y.cls ≠ "java/lang/invoke/VarHandle") (pd : parseMethodDescriptor y.desc = some ⟨ps, rt⟩) (E : Exa G.Z h a C)
    (nf : ∀ vm0 : Vm, G.Z.Warmed39 vm0 → NotFace (B.s.setVm vm0) y)
    (Ct : Ctr G [] z bytes maxL ret rm (.ref a :: argsL).toArray h sf' Qc) (hst : st = argsL.reverse ++ .ref a :: rest) (hlen : argsL.length = ps.length) (hsz : Ls.size = M.maxL) (hsub : ∀ x ∈ sf', x ∈ sf) (hrm : rok M.R rest maxL rm cells slots = true)
    (g : ∀ (v : Option Value) (h' : Heap) (Sf : Addr → Prop), h.size ≤ h'.size → Qc v h' Sf → Go G B M Q h' sf (cells + rm.cells) (slots + rm.slots) (pc + 3) Ls (v.toList ++ rest)) : Go G B M Q h sf cells slots pc Ls st :=
  go_virtualN K hd w1 w2 w3 w4 w5 w6 hy pd E nf Ct hst hlen hsz hsub hrm fun v h' Sf z q => ⟨[], (fun _ u => nomatch u), g v h' Sf z q⟩
end Calls
end Jvm.OwnW
namespace Jvm.OwnW
open Sem ClassFile Op Lib Bundle Jvm.Stand Jvm.Free Jvm.LawKit Jvm.RoadKit
section Small
variable {G : Gb} {B : Cx} {M : Mt} {Q : Option Value → Heap → (Addr → Prop) → Prop} {h h0 h1 h2 : Heap} {sf : List Addr} {cells slots pc : Nat} {Ls : Array Slot} {st : List Value} {a b : Addr}
theorem Ext.rf (h : Heap) : Ext h h := ⟨Nat.le_refl _, fun _ _ q => q⟩
theorem Ext.tr (E : Ext h0 h1) (F : Ext h1 h2) : Ext h0 h2 := ⟨Nat.le_trans E.1 F.1, fun x c q => F.2 x c (E.2 x c q)⟩
theorem Ext.keepN {ws : List Addr} (E : Ext h0 h1) (K : Keep h1 h2 ws) (q : ∀ x ∈ ws, h0.size ≤ x) : Ext h0 h2 :=
  ⟨Nat.le_trans E.1 K.1, fun x c r => K.2.1 x c (E.2 x c r) fun z => absurd (Array.getElem?_eq_some_iff.mp r).1 (Nat.not_lt.mpr (q x z))⟩
theorem Ext.wrN {sl : Nat} {v : Value} (E : Ext h0 h1) (W : Wr h1 h2 a sl v) (q : h0.size ≤ a) : Ext h0 h2 := Ext.keepN E (Keep.of_wr W) (allS q all0)
theorem Ext.keep0 {ws : List Addr} (E : Ext h0 h1) : Keep h0 h1 ws := (Keep.refl h0 ws).ext E
theorem sub0 : ∀ x ∈ ([] : List Addr), x ∈ sf := fun _ q => nomatch q
theorem subS {L : List Addr} (m : a ∈ sf) (r : ∀ x ∈ L, x ∈ sf) : ∀ x ∈ a :: L, x ∈ sf := fun x q => (List.mem_cons.mp q).elim (fun u => u ▸ m) (r x)
theorem nfS {C : String} {y : MethodName} {s : State} (w : Wd G (.selects C y y)) : ∀ vm0 : Vm, G.Z.Warmed39 vm0 → NotFace (s.setVm vm0) y := fun vm0 hZ => notFace_of_selects (args := #[]) (mv (s := s.setVm vm0) hZ w)
/-- the sheet's words, the constants whose text is asked, what the String laws ask -/
def Gl (ts : List Jvm.Cond) (el : List (String × Nat)) (G : Gb) : Prop := (∀ d ∈ ts, Wd G d) ∧ G.EL = el ∧ EW G.Z G.a0 G.EL ∧ (∀ d ∈ Bundle.stringAtoms, Wd G d) ∧ ∃ z : Int32, Sta G.Z G.Z.heap "java/lang/String" "COMPACT_STRINGS" "Z" (.int z) ∧ ¬ z = 0
variable {ts : List Jvm.Cond} {es : List (String × Nat)}
theorem Gl.w (H : Gl ts es G) {d : Jvm.Cond} (k : Nat) (q : ts[k]? = some d) : Wd G d := H.1 d (List.mem_of_getElem? q)
theorem Gl.el (H : Gl ts es G) : EW G.Z G.a0 G.EL := H.2.2.1
theorem Gl.ws (H : Gl ts es G) : ∀ d ∈ Bundle.stringAtoms, Wd G d := H.2.2.2.1
theorem Gl.cs (H : Gl ts es G) : ∃ z : Int32, Sta G.Z G.Z.heap "java/lang/String" "COMPACT_STRINGS" "Z" (.int z) ∧ ¬ z = 0 := H.2.2.2.2
theorem Gl.mem (H : Gl ts es G) {p : String × Nat} (q : p ∈ es) : p ∈ G.EL := H.2.1 ▸ q
/-! ### Strings -/
def by8 (cs : List Int32) : List Value := cs.map fun c => Value.int c.toInt8.toInt32
def Lat (cs : List Int32) : Prop := cs.length ≤ 4000 ∧ ∀ c ∈ cs, ¬ c < 0 ∧ ¬ (255 : Int32) < c
def Str (G : Gb) (h : Heap) (a : Addr) (cs : List Int32) : Prop := ∃ (t : Addr) (kb : ClassId), Exa G.Z h a "java/lang/String" ∧ Fld G.Z h a "java/lang/String" "coder" "B" (.int 0) ∧ Fld G.Z h a "java/lang/String" "value" "[B" (.ref t) ∧ Arv G.Z h t kb .byte cs.length.toInt32 (by8 cs) (.int 0)
variable {cs ds : List Int32}
theorem Str.exa (S : Str G h a cs) : Exa G.Z h a "java/lang/String" := by obtain ⟨t, kb, h1, -⟩ := S; exact h1
theorem Str.lt (S : Str G h a cs) : a < h.size := S.exa.lt
theorem Str.ext (S : Str G h a cs) (E : Ext h h1) : Str G h1 a cs := by
  obtain ⟨t, kb, e1, e2, e3, e4⟩ := S
  exact ⟨t, kb, Exa.ext E e1, Fld.ext E e2, Fld.ext E e3, e4.ext E⟩
theorem by8_len : (by8 cs).length = cs.length := by simp [by8]
theorem len_nn {n : Nat} (q : n < 2 ^ 31) : ¬ n.toInt32 < 0 := by
  rw [Int32.lt_iff_toInt_lt, len_toInt q]; have : (0 : Int32).toInt = 0 := rfl
  omega
theorem len_nat {n : Nat} (q : n < 2 ^ 31) : n.toInt32.toNatClampNeg = n := by
  simp only [Int32.toNatClampNeg, len_toInt q]; rfl
theorem len_lt {i n : Nat} (hn : n < 2 ^ 31) (q : i < n) : i.toInt32 < n.toInt32 := by
  rw [Int32.lt_iff_toInt_lt, len_toInt hn, len_toInt (Nat.lt_trans q hn)]; omega
theorem len_nlt {i n : Nat} (hi : i < 2 ^ 31) (q : n ≤ i) : ¬ i.toInt32 < n.toInt32 := by
  rw [Int32.lt_iff_toInt_lt, len_toInt hi, len_toInt (Nat.lt_of_le_of_lt q hi)]; omega
theorem len_succ (i : Nat) : i.toInt32 + Int32.ofInt 1 = (i + 1).toInt32 := by
  rw [show Int32.ofInt 1 = (1 : Nat).toInt32 from rfl]
  exact (Int32.ofNat_add i 1).symm
theorem lat_lt (q : Lat cs) : cs.length < 2 ^ 31 := Nat.lt_of_le_of_lt q.1 (by decide)
/-- 'ldc' of a constant whose text is asked, as a Str -/
theorem go_ldcT (K : Kd G B M) {k ix n : Nat} {text : String} (hd : M.P[k]? = some (pc, .ldc ix, 2)) (w : Wd G (.stringLink M.own ix text)) (wS : ∀ d ∈ Bundle.stringAtoms, Wd G d) (hmem : (M.own, ix) ∈ G.EL)
    (ht : (∀ c ∈ text.toList, c.toNat < 256) ∧ text.toList.map (fun c => Value.int (Jvm.Lit.byteI c.toNat.toUInt16)) = by8 cs) (hz : cs.length < 2 ^ 31)
    (hn : Nat.ble (4 * text.toList.length) n = true) (hb : Nat.ble n 536870912 = true) (hc : Nat.ble (cells + 2) M.R.cells = true) (hl : Nat.ble (slots + (n + 4)) M.R.slots = true)
    (g : ∀ (h' : Heap) (a : Addr), Ext h h' → Str G h' a cs → Go G B M Q h' sf (cells + 2) (slots + (n + 4)) (pc + 2) Ls (.ref a :: st)) : Go G B M Q h sf cells slots pc Ls st :=
  go_ldcS K hd w wS hmem ht (len_nn hz) (by rw [len_nat hz, by8_len]) hn hb hc hl fun h' a b kb E1 e1 e2 e3 e4 _ => g h' a E1 ⟨b, kb, e1, e2, e3, e4⟩
theorem c8_lat (x : Int32) : ¬ (x &&& 255) < 0 ∧ ¬ (255 : Int32) < (x &&& 255) := by
  have q := c_and x 255 (by decide)
  simp only [Int32.lt_iff_toInt_lt]
  have e1 : (255 : Int32).toInt = 255 := by decide
  have e0 : (0 : Int32).toInt = 0 := by decide
  rw [e1] at q ⊢; rw [e0]; omega
theorem nar_c8 (x : Int32) : nar .char (x &&& 255) = x &&& 255 := i2c_mask x
theorem nar_i2c8 (x : Int32) : nar .char (x &&& 255).toUInt32.toUInt16.toUInt32.toInt32 = x &&& 255 := by rw [i2c_mask]; exact i2c_mask x
theorem i8_idem (x : Int32) : x.toInt8.toInt32.toInt8.toInt32 = x.toInt8.toInt32 := by rw [Int8.toInt8_toInt32]
theorem Arv.ty_ne {k1 k2 : ClassId} {t1 t2 : FieldType} {z1 z2 : Int32} {v1 v2 : List Value} {d1 d2 : Value} (A : Arv G.Z h a k1 t1 z1 v1 d1) (A' : Arv G.Z h b k2 t2 z2 v2 d2) (q : t1 ≠ t2) : a ≠ b := fun e => by
  subst e
  obtain ⟨c1, ⟨x1, ⟨-, kk, y1, p1, z1⟩, -⟩, -⟩ := A
  obtain ⟨c2, ⟨x2, ⟨-, kk', y2, p2, z2⟩, -⟩, -⟩ := A'
  cases x1.symm.trans x2
  cases y1.symm.trans y2
  have := z1.symm.trans z2
  injection this with _ e
  exact q e
end Small
end Jvm.OwnW
namespace Jvm.OwnW
open Sem ClassFile Op Lib Bundle Jvm.Stand Jvm.Free Jvm.LawKit Jvm.RoadKit
section Small2
variable {G : Gb} {h h1 : Heap} {a b : Addr} {cs ds : List Int32}
theorem Str.wrO {C : String} {n sl : Nat} {v : Value} (S : Str G h b cs) (E : Exa G.Z h a C) (hC : C ≠ "java/lang/String") (wi : Wd G (.instantiable C n)) (W : Wr h h1 a sl v) : Str G h1 b cs := by
  obtain ⟨t, kb, e1, e2, e3, e4⟩ := S
  have n1 : b ≠ a := fun q => (Exa.ne E e1 hC) q.symm
  have n2 : t ≠ a := (Exa.neArv E e4 wi).symm
  exact ⟨t, kb, Exa.wr W e1, Fld.other W e2 (Or.inl n1), Fld.other W e3 (Or.inl n1), e4.other W n2⟩
theorem get_map {i : Nat} (q : i < cs.length) : (cs.map Value.int).getD i (.int 0) = .int cs[i] := by
  simp [List.getD_eq_getElem?_getD, q]
theorem get_by8 {i : Nat} (q : i < cs.length) : (by8 cs).getD i (.int 0) = .int cs[i].toInt8.toInt32 := by
  simp [by8, List.getD_eq_getElem?_getD, q]
theorem set_by8 {i k : Nat} (q : i < cs.length) : (by8 (cs.take i) ++ List.replicate (k + 1) (Value.int 0)).set i (.int (nar .byte cs[i].toInt8.toInt32)) = by8 (cs.take (i + 1)) ++ List.replicate k (Value.int 0) := by
  have e : nar .byte cs[i].toInt8.toInt32 = cs[i].toInt8.toInt32 := i8_idem _
  have l : (by8 (cs.take i)).length = i := by rw [by8_len, List.length_take]; omega
  rw [e, List.set_append_right _ _ (Nat.le_of_eq l), l, Nat.sub_self, List.replicate_succ, List.set_cons_zero, List.take_succ_eq_append_getElem q]
  show _ = List.map _ (cs.take i ++ [cs[i]]) ++ _
  rw [List.map_append, List.append_assoc]
  rfl
theorem len_zero {n : Nat} (hn : n < 2 ^ 31) (q : n.toInt32 = 0) : n = 0 := by
  have e := congrArg Int32.toInt q
  rw [len_toInt hn] at e
  have : (0 : Int32).toInt = 0 := rfl
  omega
theorem len_inj {n m : Nat} (hn : n < 2 ^ 31) (hm : m < 2 ^ 31) (q : n.toInt32 = m.toInt32) : n = m := by
  have e := congrArg Int32.toInt q
  rw [len_toInt hn, len_toInt hm] at e
  omega
/-- the low byte, as signed, tells a char of 0 to 255 -/
theorem i8_inj {x y : Int32} (hx : ¬ x < 0 ∧ ¬ (255 : Int32) < x) (hy : ¬ y < 0 ∧ ¬ (255 : Int32) < y) (q : x.toInt8.toInt32 = y.toInt8.toInt32) : x = y := by
  have e := congrArg Int32.toInt q
  have a1 := c_i2b x
  have a2 := c_i2b y
  simp only [Int32.lt_iff_toInt_lt] at hx hy
  have e0 : (0 : Int32).toInt = 0 := by decide
  have e1 : (255 : Int32).toInt = 255 := by decide
  rw [e0, e1] at hx hy
  apply Int32.toInt_inj.mp
  omega
theorem by8_inj : ∀ {cs ds : List Int32}, (∀ c ∈ cs, ¬ c < 0 ∧ ¬ (255 : Int32) < c) → (∀ c ∈ ds, ¬ c < 0 ∧ ¬ (255 : Int32) < c) → by8 cs = by8 ds → cs = ds
  | [], [], _, _, _ => rfl
  | [], _ :: _, _, _, q => by cases q
  | _ :: _, [], _, _, q => by cases q
  | c :: cs, d :: ds, h1, h2, q => by
    simp only [by8, List.map_cons, List.cons.injEq, Value.int.injEq] at q
    rw [i8_inj (h1 c (List.mem_cons_self ..)) (h2 d (List.mem_cons_self ..)) q.1, by8_inj (fun x hx => h1 x (List.mem_cons_of_mem _ hx)) (fun x hx => h2 x (List.mem_cons_of_mem _ hx)) q.2]
/-- one String, one text -/
theorem Str.inj (hl : Lat cs) (hl' : Lat ds) (S : Str G h a cs) (S' : Str G h a ds) : cs = ds := by
  obtain ⟨t, kb, -, -, e3, c, A, -, z1, -, H, -⟩ := S
  obtain ⟨t', kb', -, -, f3, c', A', -, z2, -, H', -⟩ := S'
  have et : t = t' := by
    by_cases u : (Value.ref t) = .ref t'
    · exact Value.ref.inj u
    · exact absurd rfl (Fld.ne e3 f3 u)
  subst et
  cases A.1.symm.trans A'.1
  have n1 := lat_lt hl
  have n2 := lat_lt hl'
  rw [len_nat n1] at z1
  rw [len_nat n2] at z2
  refine by8_inj hl.2 hl'.2 (List.ext_getElem (by rw [by8_len, by8_len]; omega) fun i q1 q2 => ?_)
  have u1 := H i (by rw [by8_len] at q1; omega)
  have u2 := H' i (by rw [by8_len] at q1; omega)
  have := Option.some.inj (u1.symm.trans u2)
  rw [List.getD_eq_getElem?_getD, List.getD_eq_getElem?_getD, List.getElem?_eq_getElem q1, List.getElem?_eq_getElem q2] at this
  exact this
end Small2
end Jvm.OwnW
namespace Jvm.OwnW
open Sem ClassFile Op Lib Bundle Jvm.Stand Jvm.Free Jvm.LawKit Jvm.RoadKit
theorem bool_n {b : Int32} (q : b = 0 ∨ b = 1) : narrow .boolean (.int b) = .int b := by rcases q with rfl | rfl <;> rfl
theorem bool_f {b : Int32} (q : b = 0 ∨ b = 1) : fits .boolean (.int b) = true := by rcases q with rfl | rfl <;> rfl
theorem lat1 {x : Int32} (q : ¬ x < 0 ∧ ¬ (255 : Int32) < x) : Lat [x] := ⟨(by simp), fun c hc => by cases List.mem_singleton.mp hc; exact q⟩
theorem lat0 : Lat [] := ⟨(by decide), fun c hc => nomatch hc⟩
theorem latC {x : Int32} {cs : List Int32} (q : ¬ x < 0 ∧ ¬ (255 : Int32) < x) (l : Lat cs) (hn : cs.length + 1 ≤ 4000) : Lat (x :: cs) := ⟨hn, fun c hc => by
  rcases List.mem_cons.mp hc with rfl | hc
  · exact q
  · exact l.2 c hc⟩
end Jvm.OwnW
namespace Jvm.OwnW
open Sem ClassFile Op Lib Bundle Jvm.Stand Jvm.Free Jvm.LawKit Jvm.RoadKit
theorem shr0 (x : Int32) : x >>> ((0 : Int32) &&& 31) = x := by
  have e := c_ishr x 0 0 (by decide)
  apply Int32.toInt_inj.mp
  rw [e]; simp
theorem c8_id {c : Int32} (q : ¬ c < 0 ∧ ¬ (255 : Int32) < c) : c &&& 255 = c := by
  apply Int32.toInt_inj.mp
  rw [c_mask c 255 8 (by decide) (by decide)]
  simp only [Int32.lt_iff_toInt_lt] at q
  have e0 : (0 : Int32).toInt = 0 := by decide
  have e1 : (255 : Int32).toInt = 255 := by decide
  rw [e0, e1] at q
  have : ((2 ^ 8 : Nat) : Int) = 256 := by decide
  rw [this]; omega
theorem nar_id {c : Int32} (q : ¬ c < 0 ∧ ¬ (255 : Int32) < c) : nar .char c = c := by
  have e := nar_c8 c
  rw [c8_id q] at e
  exact e
theorem char_n {c : Int32} (q : ¬ c < 0 ∧ ¬ (255 : Int32) < c) : narrow .char (.int c) = .int c := congrArg Value.int (nar_id q)
theorem b8_char {c : Int32} (q : ¬ c < 0 ∧ ¬ (255 : Int32) < c) : (c.toInt8.toInt32 &&& (255 : Int32)).toUInt32.toUInt16.toUInt32.toInt32 = c := by
  rw [i2c_mask]
  apply Int32.toInt_inj.mp
  rw [c_mask _ 255 8 (by decide) (by decide)]
  have a1 := c_i2b c
  simp only [Int32.lt_iff_toInt_lt] at q
  have e0 : (0 : Int32).toInt = 0 := by decide
  have e1 : (255 : Int32).toInt = 255 := by decide
  rw [e0, e1] at q
  have : ((2 ^ 8 : Nat) : Int) = 256 := by decide
  rw [this]; omega
end Jvm.OwnW
namespace Jvm.OwnW
open Sem ClassFile Op Lib Bundle Jvm.Stand Jvm.Free Jvm.LawKit Jvm.RoadKit
theorem Str.keepO {G : Gb} {h h1 : Heap} {a b : Addr} {cs : List Int32} {C : String} {n : Nat} (S : Str G h b cs) (E : Exa G.Z h a C) (hC : C ≠ "java/lang/String") (wi : Wd G (.instantiable C n)) (K : Keep h h1 [a]) : Str G h1 b cs := by
  obtain ⟨t, kb, e1, e2, e3, e4⟩ := S
  have n1 : b ≠ a := fun q => (Exa.ne E e1 hC) q.symm
  have n2 : t ≠ a := (Exa.neArv E e4 wi).symm
  exact ⟨t, kb, e1.keep K, e2.keep K (ninS n1 nin0), e3.keep K (ninS n1 nin0), e4.keep K (ninS n2 nin0)⟩
end Jvm.OwnW
namespace Jvm.OwnW
theorem cmpL_self (x : Int64) : Jvm.Free.XT.cmpL x x = 0 := by simp [Jvm.Free.XT.cmpL]
end Jvm.OwnW
namespace Jvm.OwnW
open Sem ClassFile Op Lib Bundle Jvm.Stand Jvm.Free Jvm.LawKit Jvm.RoadKit
theorem rem3 (x : Int32) : (x &&& 3) % 3 = 0 ∨ (x &&& 3) % 3 = 1 ∨ (x &&& 3) % 3 = 2 := by
  have a := c_and x 3 (by decide)
  have b := (c_irem (x &&& 3) 3 3 (by decide)).1 a.1
  have e0 : (0 : Int32).toInt = 0 := by decide
  have e1 : (1 : Int32).toInt = 1 := by decide
  have e2 : (2 : Int32).toInt = 2 := by decide
  rcases (by omega : (x &&& 3).toInt % 3 = 0 ∨ (x &&& 3).toInt % 3 = 1 ∨ (x &&& 3).toInt % 3 = 2) with q | q | q
  · exact Or.inl (Int32.toInt_inj.mp (by rw [b, q, e0]))
  · exact Or.inr (Or.inl (Int32.toInt_inj.mp (by rw [b, q, e1])))
  · exact Or.inr (Or.inr (Int32.toInt_inj.mp (by rw [b, q, e2])))
theorem tok_fin {r kk s : Int32} {A B C : Prop} (sp : (r = 1 ∧ A ∧ B) ∨ (r = 0 ∧ ¬ (A ∧ B))) (hk : (kk = 1 ∧ C) ∨ (kk = 0 ∧ ¬ C)) (hs : (s = 1 ∧ B) ∨ (s = 0 ∧ ¬ B)) (hc : A ↔ C) : r = if kk = 0 then 0 else if s = 0 then 0 else 1 := by
  rcases hk with ⟨rfl, c⟩ | ⟨rfl, c⟩
  · rcases hs with ⟨rfl, b⟩ | ⟨rfl, b⟩
    · rcases sp with ⟨u, -⟩ | ⟨-, u⟩
      · rw [u]; simp
      · exact absurd ⟨hc.mpr c, b⟩ u
    · rcases sp with ⟨-, -, u⟩ | ⟨u, -⟩
      · exact absurd u b
      · rw [u]; simp
  · rcases sp with ⟨-, u, -⟩ | ⟨u, -⟩
    · exact absurd (hc.mp u) c
    · rw [u]; simp
/-- the text that a maker of Strings of up to two chars makes -/
def Mk2 (n c0 c1 : Int32) (cs : List Int32) : Prop := (n = 0 ∧ cs = []) ∨ (¬ n = 0 ∧ n = 1 ∧ cs = [c0]) ∨ (¬ n = 0 ∧ ¬ n = 1 ∧ cs = [c0, c1])
theorem Mk2.zero {c0 c1 : Int32} {cs : List Int32} (q : Mk2 0 c0 c1 cs) : cs = [] := by rcases q with ⟨-, q⟩ | ⟨q, -⟩ | ⟨q, -⟩ <;> first | exact q | exact absurd rfl q
theorem Mk2.one {c0 c1 : Int32} {cs : List Int32} (q : Mk2 1 c0 c1 cs) : cs = [c0] := by rcases q with ⟨q, -⟩ | ⟨-, -, q⟩ | ⟨-, q, -⟩ <;> first | exact q | exact absurd rfl q | exact absurd q (by decide)
theorem Mk2.two {c0 c1 : Int32} {cs : List Int32} (q : Mk2 2 c0 c1 cs) : cs = [c0, c1] := by rcases q with ⟨q, -⟩ | ⟨-, q, -⟩ | ⟨-, -, q⟩ <;> first | exact q | exact absurd q (by decide)
/-- two such texts -/
theorem Mk2.same {n m c0 c1 d0 d1 : Int32} {cs ds : List Int32} (hn : n = 0 ∨ n = 1 ∨ n = 2) (hm : m = 0 ∨ m = 1 ∨ m = 2) (q : Mk2 n c0 c1 cs) (r : Mk2 m d0 d1 ds) : cs = ds ↔ (n = m ∧ (n < 1 ∨ c0 = d0) ∧ (n < 2 ∨ c1 = d1)) := by
  rcases hn with rfl | rfl | rfl <;> rcases hm with rfl | rfl | rfl <;> (first | rw [q.zero] | rw [q.one] | rw [q.two]) <;> (first | rw [r.zero] | rw [r.one] | rw [r.two]) <;> simp
end Jvm.OwnW
namespace Jvm.OwnW
open Sem ClassFile Op Lib Bundle Jvm.Stand Jvm.Free Jvm.LawKit Jvm.RoadKit
theorem nar_ii {c : Int32} (q : ¬ c < 0 ∧ ¬ (255 : Int32) < c) : nar .char c.toUInt32.toUInt16.toUInt32.toInt32 = c := by
  have e : c.toUInt32.toUInt16.toUInt32.toInt32 = c := nar_id q
  rw [e]; exact nar_id q
theorem x8_lat (x y : Int32) : ¬ ((x &&& 255) ^^^ (y &&& 255)) < 0 ∧ ¬ (255 : Int32) < ((x &&& 255) ^^^ (y &&& 255)) := by
  have e : (x &&& 255) ^^^ (y &&& 255) = (x ^^^ y) &&& 255 := by
    apply Int32.toBitVec_inj.mp
    simp only [Int32.toBitVec_xor, Int32.toBitVec_and]
    apply BitVec.eq_of_getLsbD_eq
    intro i hi
    simp only [BitVec.getLsbD_and, BitVec.getLsbD_xor]
    cases x.toBitVec.getLsbD i <;> cases y.toBitVec.getLsbD i <;> cases (255 : Int32).toBitVec.getLsbD i <;> rfl
  rw [e]; exact c8_lat _
/-- a class under Object alone can't be cast to another one that is no interface -/
theorem noCast {G : Gb} {C O K : String} {n : Nat} (w : Wd G (.superclass C O)) (w0 : Wd G (.noSuperclass O)) (wi : Wd G (.instantiable K n)) (h1 : C ≠ K) (h2 : O ≠ K) : ∃ c t, G.Z.vm.findClass C = some c ∧ G.Z.vm.findClass K = some t ∧ G.Z.vm.assignable c t = false := by
  obtain ⟨c, hc⟩ := found_sup w
  obtain ⟨p, k, kp, a1, a2, a3, a4, a5, -, a7⟩ := Cond.superclass_spec hc w
  obtain ⟨o, ko, b1, b2, b3, -, -⟩ := Cond.noSuperclass_spec w0
  cases b1.symm.trans a1
  obtain ⟨t, kt, c1, c2, c3, c4, c5, -⟩ := Cond.instantiable_spec wi
  have n1 := ids_ne hc c1 h1
  have n2 := ids_ne b1 c1 h2
  have c4' := (Bool.or_eq_false_iff.mp c4).1
  refine ⟨c, t, hc, c1, ?_⟩
  show G.Z.vm.assignableAux (255 + 1) c t = false
  simp [Vm.assignableAux, n1, a2, c2, a5, c3, c4', Vm.isSubclass, Vm.isSubclassAux, a4]
  generalize G.Z.vm.classes.size = f
  cases f <;> simp [Vm.isSubclassAux, n2, b2, b3]
end Jvm.OwnW
namespace Jvm.OwnW
open Jvm.RoadKit
theorem fld_apart {args : Array Value} {s : State} {t u : Term} {C n d : String} {a b : Addr} {i j : Value} (e1 : t.eval args s none [] s = some (.ref a)) (e2 : u.eval args s none [] s = some (.ref b)) (f1 : (Term.field t C n d).eval args s none [] s = some i) (f2 : (Term.field u C n d).eval args s none [] s = some j) (q : i ≠ j) : a ≠ b := fun e => by
  subst e
  rw [fld_at e1] at f1
  rw [fld_at e2] at f2
  exact q (Option.some.inj (f1.symm.trans f2))
end Jvm.OwnW
namespace Jvm.OwnW
open Sem ClassFile Op Lib Bundle Jvm.Stand Jvm.Free Jvm.LawKit Jvm.RoadKit
section More
variable {G : Gb} {B : Cx} {M : Mt} {R : Room} {Q : Option Value → Heap → (Addr → Prop) → Prop} {h : Heap} {sf : List Addr} {cells slots pc : Nat} {Ls : Array Slot} {st : List Value}
theorem sameM {y z : MethodName} {C : String} (wd : Wd G (.declares y)) (ws : Wd G (.selects C z z)) (hc : y.cls = z.cls) (hy : y.cls ≠ "java/lang/invoke/MethodHandle" ∧ y.cls ≠ "java/lang/invoke/VarHandle") : Wd G (.sameMethod y.cls y.cls y.name y.desc) := by
  obtain ⟨r0, r, hn, -⟩ := Cond.declares_spec wd
  obtain ⟨c2, r2, m2, q1, q2, q3, q4, kP, hkP, hkPi⟩ := Cond.selects_spec ws
  have e1 := findClass_of_methodNamed hn
  have e2 := findClass_of_methodNamed q3
  rw [← hc] at e2
  have e3 : m2.cls = r0.cls := Option.some.inj (e2.symm.trans e1)
  have e4 := State.methodFound?_of_named hn hy
  have e5 : G.Z.methodNamed? ⟨y.cls, y.name, y.desc⟩ = some r0 := hn
  rw [e3] at hkP
  show (Jvm.Cond.sameMethod y.cls y.cls y.name y.desc).before G.a0 G.Z = true
  simp [Cond.before, Cond.holds, Cond.value, e1, e4, e5, hkP, hkPi]
/-- a method's class is no interface, told by another method of it -/
theorem nfO {C : String} {y z : MethodName} {s : State} (w : Wd G (.selects C z z)) (hc : y.cls = z.cls) : ∀ vm0 : Vm, G.Z.Warmed39 vm0 → NotFace (s.setVm vm0) y := fun vm0 hZ r0 h0 => by
  obtain ⟨c2, r2, m2, q1, q2, q3, q4, kP, hkP, hkPi⟩ := Cond.selects_spec (mv (s := s.setVm vm0) (args := #[]) hZ w)
  have e1 := findClass_of_methodNamed h0
  have e2 := findClass_of_methodNamed q3
  rw [hc] at e1
  have e3 : m2.cls = r0.cls := Option.some.inj (e2.symm.trans e1)
  exact ⟨kP, by rw [← e3]; exact hkP, hkPi⟩
theorem go_superN (K : Kd G B M) {k ix : Nat} {y : MethodName} {bytes : ByteArray} {maxL : Nat} {ret : Option FieldType} {rm : Room} {C : String} {a : Addr} {argsL rest : List Value} {ps : List FieldType} {rt : Option FieldType} {sf' : List Addr} {Qc : Option Value → Heap → (Addr → Prop) → Prop} (hd : M.P[k]? = some (pc, .invokespecial ix, 3))
    (w1 : Wd G (.methodLink M.own ix y)) (w2 : Wd G (.sameMethod y.cls y.cls y.name y.desc)) (w3 : Wd G (.instanceMethod y)) (w4 : Wd G (.superclass M.own y.cls)) (w5 : Wd G (.initialized y.cls)) (w6 : Wd G (.code y bytes maxL ret)) (hn : y.name ≠ "<init>") (pd : parseMethodDescriptor y.desc = some ⟨ps, rt⟩) (E : Exa G.Z h a C)
    (Ct : Ctr G [] y bytes maxL ret rm (.ref a :: argsL).toArray h sf' Qc) (hst : st = argsL.reverse ++ .ref a :: rest) (hlen : argsL.length = ps.length) (hsz : Ls.size = M.maxL) (hsub : ∀ x ∈ sf', x ∈ sf) (hrm : rok M.R rest maxL rm cells slots = true)
    (g : ∀ (v : Option Value) (h' : Heap) (Sf : Addr → Prop), h.size ≤ h'.size → Qc v h' Sf → ∃ nw : List Addr, (∀ x ∈ nw, Sf x) ∧ Go G B M Q h' (nw ++ sf) (cells + rm.cells) (slots + rm.slots) (pc + 3) Ls (v.toList ++ rest)) : Go G B M Q h sf cells slots pc Ls st := by
  intro T vm0 k0 locs W
  obtain ⟨r1, r2, r3, r4⟩ := rok_ok hrm
  obtain ⟨X, eT, hS, hk, hZ, hown, hF, hE, hC, hs⟩ := id W
  subst hst
  exact call_on W (superBackS X K.1 hZ hown w1 w2 w3 w4 hn (backG (W := (rest.map fun v => v.category).sum) Ct hZ w6 w5 r1 r2 K.2.2.2.2.2.2 hC.1 hE (fun x hx => hs x (hsub x hx))) eT (Ins.self E) (g := mkF B.m pc Ls (argsL.reverse ++ .ref a :: rest)) rfl (hsz.trans K.2.2.1.symm) w6 (argsL := argsL) (rest := rest) (lenOf pd hlen) rfl (by show 2 * 0 + _ ≤ _; omega) (K.dec hd) (fun vm₁ _ => ⟨rfl, eT, r3, r4⟩)) g
theorem go_super (K : Kd G B M) {k ix : Nat} {y : MethodName} {bytes : ByteArray} {maxL : Nat} {ret : Option FieldType} {rm : Room} {C : String} {a : Addr} {argsL rest : List Value} {ps : List FieldType} {rt : Option FieldType} {sf' : List Addr} {Qc : Option Value → Heap → (Addr → Prop) → Prop} (hd : M.P[k]? = some (pc, .invokespecial ix, 3))
    (w1 : Wd G (.methodLink M.own ix y)) (w2 : Wd G (.sameMethod y.cls y.cls y.name y.desc)) (w3 : Wd G (.instanceMethod y)) (w4 : Wd G (.superclass M.own y.cls)) (w5 : Wd G (.initialized y.cls)) (w6 : Wd G (.code y bytes maxL ret)) (hn : y.name ≠ "<init>") (pd : parseMethodDescriptor y.desc = some ⟨ps, rt⟩) (E : Exa G.Z h a C)
    (Ct : Ctr G [] y bytes maxL ret rm (.ref a :: argsL).toArray h sf' Qc) (hst : st = argsL.reverse ++ .ref a :: rest) (hlen : argsL.length = ps.length) (hsz : Ls.size = M.maxL) (hsub : ∀ x ∈ sf', x ∈ sf) (hrm : rok M.R rest maxL rm cells slots = true)
    (g : ∀ (v : Option Value) (h' : Heap) (Sf : Addr → Prop), h.size ≤ h'.size → Qc v h' Sf → Go G B M Q h' sf (cells + rm.cells) (slots + rm.slots) (pc + 3) Ls (v.toList ++ rest)) : Go G B M Q h sf cells slots pc Ls st :=
  go_superN K hd w1 w2 w3 w4 w5 w6 hn pd E Ct hst hlen hsz hsub hrm fun v h' Sf z q => ⟨[], (fun _ u => nomatch u), g v h' Sf z q⟩
/-- invokevirtual of a method that the receiver's class takes as it stands, the entry's own class declaring it: private ones too -/
theorem go_virt0N (K : Kd G B M) {k ix : Nat} {y : MethodName} {bytes : ByteArray} {maxL : Nat} {ret : Option FieldType} {rm : Room} {C : String} {a : Addr} {argsL rest : List Value} {ps : List FieldType} {rt : Option FieldType} {sf' : List Addr} {Qc : Option Value → Heap → (Addr → Prop) → Prop} (hd : M.P[k]? = some (pc, .invokevirtual ix, 3))
    (w1 : Wd G (.methodLink M.own ix y)) (w3 : Wd G (.selects C y y)) (w4 : Wd G (.instanceMethod y)) (w5 : Wd G (.initialized y.cls)) (w6 : Wd G (.code y bytes maxL ret)) (hy : y.cls ≠ "java/lang/invoke/MethodHandle" ∧ y.cls ≠ "java/lang/invoke/VarHandle") (pd : parseMethodDescriptor y.desc = some ⟨ps, rt⟩) (E : Exa G.Z h a C)
    (Ct : Ctr G [] y bytes maxL ret rm (.ref a :: argsL).toArray h sf' Qc) (hst : st = argsL.reverse ++ .ref a :: rest) (hlen : argsL.length = ps.length) (hsz : Ls.size = M.maxL) (hsub : ∀ x ∈ sf', x ∈ sf) (hrm : rok M.R rest maxL rm cells slots = true)
    (g : ∀ (v : Option Value) (h' : Heap) (Sf : Addr → Prop), h.size ≤ h'.size → Qc v h' Sf → ∃ nw : List Addr, (∀ x ∈ nw, Sf x) ∧ Go G B M Q h' (nw ++ sf) (cells + rm.cells) (slots + rm.slots) (pc + 3) Ls (v.toList ++ rest)) : Go G B M Q h sf cells slots pc Ls st := by
  intro T vm0 k0 locs W
  obtain ⟨r1, r2, r3, r4⟩ := rok_ok hrm
  obtain ⟨X, eT, hS, hk, hZ, hown, hF, hE, hC, hs⟩ := id W
  obtain ⟨cB, kB, i1, i2, cellB, i3, i4, i5⟩ := isOf (s := B.s.setVm vm0) hZ eT E
  subst hst
  have v3 : (Jvm.Cond.selects C y y).before B.as (B.s.setVm vm0) = true := mv hZ w3
  have v4 : (Jvm.Cond.instanceMethod y).before B.as (B.s.setVm vm0) = true := mv hZ w4
  have v6 : (Jvm.Cond.code y bytes maxL ret).before B.as (B.s.setVm vm0) = true := mv hZ w6
  obtain ⟨mk, methM, hnamed, hmethM, hstM, habM⟩ := Cond.instanceMethod_spec v4
  obtain ⟨methM', cM, hmethM', -, -, -, -, -, -, hsigM⟩ := Cond.code_spec hnamed v6
  cases hmethM.symm.trans hmethM'
  obtain ⟨c2, r2', m2, q1, q2, q3, q4, kP, hkP, hkPi⟩ := Cond.selects_spec v3
  cases i1.symm.trans q1
  cases (State.methodFound?_of_named hnamed hy).symm.trans q2
  cases hnamed.symm.trans q3
  have hselP : selectMethod B.e.platform (B.s.setVm vm0).vm cellB.cls mk = .method mk := by rw [Launch.admits_selectMethod X.admits, i4]; exact q4
  have hlen' : ∀ sig, parseMethodDescriptor y.desc = some sig → argsL.length = sig.parameters.length := lenOf pd hlen
  have hK := backG (R := M.R) (p := B.p) (e := B.e) (below := B.bl) (s := B.s) (args := B.as) (len := 3) (W := (rest.map fun v => v.category).sum) Ct hZ w6 w5 r1 r2 K.2.2.2.2.2.2 hC.1 hE (fun x hx => hs x (hsub x hx))
  refine call_on W ?_ g
  obtain ⟨vm₁, X₁, hstep₁⟩ := X.invokevirtual K.1 hown (mv hZ w1) hnamed hmethM hstM hkP hkPi hy (a := a) (cell := cellB) i3 (fun z u => by rw [u] at i5; cases i5) hselP hmethM habM hkP hkPi (g := mkF B.m pc Ls (argsL.reverse ++ .ref a :: rest)) rfl (argsL := argsL) (rest := rest) (hlen' _ hsigM) rfl (K.dec hd)
  obtain ⟨v, A, X', hS', hgr, hpost, hsteps⟩ := hK B.m B.mt B.c ⟨T.setVm vm₁, locs, cells, slots⟩ { mkF B.m pc Ls (argsL.reverse ++ .ref a :: rest) with stack := rest } (.invokevirtual ix) mk (.ref a :: argsL).toArray X₁ rfl (hsz.trans K.2.2.1.symm) (K.dec hd) (by show 2 * 0 + (rest.map fun v => v.category).sum ≤ _; omega) (X₁.named hnamed) ⟨rfl, eT, r3, r4⟩
  exact ⟨v, vm₁, A, X₁.warmed, X', hS', hgr, hpost, (hstep₁ _ fun acts => by rw [doInvoke_state]; exact Steps.refl _).trans hsteps⟩
theorem go_virt0 (K : Kd G B M) {k ix : Nat} {y : MethodName} {bytes : ByteArray} {maxL : Nat} {ret : Option FieldType} {rm : Room} {C : String} {a : Addr} {argsL rest : List Value} {ps : List FieldType} {rt : Option FieldType} {sf' : List Addr} {Qc : Option Value → Heap → (Addr → Prop) → Prop} (hd : M.P[k]? = some (pc, .invokevirtual ix, 3))
    (w1 : Wd G (.methodLink M.own ix y)) (w3 : Wd G (.selects C y y)) (w4 : Wd G (.instanceMethod y)) (w5 : Wd G (.initialized y.cls)) (w6 : Wd G (.code y bytes maxL ret)) (hy : y.cls ≠ "java/lang/invoke/MethodHandle" ∧ y.cls ≠ "java/lang/invoke/VarHandle") (pd : parseMethodDescriptor y.desc = some ⟨ps, rt⟩) (E : Exa G.Z h a C)
    (Ct : Ctr G [] y bytes maxL ret rm (.ref a :: argsL).toArray h sf' Qc) (hst : st = argsL.reverse ++ .ref a :: rest) (hlen : argsL.length = ps.length) (hsz : Ls.size = M.maxL) (hsub : ∀ x ∈ sf', x ∈ sf) (hrm : rok M.R rest maxL rm cells slots = true)
    (g : ∀ (v : Option Value) (h' : Heap) (Sf : Addr → Prop), h.size ≤ h'.size → Qc v h' Sf → Go G B M Q h' sf (cells + rm.cells) (slots + rm.slots) (pc + 3) Ls (v.toList ++ rest)) : Go G B M Q h sf cells slots pc Ls st :=
  go_virt0N K hd w1 w3 w4 w5 w6 hy pd E Ct hst hlen hsz hsub hrm fun v h' Sf z q => ⟨[], (fun _ u => nomatch u), g v h' Sf z q⟩
/-- System.arraycopy between arrays of one primitive kind -/
theorem go_arraycopy (K : Kd G B M) {k ix : Nat} {a b : Addr} {kA kB : ClassId} {ty : FieldType} {z z' sp dp nn : Int32} {vs vd us : List Value} {dv dd : Value} (hd : M.P[k]? = some (pc, .invokestatic ix, 3))
    (w1 : Wd G (.methodLink M.own ix Jvm.Stand.acN)) (w2 : Wd G (.native Jvm.Stand.acN)) (w3 : Wd G (.static Jvm.Stand.acN)) (w4 : Wd G (.initialized "java/lang/System")) (A : Arv G.Z h a kA ty z vs dv) (A' : Arv G.Z h b kB ty z' vd dd) (hp : refKind ty = false)
    (h1 : ¬ sp < 0) (h2 : ¬ dp < 0) (h3 : ¬ nn < 0) (h4 : sp.toNatClampNeg + nn.toNatClampNeg ≤ z.toNatClampNeg) (h5 : dp.toNatClampNeg + nn.toNatClampNeg ≤ z'.toNatClampNeg)
    (hus : us = (List.range nn.toNatClampNeg).map fun i => vs.getD (sp.toNatClampNeg + i) dv) (hl : dp.toNatClampNeg + nn.toNatClampNeg ≤ vd.length) (ge : G.Z.heap.size ≤ b) (hsf : b ∈ sf ∨ ty ≠ .byte) (hsz : Ls.size = M.maxL)
    (hf : Nat.ble 1 M.R.frames = true) (hlo : Nat.ble ((st.map fun v => v.category).sum + (nativeFrameWords "java/lang/System" "arraycopy" 5 + 11)) M.R.locals = true)
    (g : ∀ h' : Heap, Keep h h' [b] → Arv G.Z h' b kB ty z' (vd.take dp.toNatClampNeg ++ us ++ vd.drop (dp.toNatClampNeg + nn.toNatClampNeg)) dd → Go G B M Q h' sf cells slots (pc + 3) Ls st) : Go G B M Q h sf cells slots pc Ls (.int nn :: .int dp :: .ref b :: .int sp :: .ref a :: st) := by
  intro T vm0 k0 locs W
  obtain ⟨X, eT, hS, hk, hZ, hown, hF, hE, hC, hs⟩ := W
  have S : Safe G.Z G.EL vm0 h b := hsf.elim (fun q => (hs b q).1) (fun q => Safe.arv hZ.alike A' q)
  obtain ⟨T', h', L, X', e', N', K', A2, st'⟩ := cpA X K.1 hZ hown w1 w2 w3 w4 eT A A' (Or.inl ⟨rfl, hp⟩) h1 h2 h3 h4 h5 hus hl hF ge (g := mkF B.m pc Ls (.int nn :: .int dp :: .ref b :: .int sp :: .ref a :: st)) rfl (hsz.trans K.2.2.1.symm) rfl (K.dec hd) (Nat.le_of_ble_eq_true hf) (W := (st.map fun v => v.category).sum) (by show 2 * 0 + _ ≤ _; omega) (Nat.le_of_ble_eq_true hlo)
  have sa : ∀ x ∈ [b], Safe G.Z G.EL vm0 h x := allS S all0
  exact (g h' K' A2 T' vm0 k0 L ⟨X', e', hS, Nat.le_trans hk K'.1, hZ, hown, N', (Old.keep (n0 := G.Z.heap.size) ⟨rfl, hE⟩ K' (allS ge all0)).2, hC.trans (CHr.keep K' sa hC.1), fun x hx => ⟨Safe.keep K' sa hC.1 (hs x hx).1, Nat.lt_of_lt_of_le (hs x hx).2 K'.1⟩⟩).pre st'
end More
end Jvm.OwnW

namespace Jvm.Pilot.@@N@@
open Jvm Jvm.ClassFile Sem Op Lib Jvm.Free Jvm.Stand Jvm.LawKit Jvm.RoadKit Bundle Jvm.OwnW Jvm.Pilot.@@N@@.Jvm.D
abbrev els : List (String × Nat) := consts_1
theorem pd_0 : parseMethodDescriptor "([CI[BII)I" = some ⟨[(.array .char), .int, (.array .byte), .int, .int], (some .int)⟩ := by decide +kernel
theorem pd_1 : parseMethodDescriptor "([CII)[B" = some ⟨[(.array .char), .int, .int], (some (.array .byte))⟩ := by decide +kernel
theorem pd_2 : parseMethodDescriptor "([BI)B" = some ⟨[(.array .byte), .int], (some .byte)⟩ := by decide +kernel
theorem pd_3 : parseMethodDescriptor "([CIILjava/lang/Void;)V" = some ⟨[(.array .char), .int, .int, (.object "java/lang/Void")], none⟩ := by decide +kernel
theorem pd_4 : parseMethodDescriptor "([B[B)Z" = some ⟨[(.array .byte), (.array .byte)], (some .boolean)⟩ := by decide +kernel
theorem pd_5 : parseMethodDescriptor "()V" = some ⟨[], none⟩ := by decide +kernel
theorem pd_6 : parseMethodDescriptor "([C)V" = some ⟨[(.array .char)], none⟩ := by decide +kernel
theorem pd_7 : parseMethodDescriptor "(Ljava/lang/Object;)Z" = some ⟨[(.object "java/lang/Object")], (some .boolean)⟩ := by decide +kernel
theorem pd_8 : parseMethodDescriptor "(ICC)Ljava/lang/String;" = some ⟨[.int, .char, .char], (some (.object "java/lang/String"))⟩ := by decide +kernel
theorem pd_9 : parseMethodDescriptor "(I)Lcom/example/penelope/penelope/frontend/Lexer$Kind;" = some ⟨[.int], (some (.object "com/example/penelope/penelope/frontend/Lexer$Kind"))⟩ := by decide +kernel
theorem pd_10 : parseMethodDescriptor "(Lcom/example/penelope/penelope/frontend/Lexer$Kind;Ljava/lang/String;I)V" = some ⟨[(.object "com/example/penelope/penelope/frontend/Lexer$Kind"), (.object "java/lang/String"), .int], none⟩ := by decide +kernel
theorem pd_11 : parseMethodDescriptor "(Ljava/lang/String;)Z" = some ⟨[(.object "java/lang/String")], (some .boolean)⟩ := by decide +kernel
theorem pn_0 : plainName "java/lang/StringUTF16" = true := by first | (simp [plainName, overriddenIn]; done) | decide +kernel
def P_cfal : List (Nat × Instr × Nat) := [(0, .iload_n 1, 1), (1, .aload_n 0, 1), (2, .arraylength, 1), (3, .isub, 1), (4, .bipush 31, 2), (6, .iushr, 1), (7, .i2b, 1), (8, .ireturn, 1)]
theorem L_cfal : ∀ q ∈ P_cfal, decode jdk_52_method_15_code q.1 = .ok q.2 := by decide +kernel
def M_cfal : Mt := (("java/lang/StringUTF16", "coderFromArrayLen", ({ frames := 0, cells := 0, slots := 0, locals := 0 } : Room)), P_cfal, 2, (some .byte))
set_option maxRecDepth 65536 in
set_option maxHeartbeats 4000000 in
theorem c_cfal {G : Gb} (H : Gl tables_1 els G) {h : Heap} {t : Addr} {kb : ClassId} {n : Int32} {vs : List Value} {dv : Value} (A : Arv G.Z h t kb .byte n vs dv) :
    Ctr G [] (⟨"java/lang/StringUTF16", "coderFromArrayLen", "([BI)B"⟩ : MethodName) jdk_52_method_15_code 2 (some .byte) ({ frames := 0, cells := 0, slots := 0, locals := 0 } : Room) #[.ref t, .int n] h [] (fun v h' Sf => v = some (.int 0) ∧ h = h') := by
  refine ctr_of M_cfal rfl rfl (plainFor_of_name pn_0) L_cfal H.el (Ls := #[.val (.ref t), .val (.int n)]) (fun m => by first | rfl | (simp [entryFrame, mkF, argsToLocals, Value.category]; done)) ?_
  intro B K hE
  refine go_run K 0 2 (pc' := 2) (st' := [(.ref t), (.int n)]) rfl ?_
  refine go_arraylength K (k := 2) rfl A ?_
  refine go_run K 3 4 (pc' := 8) (st' := [(.int ((XT.ushr (n - n) (31 : Int32))).toInt8.toInt32)]) rfl ?_
  rw [show ((XT.ushr (n - n) (31 : Int32))).toInt8.toInt32 = (0 : Int32) from by rw [Int32.sub_self]; decide]
  refine go_ireturn K (k := 7) rfl rfl (by decide) rfl rfl rfl ?_
  intro Sf hSf
  exact ⟨rfl, rfl⟩
def P_cmp5 : List (Nat × Instr × Nat) := [(0, .iconst 0, 1), (1, .istore 5, 2), (3, .iload 5, 2), (5, .iload 4, 2), (7, .if_icmp .ge 37, 3), (10, .aload_n 0, 1), (11, .iload_n 1, 1), (12, .caload, 1), (13, .istore 6, 2), (15, .iload 6, 2), (17, .sipush 255, 3), (20, .if_icmp .le 6, 3), (23, .iload 5, 2), (25, .ireturn, 1), (26, .aload_n 2, 1), (27, .iload_n 3, 1), (28, .iload 6, 2), (30, .i2b, 1), (31, .bastore, 1), (32, .iinc 1 1, 3), (35, .iinc 3 1, 3), (38, .iinc 5 1, 3), (41, .goto (-38), 3), (44, .iload 4, 2), (46, .ireturn, 1)]
theorem L_cmp5 : ∀ q ∈ P_cmp5, decode jdk_52_method_21_code q.1 = .ok q.2 := by decide +kernel
def M_cmp5 : Mt := (("java/lang/StringUTF16", "compress", ({ frames := 0, cells := 0, slots := 0, locals := 0 } : Room)), P_cmp5, 7, (some .int))
set_option maxRecDepth 65536 in
set_option maxHeartbeats 4000000 in
theorem c_cmp5 {G : Gb} (H : Gl tables_1 els G) {h : Heap} {ca da : Addr} {kc kd : ClassId} {cs : List Int32} (hl : Lat cs) (Ac : Arv G.Z h ca kc .char cs.length.toInt32 (cs.map Value.int) (.int 0)) (Ad : Arv G.Z h da kd .byte cs.length.toInt32 (List.replicate cs.length (.int 0)) (.int 0)) (hd : G.Z.heap.size ≤ da) :
    Ctr G [] (⟨"java/lang/StringUTF16", "compress", "([CI[BII)I"⟩ : MethodName) jdk_52_method_21_code 7 (some .int) ({ frames := 0, cells := 0, slots := 0, locals := 0 } : Room) #[.ref ca, .int 0, .ref da, .int 0, .int cs.length.toInt32] h [da] (fun v h' Sf => v = some (.int cs.length.toInt32) ∧ Keep h h' [da] ∧ Arv G.Z h' da kd .byte cs.length.toInt32 (by8 cs) (.int 0)) := by
  refine ctr_of M_cmp5 rfl rfl (plainFor_of_name pn_0) L_cmp5 H.el (Ls := #[.val (.ref ca), .val (.int (0 : Int32)), .val (.ref da), .val (.int (0 : Int32)), .val (.int cs.length.toInt32), .unset, .unset]) (fun m => by first | rfl | (simp [entryFrame, mkF, argsToLocals, Value.category]; done)) ?_
  intro B K hE
  have hlt := lat_lt hl
  refine go_run K 0 2 (pc' := 3) (Ls' := #[.val (.ref ca), .val (.int (0 : Int32)), .val (.ref da), .val (.int (0 : Int32)), .val (.int cs.length.toInt32), .val (.int (0 : Int32)), .unset]) (st' := []) rfl ?_
  have loop : ∀ (k i : Nat) (h1 : Heap) (o : Slot), i + k = cs.length → Keep h h1 [da] → Arv G.Z h1 ca kc .char cs.length.toInt32 (cs.map Value.int) (.int 0) → Arv G.Z h1 da kd .byte cs.length.toInt32 (by8 (cs.take i) ++ List.replicate k (.int 0)) (.int 0) → (o = .unset ∨ ∃ w, o = .val (.int w)) →
      Go G B M_cmp5 (fun v h' Sf => v = some (.int cs.length.toInt32) ∧ Keep h h' [da] ∧ Arv G.Z h' da kd .byte cs.length.toInt32 (by8 cs) (.int 0)) h1 [da] 0 0 3 #[.val (.ref ca), .val (.int i.toInt32), .val (.ref da), .val (.int i.toInt32), .val (.int cs.length.toInt32), .val (.int i.toInt32), o] [] := by
    intro k; induction k with
    | zero =>
      intro i h1 o hi hK Ac Ad ho
      refine go_run K 2 2 (pc' := 7) (st' := [(.int cs.length.toInt32), (.int i.toInt32)]) rfl ?_
      refine go_icmpge K (k := 4) rfl (pc' := 44) (by decide) (fun _ => ?_) (fun q => absurd q (len_nlt (by omega) (by omega)))
      refine go_run K 23 1 (pc' := 46) (st' := [(.int cs.length.toInt32)]) rfl ?_
      refine go_ireturn K (k := 24) rfl rfl (by decide) rfl rfl rfl ?_
      intro Sf hSf
      refine ⟨rfl, hK, ?_⟩
      rw [List.replicate_zero, List.append_nil, List.take_of_length_le (by omega)] at Ad
      exact Ad
    | succ k ih =>
      intro i h1 o hi hK Ac Ad ho
      have hin : i < cs.length := by omega
      have hc := hl.2 _ (List.getElem_mem hin)
      refine go_run K 2 2 (pc' := 7) (st' := [(.int cs.length.toInt32), (.int i.toInt32)]) rfl ?_
      refine go_icmpge K (k := 4) rfl (pc' := 44) (by decide) (fun q => absurd (len_lt hlt hin) q) (fun _ => ?_)
      refine go_run K 5 2 (pc' := 12) (st' := [(.int i.toInt32), (.ref ca)]) rfl ?_
      refine go_caload K (k := 7) rfl Ac ⟨len_nn (by omega), len_lt hlt hin⟩ (v := .int cs[i]) (by rw [len_nat (by omega)]; exact get_map hin) ?_
      obtain rfl | ⟨w0, rfl⟩ := ho
      all_goals
        refine go_run K 8 3 (pc' := 20) (Ls' := #[.val (.ref ca), .val (.int i.toInt32), .val (.ref da), .val (.int i.toInt32), .val (.int cs.length.toInt32), .val (.int i.toInt32), .val (.int cs[i])]) (st' := [(.int (255 : Int32)), (.int cs[i])]) rfl ?_
        refine go_icmple K (k := 11) rfl (pc' := 26) (by decide) (fun _ => ?_) (fun q => absurd q hc.2)
        refine go_run K 14 4 (pc' := 31) (st' := [(.int (cs[i]).toInt8.toInt32), (.int i.toInt32), (.ref da)]) rfl ?_
        refine go_bastore K (k := 18) rfl Ad (i := i) ⟨len_nn (by omega), len_lt hlt hin⟩ (len_nat (by omega)) (by rw [List.length_append, by8_len, List.length_take, List.length_replicate]; omega) hd (List.mem_cons_self ..) ?_
        intro h1 W2 A3
        refine go_run K 19 4 (pc' := 3) (Ls' := #[.val (.ref ca), .val (.int (i.toInt32 + Int32.ofInt 1)), .val (.ref da), .val (.int (i.toInt32 + Int32.ofInt 1)), .val (.int cs.length.toInt32), .val (.int (i.toInt32 + Int32.ofInt 1)), .val (.int cs[i])]) (st' := []) rfl ?_
        rw [len_succ i]
        refine ih (i + 1) h1 _ (by omega) (hK.wr W2 (Or.inl (List.mem_cons_self ..))) (Ac.other W2 (Arv.ty_ne Ac Ad (by decide))) ?_ (Or.inr ⟨_, rfl⟩)
        rw [set_by8 hin] at A3
        exact A3
  exact loop cs.length 0 h .unset (by omega) (Keep.refl _ _) Ac Ad (Or.inl rfl)
def P_cmp3 : List (Nat × Instr × Nat) := [(0, .iload_n 2, 1), (1, .newarray .byte, 2), (3, .astore_n 3, 1), (4, .aload_n 0, 1), (5, .iload_n 1, 1), (6, .aload_n 3, 1), (7, .iconst 0, 1), (8, .iload_n 2, 1), (9, .invokestatic 115, 3), (12, .istore 4, 2), (14, .iload 4, 2), (16, .iload_n 2, 1), (17, .if_icmp .eq 40, 3), (20, .aload_n 0, 1), (21, .iload_n 1, 1), (22, .iload_n 2, 1), (23, .invokestatic 119, 3), (26, .astore 5, 2), (28, .aload 5, 2), (30, .iload 4, 2), (32, .invokestatic 71, 3), (35, .sipush 255, 3), (38, .if_icmp .gt 16, 3), (41, .aload 5, 2), (43, .iconst 0, 1), (44, .aload_n 3, 1), (45, .iconst 0, 1), (46, .iload_n 2, 1), (47, .invokestatic 123, 3), (50, .iload_n 2, 1), (51, .if_icmp .eq 6, 3), (54, .aload 5, 2), (56, .areturn, 1), (57, .aload_n 3, 1), (58, .areturn, 1)]
theorem L_cmp3 : ∀ q ∈ P_cmp3, decode jdk_52_method_16_code q.1 = .ok q.2 := by decide +kernel
def M_cmp3 : Mt := (("java/lang/StringUTF16", "compress", ({ frames := 1, cells := 1, slots := 2, locals := 18 } : Room)), P_cmp3, 6, (some (.array .byte)))
set_option maxRecDepth 65536 in
set_option maxHeartbeats 4000000 in
theorem c_cmp3 {G : Gb} (H : Gl tables_1 els G) {h : Heap} {ca : Addr} {kc : ClassId} {cs : List Int32} (hl : Lat cs) (hcap : cs.length ≤ 2) (Ac : Arv G.Z h ca kc .char cs.length.toInt32 (cs.map Value.int) (.int 0)) :
    Ctr G [] (⟨"java/lang/StringUTF16", "compress", "([CII)[B"⟩ : MethodName) jdk_52_method_16_code 6 (some (.array .byte)) ({ frames := 1, cells := 1, slots := 2, locals := 18 } : Room) #[.ref ca, .int 0, .int cs.length.toInt32] h [] (fun v h' Sf => ∃ (t : Addr) (kb : ClassId), v = some (.ref t) ∧ Ext h h' ∧ Arv G.Z h' t kb .byte cs.length.toInt32 (by8 cs) (.int 0) ∧ G.Z.heap.size ≤ t) := by
  refine ctr_of M_cmp3 rfl rfl (plainFor_of_name pn_0) L_cmp3 H.el (Ls := #[.val (.ref ca), .val (.int (0 : Int32)), .val (.int cs.length.toInt32), .unset, .unset, .unset]) (fun m => by first | rfl | (simp [entryFrame, mkF, argsToLocals, Value.category]; done)) ?_
  intro B K hE
  have hlt := lat_lt hl
  refine go_run K 0 1 (pc' := 1) (st' := [(.int cs.length.toInt32)]) rfl ?_
  refine go_newarray K (k := 1) rfl (H.w 24 rfl) (len_nn hlt) (cap := 2) (by rw [len_nat hlt]; exact hcap) rfl rfl rfl ?_
  intro h2 a1 k3 e4 g5 E6 A7
  have A7' : Arv G.Z h2 a1 k3 .byte cs.length.toInt32 (List.replicate cs.length (.int 0)) (.int 0) := Arv.pad A7 (pad_rep [] _ _)
  refine go_run K 2 6 (pc' := 9) (Ls' := #[.val (.ref ca), .val (.int (0 : Int32)), .val (.int cs.length.toInt32), .val (.ref a1), .unset, .unset]) (st' := [(.int cs.length.toInt32), (.int (0 : Int32)), (.ref a1), (.int (0 : Int32)), (.ref ca)]) rfl ?_
  have c8 := (Ac.ext E6)
  refine go_static K (k := 8) rfl (H.w 25 rfl) (H.w 26 rfl) (H.w 22 rfl) (H.w 27 rfl) (by decide) pd_0 (c_cmp5 (cs := cs) H hl c8 A7' g5) (argsL := [(.ref ca), (.int (0 : Int32)), (.ref a1), (.int (0 : Int32)), (.int cs.length.toInt32)]) (rest := []) rfl rfl rfl (subS (List.mem_cons_self ..) sub0) rfl ?_
  rintro _ h9 _ - ⟨rfl, K10, A11⟩
  show Go G B M_cmp3 _ h9 (a1 :: []) 1 2 12 #[.val (.ref ca), .val (.int (0 : Int32)), .val (.int cs.length.toInt32), .val (.ref a1), .unset, .unset] [(.int cs.length.toInt32)]
  refine go_run K 9 3 (pc' := 17) (Ls' := #[.val (.ref ca), .val (.int (0 : Int32)), .val (.int cs.length.toInt32), .val (.ref a1), .val (.int cs.length.toInt32), .unset]) (st' := [(.int cs.length.toInt32), (.int cs.length.toInt32)]) rfl ?_
  refine go_icmpeq K (k := 12) rfl (pc' := 57) (by decide) (fun _ => ?_) (fun q => absurd rfl q)
  refine go_run K 33 1 (pc' := 58) (st' := [(.ref a1)]) rfl ?_
  have X12 : Ext h h9 := (Ext.keepN E6 K10 (allS (Nat.le_trans (Nat.le_refl _) (Nat.le_of_eq e4.symm)) all0))
  refine go_areturn K (k := 34) rfl rfl rfl rfl rfl rfl rfl ?_
  intro Sf hSf
  exact ⟨_, _, rfl, X12, A11, g5⟩
theorem pn_1 : plainName "java/lang/String" = true := by first | (simp [plainName, overriddenIn]; done) | decide +kernel
def P_si4 : List (Nat × Instr × Nat) := [(0, .aload_n 0, 1), (1, .invokespecial 1, 3), (4, .iload_n 3, 1), (5, .ifCond .ne 22, 3), (8, .aload_n 0, 1), (9, .ldc 7, 2), (11, .getfield 9, 3), (14, .putfield 9, 3), (17, .aload_n 0, 1), (18, .ldc 7, 2), (20, .getfield 15, 3), (23, .putfield 15, 3), (26, .return_, 1), (27, .getstatic 38, 3), (30, .ifCond .eq 28, 3), (33, .aload_n 1, 1), (34, .iload_n 2, 1), (35, .iload_n 3, 1), (36, .invokestatic 177, 3), (39, .astore 5, 2), (41, .aload_n 0, 1), (42, .aload 5, 2), (44, .iload_n 3, 1), (45, .invokestatic 47, 3), (48, .putfield 15, 3), (51, .aload_n 0, 1), (52, .aload 5, 2), (54, .putfield 9, 3), (57, .return_, 1), (58, .aload_n 0, 1), (59, .iconst 1, 1), (60, .putfield 15, 3), (63, .aload_n 0, 1), (64, .aload_n 1, 1), (65, .iload_n 2, 1), (66, .iload_n 3, 1), (67, .invokestatic 180, 3), (70, .putfield 9, 3), (73, .return_, 1)]
theorem L_si4 : ∀ q ∈ P_si4, decode jdk_42_method_149_code q.1 = .ok q.2 := by decide +kernel
def M_si4 : Mt := (("java/lang/String", "<init>", ({ frames := 2, cells := 4, slots := 8, locals := 35 } : Room)), P_si4, 6, none)
set_option maxRecDepth 65536 in
set_option maxHeartbeats 4000000 in
theorem c_si4 {G : Gb} (H : Gl tables_1 els G) {h : Heap} {a ca : Addr} {kc : ClassId} {cs : List Int32} (hl : Lat cs) (hcap : cs.length ≤ 2) (E0 : Exa G.Z h a "java/lang/String") (V0 : Fld G.Z h a "java/lang/String" "value" "[B" .null) (C0 : Fld G.Z h a "java/lang/String" "coder" "B" (.int 0)) (g0 : G.Z.heap.size ≤ a) (Ac : Arv G.Z h ca kc .char cs.length.toInt32 (cs.map Value.int) (.int 0)) :
    Ctr G [] (⟨"java/lang/String", "<init>", "([CIILjava/lang/Void;)V"⟩ : MethodName) jdk_42_method_149_code 6 none ({ frames := 2, cells := 4, slots := 8, locals := 35 } : Room) #[.ref a, .ref ca, .int 0, .int cs.length.toInt32, .null] h [a] (fun v h' Sf => v = none ∧ Keep h h' [a] ∧ Str G h' a cs) := by
  refine ctr_of M_si4 rfl rfl (plainFor_of_name pn_1) L_si4 H.el (Ls := #[.val (.ref a), .val (.ref ca), .val (.int (0 : Int32)), .val (.int cs.length.toInt32), .val .null, .unset]) (fun m => by first | rfl | (simp [entryFrame, mkF, argsToLocals, Value.category]; done)) ?_
  intro B K hE
  have hlt := lat_lt hl
  obtain ⟨cz, hcs, hcz⟩ := H.cs
  refine go_run K 0 1 (pc' := 1) (st' := [(.ref a)]) rfl ?_
  refine go_init0 K (k := 1) rfl (H.w 16 rfl) (H.w 17 rfl) (H.w 18 rfl) rfl rfl rfl ?_
  refine go_run K 2 1 (pc' := 5) (st' := [(.int cs.length.toInt32)]) rfl ?_
  refine go_ifne K (k := 3) rfl (pc' := 27) (by decide) (fun hne1 => ?_) (fun hz2 => ?_)
  · refine go_getstatic K (k := 13) rfl (host := "") (Or.inl (H.w 19 rfl)) Via.refl hcs ?_
    refine go_ifeq K (k := 14) rfl (pc' := 58) (by decide) (fun q => absurd q hcz) (fun _ => ?_)
    refine go_run K 15 3 (pc' := 36) (st' := [(.int cs.length.toInt32), (.int (0 : Int32)), (.ref ca)]) rfl ?_
    refine go_static K (k := 18) rfl (H.w 20 rfl) (H.w 21 rfl) (H.w 22 rfl) (H.w 23 rfl) (by decide) pd_1 (c_cmp3 (cs := cs) H hl hcap Ac) (argsL := [(.ref ca), (.int (0 : Int32)), (.int cs.length.toInt32)]) (rest := []) rfl rfl rfl sub0 rfl ?_
    rintro _ h28 _ - ⟨t29, k30, rfl, E31, A32, g33⟩
    show Go G B M_si4 _ h28 (a :: []) 1 2 39 #[.val (.ref a), .val (.ref ca), .val (.int (0 : Int32)), .val (.int cs.length.toInt32), .val .null, .unset] [(.ref t29)]
    refine go_run K 19 4 (pc' := 45) (Ls' := #[.val (.ref a), .val (.ref ca), .val (.int (0 : Int32)), .val (.int cs.length.toInt32), .val .null, .val (.ref t29)]) (st' := [(.int cs.length.toInt32), (.ref t29), (.ref a)]) rfl ?_
    refine go_static K (k := 23) rfl (H.w 28 rfl) (H.w 29 rfl) (H.w 22 rfl) (H.w 30 rfl) (by decide) pd_2 (c_cfal H A32) (argsL := [(.ref t29), (.int cs.length.toInt32)]) (rest := [(.ref a)]) rfl rfl rfl sub0 rfl ?_
    rintro _ _ _ - ⟨rfl, rfl⟩
    show Go G B M_si4 _ h28 (a :: []) 1 2 48 #[.val (.ref a), .val (.ref ca), .val (.int (0 : Int32)), .val (.int cs.length.toInt32), .val .null, .val (.ref t29)] [(.int (0 : Int32)), (.ref a)]
    have c34 := (C0.ext E31)
    have c35 := (E0.ext E31)
    refine go_putfield K (k := 24) rfl (host := "") (Or.inl (H.w 31 rfl)) Via.refl c34 c35 (Or.inr ⟨(H.w 32 rfl), rfl, rfl⟩) (H.w 6 rfl) (ty := .byte) (by decide) rfl rfl g0 (Or.inl (List.mem_cons_self ..)) ?_
    intro h36 W37
    have c38 := (V0.ext E31)
    have F39 : Exa G.Z h36 a "java/lang/String" := Exa.wr W37 c35
    have F40 : Fld G.Z h36 a "java/lang/String" "value" "[B" .null := Fld.other W37 c38 (Or.inr (slot_ne (Or.inr (H.w 34 rfl)) (Or.inr (H.w 32 rfl)) (by decide) (t := (.array .byte)) (t' := .byte) (by decide) (by decide)))
    have F41 : Fld G.Z h36 a "java/lang/String" "coder" "B" (.int (0 : Int32)) := Fld.same W37 c34
    refine go_run K 25 2 (pc' := 54) (st' := [(.ref t29), (.ref a)]) rfl ?_
    refine go_putfield K (k := 27) rfl (host := "") (Or.inl (H.w 33 rfl)) Via.refl F40 F39 (Or.inr ⟨(H.w 34 rfl), rfl, rfl⟩) (H.w 6 rfl) (ty := (.array .byte)) (by decide) rfl rfl g0 (Or.inl (List.mem_cons_self ..)) ?_
    intro h42 W43
    have F44 : Exa G.Z h42 a "java/lang/String" := Exa.wr W43 F39
    have F45 : Fld G.Z h42 a "java/lang/String" "value" "[B" (.ref t29) := Fld.same W43 F40
    have F46 : Fld G.Z h42 a "java/lang/String" "coder" "B" (.int (0 : Int32)) := Fld.other W43 F41 (Or.inr (slot_ne (Or.inr (H.w 32 rfl)) (Or.inr (H.w 34 rfl)) (by decide) (t := .byte) (t' := (.array .byte)) (by decide) (by decide)))
    have c47 := (Arv.other (Arv.other A32 W37 (Exa.neArv c35 A32 (H.w 6 rfl)).symm) W43 (Exa.neArv F39 (Arv.other A32 W37 (Exa.neArv c35 A32 (H.w 6 rfl)).symm) (H.w 6 rfl)).symm)
    refine go_return K (k := 28) rfl rfl rfl rfl ?_
    intro Sf hSf
    exact ⟨rfl, ((((Keep.refl _ [a]).ext E31).wr W37 (Or.inl (List.mem_cons_self ..))).wr W43 (Or.inl (List.mem_cons_self ..))), _, _, F44, F46, F45, c47⟩
  · have hnil : cs = [] := List.eq_nil_of_length_eq_zero (len_zero hlt hz2)
    refine go_run K 4 1 (pc' := 9) (st' := [(.ref a)]) rfl ?_
    refine go_ldcT K (k := 5) rfl (H.w 35 rfl) H.ws (H.mem (by decide)) (cs := []) (by decide) (by decide) (n := 0) rfl rfl rfl rfl ?_
    intro h4 a3 E5 S6
    obtain ⟨t1, k1, e1, e2, e3, e4⟩ := S6
    refine go_getfield K (k := 6) rfl (host := "") (Or.inl (H.w 33 rfl)) Via.refl e3 ?_
    have c7 := (V0.ext E5)
    have c8 := (E0.ext E5)
    refine go_putfield K (k := 7) rfl (host := "") (Or.inl (H.w 33 rfl)) Via.refl c7 c8 (Or.inr ⟨(H.w 34 rfl), rfl, rfl⟩) (H.w 6 rfl) (ty := (.array .byte)) (by decide) rfl rfl g0 (Or.inl (List.mem_cons_self ..)) ?_
    intro h9 W10
    have c11 := (C0.ext E5)
    have F12 : Exa G.Z h9 a "java/lang/String" := Exa.wr W10 c8
    have F13 : Fld G.Z h9 a "java/lang/String" "value" "[B" (.ref t1) := Fld.same W10 c7
    have F14 : Fld G.Z h9 a "java/lang/String" "coder" "B" (.int (0 : Int32)) := Fld.other W10 c11 (Or.inr (slot_ne (Or.inr (H.w 32 rfl)) (Or.inr (H.w 34 rfl)) (by decide) (t := .byte) (t' := (.array .byte)) (by decide) (by decide)))
    refine go_run K 8 1 (pc' := 18) (st' := [(.ref a)]) rfl ?_
    refine go_ldcT K (k := 9) rfl (H.w 35 rfl) H.ws (H.mem (by decide)) (cs := []) (by decide) (by decide) (n := 0) rfl rfl rfl rfl ?_
    intro h16 a15 E17 S18
    obtain ⟨t2, k2, f1, f2, f3, f4⟩ := S18
    refine go_getfield K (k := 10) rfl (host := "") (Or.inl (H.w 31 rfl)) Via.refl f2 ?_
    have c19 := (F14.ext E17)
    have c20 := (F12.ext E17)
    refine go_putfield K (k := 11) rfl (host := "") (Or.inl (H.w 31 rfl)) Via.refl c19 c20 (Or.inr ⟨(H.w 32 rfl), rfl, rfl⟩) (H.w 6 rfl) (ty := .byte) (by decide) rfl rfl g0 (Or.inl (List.mem_cons_self ..)) ?_
    intro h21 W22
    have c23 := (F13.ext E17)
    have F24 : Exa G.Z h21 a "java/lang/String" := Exa.wr W22 c20
    have F25 : Fld G.Z h21 a "java/lang/String" "value" "[B" (.ref t1) := Fld.other W22 c23 (Or.inr (slot_ne (Or.inr (H.w 34 rfl)) (Or.inr (H.w 32 rfl)) (by decide) (t := (.array .byte)) (t' := .byte) (by decide) (by decide)))
    have F26 : Fld G.Z h21 a "java/lang/String" "coder" "B" (.int (0 : Int32)) := Fld.same W22 c19
    have c27 := (Arv.other ((Arv.other e4 W10 (Exa.neArv c8 e4 (H.w 6 rfl)).symm).ext E17) W22 (Exa.neArv c20 ((Arv.other e4 W10 (Exa.neArv c8 e4 (H.w 6 rfl)).symm).ext E17) (H.w 6 rfl)).symm)
    refine go_return K (k := 12) rfl rfl rfl rfl ?_
    intro Sf hSf
    exact ⟨rfl, (((((Keep.refl _ [a]).ext E5).wr W10 (Or.inl (List.mem_cons_self ..))).ext E17).wr W22 (Or.inl (List.mem_cons_self ..))), _, _, F24, F26, F25, (by rw [hnil]; exact c27)⟩
def P_si : List (Nat × Instr × Nat) := [(0, .aload_n 0, 1), (1, .aload_n 1, 1), (2, .iconst 0, 1), (3, .aload_n 1, 1), (4, .arraylength, 1), (5, .aconst_null, 1), (6, .invokespecial 27, 3), (9, .return_, 1)]
theorem L_si : ∀ q ∈ P_si, decode jdk_42_method_3_code q.1 = .ok q.2 := by decide +kernel
def M_si : Mt := (("java/lang/String", "<init>", ({ frames := 3, cells := 4, slots := 8, locals := 52 } : Room)), P_si, 2, none)
set_option maxRecDepth 65536 in
set_option maxHeartbeats 4000000 in
theorem c_si {G : Gb} (H : Gl tables_1 els G) {h : Heap} {a ca : Addr} {kc : ClassId} {cs : List Int32} (hl : Lat cs) (hcap : cs.length ≤ 2) (E0 : Exa G.Z h a "java/lang/String") (V0 : Fld G.Z h a "java/lang/String" "value" "[B" .null) (C0 : Fld G.Z h a "java/lang/String" "coder" "B" (.int 0)) (g0 : G.Z.heap.size ≤ a) (Ac : Arv G.Z h ca kc .char cs.length.toInt32 (cs.map Value.int) (.int 0)) :
    Ctr G [] (⟨"java/lang/String", "<init>", "([C)V"⟩ : MethodName) jdk_42_method_3_code 2 none ({ frames := 3, cells := 4, slots := 8, locals := 52 } : Room) #[.ref a, .ref ca] h [a] (fun v h' Sf => v = none ∧ Keep h h' [a] ∧ Str G h' a cs) := by
  refine ctr_of M_si rfl rfl (plainFor_of_name pn_1) L_si H.el (Ls := #[.val (.ref a), .val (.ref ca)]) (fun m => by first | rfl | (simp [entryFrame, mkF, argsToLocals, Value.category]; done)) ?_
  intro B K hE
  refine go_run K 0 4 (pc' := 4) (st' := [(.ref ca), (.int (0 : Int32)), (.ref ca), (.ref a)]) rfl ?_
  refine go_arraylength K (k := 4) rfl Ac ?_
  refine go_run K 5 1 (pc' := 6) (st' := [.null, (.int cs.length.toInt32), (.int (0 : Int32)), (.ref ca), (.ref a)]) rfl ?_
  refine go_special K (k := 6) rfl rfl (H.w 12 rfl) (H.w 13 rfl) (H.w 7 rfl) (H.w 15 rfl) (by decide) pd_3 (c_si4 (cs := cs) H hl hcap E0 V0 C0 g0 Ac) (argsL := [(.ref ca), (.int (0 : Int32)), (.int cs.length.toInt32), .null]) (rest := []) rfl rfl rfl (subS (List.mem_cons_self ..) sub0) rfl ?_
  rintro _ h1 _ - ⟨rfl, K2, S3⟩
  show Go G B M_si _ h1 (a :: []) 4 8 9 #[.val (.ref a), .val (.ref ca)] []
  refine go_return K (k := 7) rfl rfl rfl rfl ?_
  intro Sf hSf
  exact ⟨rfl, ((Keep.refl _ [a]).trans K2 (allS (Or.inl (List.mem_cons_self ..)) all0)), S3⟩
theorem pn_2 : plainName "java/lang/Record" = true := by first | (simp [plainName, overriddenIn]; done) | decide +kernel
def P_rec : List (Nat × Instr × Nat) := [(0, .aload_n 0, 1), (1, .invokespecial 1, 3), (4, .return_, 1)]
theorem L_rec : ∀ q ∈ P_rec, decode jdk_30_method_1_code q.1 = .ok q.2 := by decide +kernel
def M_rec : Mt := (("java/lang/Record", "<init>", ({ frames := 1, cells := 0, slots := 0, locals := 12 } : Room)), P_rec, 1, none)
set_option maxRecDepth 65536 in
set_option maxHeartbeats 4000000 in
theorem c_rec {G : Gb} (H : Gl tables_1 els G) {h : Heap} {a : Addr} :
    Ctr G [] (⟨"java/lang/Record", "<init>", "()V"⟩ : MethodName) jdk_30_method_1_code 1 none ({ frames := 1, cells := 0, slots := 0, locals := 12 } : Room) #[.ref a] h [] (fun v h' Sf => v = none ∧ h = h') := by
  refine ctr_of M_rec rfl rfl (plainFor_of_name pn_2) L_rec H.el (Ls := #[.val (.ref a)]) (fun m => by first | rfl | (simp [entryFrame, mkF, argsToLocals, Value.category]; done)) ?_
  intro B K hE
  refine go_run K 0 1 (pc' := 1) (st' := [(.ref a)]) rfl ?_
  refine go_init0 K (k := 1) rfl (H.w 55 rfl) (H.w 17 rfl) (H.w 18 rfl) rfl rfl rfl ?_
  refine go_return K (k := 2) rfl rfl rfl rfl ?_
  intro Sf hSf
  exact ⟨rfl, rfl⟩
theorem pn_3 : plainName "java/lang/StringLatin1" = true := by first | (simp [plainName, overriddenIn]; done) | decide +kernel
def P_leq : List (Nat × Instr × Nat) := [(0, .aload_n 0, 1), (1, .arraylength, 1), (2, .aload_n 1, 1), (3, .arraylength, 1), (4, .if_icmp .ne 30, 3), (7, .iconst 0, 1), (8, .istore_n 2, 1), (9, .iload_n 2, 1), (10, .aload_n 0, 1), (11, .arraylength, 1), (12, .if_icmp .ge 20, 3), (15, .aload_n 0, 1), (16, .iload_n 2, 1), (17, .baload, 1), (18, .aload_n 1, 1), (19, .iload_n 2, 1), (20, .baload, 1), (21, .if_icmp .eq 5, 3), (24, .iconst 0, 1), (25, .ireturn, 1), (26, .iinc 2 1, 3), (29, .goto (-20), 3), (32, .iconst 1, 1), (33, .ireturn, 1), (34, .iconst 0, 1), (35, .ireturn, 1)]
theorem L_leq : ∀ q ∈ P_leq, decode jdk_43_method_13_code q.1 = .ok q.2 := by decide +kernel
def M_leq : Mt := (("java/lang/StringLatin1", "equals", ({ frames := 0, cells := 0, slots := 0, locals := 0 } : Room)), P_leq, 3, (some .boolean))
set_option maxRecDepth 65536 in
set_option maxHeartbeats 4000000 in
theorem c_leq {G : Gb} (H : Gl tables_1 els G) {h : Heap} {t u : Addr} {kt ku : ClassId} {cs ds : List Int32} (l1 : Lat cs) (l2 : Lat ds) (A1 : Arv G.Z h t kt .byte cs.length.toInt32 (by8 cs) (.int 0)) (A2 : Arv G.Z h u ku .byte ds.length.toInt32 (by8 ds) (.int 0)) :
    Ctr G [] (⟨"java/lang/StringLatin1", "equals", "([B[B)Z"⟩ : MethodName) jdk_43_method_13_code 3 (some .boolean) ({ frames := 0, cells := 0, slots := 0, locals := 0 } : Room) #[.ref t, .ref u] h [] (fun v h' Sf => ∃ r : Int32, v = some (.int r) ∧ h = h' ∧ ((r = 1 ∧ cs = ds) ∨ (r = 0 ∧ ¬ cs = ds))) := by
  refine ctr_of M_leq rfl rfl (plainFor_of_name pn_3) L_leq H.el (Ls := #[.val (.ref t), .val (.ref u), .unset]) (fun m => by first | rfl | (simp [entryFrame, mkF, argsToLocals, Value.category]; done)) ?_
  intro B K hE
  have hl1 := lat_lt l1
  have hl2 := lat_lt l2
  refine go_run K 0 1 (pc' := 1) (st' := [(.ref t)]) rfl ?_
  refine go_arraylength K (k := 1) rfl A1 ?_
  refine go_run K 2 1 (pc' := 3) (st' := [(.ref u), (.int cs.length.toInt32)]) rfl ?_
  refine go_arraylength K (k := 3) rfl A2 ?_
  refine go_icmpne K (k := 4) rfl (pc' := 34) (by decide) (fun q1 => ?_) (fun q2 => ?_)
  · refine go_run K 24 1 (pc' := 35) (st' := [(.int (0 : Int32))]) rfl ?_
    refine go_ireturn K (k := 25) rfl rfl (by decide) rfl rfl rfl ?_
    intro Sf hSf
    exact ⟨0, rfl, rfl, Or.inr ⟨rfl, fun e => q1 (by rw [e])⟩⟩
  · have hlen : cs.length = ds.length := len_inj hl1 hl2 q2
    refine go_run K 5 2 (pc' := 9) (Ls' := #[.val (.ref t), .val (.ref u), .val (.int (0 : Int32))]) (st' := []) rfl ?_
    have loop : ∀ (k i : Nat), i + k = cs.length → cs.take i = ds.take i → Go G B M_leq (fun v h' Sf => ∃ r : Int32, v = some (.int r) ∧ h = h' ∧ ((r = 1 ∧ cs = ds) ∨ (r = 0 ∧ ¬ cs = ds))) h [] 0 0 9 #[.val (.ref t), .val (.ref u), .val (.int i.toInt32)] [] := by
      intro k; induction k with
      | zero =>
        intro i hi ht
        refine go_run K 7 2 (pc' := 11) (st' := [(.ref t), (.int i.toInt32)]) rfl ?_
        refine go_arraylength K (k := 9) rfl A1 ?_
        refine go_icmpge K (k := 10) rfl (pc' := 32) (by decide) (fun _ => ?_) (fun q => absurd q (len_nlt (by omega) (by omega)))
        refine go_run K 22 1 (pc' := 33) (st' := [(.int (1 : Int32))]) rfl ?_
        refine go_ireturn K (k := 23) rfl rfl (by decide) rfl rfl rfl ?_
        intro Sf hSf
        refine ⟨1, rfl, rfl, Or.inl ⟨rfl, ?_⟩⟩
        rw [List.take_of_length_le (by omega), List.take_of_length_le (by omega)] at ht
        exact ht
      | succ k ih =>
        intro i hi ht
        have p1 : i < cs.length := by omega
        have p2 : i < ds.length := by omega
        refine go_run K 7 2 (pc' := 11) (st' := [(.ref t), (.int i.toInt32)]) rfl ?_
        refine go_arraylength K (k := 9) rfl A1 ?_
        refine go_icmpge K (k := 10) rfl (pc' := 32) (by decide) (fun q => absurd (len_lt hl1 p1) q) (fun _ => ?_)
        refine go_run K 11 2 (pc' := 17) (st' := [(.int i.toInt32), (.ref t)]) rfl ?_
        refine go_baload K (k := 13) rfl A1 ⟨len_nn (by omega), len_lt hl1 p1⟩ (v := .int cs[i].toInt8.toInt32) (by rw [len_nat (by omega)]; exact get_by8 p1) ?_
        refine go_run K 14 2 (pc' := 20) (st' := [(.int i.toInt32), (.ref u), (.int cs[i].toInt8.toInt32)]) rfl ?_
        refine go_baload K (k := 16) rfl A2 ⟨len_nn (by omega), len_lt hl2 p2⟩ (v := .int ds[i].toInt8.toInt32) (by rw [len_nat (by omega)]; exact get_by8 p2) ?_
        refine go_icmpeq K (k := 17) rfl (pc' := 26) (by decide) (fun q3 => ?_) (fun q4 => ?_)
        · refine go_run K 20 2 (pc' := 9) (Ls' := #[.val (.ref t), .val (.ref u), .val (.int (i.toInt32 + Int32.ofInt 1))]) (st' := []) rfl ?_
          rw [len_succ i]
          refine ih (i + 1) (by omega) ?_
          rw [List.take_succ_eq_append_getElem p1, List.take_succ_eq_append_getElem p2, ht, i8_inj (l1.2 _ (List.getElem_mem p1)) (l2.2 _ (List.getElem_mem p2)) q3]
        · refine go_run K 18 1 (pc' := 25) (st' := [(.int (0 : Int32))]) rfl ?_
          refine go_ireturn K (k := 19) rfl rfl (by decide) rfl rfl rfl ?_
          intro Sf hSf
          refine ⟨0, rfl, rfl, Or.inr ⟨rfl, fun e => q4 ?_⟩⟩
          subst e; rfl
    exact loop cs.length 0 (by omega) rfl
def P_seq : List (Nat × Instr × Nat) := [(0, .aload_n 0, 1), (1, .aload_n 1, 1), (2, .if_acmp .ne 5, 3), (5, .iconst 1, 1), (6, .ireturn, 1), (7, .aload_n 1, 1), (8, .instanceof 10, 3), (11, .ifCond .eq 43, 3), (14, .aload_n 1, 1), (15, .checkcast 10, 3), (18, .astore_n 2, 1), (19, .getstatic 38, 3), (22, .ifCond .eq 14, 3), (25, .aload_n 0, 1), (26, .getfield 15, 3), (29, .aload_n 2, 1), (30, .getfield 15, 3), (33, .if_icmp .ne 21, 3), (36, .aload_n 0, 1), (37, .getfield 9, 3), (40, .aload_n 2, 1), (41, .getfield 9, 3), (44, .invokestatic 541, 3), (47, .ifCond .eq 7, 3), (50, .iconst 1, 1), (51, .goto 4, 3), (54, .iconst 0, 1), (55, .ireturn, 1)]
theorem L_seq : ∀ q ∈ P_seq, decode jdk_42_method_66_code q.1 = .ok q.2 := by decide +kernel
def M_seq : Mt := (("java/lang/String", "equals", ({ frames := 1, cells := 0, slots := 0, locals := 14 } : Room)), P_seq, 3, (some .boolean))
set_option maxRecDepth 65536 in
set_option maxHeartbeats 4000000 in
theorem c_seq {G : Gb} (H : Gl tables_1 els G) {h : Heap} {a b : Addr} {cs ds : List Int32} (l1 : Lat cs) (l2 : Lat ds) (S1 : Str G h a cs) (S2 : Str G h b ds) :
    Ctr G [] (⟨"java/lang/String", "equals", "(Ljava/lang/Object;)Z"⟩ : MethodName) jdk_42_method_66_code 3 (some .boolean) ({ frames := 1, cells := 0, slots := 0, locals := 14 } : Room) #[.ref a, .ref b] h [] (fun v h' Sf => ∃ r : Int32, v = some (.int r) ∧ h = h' ∧ ((r = 1 ∧ cs = ds) ∨ (r = 0 ∧ ¬ cs = ds))) := by
  refine ctr_of M_seq rfl rfl (plainFor_of_name pn_1) L_seq H.el (Ls := #[.val (.ref a), .val (.ref b), .unset]) (fun m => by first | rfl | (simp [entryFrame, mkF, argsToLocals, Value.category]; done)) ?_
  intro B K hE
  obtain ⟨cz, hcs, hcz⟩ := H.cs
  obtain ⟨t1, k2, e3, e4, e5, e6⟩ := id S1
  obtain ⟨t7, k8, e9, e10, e11, e12⟩ := id S2
  refine go_run K 0 2 (pc' := 2) (st' := [(.ref b), (.ref a)]) rfl ?_
  by_cases hab : a = b
  · refine go_acmp K (k := 2) rfl rfl rfl (same := true) (by rw [hab]; exact decide_eq_true rfl) (pc' := 5) (by decide) rfl ?_
    refine go_run K 3 1 (pc' := 6) (st' := [(.int (1 : Int32))]) rfl ?_
    refine go_ireturn K (k := 4) rfl rfl (by decide) rfl rfl rfl ?_
    intro Sf hSf
    exact ⟨1, rfl, rfl, Or.inl ⟨rfl, Str.inj l1 l2 S1 (hab ▸ S2)⟩⟩
  · refine go_acmp K (k := 2) rfl rfl rfl (same := false) (decide_eq_false fun e => hab (Value.ref.inj e)) (pc' := 7) (by decide) rfl ?_
    refine go_run K 5 1 (pc' := 8) (st' := [(.ref b)]) rfl ?_
    refine go_instY K (k := 6) rfl (H.w 75 rfl) (Ins.self e9) ?_
    refine go_ifeq K (k := 7) rfl (pc' := 54) (by decide) (fun q => absurd q (by decide)) (fun _ => ?_)
    refine go_run K 8 1 (pc' := 15) (st' := [(.ref b)]) rfl ?_
    refine go_cast K (k := 9) rfl (H.w 75 rfl) (Ins.self e9) ?_
    refine go_run K 10 1 (pc' := 19) (Ls' := #[.val (.ref a), .val (.ref b), .val (.ref b)]) (st' := []) rfl ?_
    refine go_getstatic K (k := 11) rfl (host := "") (Or.inl (H.w 19 rfl)) Via.refl hcs ?_
    refine go_ifeq K (k := 12) rfl (pc' := 36) (by decide) (fun q => absurd q hcz) (fun _ => ?_)
    refine go_run K 13 1 (pc' := 26) (st' := [(.ref a)]) rfl ?_
    refine go_getfield K (k := 14) rfl (host := "") (Or.inl (H.w 31 rfl)) Via.refl e4 ?_
    refine go_run K 15 1 (pc' := 30) (st' := [(.ref b), (.int (0 : Int32))]) rfl ?_
    refine go_getfield K (k := 16) rfl (host := "") (Or.inl (H.w 31 rfl)) Via.refl e10 ?_
    refine go_icmpne K (k := 17) rfl (pc' := 54) (by decide) (fun q => absurd rfl q) (fun _ => ?_)
    refine go_run K 18 1 (pc' := 37) (st' := [(.ref a)]) rfl ?_
    refine go_getfield K (k := 19) rfl (host := "") (Or.inl (H.w 33 rfl)) Via.refl e5 ?_
    refine go_run K 20 1 (pc' := 41) (st' := [(.ref b), (.ref t1)]) rfl ?_
    refine go_getfield K (k := 21) rfl (host := "") (Or.inl (H.w 33 rfl)) Via.refl e11 ?_
    refine go_static K (k := 22) rfl (H.w 76 rfl) (H.w 77 rfl) (H.w 78 rfl) (H.w 79 rfl) (by decide) pd_4 (c_leq H l1 l2 e6 e12) (argsL := [(.ref t1), (.ref t7)]) (rest := []) rfl rfl rfl sub0 rfl ?_
    rintro _ _ _ - ⟨r13, rfl, rfl, q14⟩
    show Go G B M_seq _ h [] 0 0 47 #[.val (.ref a), .val (.ref b), .val (.ref b)] [(.int r13)]
    refine go_ifeq K (k := 23) rfl (pc' := 54) (by decide) (fun q15 => ?_) (fun q16 => ?_)
    · refine go_run K 26 1 (pc' := 55) (st' := [(.int (0 : Int32))]) rfl ?_
      refine go_ireturn K (k := 27) rfl rfl (by decide) rfl rfl rfl ?_
      intro Sf hSf
      refine ⟨0, rfl, rfl, Or.inr ⟨rfl, ?_⟩⟩
      rcases q14 with ⟨u1, -⟩ | ⟨-, u2⟩
      · rw [u1] at q15; exact absurd q15 (by decide)
      · exact u2
    · refine go_run K 24 2 (pc' := 55) (st' := [(.int (1 : Int32))]) rfl ?_
      refine go_ireturn K (k := 27) rfl rfl (by decide) rfl rfl rfl ?_
      intro Sf hSf
      refine ⟨1, rfl, rfl, Or.inl ⟨rfl, ?_⟩⟩
      rcases q14 with ⟨-, u2⟩ | ⟨u1, -⟩
      · exact u2
      · exact absurd u1 q16
theorem pn_4 : plainName "com/example/penelope/penelope/frontend/Lexer$Token" = true := by first | (simp [plainName, overriddenIn]; done) | decide +kernel
def P_tok : List (Nat × Instr × Nat) := [(0, .aload_n 0, 1), (1, .invokespecial 1, 3), (4, .aload_n 0, 1), (5, .aload_n 1, 1), (6, .putfield 7, 3), (9, .aload_n 0, 1), (10, .aload_n 2, 1), (11, .putfield 13, 3), (14, .aload_n 0, 1), (15, .iload_n 3, 1), (16, .putfield 17, 3), (19, .return_, 1)]
theorem L_tok : ∀ q ∈ P_tok, decode prog_66_method_1_code q.1 = .ok q.2 := by decide +kernel
def M_tok : Mt := (("com/example/penelope/penelope/frontend/Lexer$Token", "<init>", ({ frames := 2, cells := 0, slots := 0, locals := 24 } : Room)), P_tok, 4, none)
set_option maxRecDepth 65536 in
set_option maxHeartbeats 4000000 in
theorem c_tok {G : Gb} (H : Gl tables_1 els G) {h : Heap} {a : Addr} {r0 : Addr} {r1 : Addr} {p2 : Int32} (E0 : Exa G.Z h a "com/example/penelope/penelope/frontend/Lexer$Token") (f0 : Fld G.Z h a "com/example/penelope/penelope/frontend/Lexer$Token" "kind" "Lcom/example/penelope/penelope/frontend/Lexer$Kind;" .null) (f1 : Fld G.Z h a "com/example/penelope/penelope/frontend/Lexer$Token" "text" "Ljava/lang/String;" .null) (f2 : Fld G.Z h a "com/example/penelope/penelope/frontend/Lexer$Token" "line" "I" (.int (0 : Int32))) (g0 : G.Z.heap.size ≤ a) :
    Ctr G [] (⟨"com/example/penelope/penelope/frontend/Lexer$Token", "<init>", "(Lcom/example/penelope/penelope/frontend/Lexer$Kind;Ljava/lang/String;I)V"⟩ : MethodName) prog_66_method_1_code 4 none ({ frames := 2, cells := 0, slots := 0, locals := 24 } : Room) #[.ref a, .ref r0, .ref r1, .int p2] h [] (fun v h' Sf => v = none ∧ Keep h h' [a] ∧ Exa G.Z h' a "com/example/penelope/penelope/frontend/Lexer$Token" ∧ Fld G.Z h' a "com/example/penelope/penelope/frontend/Lexer$Token" "kind" "Lcom/example/penelope/penelope/frontend/Lexer$Kind;" (.ref r0) ∧ Fld G.Z h' a "com/example/penelope/penelope/frontend/Lexer$Token" "text" "Ljava/lang/String;" (.ref r1) ∧ Fld G.Z h' a "com/example/penelope/penelope/frontend/Lexer$Token" "line" "I" (.int p2)) := by
  refine ctr_of M_tok rfl rfl (plainFor_of_name pn_4) L_tok H.el (Ls := #[.val (.ref a), .val (.ref r0), .val (.ref r1), .val (.int p2)]) (fun m => by first | rfl | (simp [entryFrame, mkF, argsToLocals, Value.category]; done)) ?_
  intro B K hE
  refine go_run K 0 1 (pc' := 1) (st' := [(.ref a)]) rfl ?_
  refine go_special K (k := 1) rfl rfl (H.w 50 rfl) (H.w 51 rfl) (H.w 53 rfl) (H.w 54 rfl) (by decide) pd_5 (c_rec (a := a) H) (argsL := []) (rest := []) rfl rfl rfl sub0 rfl ?_
  rintro _ _ _ - ⟨rfl, rfl⟩
  show Go G B M_tok _ h [] 0 0 4 #[.val (.ref a), .val (.ref r0), .val (.ref r1), .val (.int p2)] []
  refine go_run K 2 2 (pc' := 6) (st' := [(.ref r0), (.ref a)]) rfl ?_
  refine go_putfield K (k := 4) rfl (host := "") (Or.inl (H.w 56 rfl)) Via.refl f0 E0 (Or.inr ⟨(H.w 57 rfl), rfl, rfl⟩) (H.w 39 rfl) (ty := (.object "com/example/penelope/penelope/frontend/Lexer$Kind")) (by decide) rfl rfl g0 (Or.inr (by decide)) ?_
  intro h1 W2
  have F3 : Exa G.Z h1 a "com/example/penelope/penelope/frontend/Lexer$Token" := Exa.wr W2 E0
  have F4 : Fld G.Z h1 a "com/example/penelope/penelope/frontend/Lexer$Token" "kind" "Lcom/example/penelope/penelope/frontend/Lexer$Kind;" (.ref r0) := Fld.same W2 f0
  have F5 : Fld G.Z h1 a "com/example/penelope/penelope/frontend/Lexer$Token" "text" "Ljava/lang/String;" .null := Fld.other W2 f1 (Or.inr (slot_ne (Or.inr (H.w 59 rfl)) (Or.inr (H.w 57 rfl)) (by decide) (t := (.object "java/lang/String")) (t' := (.object "com/example/penelope/penelope/frontend/Lexer$Kind")) (by decide) (by decide)))
  have F6 : Fld G.Z h1 a "com/example/penelope/penelope/frontend/Lexer$Token" "line" "I" (.int (0 : Int32)) := Fld.other W2 f2 (Or.inr (slot_ne (Or.inr (H.w 61 rfl)) (Or.inr (H.w 57 rfl)) (by decide) (t := .int) (t' := (.object "com/example/penelope/penelope/frontend/Lexer$Kind")) (by decide) (by decide)))
  refine go_run K 5 2 (pc' := 11) (st' := [(.ref r1), (.ref a)]) rfl ?_
  refine go_putfield K (k := 7) rfl (host := "") (Or.inl (H.w 58 rfl)) Via.refl F5 F3 (Or.inr ⟨(H.w 59 rfl), rfl, rfl⟩) (H.w 39 rfl) (ty := (.object "java/lang/String")) (by decide) rfl rfl g0 (Or.inr (by decide)) ?_
  intro h7 W8
  have F9 : Exa G.Z h7 a "com/example/penelope/penelope/frontend/Lexer$Token" := Exa.wr W8 F3
  have F10 : Fld G.Z h7 a "com/example/penelope/penelope/frontend/Lexer$Token" "kind" "Lcom/example/penelope/penelope/frontend/Lexer$Kind;" (.ref r0) := Fld.other W8 F4 (Or.inr (slot_ne (Or.inr (H.w 57 rfl)) (Or.inr (H.w 59 rfl)) (by decide) (t := (.object "com/example/penelope/penelope/frontend/Lexer$Kind")) (t' := (.object "java/lang/String")) (by decide) (by decide)))
  have F11 : Fld G.Z h7 a "com/example/penelope/penelope/frontend/Lexer$Token" "text" "Ljava/lang/String;" (.ref r1) := Fld.same W8 F5
  have F12 : Fld G.Z h7 a "com/example/penelope/penelope/frontend/Lexer$Token" "line" "I" (.int (0 : Int32)) := Fld.other W8 F6 (Or.inr (slot_ne (Or.inr (H.w 61 rfl)) (Or.inr (H.w 59 rfl)) (by decide) (t := .int) (t' := (.object "java/lang/String")) (by decide) (by decide)))
  refine go_run K 8 2 (pc' := 16) (st' := [(.int p2), (.ref a)]) rfl ?_
  refine go_putfield K (k := 10) rfl (host := "") (Or.inl (H.w 60 rfl)) Via.refl F12 F9 (Or.inr ⟨(H.w 61 rfl), rfl, rfl⟩) (H.w 39 rfl) (ty := .int) (by decide) rfl rfl g0 (Or.inr (by decide)) ?_
  intro h13 W14
  have F15 : Exa G.Z h13 a "com/example/penelope/penelope/frontend/Lexer$Token" := Exa.wr W14 F9
  have F16 : Fld G.Z h13 a "com/example/penelope/penelope/frontend/Lexer$Token" "kind" "Lcom/example/penelope/penelope/frontend/Lexer$Kind;" (.ref r0) := Fld.other W14 F10 (Or.inr (slot_ne (Or.inr (H.w 57 rfl)) (Or.inr (H.w 61 rfl)) (by decide) (t := (.object "com/example/penelope/penelope/frontend/Lexer$Kind")) (t' := .int) (by decide) (by decide)))
  have F17 : Fld G.Z h13 a "com/example/penelope/penelope/frontend/Lexer$Token" "text" "Ljava/lang/String;" (.ref r1) := Fld.other W14 F11 (Or.inr (slot_ne (Or.inr (H.w 59 rfl)) (Or.inr (H.w 61 rfl)) (by decide) (t := (.object "java/lang/String")) (t' := .int) (by decide) (by decide)))
  have F18 : Fld G.Z h13 a "com/example/penelope/penelope/frontend/Lexer$Token" "line" "I" (.int p2) := Fld.same W14 F12
  refine go_return K (k := 11) rfl rfl rfl rfl ?_
  intro Sf hSf
  exact ⟨rfl, ((((Keep.refl _ [a]).wr W2 (Or.inl (List.mem_cons_self ..))).wr W8 (Or.inl (List.mem_cons_self ..))).wr W14 (Or.inl (List.mem_cons_self ..))), F15, F16, F17, F18⟩
theorem pn_5 : plainName "com/example/penelope/penelope/frontend/TokenIsPinLaw" = true := by first | (simp [plainName, overriddenIn]; done) | decide +kernel
def P_mk : List (Nat × Instr × Nat) := [(0, .iload_n 0, 1), (1, .ifCond .ne 14, 3), (4, .new 7, 3), (7, .dup, 1), (8, .iconst 0, 1), (9, .newarray .char, 2), (11, .invokespecial 9, 3), (14, .areturn, 1), (15, .iload_n 0, 1), (16, .iconst 1, 1), (17, .if_icmp .ne 18, 3), (20, .new 7, 3), (23, .dup, 1), (24, .iconst 1, 1), (25, .newarray .char, 2), (27, .dup, 1), (28, .iconst 0, 1), (29, .iload_n 1, 1), (30, .castore, 1), (31, .invokespecial 9, 3), (34, .areturn, 1), (35, .new 7, 3), (38, .dup, 1), (39, .iconst 2, 1), (40, .newarray .char, 2), (42, .dup, 1), (43, .iconst 0, 1), (44, .iload_n 1, 1), (45, .castore, 1), (46, .dup, 1), (47, .iconst 1, 1), (48, .iload_n 2, 1), (49, .castore, 1), (50, .invokespecial 9, 3), (53, .areturn, 1)]
theorem L_mk : ∀ q ∈ P_mk, decode method_2_code q.1 = .ok q.2 := by decide +kernel
def M_mk : Mt := (("com/example/penelope/penelope/frontend/TokenIsPinLaw", "mk", ({ frames := 4, cells := 6, slots := 14, locals := 66 } : Room)), P_mk, 3, (some (.object "java/lang/String")))
set_option maxRecDepth 65536 in
set_option maxHeartbeats 4000000 in
theorem c_mk {G : Gb} (H : Gl tables_1 els G) {h : Heap} {n c0 c1 : Int32} (l0 : ¬ c0 < 0 ∧ ¬ (255 : Int32) < c0) (l1 : ¬ c1 < 0 ∧ ¬ (255 : Int32) < c1) :
    Ctr G [] (⟨"com/example/penelope/penelope/frontend/TokenIsPinLaw", "mk", "(ICC)Ljava/lang/String;"⟩ : MethodName) method_2_code 3 (some (.object "java/lang/String")) ({ frames := 4, cells := 6, slots := 14, locals := 66 } : Room) #[.int n, .int c0, .int c1] h [] (fun v h' Sf => ∃ (a : Addr) (cs : List Int32), v = some (.ref a) ∧ Ext h h' ∧ Str G h' a cs ∧ Lat cs ∧ Mk2 n c0 c1 cs ∧ G.Z.heap.size ≤ a) := by
  refine ctr_of M_mk rfl rfl (plainFor_of_name pn_5) L_mk H.el (Ls := #[.val (.int n), .val (.int c0), .val (.int c1)]) (fun m => by first | rfl | (simp [entryFrame, mkF, argsToLocals, Value.category]; done)) ?_
  intro B K hE
  refine go_run K 0 1 (pc' := 1) (st' := [(.int n)]) rfl ?_
  refine go_ifne K (k := 1) rfl (pc' := 15) (by decide) (fun q1 => ?_) (fun q2 => ?_)
  · refine go_run K 8 2 (pc' := 17) (st' := [(.int (1 : Int32)), (.int n)]) rfl ?_
    refine go_icmpne K (k := 10) rfl (pc' := 35) (by decide) (fun q28 => ?_) (fun q29 => ?_)
    · refine go_new K (k := 21) rfl (H.w 5 rfl) (H.w 6 rfl) (H.w 7 rfl) rfl rfl ?_
      intro h61 a60 e62 g63 E64 A65 D66
      have F67 : Fld G.Z h61 a60 "java/lang/String" "coder" "B" (.int (0 : Int32)) := D66 (Or.inr (H.w 32 rfl)) (ty := .byte) (by decide)
      have F68 : Fld G.Z h61 a60 "java/lang/String" "value" "[B" .null := D66 (Or.inr (H.w 34 rfl)) (ty := (.array .byte)) (by decide)
      refine go_run K 22 2 (pc' := 40) (st' := [(.int (2 : Int32)), (.ref a60), (.ref a60)]) rfl ?_
      refine go_newarray K (k := 24) rfl (H.w 8 rfl) (by decide) (cap := 2) (by decide) rfl rfl rfl ?_
      intro h70 a69 k71 e72 g73 E74 A75
      have A75' : Arv G.Z h70 a69 k71 .char (2 : Int32) [(.int (0 : Int32)), (.int (0 : Int32))] (.int (0 : Int32)) := Arv.pad A75 (pad_rep [] (.int (0 : Int32)) 2)
      refine go_run K 25 3 (pc' := 45) (st' := [(.int c0), (.int (0 : Int32)), (.ref a69), (.ref a69), (.ref a60), (.ref a60)]) rfl ?_
      refine go_castore K (k := 28) rfl A75' (i := 0) (by decide) rfl (Nat.le_of_ble_eq_true rfl) g73 ?_
      intro h76 W77 A78
      refine go_run K 29 3 (pc' := 49) (st' := [(.int c1), (.int (1 : Int32)), (.ref a69), (.ref a69), (.ref a60), (.ref a60)]) rfl ?_
      refine go_castore K (k := 32) rfl A78 (i := 1) (by decide) rfl (Nat.le_of_ble_eq_true rfl) g73 ?_
      intro h79 W80 A81
      have B82 : Arv G.Z h79 a69 k71 .char (2 : Int32) (([c0, c1] : List Int32).map Value.int) (.int 0) := by
        have u := A81
        rw [nar_id l0, nar_id l1] at u
        exact u
      have X83 : Ext h61 h76 := (Ext.wrN E74 W77 (Nat.le_trans (Nat.le_refl _) (Nat.le_of_eq e72.symm)))
      have X84 : Ext h61 h79 := (Ext.wrN X83 W80 (Nat.le_trans (Nat.le_refl _) (Nat.le_of_eq e72.symm)))
      have c85 := (A65.ext X84)
      have c86 := (F68.ext X84)
      have c87 := (F67.ext X84)
      refine go_special K (k := 33) rfl rfl (H.w 9 rfl) (H.w 10 rfl) (H.w 7 rfl) (H.w 11 rfl) (by decide) pd_6 (c_si (cs := [c0, c1]) H (latC l0 (lat1 l1) (Nat.le_of_ble_eq_true rfl)) (Nat.le_of_ble_eq_true rfl) c85 c86 c87 g63 B82) (argsL := [(.ref a69)]) (rest := [(.ref a60)]) rfl rfl rfl (subS (List.mem_cons_of_mem _ (List.mem_cons_self ..)) sub0) rfl ?_
      rintro _ h88 _ - ⟨rfl, K89, S90⟩
      show Go G B M_mk _ h88 (a69 :: (a60 :: [])) 6 14 53 #[.val (.int n), .val (.int c0), .val (.int c1)] [(.ref a60)]
      have X91 : Ext h h70 := (Ext.tr E64 E74)
      have X92 : Ext h h76 := (Ext.wrN X91 W77 (Nat.le_trans (E64).1 (Nat.le_of_eq e72.symm)))
      have X93 : Ext h h79 := (Ext.wrN X92 W80 (Nat.le_trans (E64).1 (Nat.le_of_eq e72.symm)))
      have X94 : Ext h h88 := (Ext.keepN X93 K89 (allS (Nat.le_trans (Nat.le_refl _) (Nat.le_of_eq e62.symm)) all0))
      refine go_areturn K (k := 34) rfl rfl rfl rfl rfl rfl rfl ?_
      intro Sf hSf
      exact ⟨a60, _, rfl, X94, S90, (latC l0 (lat1 l1) (Nat.le_of_ble_eq_true rfl)), Or.inr (Or.inr ⟨q1, q28, rfl⟩), g63⟩
    · refine go_new K (k := 11) rfl (H.w 5 rfl) (H.w 6 rfl) (H.w 7 rfl) rfl rfl ?_
      intro h31 a30 e32 g33 E34 A35 D36
      have F37 : Fld G.Z h31 a30 "java/lang/String" "coder" "B" (.int (0 : Int32)) := D36 (Or.inr (H.w 32 rfl)) (ty := .byte) (by decide)
      have F38 : Fld G.Z h31 a30 "java/lang/String" "value" "[B" .null := D36 (Or.inr (H.w 34 rfl)) (ty := (.array .byte)) (by decide)
      refine go_run K 12 2 (pc' := 25) (st' := [(.int (1 : Int32)), (.ref a30), (.ref a30)]) rfl ?_
      refine go_newarray K (k := 14) rfl (H.w 8 rfl) (by decide) (cap := 1) (by decide) rfl rfl rfl ?_
      intro h40 a39 k41 e42 g43 E44 A45
      have A45' : Arv G.Z h40 a39 k41 .char (1 : Int32) [(.int (0 : Int32))] (.int (0 : Int32)) := Arv.pad A45 (pad_rep [] (.int (0 : Int32)) 1)
      refine go_run K 15 3 (pc' := 30) (st' := [(.int c0), (.int (0 : Int32)), (.ref a39), (.ref a39), (.ref a30), (.ref a30)]) rfl ?_
      refine go_castore K (k := 18) rfl A45' (i := 0) (by decide) rfl (Nat.le_of_ble_eq_true rfl) g43 ?_
      intro h46 W47 A48
      have B49 : Arv G.Z h46 a39 k41 .char (1 : Int32) (([c0] : List Int32).map Value.int) (.int 0) := by
        have u := A48
        rw [nar_id l0] at u
        exact u
      have X50 : Ext h31 h46 := (Ext.wrN E44 W47 (Nat.le_trans (Nat.le_refl _) (Nat.le_of_eq e42.symm)))
      have c51 := (A35.ext X50)
      have c52 := (F38.ext X50)
      have c53 := (F37.ext X50)
      refine go_special K (k := 19) rfl rfl (H.w 9 rfl) (H.w 10 rfl) (H.w 7 rfl) (H.w 11 rfl) (by decide) pd_6 (c_si (cs := [c0]) H (lat1 l0) (Nat.le_of_ble_eq_true rfl) c51 c52 c53 g33 B49) (argsL := [(.ref a39)]) (rest := [(.ref a30)]) rfl rfl rfl (subS (List.mem_cons_of_mem _ (List.mem_cons_self ..)) sub0) rfl ?_
      rintro _ h54 _ - ⟨rfl, K55, S56⟩
      show Go G B M_mk _ h54 (a39 :: (a30 :: [])) 6 13 34 #[.val (.int n), .val (.int c0), .val (.int c1)] [(.ref a30)]
      have X57 : Ext h h40 := (Ext.tr E34 E44)
      have X58 : Ext h h46 := (Ext.wrN X57 W47 (Nat.le_trans (E34).1 (Nat.le_of_eq e42.symm)))
      have X59 : Ext h h54 := (Ext.keepN X58 K55 (allS (Nat.le_trans (Nat.le_refl _) (Nat.le_of_eq e32.symm)) all0))
      refine go_areturn K (k := 20) rfl rfl rfl rfl rfl rfl rfl ?_
      intro Sf hSf
      exact ⟨a30, _, rfl, X59, S56, (lat1 l0), Or.inr (Or.inl ⟨q1, q29, rfl⟩), g33⟩
  · refine go_new K (k := 2) rfl (H.w 5 rfl) (H.w 6 rfl) (H.w 7 rfl) rfl rfl ?_
    intro h4 a3 e5 g6 E7 A8 D9
    have F10 : Fld G.Z h4 a3 "java/lang/String" "coder" "B" (.int (0 : Int32)) := D9 (Or.inr (H.w 32 rfl)) (ty := .byte) (by decide)
    have F11 : Fld G.Z h4 a3 "java/lang/String" "value" "[B" .null := D9 (Or.inr (H.w 34 rfl)) (ty := (.array .byte)) (by decide)
    refine go_run K 3 2 (pc' := 9) (st' := [(.int (0 : Int32)), (.ref a3), (.ref a3)]) rfl ?_
    refine go_newarray K (k := 5) rfl (H.w 8 rfl) (by decide) (cap := 0) (by decide) rfl rfl rfl ?_
    intro h13 a12 k14 e15 g16 E17 A18
    have A18' : Arv G.Z h13 a12 k14 .char (0 : Int32) [] (.int (0 : Int32)) := Arv.pad A18 (pad_rep [] (.int (0 : Int32)) 0)
    have B19 : Arv G.Z h13 a12 k14 .char (0 : Int32) (([] : List Int32).map Value.int) (.int 0) := by
      have u := A18'
      exact u
    have c20 := (A8.ext E17)
    have c21 := (F11.ext E17)
    have c22 := (F10.ext E17)
    refine go_special K (k := 6) rfl rfl (H.w 9 rfl) (H.w 10 rfl) (H.w 7 rfl) (H.w 11 rfl) (by decide) pd_6 (c_si (cs := []) H lat0 (Nat.le_of_ble_eq_true rfl) c20 c21 c22 g6 B19) (argsL := [(.ref a12)]) (rest := [(.ref a3)]) rfl rfl rfl (subS (List.mem_cons_of_mem _ (List.mem_cons_self ..)) sub0) rfl ?_
    rintro _ h23 _ - ⟨rfl, K24, S25⟩
    show Go G B M_mk _ h23 (a12 :: (a3 :: [])) 6 12 14 #[.val (.int n), .val (.int c0), .val (.int c1)] [(.ref a3)]
    have X26 : Ext h h13 := (Ext.tr E7 E17)
    have X27 : Ext h h23 := (Ext.keepN X26 K24 (allS (Nat.le_trans (Nat.le_refl _) (Nat.le_of_eq e5.symm)) all0))
    refine go_areturn K (k := 7) rfl rfl rfl rfl rfl rfl rfl ?_
    intro Sf hSf
    exact ⟨a3, _, rfl, X27, S25, lat0, Or.inl ⟨q2, rfl⟩, g6⟩
def P_kof : List (Nat × Instr × Nat) := [(0, .iload_n 0, 1), (1, .ifCond .ne 7, 3), (4, .getstatic 12, 3), (7, .areturn, 1), (8, .iload_n 0, 1), (9, .iconst 1, 1), (10, .if_icmp .ne 7, 3), (13, .getstatic 18, 3), (16, .areturn, 1), (17, .iload_n 0, 1), (18, .iconst 2, 1), (19, .if_icmp .ne 7, 3), (22, .getstatic 21, 3), (25, .areturn, 1), (26, .iload_n 0, 1), (27, .iconst 3, 1), (28, .if_icmp .ne 7, 3), (31, .getstatic 24, 3), (34, .areturn, 1), (35, .getstatic 27, 3), (38, .areturn, 1)]
theorem L_kof : ∀ q ∈ P_kof, decode method_3_code q.1 = .ok q.2 := by decide +kernel
def M_kof : Mt := (("com/example/penelope/penelope/frontend/TokenIsPinLaw", "kindOf", ({ frames := 0, cells := 0, slots := 0, locals := 0 } : Room)), P_kof, 1, (some (.object "com/example/penelope/penelope/frontend/Lexer$Kind")))
set_option maxRecDepth 65536 in
set_option maxHeartbeats 4000000 in
theorem c_kof {G : Gb} (H : Gl tables_1 els G) {h : Heap} {ki : Int32} {b0 b1 b2 b3 b4 : Addr} (s0 : Sta G.Z G.Z.heap "com/example/penelope/penelope/frontend/Lexer$Kind" "IDENTIFIER" "Lcom/example/penelope/penelope/frontend/Lexer$Kind;" (.ref b0)) (s1 : Sta G.Z G.Z.heap "com/example/penelope/penelope/frontend/Lexer$Kind" "NUMBER" "Lcom/example/penelope/penelope/frontend/Lexer$Kind;" (.ref b1)) (s2 : Sta G.Z G.Z.heap "com/example/penelope/penelope/frontend/Lexer$Kind" "STRING" "Lcom/example/penelope/penelope/frontend/Lexer$Kind;" (.ref b2)) (s3 : Sta G.Z G.Z.heap "com/example/penelope/penelope/frontend/Lexer$Kind" "PUNCTUATOR" "Lcom/example/penelope/penelope/frontend/Lexer$Kind;" (.ref b3)) (s4 : Sta G.Z G.Z.heap "com/example/penelope/penelope/frontend/Lexer$Kind" "END" "Lcom/example/penelope/penelope/frontend/Lexer$Kind;" (.ref b4)) (d10 : b1 ≠ b0) (d13 : b1 ≠ b3) (d20 : b2 ≠ b0) (d23 : b2 ≠ b3) (d40 : b4 ≠ b0) (d43 : b4 ≠ b3) :
    Ctr G [] (⟨"com/example/penelope/penelope/frontend/TokenIsPinLaw", "kindOf", "(I)Lcom/example/penelope/penelope/frontend/Lexer$Kind;"⟩ : MethodName) method_3_code 1 (some (.object "com/example/penelope/penelope/frontend/Lexer$Kind")) ({ frames := 0, cells := 0, slots := 0, locals := 0 } : Room) #[.int ki] h [] (fun v h' Sf => ∃ k : Addr, v = some (.ref k) ∧ h = h' ∧ ((k = b3 ∨ k = b0) ↔ (ki = 0 ∨ ki = 3))) := by
  refine ctr_of M_kof rfl rfl (plainFor_of_name pn_5) L_kof H.el (Ls := #[.val (.int ki)]) (fun m => by first | rfl | (simp [entryFrame, mkF, argsToLocals, Value.category]; done)) ?_
  intro B K hE
  refine go_run K 0 1 (pc' := 1) (st' := [(.int ki)]) rfl ?_
  refine go_ifne K (k := 1) rfl (pc' := 8) (by decide) (fun q1 => ?_) (fun q2 => ?_)
  · refine go_run K 4 2 (pc' := 10) (st' := [(.int (1 : Int32)), (.int ki)]) rfl ?_
    refine go_icmpne K (k := 6) rfl (pc' := 17) (by decide) (fun q3 => ?_) (fun q4 => ?_)
    · refine go_run K 9 2 (pc' := 19) (st' := [(.int (2 : Int32)), (.int ki)]) rfl ?_
      refine go_icmpne K (k := 11) rfl (pc' := 26) (by decide) (fun q5 => ?_) (fun q6 => ?_)
      · refine go_run K 14 2 (pc' := 28) (st' := [(.int (3 : Int32)), (.int ki)]) rfl ?_
        refine go_icmpne K (k := 16) rfl (pc' := 35) (by decide) (fun q7 => ?_) (fun q8 => ?_)
        · refine go_getstatic K (k := 19) rfl (host := "") (Or.inl (H.w 82 rfl)) Via.refl s4 ?_
          refine go_areturn K (k := 20) rfl rfl rfl rfl rfl rfl rfl ?_
          intro Sf hSf
          exact ⟨_, rfl, rfl, fun q => q.elim (fun e => absurd e d43) (fun e => absurd e d40), fun q => q.elim (fun e => absurd e q1) (fun e => absurd e q7)⟩
        · refine go_getstatic K (k := 17) rfl (host := "") (Or.inl (H.w 86 rfl)) Via.refl s3 ?_
          refine go_areturn K (k := 18) rfl rfl rfl rfl rfl rfl rfl ?_
          intro Sf hSf
          refine ⟨_, rfl, rfl, ?_⟩
          exact ⟨fun _ => Or.inr q8, fun _ => Or.inl rfl⟩
      · refine go_getstatic K (k := 12) rfl (host := "") (Or.inl (H.w 80 rfl)) Via.refl s2 ?_
        refine go_areturn K (k := 13) rfl rfl rfl rfl rfl rfl rfl ?_
        intro Sf hSf
        refine ⟨_, rfl, rfl, ?_⟩
        exact ⟨fun q => q.elim (fun e => absurd e d23) (fun e => absurd e d20), fun q => q.elim (fun e => absurd (q6.symm.trans e) (by decide)) (fun e => absurd (q6.symm.trans e) (by decide))⟩
    · refine go_getstatic K (k := 7) rfl (host := "") (Or.inl (H.w 84 rfl)) Via.refl s1 ?_
      refine go_areturn K (k := 8) rfl rfl rfl rfl rfl rfl rfl ?_
      intro Sf hSf
      refine ⟨_, rfl, rfl, ?_⟩
      exact ⟨fun q => q.elim (fun e => absurd e d13) (fun e => absurd e d10), fun q => q.elim (fun e => absurd (q4.symm.trans e) (by decide)) (fun e => absurd (q4.symm.trans e) (by decide))⟩
  · refine go_getstatic K (k := 2) rfl (host := "") (Or.inl (H.w 44 rfl)) Via.refl s0 ?_
    refine go_areturn K (k := 3) rfl rfl rfl rfl rfl rfl rfl ?_
    intro Sf hSf
    refine ⟨_, rfl, rfl, ?_⟩
    exact ⟨fun _ => Or.inl q2, fun _ => Or.inr rfl⟩
def P_is : List (Nat × Instr × Nat) := [(0, .aload_n 0, 1), (1, .getfield 7, 3), (4, .getstatic 21, 3), (7, .if_acmp .eq 13, 3), (10, .aload_n 0, 1), (11, .getfield 7, 3), (14, .getstatic 26, 3), (17, .if_acmp .ne 18, 3), (20, .aload_n 0, 1), (21, .getfield 13, 3), (24, .aload_n 1, 1), (25, .invokevirtual 29, 3), (28, .ifCond .eq 7, 3), (31, .iconst 1, 1), (32, .goto 4, 3), (35, .iconst 0, 1), (36, .ireturn, 1)]
theorem L_is : ∀ q ∈ P_is, decode prog_66_method_2_code q.1 = .ok q.2 := by decide +kernel
def M_is : Mt := (("com/example/penelope/penelope/frontend/Lexer$Token", "is", ({ frames := 2, cells := 0, slots := 0, locals := 28 } : Room)), P_is, 2, (some .boolean))
set_option maxRecDepth 65536 in
set_option maxHeartbeats 4000000 in
theorem c_is {G : Gb} (H : Gl tables_1 els G) {h : Heap} {a k t u b0 b3 : Addr} {cs ds : List Int32} (l1 : Lat cs) (l2 : Lat ds) (F1 : Fld G.Z h a "com/example/penelope/penelope/frontend/Lexer$Token" "kind" "Lcom/example/penelope/penelope/frontend/Lexer$Kind;" (.ref k)) (F2 : Fld G.Z h a "com/example/penelope/penelope/frontend/Lexer$Token" "text" "Ljava/lang/String;" (.ref t)) (S1 : Str G h t cs) (S2 : Str G h u ds) (s0 : Sta G.Z G.Z.heap "com/example/penelope/penelope/frontend/Lexer$Kind" "IDENTIFIER" "Lcom/example/penelope/penelope/frontend/Lexer$Kind;" (.ref b0)) (s3 : Sta G.Z G.Z.heap "com/example/penelope/penelope/frontend/Lexer$Kind" "PUNCTUATOR" "Lcom/example/penelope/penelope/frontend/Lexer$Kind;" (.ref b3)) :
    Ctr G [] (⟨"com/example/penelope/penelope/frontend/Lexer$Token", "is", "(Ljava/lang/String;)Z"⟩ : MethodName) prog_66_method_2_code 2 (some .boolean) ({ frames := 2, cells := 0, slots := 0, locals := 28 } : Room) #[.ref a, .ref u] h [] (fun v h' Sf => ∃ r : Int32, v = some (.int r) ∧ h = h' ∧ ((r = 1 ∧ (k = b3 ∨ k = b0) ∧ cs = ds) ∨ (r = 0 ∧ ¬ ((k = b3 ∨ k = b0) ∧ cs = ds)))) := by
  refine ctr_of M_is rfl rfl (plainFor_of_name pn_4) L_is H.el (Ls := #[.val (.ref a), .val (.ref u)]) (fun m => by first | rfl | (simp [entryFrame, mkF, argsToLocals, Value.category]; done)) ?_
  intro B K hE
  refine go_run K 0 1 (pc' := 1) (st' := [(.ref a)]) rfl ?_
  refine go_getfield K (k := 1) rfl (host := "") (Or.inl (H.w 56 rfl)) Via.refl F1 ?_
  refine go_getstatic K (k := 2) rfl (host := "") (Or.inl (H.w 67 rfl)) Via.refl s3 ?_
  by_cases hk3 : k = b3
  · refine go_acmp K (k := 3) rfl rfl rfl (same := true) (by rw [hk3]; exact decide_eq_true rfl) (pc' := 20) (by decide) rfl ?_
    refine go_run K 8 1 (pc' := 21) (st' := [(.ref a)]) rfl ?_
    refine go_getfield K (k := 9) rfl (host := "") (Or.inl (H.w 58 rfl)) Via.refl F2 ?_
    refine go_run K 10 1 (pc' := 25) (st' := [(.ref u), (.ref t)]) rfl ?_
    refine go_virt0 K (k := 11) rfl (H.w 70 rfl) (H.w 73 rfl) (H.w 72 rfl) (H.w 7 rfl) (H.w 74 rfl) (by decide) pd_7 S1.exa (c_seq H l1 l2 S1 S2) (argsL := [(.ref u)]) (rest := []) rfl rfl rfl sub0 rfl ?_
    rintro _ _ _ - ⟨r1, rfl, rfl, q2⟩
    show Go G B M_is _ h [] 0 0 28 #[.val (.ref a), .val (.ref u)] [(.int r1)]
    refine go_ifeq K (k := 12) rfl (pc' := 35) (by decide) (fun q3 => ?_) (fun q4 => ?_)
    · refine go_run K 15 1 (pc' := 36) (st' := [(.int (0 : Int32))]) rfl ?_
      refine go_ireturn K (k := 16) rfl rfl (by decide) rfl rfl rfl ?_
      intro Sf hSf
      refine ⟨0, rfl, rfl, Or.inr ⟨rfl, fun e => ?_⟩⟩
      rcases q2 with ⟨u1, -⟩ | ⟨-, u2⟩
      · rw [u1] at q3; exact absurd q3 (by decide)
      · exact u2 e.2
    · refine go_run K 13 2 (pc' := 36) (st' := [(.int (1 : Int32))]) rfl ?_
      refine go_ireturn K (k := 16) rfl rfl (by decide) rfl rfl rfl ?_
      intro Sf hSf
      refine ⟨1, rfl, rfl, Or.inl ⟨rfl, Or.inl hk3, ?_⟩⟩
      rcases q2 with ⟨-, u2⟩ | ⟨u1, -⟩
      · exact u2
      · exact absurd u1 q4
  · refine go_acmp K (k := 3) rfl rfl rfl (same := false) (decide_eq_false fun e => hk3 (Value.ref.inj e)) (pc' := 10) (by decide) rfl ?_
    refine go_run K 4 1 (pc' := 11) (st' := [(.ref a)]) rfl ?_
    refine go_getfield K (k := 5) rfl (host := "") (Or.inl (H.w 56 rfl)) Via.refl F1 ?_
    refine go_getstatic K (k := 6) rfl (host := "") (Or.inl (H.w 69 rfl)) Via.refl s0 ?_
    by_cases hk0 : k = b0
    · refine go_acmp K (k := 7) rfl rfl rfl (same := true) (by rw [hk0]; exact decide_eq_true rfl) (pc' := 20) (by decide) rfl ?_
      refine go_run K 8 1 (pc' := 21) (st' := [(.ref a)]) rfl ?_
      refine go_getfield K (k := 9) rfl (host := "") (Or.inl (H.w 58 rfl)) Via.refl F2 ?_
      refine go_run K 10 1 (pc' := 25) (st' := [(.ref u), (.ref t)]) rfl ?_
      refine go_virt0 K (k := 11) rfl (H.w 70 rfl) (H.w 73 rfl) (H.w 72 rfl) (H.w 7 rfl) (H.w 74 rfl) (by decide) pd_7 S1.exa (c_seq H l1 l2 S1 S2) (argsL := [(.ref u)]) (rest := []) rfl rfl rfl sub0 rfl ?_
      rintro _ _ _ - ⟨r5, rfl, rfl, q6⟩
      show Go G B M_is _ h [] 0 0 28 #[.val (.ref a), .val (.ref u)] [(.int r5)]
      refine go_ifeq K (k := 12) rfl (pc' := 35) (by decide) (fun q7 => ?_) (fun q8 => ?_)
      · refine go_run K 15 1 (pc' := 36) (st' := [(.int (0 : Int32))]) rfl ?_
        refine go_ireturn K (k := 16) rfl rfl (by decide) rfl rfl rfl ?_
        intro Sf hSf
        refine ⟨0, rfl, rfl, Or.inr ⟨rfl, fun e => ?_⟩⟩
        rcases q6 with ⟨u1, -⟩ | ⟨-, u2⟩
        · rw [u1] at q7; exact absurd q7 (by decide)
        · exact u2 e.2
      · refine go_run K 13 2 (pc' := 36) (st' := [(.int (1 : Int32))]) rfl ?_
        refine go_ireturn K (k := 16) rfl rfl (by decide) rfl rfl rfl ?_
        intro Sf hSf
        refine ⟨1, rfl, rfl, Or.inl ⟨rfl, Or.inr hk0, ?_⟩⟩
        rcases q6 with ⟨-, u2⟩ | ⟨u1, -⟩
        · exact u2
        · exact absurd u1 q8
    · refine go_acmp K (k := 7) rfl rfl rfl (same := false) (decide_eq_false fun e => hk0 (Value.ref.inj e)) (pc' := 35) (by decide) rfl ?_
      refine go_run K 15 1 (pc' := 36) (st' := [(.int (0 : Int32))]) rfl ?_
      refine go_ireturn K (k := 16) rfl rfl (by decide) rfl rfl rfl ?_
      intro Sf hSf
      exact ⟨0, rfl, rfl, Or.inr ⟨rfl, fun e => e.1.elim hk3 hk0⟩⟩
def P_law : List (Nat × Instr × Nat) := [(0, .iload_n 0, 1), (1, .ldc 30, 2), (3, .iand, 1), (4, .iconst 5, 1), (5, .irem, 1), (6, .istore 4, 2), (8, .iload_n 3, 1), (9, .iconst 3, 1), (10, .iand, 1), (11, .iconst 3, 1), (12, .irem, 1), (13, .istore 5, 2), (15, .iload_n 3, 1), (16, .iconst 2, 1), (17, .ishr, 1), (18, .iconst 3, 1), (19, .iand, 1), (20, .iconst 3, 1), (21, .irem, 1), (22, .istore 6, 2), (24, .iload_n 1, 1), (25, .sipush 255, 3), (28, .iand, 1), (29, .i2c, 1), (30, .istore 7, 2), (32, .iload_n 1, 1), (33, .bipush 8, 2), (35, .ishr, 1), (36, .sipush 255, 3), (39, .iand, 1), (40, .i2c, 1), (41, .istore 8, 2), (43, .iload_n 3, 1), (44, .iconst 4, 1), (45, .ishr, 1), (46, .iconst 1, 1), (47, .iand, 1), (48, .ifCond .eq 8, 3), (51, .iload 7, 2), (53, .goto 9, 3), (56, .iload_n 2, 1), (57, .sipush 255, 3), (60, .iand, 1), (61, .i2c, 1), (62, .istore 9, 2), (64, .iload_n 3, 1), (65, .iconst 5, 1), (66, .ishr, 1), (67, .iconst 1, 1), (68, .iand, 1), (69, .ifCond .eq 8, 3), (72, .iload 8, 2), (74, .goto 12, 3), (77, .iload_n 2, 1), (78, .bipush 8, 2), (80, .ishr, 1), (81, .sipush 255, 3), (84, .iand, 1), (85, .i2c, 1), (86, .istore 10, 2), (88, .iload 5, 2), (90, .iload 7, 2), (92, .iload 8, 2), (94, .invokestatic 31, 3), (97, .astore 11, 2), (99, .iload 6, 2), (101, .iload 9, 2), (103, .iload 10, 2), (105, .invokestatic 31, 3), (108, .astore 12, 2), (110, .new 37, 3), (113, .dup, 1), (114, .iload 4, 2), (116, .invokestatic 39, 3), (119, .aload 11, 2), (121, .iload_n 1, 1), (122, .invokespecial 43, 3), (125, .astore 13, 2), (127, .aload 13, 2), (129, .aload 12, 2), (131, .invokevirtual 46, 3), (134, .istore 14, 2), (136, .iload 5, 2), (138, .iload 6, 2), (140, .if_icmp .ne 33, 3), (143, .iload 5, 2), (145, .iconst 1, 1), (146, .if_icmp .lt 10, 3), (149, .iload 7, 2), (151, .iload 9, 2), (153, .if_icmp .ne 20, 3), (156, .iload 5, 2), (158, .iconst 2, 1), (159, .if_icmp .lt 10, 3), (162, .iload 8, 2), (164, .iload 10, 2), (166, .if_icmp .ne 7, 3), (169, .iconst 1, 1), (170, .goto 4, 3), (173, .iconst 0, 1), (174, .istore 15, 2), (176, .iload 4, 2), (178, .ifCond .eq 9, 3), (181, .iload 4, 2), (183, .iconst 3, 1), (184, .if_icmp .ne 7, 3), (187, .iconst 1, 1), (188, .goto 4, 3), (191, .iconst 0, 1), (192, .istore 16, 2), (194, .iload 14, 2), (196, .iload 16, 2), (198, .ifCond .eq 12, 3), (201, .iload 15, 2), (203, .ifCond .eq 7, 3), (206, .iconst 1, 1), (207, .goto 4, 3), (210, .iconst 0, 1), (211, .if_icmp .ne 7, 3), (214, .iconst 1, 1), (215, .goto 4, 3), (218, .iconst 0, 1), (219, .ireturn, 1)]
theorem L_law : ∀ q ∈ P_law, decode code q.1 = .ok q.2 := by decide +kernel
def M_law : Mt := (("com/example/penelope/penelope/frontend/TokenIsPinLaw", "law", room_1), P_law, 17, (some .boolean))
set_option maxRecDepth 65536 in
set_option maxHeartbeats 4000000 in
theorem law_ok {G : Gb} (H : Gl tables_1 els G) {h : Heap} {p0 p1 p2 p3 : Int32} {b0 b1 b2 b3 b4 : Addr} (s0 : Sta G.Z G.Z.heap "com/example/penelope/penelope/frontend/Lexer$Kind" "IDENTIFIER" "Lcom/example/penelope/penelope/frontend/Lexer$Kind;" (.ref b0)) (s1 : Sta G.Z G.Z.heap "com/example/penelope/penelope/frontend/Lexer$Kind" "NUMBER" "Lcom/example/penelope/penelope/frontend/Lexer$Kind;" (.ref b1)) (s2 : Sta G.Z G.Z.heap "com/example/penelope/penelope/frontend/Lexer$Kind" "STRING" "Lcom/example/penelope/penelope/frontend/Lexer$Kind;" (.ref b2)) (s3 : Sta G.Z G.Z.heap "com/example/penelope/penelope/frontend/Lexer$Kind" "PUNCTUATOR" "Lcom/example/penelope/penelope/frontend/Lexer$Kind;" (.ref b3)) (s4 : Sta G.Z G.Z.heap "com/example/penelope/penelope/frontend/Lexer$Kind" "END" "Lcom/example/penelope/penelope/frontend/Lexer$Kind;" (.ref b4)) (d10 : b1 ≠ b0) (d13 : b1 ≠ b3) (d20 : b2 ≠ b0) (d23 : b2 ≠ b3) (d40 : b4 ≠ b0) (d43 : b4 ≠ b3) :
    Ctr G tables_1 x code maxLocals ret room_1 #[.int p0, .int p1, .int p2, .int p3] h [] (fun v h' Sf => v = some (.int 1)) := by
  refine ctr_of M_law rfl rfl (plainFor_of_name pn_5) L_law H.el (Ls := #[.val (.int p0), .val (.int p1), .val (.int p2), .val (.int p3), .unset, .unset, .unset, .unset, .unset, .unset, .unset, .unset, .unset, .unset, .unset, .unset, .unset]) (fun m => by first | rfl | (simp [entryFrame, mkF, argsToLocals, Value.category]; done)) ?_
  intro B K hE
  refine go_run K 0 1 (pc' := 1) (st' := [(.int p0)]) rfl ?_
  refine go_ldcI K (k := 1) rfl (H.w 0 rfl) ?_
  refine go_run K 2 2 (pc' := 5) (st' := [(.int (5 : Int32)), (.int (p0 &&& (2147483647 : Int32)))]) rfl ?_
  refine go_irem K (k := 4) rfl (by decide) ?_
  refine go_run K 5 5 (pc' := 12) (Ls' := #[.val (.int p0), .val (.int p1), .val (.int p2), .val (.int p3), .val (.int ((p0 &&& (2147483647 : Int32)) % (5 : Int32))), .unset, .unset, .unset, .unset, .unset, .unset, .unset, .unset, .unset, .unset, .unset, .unset]) (st' := [(.int (3 : Int32)), (.int (p3 &&& (3 : Int32)))]) rfl ?_
  refine go_irem K (k := 10) rfl (by decide) ?_
  refine go_run K 11 7 (pc' := 21) (Ls' := #[.val (.int p0), .val (.int p1), .val (.int p2), .val (.int p3), .val (.int ((p0 &&& (2147483647 : Int32)) % (5 : Int32))), .val (.int ((p3 &&& (3 : Int32)) % (3 : Int32))), .unset, .unset, .unset, .unset, .unset, .unset, .unset, .unset, .unset, .unset, .unset]) (st' := [(.int (3 : Int32)), (.int ((p3 >>> ((2 : Int32) &&& 31)) &&& (3 : Int32)))]) rfl ?_
  refine go_irem K (k := 18) rfl (by decide) ?_
  refine go_run K 19 18 (pc' := 48) (Ls' := #[.val (.int p0), .val (.int p1), .val (.int p2), .val (.int p3), .val (.int ((p0 &&& (2147483647 : Int32)) % (5 : Int32))), .val (.int ((p3 &&& (3 : Int32)) % (3 : Int32))), .val (.int (((p3 >>> ((2 : Int32) &&& 31)) &&& (3 : Int32)) % (3 : Int32))), .val (.int ((p1 &&& (255 : Int32))).toUInt32.toUInt16.toUInt32.toInt32), .val (.int (((p1 >>> ((8 : Int32) &&& 31)) &&& (255 : Int32))).toUInt32.toUInt16.toUInt32.toInt32), .unset, .unset, .unset, .unset, .unset, .unset, .unset, .unset]) (st' := [(.int ((p3 >>> ((4 : Int32) &&& 31)) &&& (1 : Int32)))]) rfl ?_
  rw [i2c_mask p1, i2c_mask (p1 >>> ((8 : Int32) &&& 31))]
  have J9 : ∀ u0 : Int32, (¬ u0 < 0 ∧ ¬ (255 : Int32) < u0) → Go G B M_law (fun v h' Sf => v = some (.int 1)) h [] 0 0 62 #[.val (.int p0), .val (.int p1), .val (.int p2), .val (.int p3), .val (.int ((p0 &&& (2147483647 : Int32)) % (5 : Int32))), .val (.int ((p3 &&& (3 : Int32)) % (3 : Int32))), .val (.int (((p3 >>> ((2 : Int32) &&& 31)) &&& (3 : Int32)) % (3 : Int32))), .val (.int (p1 &&& (255 : Int32))), .val (.int ((p1 >>> ((8 : Int32) &&& 31)) &&& (255 : Int32))), .unset, .unset, .unset, .unset, .unset, .unset, .unset, .unset] [(.int u0)] := by
    intro u0 hu0
    refine go_run K 44 6 (pc' := 69) (Ls' := #[.val (.int p0), .val (.int p1), .val (.int p2), .val (.int p3), .val (.int ((p0 &&& (2147483647 : Int32)) % (5 : Int32))), .val (.int ((p3 &&& (3 : Int32)) % (3 : Int32))), .val (.int (((p3 >>> ((2 : Int32) &&& 31)) &&& (3 : Int32)) % (3 : Int32))), .val (.int (p1 &&& (255 : Int32))), .val (.int ((p1 >>> ((8 : Int32) &&& 31)) &&& (255 : Int32))), .val (.int u0), .unset, .unset, .unset, .unset, .unset, .unset, .unset]) (st' := [(.int ((p3 >>> ((5 : Int32) &&& 31)) &&& (1 : Int32)))]) rfl ?_
    have J10 : ∀ u1 : Int32, (¬ u1 < 0 ∧ ¬ (255 : Int32) < u1) → Go G B M_law (fun v h' Sf => v = some (.int 1)) h [] 0 0 86 #[.val (.int p0), .val (.int p1), .val (.int p2), .val (.int p3), .val (.int ((p0 &&& (2147483647 : Int32)) % (5 : Int32))), .val (.int ((p3 &&& (3 : Int32)) % (3 : Int32))), .val (.int (((p3 >>> ((2 : Int32) &&& 31)) &&& (3 : Int32)) % (3 : Int32))), .val (.int (p1 &&& (255 : Int32))), .val (.int ((p1 >>> ((8 : Int32) &&& 31)) &&& (255 : Int32))), .val (.int u0), .unset, .unset, .unset, .unset, .unset, .unset, .unset] [(.int u1)] := by
      intro u1 hu1
      refine go_run K 59 4 (pc' := 94) (Ls' := #[.val (.int p0), .val (.int p1), .val (.int p2), .val (.int p3), .val (.int ((p0 &&& (2147483647 : Int32)) % (5 : Int32))), .val (.int ((p3 &&& (3 : Int32)) % (3 : Int32))), .val (.int (((p3 >>> ((2 : Int32) &&& 31)) &&& (3 : Int32)) % (3 : Int32))), .val (.int (p1 &&& (255 : Int32))), .val (.int ((p1 >>> ((8 : Int32) &&& 31)) &&& (255 : Int32))), .val (.int u0), .val (.int u1), .unset, .unset, .unset, .unset, .unset, .unset]) (st' := [(.int ((p1 >>> ((8 : Int32) &&& 31)) &&& (255 : Int32))), (.int (p1 &&& (255 : Int32))), (.int ((p3 &&& (3 : Int32)) % (3 : Int32)))]) rfl ?_
      refine go_static K (k := 63) rfl (H.w 1 rfl) (H.w 2 rfl) (H.w 3 rfl) (H.w 4 rfl) (by decide) pd_8 (c_mk (n := ((p3 &&& (3 : Int32)) % (3 : Int32))) H (c8_lat p1) (c8_lat (p1 >>> ((8 : Int32) &&& 31)))) (argsL := [(.int ((p3 &&& (3 : Int32)) % (3 : Int32))), (.int (p1 &&& (255 : Int32))), (.int ((p1 >>> ((8 : Int32) &&& 31)) &&& (255 : Int32)))]) (rest := []) rfl rfl rfl sub0 rfl ?_
      rintro _ h1 _ - ⟨a2, cs3, rfl, E4, S5, l6, m7, g8⟩
      show Go G B M_law _ h1 [] 6 14 97 #[.val (.int p0), .val (.int p1), .val (.int p2), .val (.int p3), .val (.int ((p0 &&& (2147483647 : Int32)) % (5 : Int32))), .val (.int ((p3 &&& (3 : Int32)) % (3 : Int32))), .val (.int (((p3 >>> ((2 : Int32) &&& 31)) &&& (3 : Int32)) % (3 : Int32))), .val (.int (p1 &&& (255 : Int32))), .val (.int ((p1 >>> ((8 : Int32) &&& 31)) &&& (255 : Int32))), .val (.int u0), .val (.int u1), .unset, .unset, .unset, .unset, .unset, .unset] [(.ref a2)]
      refine go_run K 64 4 (pc' := 105) (Ls' := #[.val (.int p0), .val (.int p1), .val (.int p2), .val (.int p3), .val (.int ((p0 &&& (2147483647 : Int32)) % (5 : Int32))), .val (.int ((p3 &&& (3 : Int32)) % (3 : Int32))), .val (.int (((p3 >>> ((2 : Int32) &&& 31)) &&& (3 : Int32)) % (3 : Int32))), .val (.int (p1 &&& (255 : Int32))), .val (.int ((p1 >>> ((8 : Int32) &&& 31)) &&& (255 : Int32))), .val (.int u0), .val (.int u1), .val (.ref a2), .unset, .unset, .unset, .unset, .unset]) (st' := [(.int u1), (.int u0), (.int (((p3 >>> ((2 : Int32) &&& 31)) &&& (3 : Int32)) % (3 : Int32)))]) rfl ?_
      refine go_static K (k := 68) rfl (H.w 1 rfl) (H.w 2 rfl) (H.w 3 rfl) (H.w 4 rfl) (by decide) pd_8 (c_mk (n := (((p3 >>> ((2 : Int32) &&& 31)) &&& (3 : Int32)) % (3 : Int32))) H hu0 hu1) (argsL := [(.int (((p3 >>> ((2 : Int32) &&& 31)) &&& (3 : Int32)) % (3 : Int32))), (.int u0), (.int u1)]) (rest := []) rfl rfl rfl sub0 rfl ?_
      rintro _ h9 _ - ⟨a10, cs11, rfl, E12, S13, l14, m15, g16⟩
      show Go G B M_law _ h9 [] 12 28 108 #[.val (.int p0), .val (.int p1), .val (.int p2), .val (.int p3), .val (.int ((p0 &&& (2147483647 : Int32)) % (5 : Int32))), .val (.int ((p3 &&& (3 : Int32)) % (3 : Int32))), .val (.int (((p3 >>> ((2 : Int32) &&& 31)) &&& (3 : Int32)) % (3 : Int32))), .val (.int (p1 &&& (255 : Int32))), .val (.int ((p1 >>> ((8 : Int32) &&& 31)) &&& (255 : Int32))), .val (.int u0), .val (.int u1), .val (.ref a2), .unset, .unset, .unset, .unset, .unset] [(.ref a10)]
      refine go_run K 69 1 (pc' := 110) (Ls' := #[.val (.int p0), .val (.int p1), .val (.int p2), .val (.int p3), .val (.int ((p0 &&& (2147483647 : Int32)) % (5 : Int32))), .val (.int ((p3 &&& (3 : Int32)) % (3 : Int32))), .val (.int (((p3 >>> ((2 : Int32) &&& 31)) &&& (3 : Int32)) % (3 : Int32))), .val (.int (p1 &&& (255 : Int32))), .val (.int ((p1 >>> ((8 : Int32) &&& 31)) &&& (255 : Int32))), .val (.int u0), .val (.int u1), .val (.ref a2), .val (.ref a10), .unset, .unset, .unset, .unset]) (st' := []) rfl ?_
      refine go_new K (k := 70) rfl (H.w 38 rfl) (H.w 39 rfl) (H.w 40 rfl) rfl rfl ?_
      intro h18 a17 e19 g20 E21 A22 D23
      have F24 : Fld G.Z h18 a17 "com/example/penelope/penelope/frontend/Lexer$Token" "kind" "Lcom/example/penelope/penelope/frontend/Lexer$Kind;" .null := D23 (Or.inr (H.w 57 rfl)) (ty := (.object "com/example/penelope/penelope/frontend/Lexer$Kind")) (by decide)
      have F25 : Fld G.Z h18 a17 "com/example/penelope/penelope/frontend/Lexer$Token" "text" "Ljava/lang/String;" .null := D23 (Or.inr (H.w 59 rfl)) (ty := (.object "java/lang/String")) (by decide)
      have F26 : Fld G.Z h18 a17 "com/example/penelope/penelope/frontend/Lexer$Token" "line" "I" (.int (0 : Int32)) := D23 (Or.inr (H.w 61 rfl)) (ty := .int) (by decide)
      refine go_run K 71 2 (pc' := 116) (st' := [(.int ((p0 &&& (2147483647 : Int32)) % (5 : Int32))), (.ref a17), (.ref a17)]) rfl ?_
      refine go_static K (k := 73) rfl (H.w 41 rfl) (H.w 42 rfl) (H.w 3 rfl) (H.w 43 rfl) (by decide) pd_9 (c_kof (ki := ((p0 &&& (2147483647 : Int32)) % (5 : Int32))) H s0 s1 s2 s3 s4 d10 d13 d20 d23 d40 d43) (argsL := [(.int ((p0 &&& (2147483647 : Int32)) % (5 : Int32)))]) (rest := [(.ref a17), (.ref a17)]) rfl rfl rfl sub0 rfl ?_
      rintro _ _ _ - ⟨k27, rfl, rfl, q28⟩
      show Go G B M_law _ h18 (a17 :: []) 13 31 119 #[.val (.int p0), .val (.int p1), .val (.int p2), .val (.int p3), .val (.int ((p0 &&& (2147483647 : Int32)) % (5 : Int32))), .val (.int ((p3 &&& (3 : Int32)) % (3 : Int32))), .val (.int (((p3 >>> ((2 : Int32) &&& 31)) &&& (3 : Int32)) % (3 : Int32))), .val (.int (p1 &&& (255 : Int32))), .val (.int ((p1 >>> ((8 : Int32) &&& 31)) &&& (255 : Int32))), .val (.int u0), .val (.int u1), .val (.ref a2), .val (.ref a10), .unset, .unset, .unset, .unset] [(.ref k27), (.ref a17), (.ref a17)]
      refine go_run K 74 2 (pc' := 122) (st' := [(.int p1), (.ref a2), (.ref k27), (.ref a17), (.ref a17)]) rfl ?_
      refine go_special K (k := 76) rfl rfl (H.w 47 rfl) (H.w 48 rfl) (H.w 40 rfl) (H.w 49 rfl) (by decide) pd_10 (c_tok (a := a17) (r0 := k27) (r1 := a2) (p2 := p1) H A22 F24 F25 F26 g20) (argsL := [(.ref k27), (.ref a2), (.int p1)]) (rest := [(.ref a17)]) rfl rfl rfl sub0 rfl ?_
      rintro _ h29 _ - ⟨rfl, K30, E31, F32, F33, F34⟩
      show Go G B M_law _ h29 (a17 :: []) 13 31 125 #[.val (.int p0), .val (.int p1), .val (.int p2), .val (.int p3), .val (.int ((p0 &&& (2147483647 : Int32)) % (5 : Int32))), .val (.int ((p3 &&& (3 : Int32)) % (3 : Int32))), .val (.int (((p3 >>> ((2 : Int32) &&& 31)) &&& (3 : Int32)) % (3 : Int32))), .val (.int (p1 &&& (255 : Int32))), .val (.int ((p1 >>> ((8 : Int32) &&& 31)) &&& (255 : Int32))), .val (.int u0), .val (.int u1), .val (.ref a2), .val (.ref a10), .unset, .unset, .unset, .unset] [(.ref a17)]
      refine go_run K 77 3 (pc' := 131) (Ls' := #[.val (.int p0), .val (.int p1), .val (.int p2), .val (.int p3), .val (.int ((p0 &&& (2147483647 : Int32)) % (5 : Int32))), .val (.int ((p3 &&& (3 : Int32)) % (3 : Int32))), .val (.int (((p3 >>> ((2 : Int32) &&& 31)) &&& (3 : Int32)) % (3 : Int32))), .val (.int (p1 &&& (255 : Int32))), .val (.int ((p1 >>> ((8 : Int32) &&& 31)) &&& (255 : Int32))), .val (.int u0), .val (.int u1), .val (.ref a2), .val (.ref a10), .val (.ref a17), .unset, .unset, .unset]) (st' := [(.ref a10), (.ref a17)]) rfl ?_
      have X35 : Ext h1 h18 := (Ext.tr E12 E21)
      have X36 : Ext h1 h29 := (Ext.keepN X35 K30 (allS (Nat.le_trans (E12).1 (Nat.le_of_eq e19.symm)) all0))
      have c37 := (S5.ext X36)
      have X38 : Ext h9 h29 := (Ext.keepN E21 K30 (allS (Nat.le_trans (Nat.le_refl _) (Nat.le_of_eq e19.symm)) all0))
      have c39 := (S13.ext X38)
      refine go_virt0 K (k := 80) rfl (H.w 62 rfl) (H.w 65 rfl) (H.w 64 rfl) (H.w 40 rfl) (H.w 66 rfl) (by decide) pd_11 E31 (c_is H l6 l14 F32 F33 c37 c39 s0 s3) (argsL := [(.ref a10)]) (rest := []) rfl rfl rfl sub0 rfl ?_
      rintro _ _ _ - ⟨r40, rfl, rfl, q41⟩
      show Go G B M_law _ h29 (a17 :: []) 13 31 134 #[.val (.int p0), .val (.int p1), .val (.int p2), .val (.int p3), .val (.int ((p0 &&& (2147483647 : Int32)) % (5 : Int32))), .val (.int ((p3 &&& (3 : Int32)) % (3 : Int32))), .val (.int (((p3 >>> ((2 : Int32) &&& 31)) &&& (3 : Int32)) % (3 : Int32))), .val (.int (p1 &&& (255 : Int32))), .val (.int ((p1 >>> ((8 : Int32) &&& 31)) &&& (255 : Int32))), .val (.int u0), .val (.int u1), .val (.ref a2), .val (.ref a10), .val (.ref a17), .unset, .unset, .unset] [(.int r40)]
      have hm := Mk2.same (rem3 _) (rem3 _) m7 m15
      refine go_run K 81 3 (pc' := 140) (Ls' := #[.val (.int p0), .val (.int p1), .val (.int p2), .val (.int p3), .val (.int ((p0 &&& (2147483647 : Int32)) % (5 : Int32))), .val (.int ((p3 &&& (3 : Int32)) % (3 : Int32))), .val (.int (((p3 >>> ((2 : Int32) &&& 31)) &&& (3 : Int32)) % (3 : Int32))), .val (.int (p1 &&& (255 : Int32))), .val (.int ((p1 >>> ((8 : Int32) &&& 31)) &&& (255 : Int32))), .val (.int u0), .val (.int u1), .val (.ref a2), .val (.ref a10), .val (.ref a17), .val (.int r40), .unset, .unset]) (st' := [(.int (((p3 >>> ((2 : Int32) &&& 31)) &&& (3 : Int32)) % (3 : Int32))), (.int ((p3 &&& (3 : Int32)) % (3 : Int32)))]) rfl ?_
      have J15 : ∀ s : Int32, ((s = 1 ∧ cs3 = cs11) ∨ (s = 0 ∧ ¬ cs3 = cs11)) → Go G B M_law (fun v h' Sf => v = some (.int 1)) h29 (a17 :: []) 13 31 174 #[.val (.int p0), .val (.int p1), .val (.int p2), .val (.int p3), .val (.int ((p0 &&& (2147483647 : Int32)) % (5 : Int32))), .val (.int ((p3 &&& (3 : Int32)) % (3 : Int32))), .val (.int (((p3 >>> ((2 : Int32) &&& 31)) &&& (3 : Int32)) % (3 : Int32))), .val (.int (p1 &&& (255 : Int32))), .val (.int ((p1 >>> ((8 : Int32) &&& 31)) &&& (255 : Int32))), .val (.int u0), .val (.int u1), .val (.ref a2), .val (.ref a10), .val (.ref a17), .val (.int r40), .unset, .unset] [(.int s)] := by
        intro s hs
        refine go_run K 100 2 (pc' := 178) (Ls' := #[.val (.int p0), .val (.int p1), .val (.int p2), .val (.int p3), .val (.int ((p0 &&& (2147483647 : Int32)) % (5 : Int32))), .val (.int ((p3 &&& (3 : Int32)) % (3 : Int32))), .val (.int (((p3 >>> ((2 : Int32) &&& 31)) &&& (3 : Int32)) % (3 : Int32))), .val (.int (p1 &&& (255 : Int32))), .val (.int ((p1 >>> ((8 : Int32) &&& 31)) &&& (255 : Int32))), .val (.int u0), .val (.int u1), .val (.ref a2), .val (.ref a10), .val (.ref a17), .val (.int r40), .val (.int s), .unset]) (st' := [(.int ((p0 &&& (2147483647 : Int32)) % (5 : Int32)))]) rfl ?_
        have J16 : ∀ kk : Int32, ((kk = 1 ∧ (((p0 &&& (2147483647 : Int32)) % (5 : Int32)) = 0 ∨ ((p0 &&& (2147483647 : Int32)) % (5 : Int32)) = 3)) ∨ (kk = 0 ∧ ¬ (((p0 &&& (2147483647 : Int32)) % (5 : Int32)) = 0 ∨ ((p0 &&& (2147483647 : Int32)) % (5 : Int32)) = 3))) → Go G B M_law (fun v h' Sf => v = some (.int 1)) h29 (a17 :: []) 13 31 192 #[.val (.int p0), .val (.int p1), .val (.int p2), .val (.int p3), .val (.int ((p0 &&& (2147483647 : Int32)) % (5 : Int32))), .val (.int ((p3 &&& (3 : Int32)) % (3 : Int32))), .val (.int (((p3 >>> ((2 : Int32) &&& 31)) &&& (3 : Int32)) % (3 : Int32))), .val (.int (p1 &&& (255 : Int32))), .val (.int ((p1 >>> ((8 : Int32) &&& 31)) &&& (255 : Int32))), .val (.int u0), .val (.int u1), .val (.ref a2), .val (.ref a10), .val (.ref a17), .val (.int r40), .val (.int s), .unset] [(.int kk)] := by
          intro kk hk
          have hf := tok_fin q41 hk hs q28
          refine go_run K 109 3 (pc' := 198) (Ls' := #[.val (.int p0), .val (.int p1), .val (.int p2), .val (.int p3), .val (.int ((p0 &&& (2147483647 : Int32)) % (5 : Int32))), .val (.int ((p3 &&& (3 : Int32)) % (3 : Int32))), .val (.int (((p3 >>> ((2 : Int32) &&& 31)) &&& (3 : Int32)) % (3 : Int32))), .val (.int (p1 &&& (255 : Int32))), .val (.int ((p1 >>> ((8 : Int32) &&& 31)) &&& (255 : Int32))), .val (.int u0), .val (.int u1), .val (.ref a2), .val (.ref a10), .val (.ref a17), .val (.int r40), .val (.int s), .val (.int kk)]) (st' := [(.int kk), (.int r40)]) rfl ?_
          refine go_ifeq K (k := 112) rfl (pc' := 210) (by decide) (fun q42 => ?_) (fun q43 => ?_)
          · rw [if_pos q42] at hf
            refine go_run K 117 1 (pc' := 211) (st' := [(.int (0 : Int32)), (.int r40)]) rfl ?_
            refine go_icmpne K (k := 118) rfl (pc' := 218) (by decide) (fun q44 => ?_) (fun q45 => ?_)
            · exact absurd hf q44
            · refine go_run K 119 2 (pc' := 219) (st' := [(.int (1 : Int32))]) rfl ?_
              refine go_ireturn K (k := 122) rfl rfl (by decide) rfl rfl rfl ?_
              intro Sf hSf
              exact rfl
          · rw [if_neg q43] at hf
            refine go_run K 113 1 (pc' := 203) (st' := [(.int s), (.int r40)]) rfl ?_
            refine go_ifeq K (k := 114) rfl (pc' := 210) (by decide) (fun q46 => ?_) (fun q47 => ?_)
            · rw [if_pos q46] at hf
              refine go_run K 117 1 (pc' := 211) (st' := [(.int (0 : Int32)), (.int r40)]) rfl ?_
              refine go_icmpne K (k := 118) rfl (pc' := 218) (by decide) (fun q48 => ?_) (fun q49 => ?_)
              · exact absurd hf q48
              · refine go_run K 119 2 (pc' := 219) (st' := [(.int (1 : Int32))]) rfl ?_
                refine go_ireturn K (k := 122) rfl rfl (by decide) rfl rfl rfl ?_
                intro Sf hSf
                exact rfl
            · rw [if_neg q47] at hf
              refine go_run K 115 2 (pc' := 211) (st' := [(.int (1 : Int32)), (.int r40)]) rfl ?_
              refine go_icmpne K (k := 118) rfl (pc' := 218) (by decide) (fun q50 => ?_) (fun q51 => ?_)
              · exact absurd hf q50
              · refine go_run K 119 2 (pc' := 219) (st' := [(.int (1 : Int32))]) rfl ?_
                refine go_ireturn K (k := 122) rfl rfl (by decide) rfl rfl rfl ?_
                intro Sf hSf
                exact rfl
        refine go_ifeq K (k := 102) rfl (pc' := 187) (by decide) (fun q52 => ?_) (fun q53 => ?_)
        · refine go_run K 106 2 (pc' := 192) (st' := [(.int (1 : Int32))]) rfl ?_
          exact J16 _ (Or.inl ⟨rfl, Or.inl q52⟩)
        · refine go_run K 103 2 (pc' := 184) (st' := [(.int (3 : Int32)), (.int ((p0 &&& (2147483647 : Int32)) % (5 : Int32)))]) rfl ?_
          refine go_icmpne K (k := 105) rfl (pc' := 191) (by decide) (fun q54 => ?_) (fun q55 => ?_)
          · refine go_run K 108 1 (pc' := 192) (st' := [(.int (0 : Int32))]) rfl ?_
            exact J16 _ (Or.inr ⟨rfl, fun e => e.elim q53 q54⟩)
          · refine go_run K 106 2 (pc' := 192) (st' := [(.int (1 : Int32))]) rfl ?_
            exact J16 _ (Or.inl ⟨rfl, Or.inr q55⟩)
      refine go_icmpne K (k := 84) rfl (pc' := 173) (by decide) (fun q56 => ?_) (fun q57 => ?_)
      · refine go_run K 99 1 (pc' := 174) (st' := [(.int (0 : Int32))]) rfl ?_
        exact J15 _ (Or.inr ⟨rfl, fun e => q56 (hm.mp e).1⟩)
      · refine go_run K 85 2 (pc' := 146) (st' := [(.int (1 : Int32)), (.int ((p3 &&& (3 : Int32)) % (3 : Int32)))]) rfl ?_
        refine go_icmplt K (k := 87) rfl (pc' := 156) (by decide) (fun q58 => ?_) (fun q59 => ?_)
        · refine go_run K 91 2 (pc' := 159) (st' := [(.int (2 : Int32)), (.int ((p3 &&& (3 : Int32)) % (3 : Int32)))]) rfl ?_
          refine go_icmplt K (k := 93) rfl (pc' := 169) (by decide) (fun q60 => ?_) (fun q61 => ?_)
          · refine go_run K 97 2 (pc' := 174) (st' := [(.int (1 : Int32))]) rfl ?_
            exact J15 _ (Or.inl ⟨rfl, hm.mpr ⟨q57, Or.inl q58, Or.inl q60⟩⟩)
          · refine go_run K 94 2 (pc' := 166) (st' := [(.int u1), (.int ((p1 >>> ((8 : Int32) &&& 31)) &&& (255 : Int32)))]) rfl ?_
            refine go_icmpne K (k := 96) rfl (pc' := 173) (by decide) (fun q62 => ?_) (fun q63 => ?_)
            · refine go_run K 99 1 (pc' := 174) (st' := [(.int (0 : Int32))]) rfl ?_
              exact J15 _ (Or.inr ⟨rfl, fun e => (hm.mp e).2.2.elim q61 q62⟩)
            · refine go_run K 97 2 (pc' := 174) (st' := [(.int (1 : Int32))]) rfl ?_
              exact J15 _ (Or.inl ⟨rfl, hm.mpr ⟨q57, Or.inl q58, Or.inr q63⟩⟩)
        · refine go_run K 88 2 (pc' := 153) (st' := [(.int u0), (.int (p1 &&& (255 : Int32)))]) rfl ?_
          refine go_icmpne K (k := 90) rfl (pc' := 173) (by decide) (fun q64 => ?_) (fun q65 => ?_)
          · refine go_run K 99 1 (pc' := 174) (st' := [(.int (0 : Int32))]) rfl ?_
            exact J15 _ (Or.inr ⟨rfl, fun e => (hm.mp e).2.1.elim q59 q64⟩)
          · refine go_run K 91 2 (pc' := 159) (st' := [(.int (2 : Int32)), (.int ((p3 &&& (3 : Int32)) % (3 : Int32)))]) rfl ?_
            refine go_icmplt K (k := 93) rfl (pc' := 169) (by decide) (fun q66 => ?_) (fun q67 => ?_)
            · refine go_run K 97 2 (pc' := 174) (st' := [(.int (1 : Int32))]) rfl ?_
              exact J15 _ (Or.inl ⟨rfl, hm.mpr ⟨q57, Or.inr q65, Or.inl q66⟩⟩)
            · refine go_run K 94 2 (pc' := 166) (st' := [(.int u1), (.int ((p1 >>> ((8 : Int32) &&& 31)) &&& (255 : Int32)))]) rfl ?_
              refine go_icmpne K (k := 96) rfl (pc' := 173) (by decide) (fun q68 => ?_) (fun q69 => ?_)
              · refine go_run K 99 1 (pc' := 174) (st' := [(.int (0 : Int32))]) rfl ?_
                exact J15 _ (Or.inr ⟨rfl, fun e => (hm.mp e).2.2.elim q67 q68⟩)
              · refine go_run K 97 2 (pc' := 174) (st' := [(.int (1 : Int32))]) rfl ?_
                exact J15 _ (Or.inl ⟨rfl, hm.mpr ⟨q57, Or.inr q65, Or.inr q69⟩⟩)
    refine go_ifeq K (k := 50) rfl (pc' := 77) (by decide) (fun q70 => ?_) (fun q71 => ?_)
    · refine go_run K 53 6 (pc' := 86) (st' := [(.int (((p2 >>> ((8 : Int32) &&& 31)) &&& (255 : Int32))).toUInt32.toUInt16.toUInt32.toInt32)]) rfl ?_
      rw [i2c_mask (p2 >>> ((8 : Int32) &&& 31))]
      exact J10 _ (c8_lat _)
    · refine go_run K 51 2 (pc' := 86) (st' := [(.int ((p1 >>> ((8 : Int32) &&& 31)) &&& (255 : Int32)))]) rfl ?_
      exact J10 _ (c8_lat _)
  refine go_ifeq K (k := 37) rfl (pc' := 56) (by decide) (fun q72 => ?_) (fun q73 => ?_)
  · refine go_run K 40 4 (pc' := 62) (st' := [(.int ((p2 &&& (255 : Int32))).toUInt32.toUInt16.toUInt32.toInt32)]) rfl ?_
    rw [i2c_mask p2]
    exact J9 _ (c8_lat _)
  · refine go_run K 38 2 (pc' := 62) (st' := [(.int (p1 &&& (255 : Int32)))]) rfl ?_
    exact J9 _ (c8_lat _)
set_option maxRecDepth 65536 in
set_option maxHeartbeats 40000000 in
theorem comes_1 {Post : Tables → Env → Array Value → State → Outcome → State → Prop} (hpost : ∀ tb e args s v u, (limb_1_1.after args s (.returned v) u = true ∧ limb_1_2.after args s (.returned v) u = true ∧ True) → ReturnedEndW s (.returned v) u (Jvm.fieldLocs frame_1_writes args s ++ Jvm.arrayLocs frame_1_arrays args s ++ Jvm.staticLocs frame_1_statics s) 24 1152 → Post tb e args s (.returned v) u) :
    ArmFor flags0 classFile x code maxLocals ret World_1 tables_1 room_1 Calls_1 rest_1 Pre_1 Post := by
  intro l hfl _ _ p e ha hc hk s m args below hf hA hF happ hP
  obtain ⟨hcalls, hrest, hpre⟩ := hP
  obtain ⟨-, -, -, hnamed, -, -, -, hat⟩ := (Spec.applies_iff hf).mp happ
  obtain ⟨hg, hn⟩ := and_e (Cond.before_iff.mp (show (Jvm.Cond.and given_1 narrow_1).before args s = true from hpre))
  obtain ⟨hcnt, hz0⟩ := and_e hg
  obtain ⟨hi0, hz1⟩ := and_e hz0
  obtain ⟨hi1, hz2⟩ := and_e hz1
  obtain ⟨hi2, hz3⟩ := and_e hz2
  have hi3 := hz3
  obtain ⟨w0, w1, w2, w3, rfl⟩ : ∃ w0 w1 w2 w3 : Value, args = #[w0, w1, w2, w3] := by
    have hs : args.size = 4 := by simpa [Cond.value, given_1] using hcnt
    obtain ⟨L⟩ := args
    match L, hs with
    | [w0, w1, w2, w3], _ => exact ⟨w0, w1, w2, w3, rfl⟩
  have hw := fun d (hd : d ∈ tables_1) => atoms_spec (ws := Jvm.Cond.code x code maxLocals ret :: tables_1) hat d (List.mem_cons_of_mem _ hd)
  obtain ⟨hsets, hown0⟩ := atoms_of _ (rest_1_c_eq ▸ (show rest_1_c.before _ s = true from hrest))
  obtain ⟨i0, e0⟩ := is_v hi0
  obtain rfl : w0 = (.int i0) := Option.some.inj e0
  obtain ⟨i1, e1⟩ := is_v hi1
  obtain rfl : w1 = (.int i1) := Option.some.inj e1
  obtain ⟨i2, e2⟩ := is_v hi2
  obtain rfl : w2 = (.int i2) := Option.some.inj e2
  obtain ⟨i3, e3⟩ := is_v hi3
  obtain rfl : w3 = (.int i3) := Option.some.inj e3
  have nz := not_v (Cond.before_iff.mp (hsets _ (List.mem_of_getElem? (i := 2) rfl)))
  obtain ⟨cz, ecz⟩ := is_v (Cond.before_iff.mp (hsets _ (List.mem_of_getElem? (i := 1) rfl)))
  have Scz : Sta s s.heap "java/lang/String" "COMPACT_STRINGS" "Z" (.int cz) := Sta.start ecz (Or.inl (hsets _ (List.mem_of_getElem? (i := 0) rfl)))
  have hcz : ¬ (cz = (0 : Int32)) := gotF (Cond.eq_ints ecz (Term.int_eval (0))) nz
  have hEW : EW s #[(.int i0), (.int i1), (.int i2), (.int i3)] els := by
    exact (EW.cons (hw _ (List.mem_of_getElem? (i := 35) rfl)) (by decide) EW.nil)
  have hCH : CHv s els s.vm s.heap := CHv.start hEW (fun p hp => hcalls.1 p hp) (hsets _ (List.mem_of_getElem? (i := 2) rfl)) (hw _ (List.mem_of_getElem? (i := 24) rfl)) (hw _ (List.mem_of_getElem? (i := 6) rfl))
  have H : Gl tables_1 els (l, s, #[(.int i0), (.int i1), (.int i2), (.int i3)], els) := ⟨hw, rfl, hEW, fun d hd => hw d ((by decide +kernel : ∀ d ∈ Bundle.stringAtoms, d ∈ tables_1) d hd), cz, Scz, hcz⟩
  obtain ⟨vf0, evf0, hvf0⟩ := isR_v (Cond.before_iff.mp (hsets _ (List.mem_of_getElem? (i := 8) rfl)))
  have hF0 : ∃ vf : Value, Sta s s.heap "jdk/internal/util/Preconditions" "SIOOBE_FORMATTER" "Ljava/util/function/BiFunction;" vf ∧ vf.isRef = true := ⟨vf0, Sta.start evf0 (Or.inl (hsets _ (List.mem_of_getElem? (i := 7) rfl))), hvf0⟩
  obtain ⟨x0, hn⟩ := and_e hn
  obtain ⟨x3, hn⟩ := and_e hn
  obtain ⟨o0, hn⟩ := and_e hn
  obtain ⟨o3, hn⟩ := and_e hn
  obtain ⟨x2, hn⟩ := and_e hn
  obtain ⟨o2, hn⟩ := and_e hn
  obtain ⟨x4, hn⟩ := and_e hn
  obtain ⟨o4, hn⟩ := and_e hn
  obtain ⟨x1, o1⟩ := and_e hn
  obtain ⟨b0, _, _, _, ev0, -⟩ := Cond.exactly_spec (Cond.before_iff.mpr x0)
  have s0 := Sta.start ev0 (Or.inr ⟨hw _ (List.mem_of_getElem? (i := 45) rfl), hw _ (List.mem_of_getElem? (i := 46) rfl)⟩)
  have f0 := eqv_i (Term.int_eval (0)) o0
  obtain ⟨b1, _, _, _, ev1, -⟩ := Cond.exactly_spec (Cond.before_iff.mpr x1)
  have s1 := Sta.start ev1 (Or.inr ⟨hw _ (List.mem_of_getElem? (i := 45) rfl), hw _ (List.mem_of_getElem? (i := 85) rfl)⟩)
  have f1 := eqv_i (Term.int_eval (1)) o1
  obtain ⟨b2, _, _, _, ev2, -⟩ := Cond.exactly_spec (Cond.before_iff.mpr x2)
  have s2 := Sta.start ev2 (Or.inr ⟨hw _ (List.mem_of_getElem? (i := 45) rfl), hw _ (List.mem_of_getElem? (i := 81) rfl)⟩)
  have f2 := eqv_i (Term.int_eval (2)) o2
  obtain ⟨b3, _, _, _, ev3, -⟩ := Cond.exactly_spec (Cond.before_iff.mpr x3)
  have s3 := Sta.start ev3 (Or.inr ⟨hw _ (List.mem_of_getElem? (i := 45) rfl), hw _ (List.mem_of_getElem? (i := 68) rfl)⟩)
  have f3 := eqv_i (Term.int_eval (3)) o3
  obtain ⟨b4, _, _, _, ev4, -⟩ := Cond.exactly_spec (Cond.before_iff.mpr x4)
  have s4 := Sta.start ev4 (Or.inr ⟨hw _ (List.mem_of_getElem? (i := 45) rfl), hw _ (List.mem_of_getElem? (i := 83) rfl)⟩)
  have f4 := eqv_i (Term.int_eval (4)) o4
  have d10 : b1 ≠ b0 := fld_apart ev1 ev0 f1 f0 (by simp)
  have d13 : b1 ≠ b3 := fld_apart ev1 ev3 f1 f3 (by simp)
  have d20 : b2 ≠ b0 := fld_apart ev2 ev0 f2 f0 (by simp)
  have d23 : b2 ≠ b3 := fld_apart ev2 ev3 f2 f3 (by simp)
  have d40 : b4 ≠ b0 := fld_apart ev4 ev0 f4 f0 (by simp)
  have d43 : b4 ≠ b3 := fld_apart ev4 ev3 f4 f3 (by simp)
  obtain ⟨n, o, k1, k2, k3, v, L, rfl, ⟨rfl, N, hext⟩, hC, hq⟩ := law_ok (G := (l, s, #[(.int i0), (.int i1), (.int i2), (.int i3)], els)) H s0 s1 s2 s3 s4 d10 d13 d20 d23 d40 d43 p e ha hc hk s m _ below hf ((Spec.applies_iff_loose hf).mp happ).1 ⟨rfl, State.Warmed39.refl s, rfl, hCH, Ext.rf _, fun _ q => nomatch q⟩ trivial
  refine ⟨n, _, k1, k2, k3, hpost _ _ _ _ _ _ ⟨Cond.after_iff.mpr rfl, Cond.after_iff.mpr (eq_i res_at (Term.int_eval (1)) rfl), trivial⟩ ?_⟩
  obtain ⟨q1, q2, q3, q4⟩ := hq
  exact ⟨q1, q2, q3, (q4.sift fun y hy => Or.inr (N y hy)).mono (by decide) (by decide)⟩
theorem main_1_1 : Claimed_1_1 := comes_1 fun _ _ _ _ _ _ h hF => ⟨h.1, hF⟩
theorem main_1_2 : Claimed_1_2 := comes_1 fun _ _ _ _ _ _ h hF => ⟨h.2.1, hF⟩
end Jvm.Pilot.@@N@@
namespace Jvm.Pilot.@@N@@
open Jvm Jvm.ClassFile Sem Op Lib Jvm.Free Jvm.Stand Jvm.Pilot.@@N@@.Jvm.D
/-! MADE BY PROGRAM (witnessworld.py) out of the Statement's table words and the real class files: 23 classes; the members and pool entries that the words name. The judged class is class 1, her method 3. -/
namespace start1
open Jvm.ClassFile
def u (s : String) : CpInfo := .utf8 (stringToUtf16 s)
/-- a pool by its gaps: so many unusable entries, then the entry; so many at the end -/
def gap : Nat → List CpInfo → List CpInfo
  | 0, r => r
  | n + 1, r => .unusable :: gap n r
def poolList (es : List (Nat × CpInfo)) (last : Nat) : List CpInfo := es.foldr (fun e r => gap e.1 (e.2 :: r)) (gap last [])
def pool (es : List (Nat × CpInfo)) (last : Nat) : Array CpInfo := ⟨poolList es last⟩
def fileOf (pool : Array CpInfo) (this : Nat) (attrs : Array Attribute := #[]) (ms : Array MethodInfo := #[]) (fl : Nat := 33) (sup : Nat := 0) (ifs : Array Nat := #[]) (fds : Array FieldInfo := #[]) : ClassFile where
  minorVersion := 0
  majorVersion := 65
  constantPool := pool
  accessFlags := fl
  thisClass := this
  superClass := sup
  interfaces := ifs
  fields := fds
  methods := ms
  attributes := attrs
def plain (name : String) (sup : Option ClassId) : Class where
  name := name
  kind := .ordinary
  loader := none
  accessFlags := 33
  super := sup
  interfaces := #[]
  cf := none
  fields := #[]
  methods := #[]
  instanceTypes := #[]
  staticTypes := #[]
  resolved := #[]
  callSites := []
  init := .initialized
  statics := none
  mirror := none

def pool0 : Array CpInfo := pool [(5, u "<init>"), (0, u "()V"), (1, .class_ 10), (1, u "java/lang/Object")] 113

def k0c0 : Code := { maxStack := 0, maxLocals := 1, code := object_method_1_code, exceptionTable := #[], attributes := #[] }
def k0m0 : Method := { name := "<init>", desc := "()V", sig := { parameters := [], returnType := none }, accessFlags := 1, code := some k0c0 }
/-- java/lang/Object -/
def k0 : Class := { plain "java/lang/Object" none with
  accessFlags := 33
  interfaces := #[]
  cf := some (fileOf pool0 8 #[] #[{ accessFlags := 1, nameIndex := 5, descriptorIndex := 6, attributes := #[] }] 33 0 #[] #[])
  fields := #[]
  methods := #[k0m0]
  instanceTypes := #[]
  staticTypes := #[]
  resolved := Array.replicate 124 none
  statics := none }

def pool1 : Array CpInfo := pool [(2, .class_ 4), (1, u "java/lang/Object"), (0, u "<init>"), (0, u "()V"), (0, .class_ 8), (0, u "java/lang/String"), (0, .methodref 7 10), (0, .nameAndType 5 11), (0, u "([C)V"), (0, .fieldref 13 14), (0, .class_ 15), (0, .nameAndType 16 17), (0, u "com/example/penelope/penelope/frontend/Lexer$Kind"), (0, u "IDENTIFIER"), (0, u "Lcom/example/penelope/penelope/frontend/Lexer$Kind;"), (0, .fieldref 13 19), (0, .nameAndType 20 17), (0, u "NUMBER"), (0, .fieldref 13 22), (0, .nameAndType 23 17), (0, u "STRING"), (0, .fieldref 13 25), (0, .nameAndType 26 17), (0, u "PUNCTUATOR"), (0, .fieldref 13 28), (0, .nameAndType 29 17), (0, u "END"), (0, .integer 2147483647), (0, .methodref 32 33), (0, .class_ 34), (0, .nameAndType 35 36), (0, u "com/example/penelope/penelope/frontend/TokenIsPinLaw"), (0, u "mk"), (0, u "(ICC)Ljava/lang/String;"), (0, .class_ 38), (0, u "com/example/penelope/penelope/frontend/Lexer$Token"), (0, .methodref 32 40), (0, .nameAndType 41 42), (0, u "kindOf"), (0, u "(I)Lcom/example/penelope/penelope/frontend/Lexer$Kind;"), (0, .methodref 37 44), (0, .nameAndType 5 45), (0, u "(Lcom/example/penelope/penelope/frontend/Lexer$Kind;Ljava/lang/String;I)V"), (0, .methodref 37 47), (0, .nameAndType 48 49), (0, u "is"), (0, u "(Ljava/lang/String;)Z"), (3, u "law"), (0, u "(IIII)Z")] 7

def k1m0 : Method := { name := "<init>", desc := "()V", sig := { parameters := [], returnType := none }, accessFlags := 1, code := none }
def k1c1 : Code := { maxStack := 6, maxLocals := 3, code := method_2_code, exceptionTable := #[], attributes := #[] }
def k1m1 : Method := { name := "mk", desc := "(ICC)Ljava/lang/String;", sig := { parameters := [.int, .char, .char], returnType := some (.object "java/lang/String") }, accessFlags := 10, code := some k1c1 }
def k1c2 : Code := { maxStack := 2, maxLocals := 1, code := method_3_code, exceptionTable := #[], attributes := #[] }
def k1m2 : Method := { name := "kindOf", desc := "(I)Lcom/example/penelope/penelope/frontend/Lexer$Kind;", sig := { parameters := [.int], returnType := some (.object "com/example/penelope/penelope/frontend/Lexer$Kind") }, accessFlags := 10, code := some k1c2 }
def k1c3 : Code := { maxStack := 5, maxLocals := 17, code := code, exceptionTable := #[], attributes := #[] }
def k1m3 : Method := { name := "law", desc := "(IIII)Z", sig := { parameters := [.int, .int, .int, .int], returnType := some .boolean }, accessFlags := 9, code := some k1c3 }
/-- com/example/penelope/penelope/frontend/TokenIsPinLaw -/
def k1 : Class := { plain "com/example/penelope/penelope/frontend/TokenIsPinLaw" (some 0) with
  accessFlags := 49
  interfaces := #[]
  cf := some (fileOf pool1 32 #[] #[{ accessFlags := 1, nameIndex := 5, descriptorIndex := 6, attributes := #[] }, { accessFlags := 10, nameIndex := 35, descriptorIndex := 36, attributes := #[] }, { accessFlags := 10, nameIndex := 41, descriptorIndex := 42, attributes := #[] }, { accessFlags := 9, nameIndex := 53, descriptorIndex := 54, attributes := #[] }] 49 2 #[] #[])
  fields := #[]
  methods := #[k1m0, k1m1, k1m2, k1m3]
  instanceTypes := #[]
  staticTypes := #[]
  resolved := Array.replicate 62 none
  statics := none }

def pool2 : Array CpInfo := pool [(1, .class_ 2), (0, u "java/io/Serializable"), (0, .class_ 4), (0, u "java/lang/Object")] 2

/-- java/io/Serializable -/
def k2 : Class := { plain "java/io/Serializable" (some 0) with
  accessFlags := 1537
  interfaces := #[]
  cf := some (fileOf pool2 1 #[] #[] 1537 3 #[] #[])
  fields := #[]
  methods := #[]
  instanceTypes := #[]
  staticTypes := #[]
  resolved := Array.replicate 7 none
  statics := none }

def pool3 : Array CpInfo := pool [(1, .class_ 2), (0, u "java/lang/Comparable"), (0, .class_ 4), (0, u "java/lang/Object")] 7

/-- java/lang/Comparable -/
def k3 : Class := { plain "java/lang/Comparable" (some 0) with
  accessFlags := 1537
  interfaces := #[]
  cf := some (fileOf pool3 1 #[] #[] 1537 3 #[] #[])
  fields := #[]
  methods := #[]
  instanceTypes := #[]
  staticTypes := #[]
  resolved := Array.replicate 12 none
  statics := none }

def pool4 : Array CpInfo := pool [(2, .class_ 4), (1, u "java/lang/CharSequence"), (42, .class_ 48), (0, u "java/lang/CharSequence$1CodePointIterator"), (10, .class_ 60), (0, u "java/lang/CharSequence$1CharIterator"), (5, .class_ 67), (0, u "java/lang/Object")] 63

/-- java/lang/CharSequence -/
def k4 : Class := { plain "java/lang/CharSequence" (some 0) with
  accessFlags := 1537
  interfaces := #[]
  cf := some (fileOf pool4 2 #[.nestMembers #[47, 59]] #[] 1537 66 #[] #[])
  fields := #[]
  methods := #[]
  instanceTypes := #[]
  staticTypes := #[]
  resolved := Array.replicate 131 none
  statics := none }

def pool5 : Array CpInfo := pool [(1, .class_ 2), (0, u "java/lang/constant/Constable"), (0, .class_ 4), (0, u "java/lang/Object")] 6

/-- java/lang/constant/Constable -/
def k5 : Class := { plain "java/lang/constant/Constable" (some 0) with
  accessFlags := 1537
  interfaces := #[]
  cf := some (fileOf pool5 1 #[] #[] 1537 3 #[] #[])
  fields := #[]
  methods := #[]
  instanceTypes := #[]
  staticTypes := #[]
  resolved := Array.replicate 11 none
  statics := none }

def pool6 : Array CpInfo := pool [(1, .class_ 2), (0, u "java/lang/constant/ConstantDesc"), (0, .class_ 4), (0, u "java/lang/Object")] 32

/-- java/lang/constant/ConstantDesc -/
def k6 : Class := { plain "java/lang/constant/ConstantDesc" (some 0) with
  accessFlags := 1537
  interfaces := #[]
  cf := some (fileOf pool6 1 #[] #[] 1537 3 #[] #[])
  fields := #[]
  methods := #[]
  instanceTypes := #[]
  staticTypes := #[]
  resolved := Array.replicate 37 none
  statics := none }

def pool7 : Array CpInfo := pool [(1, .methodref 2 3), (0, .class_ 4), (0, .nameAndType 5 6), (0, u "java/lang/Object"), (0, u "<init>"), (0, u "()V"), (0, .string 8), (0, u ""), (0, .fieldref 10 11), (0, .class_ 12), (0, .nameAndType 13 14), (0, u "java/lang/String"), (0, u "value"), (0, u "[B"), (0, .fieldref 10 16), (0, .nameAndType 17 18), (0, u "coder"), (0, u "B"), (2, u "hash"), (0, u "I"), (2, u "hashIsZero"), (0, u "Z"), (0, .methodref 10 28), (0, .nameAndType 5 29), (0, u "([CIILjava/lang/Void;)V"), (8, .fieldref 10 39), (0, .nameAndType 40 26), (0, u "COMPACT_STRINGS"), (1, .class_ 44), (1, u "java/lang/StringUTF16"), (0, u "compress"), (1, .methodref 42 48), (0, .nameAndType 49 50), (0, u "coderFromArrayLen"), (0, u "([BI)B"), (56, .class_ 109), (1, u "java/lang/StringLatin1"), (67, .methodref 42 178), (0, .nameAndType 45 179), (0, u "([CII)[B"), (361, .methodref 107 542), (0, .nameAndType 543 544), (0, u "equals"), (0, u "([B[B)Z"), (28, u "(Ljava/lang/Object;)Z"), (1, .class_ 576), (0, u "java/lang/CharSequence"), (22, u "CASE_INSENSITIVE_ORDER"), (0, u "Ljava/util/Comparator;"), (409, u "([C)V"), (90, u "serialPersistentFields"), (0, u "[Ljava/io/ObjectStreamField;"), (0, .class_ 1104), (0, u "java/lang/String$CaseInsensitiveComparator"), (1, .class_ 1107), (0, u "java/io/Serializable"), (0, .class_ 1109), (0, u "java/lang/Comparable"), (0, .class_ 1111), (0, u "java/lang/constant/Constable"), (0, .class_ 1113), (0, u "java/lang/constant/ConstantDesc"), (2, u "serialVersionUID"), (0, u "J"), (3, u "REPL"), (0, u "C"), (2, u "LATIN1"), (1, u "UTF16")] 323

def k7m0 : Method := { name := "<init>", desc := "()V", sig := { parameters := [], returnType := none }, accessFlags := 1, code := none }
def k7c1 : Code := { maxStack := 5, maxLocals := 2, code := jdk_42_method_3_code, exceptionTable := #[], attributes := #[] }
def k7m1 : Method := { name := "<init>", desc := "([C)V", sig := { parameters := [(.array .char)], returnType := none }, accessFlags := 1, code := some k7c1 }
def k7c2 : Code := { maxStack := 2, maxLocals := 3, code := jdk_42_method_66_code, exceptionTable := #[], attributes := #[] }
def k7m2 : Method := { name := "equals", desc := "(Ljava/lang/Object;)Z", sig := { parameters := [(.object "java/lang/Object")], returnType := some .boolean }, accessFlags := 1, code := some k7c2 }
def k7c3 : Code := { maxStack := 4, maxLocals := 6, code := jdk_42_method_149_code, exceptionTable := #[], attributes := #[] }
def k7m3 : Method := { name := "<init>", desc := "([CIILjava/lang/Void;)V", sig := { parameters := [(.array .char), .int, .int, (.object "java/lang/Void")], returnType := none }, accessFlags := 2, code := some k7c3 }
/-- java/lang/String -/
def k7 : Class := { plain "java/lang/String" (some 0) with
  accessFlags := 49
  interfaces := #[2, 3, 4, 5, 6]
  cf := some (fileOf pool7 10 #[.nestMembers #[1103]] #[{ accessFlags := 1, nameIndex := 5, descriptorIndex := 6, attributes := #[] }, { accessFlags := 1, nameIndex := 5, descriptorIndex := 1010, attributes := #[] }, { accessFlags := 1, nameIndex := 543, descriptorIndex := 573, attributes := #[] }, { accessFlags := 2, nameIndex := 5, descriptorIndex := 29, attributes := #[] }] 49 2 #[1106, 1108, 575, 1110, 1112] #[{ accessFlags := 18, nameIndex := 13, descriptorIndex := 14, attributes := #[] }, { accessFlags := 18, nameIndex := 17, descriptorIndex := 18, attributes := #[] }, { accessFlags := 2, nameIndex := 21, descriptorIndex := 22, attributes := #[] }, { accessFlags := 2, nameIndex := 25, descriptorIndex := 26, attributes := #[] }, { accessFlags := 26, nameIndex := 1116, descriptorIndex := 1117, attributes := #[] }, { accessFlags := 24, nameIndex := 40, descriptorIndex := 26, attributes := #[] }, { accessFlags := 26, nameIndex := 1101, descriptorIndex := 1102, attributes := #[] }, { accessFlags := 26, nameIndex := 1121, descriptorIndex := 1122, attributes := #[] }, { accessFlags := 25, nameIndex := 599, descriptorIndex := 600, attributes := #[] }, { accessFlags := 24, nameIndex := 1125, descriptorIndex := 18, attributes := #[] }, { accessFlags := 24, nameIndex := 1127, descriptorIndex := 18, attributes := #[] }])
  fields := #[{ name := "value", type := (.array .byte), accessFlags := 18, slot := 0, constantValue := 0 }, { name := "coder", type := .byte, accessFlags := 18, slot := 1, constantValue := 0 }, { name := "hash", type := .int, accessFlags := 2, slot := 2, constantValue := 0 }, { name := "hashIsZero", type := .boolean, accessFlags := 2, slot := 3, constantValue := 0 }, { name := "serialVersionUID", type := .long, accessFlags := 26, slot := 0, constantValue := 0 }, { name := "COMPACT_STRINGS", type := .boolean, accessFlags := 24, slot := 1, constantValue := 0 }, { name := "serialPersistentFields", type := (.array (.object "java/io/ObjectStreamField")), accessFlags := 26, slot := 2, constantValue := 0 }, { name := "REPL", type := .char, accessFlags := 26, slot := 3, constantValue := 0 }, { name := "CASE_INSENSITIVE_ORDER", type := (.object "java/util/Comparator"), accessFlags := 25, slot := 4, constantValue := 0 }, { name := "LATIN1", type := .byte, accessFlags := 24, slot := 5, constantValue := 0 }, { name := "UTF16", type := .byte, accessFlags := 24, slot := 6, constantValue := 0 }]
  methods := #[k7m0, k7m1, k7m2, k7m3]
  instanceTypes := #[(.array .byte), .byte, .int, .boolean]
  staticTypes := #[.long, .boolean, (.array (.object "java/io/ObjectStreamField")), .char, (.object "java/util/Comparator"), .byte, .byte]
  resolved := Array.replicate 1451 none
  statics := some 0 }

def pool8 : Array CpInfo := pool [(6, .class_ 8), (1, u "java/lang/Object"), (0, u "<init>"), (0, u "()V"), (1, .class_ 14), (1, u "java/lang/StringUTF16"), (31, u "$assertionsDisabled"), (0, u "Z"), (13, u "HI_BYTE_SHIFT"), (0, u "I"), (2, u "LO_BYTE_SHIFT"), (49, .methodref 12 116), (0, .nameAndType 117 118), (0, u "compress"), (0, u "([CI[BII)I"), (3, u "([CII)[B"), (138, u "coderFromArrayLen"), (0, u "([BI)B"), (106, .class_ 371), (1, u "java/lang/StringUTF16$LinesSpliterator"), (58, u "MAX_LENGTH"), (196, .class_ 628), (0, u "java/lang/StringUTF16$CodePointsSpliterator"), (0, .class_ 630), (0, u "java/lang/StringUTF16$CharsSpliterator")] 4

def k8m0 : Method := { name := "<init>", desc := "()V", sig := { parameters := [], returnType := none }, accessFlags := 0, code := none }
def k8c1 : Code := { maxStack := 2, maxLocals := 2, code := jdk_52_method_15_code, exceptionTable := #[], attributes := #[] }
def k8m1 : Method := { name := "coderFromArrayLen", desc := "([BI)B", sig := { parameters := [(.array .byte), .int], returnType := some .byte }, accessFlags := 8, code := some k8c1 }
def k8c2 : Code := { maxStack := 5, maxLocals := 6, code := jdk_52_method_16_code, exceptionTable := #[], attributes := #[] }
def k8m2 : Method := { name := "compress", desc := "([CII)[B", sig := { parameters := [(.array .char), .int, .int], returnType := some (.array .byte) }, accessFlags := 9, code := some k8c2 }
def k8c3 : Code := { maxStack := 3, maxLocals := 7, code := jdk_52_method_21_code, exceptionTable := #[], attributes := #[] }
def k8m3 : Method := { name := "compress", desc := "([CI[BII)I", sig := { parameters := [(.array .char), .int, (.array .byte), .int, .int], returnType := some .int }, accessFlags := 9, code := some k8c3 }
/-- java/lang/StringUTF16 -/
def k8 : Class := { plain "java/lang/StringUTF16" (some 0) with
  accessFlags := 48
  interfaces := #[]
  cf := some (fileOf pool8 12 #[.nestMembers #[627, 629, 369]] #[{ accessFlags := 0, nameIndex := 9, descriptorIndex := 10, attributes := #[] }, { accessFlags := 8, nameIndex := 261, descriptorIndex := 262, attributes := #[] }, { accessFlags := 9, nameIndex := 117, descriptorIndex := 122, attributes := #[] }, { accessFlags := 9, nameIndex := 117, descriptorIndex := 118, attributes := #[] }] 48 6 #[] #[{ accessFlags := 26, nameIndex := 61, descriptorIndex := 62, attributes := #[] }, { accessFlags := 26, nameIndex := 65, descriptorIndex := 62, attributes := #[] }, { accessFlags := 24, nameIndex := 430, descriptorIndex := 62, attributes := #[] }, { accessFlags := 4120, nameIndex := 46, descriptorIndex := 47, attributes := #[] }])
  fields := #[{ name := "HI_BYTE_SHIFT", type := .int, accessFlags := 26, slot := 0, constantValue := 0 }, { name := "LO_BYTE_SHIFT", type := .int, accessFlags := 26, slot := 1, constantValue := 0 }, { name := "MAX_LENGTH", type := .int, accessFlags := 24, slot := 2, constantValue := 0 }, { name := "$assertionsDisabled", type := .boolean, accessFlags := 4120, slot := 3, constantValue := 0 }]
  methods := #[k8m0, k8m1, k8m2, k8m3]
  instanceTypes := #[]
  staticTypes := #[.int, .int, .int, .boolean]
  resolved := Array.replicate 635 none
  statics := none }

def pool9 : Array CpInfo := pool [(1, .methodref 2 3), (0, .class_ 4), (0, .nameAndType 5 6), (0, u "java/lang/Object"), (0, u "<init>"), (0, u "()V"), (0, .class_ 8), (0, u "java/lang/Record")] 13

def k9c0 : Code := { maxStack := 1, maxLocals := 1, code := jdk_30_method_1_code, exceptionTable := #[], attributes := #[] }
def k9m0 : Method := { name := "<init>", desc := "()V", sig := { parameters := [], returnType := none }, accessFlags := 4, code := some k9c0 }
/-- java/lang/Record -/
def k9 : Class := { plain "java/lang/Record" (some 0) with
  accessFlags := 1057
  interfaces := #[]
  cf := some (fileOf pool9 7 #[] #[{ accessFlags := 4, nameIndex := 5, descriptorIndex := 6, attributes := #[] }] 1057 2 #[] #[])
  fields := #[]
  methods := #[k9m0]
  instanceTypes := #[]
  staticTypes := #[]
  resolved := Array.replicate 22 none
  statics := none }

def pool10 : Array CpInfo := pool [(1, .methodref 2 3), (0, .class_ 4), (0, .nameAndType 5 6), (0, u "java/lang/Record"), (0, u "<init>"), (0, u "()V"), (0, .fieldref 8 9), (0, .class_ 10), (0, .nameAndType 11 12), (0, u "com/example/penelope/penelope/frontend/Lexer$Token"), (0, u "kind"), (0, u "Lcom/example/penelope/penelope/frontend/Lexer$Kind;"), (0, .fieldref 8 14), (0, .nameAndType 15 16), (0, u "text"), (0, u "Ljava/lang/String;"), (0, .fieldref 8 18), (0, .nameAndType 19 20), (0, u "line"), (0, u "I"), (0, .fieldref 22 23), (0, .class_ 24), (0, .nameAndType 25 12), (0, u "com/example/penelope/penelope/frontend/Lexer$Kind"), (0, u "PUNCTUATOR"), (0, .fieldref 22 27), (0, .nameAndType 28 12), (0, u "IDENTIFIER"), (0, .methodref 30 31), (0, .class_ 32), (0, .nameAndType 33 34), (0, u "java/lang/String"), (0, u "equals"), (0, u "(Ljava/lang/Object;)Z"), (11, u "(Lcom/example/penelope/penelope/frontend/Lexer$Kind;Ljava/lang/String;I)V"), (3, u "is"), (0, u "(Ljava/lang/String;)Z"), (7, .class_ 60), (0, u "com/example/penelope/penelope/frontend/Lexer")] 22

def k10c0 : Code := { maxStack := 2, maxLocals := 4, code := prog_66_method_1_code, exceptionTable := #[], attributes := #[] }
def k10m0 : Method := { name := "<init>", desc := "(Lcom/example/penelope/penelope/frontend/Lexer$Kind;Ljava/lang/String;I)V", sig := { parameters := [(.object "com/example/penelope/penelope/frontend/Lexer$Kind"), (.object "java/lang/String"), .int], returnType := none }, accessFlags := 0, code := some k10c0 }
def k10c1 : Code := { maxStack := 2, maxLocals := 2, code := prog_66_method_2_code, exceptionTable := #[], attributes := #[] }
def k10m1 : Method := { name := "is", desc := "(Ljava/lang/String;)Z", sig := { parameters := [(.object "java/lang/String")], returnType := some .boolean }, accessFlags := 0, code := some k10c1 }
/-- com/example/penelope/penelope/frontend/Lexer$Token -/
def k10 : Class := { plain "com/example/penelope/penelope/frontend/Lexer$Token" (some 9) with
  accessFlags := 48
  interfaces := #[]
  cf := some (fileOf pool10 8 #[.nestHost 59] #[{ accessFlags := 0, nameIndex := 5, descriptorIndex := 46, attributes := #[] }, { accessFlags := 0, nameIndex := 50, descriptorIndex := 51, attributes := #[] }] 48 2 #[] #[{ accessFlags := 18, nameIndex := 11, descriptorIndex := 12, attributes := #[] }, { accessFlags := 18, nameIndex := 15, descriptorIndex := 16, attributes := #[] }, { accessFlags := 18, nameIndex := 19, descriptorIndex := 20, attributes := #[] }])
  fields := #[{ name := "kind", type := (.object "com/example/penelope/penelope/frontend/Lexer$Kind"), accessFlags := 18, slot := 0, constantValue := 0 }, { name := "text", type := (.object "java/lang/String"), accessFlags := 18, slot := 1, constantValue := 0 }, { name := "line", type := .int, accessFlags := 18, slot := 2, constantValue := 0 }]
  methods := #[k10m0, k10m1]
  instanceTypes := #[(.object "com/example/penelope/penelope/frontend/Lexer$Kind"), (.object "java/lang/String"), .int]
  staticTypes := #[]
  resolved := Array.replicate 83 none
  statics := none }

def pool11 : Array CpInfo := pool [(2, .class_ 4), (1, u "java/lang/Enum"), (0, u "name"), (0, u "Ljava/lang/String;"), (2, u "ordinal"), (0, u "I"), (1, .class_ 14), (1, u "java/lang/Object"), (4, u "hash"), (86, .class_ 108), (1, u "java/lang/Enum$EnumDesc"), (2, .class_ 112), (0, u "java/lang/constant/Constable"), (0, .class_ 114), (0, u "java/lang/Comparable"), (0, .class_ 116), (0, u "java/io/Serializable")] 87

/-- java/lang/Enum -/
def k11 : Class := { plain "java/lang/Enum" (some 0) with
  accessFlags := 1057
  interfaces := #[5, 3, 2]
  cf := some (fileOf pool11 2 #[.nestMembers #[106]] #[] 1057 12 #[111, 113, 115] #[{ accessFlags := 18, nameIndex := 5, descriptorIndex := 6, attributes := #[] }, { accessFlags := 18, nameIndex := 9, descriptorIndex := 10, attributes := #[] }, { accessFlags := 2, nameIndex := 19, descriptorIndex := 10, attributes := #[] }])
  fields := #[{ name := "name", type := (.object "java/lang/String"), accessFlags := 18, slot := 0, constantValue := 0 }, { name := "ordinal", type := .int, accessFlags := 18, slot := 1, constantValue := 0 }, { name := "hash", type := .int, accessFlags := 2, slot := 2, constantValue := 0 }]
  methods := #[]
  instanceTypes := #[(.object "java/lang/String"), .int, .int]
  staticTypes := #[]
  resolved := Array.replicate 204 none
  statics := none }

def pool12 : Array CpInfo := pool [(1, .class_ 2), (0, u "com/example/penelope/penelope/frontend/Lexer$Kind"), (2, u "IDENTIFIER"), (0, u "Lcom/example/penelope/penelope/frontend/Lexer$Kind;"), (2, u "NUMBER"), (2, u "STRING"), (2, u "PUNCTUATOR"), (2, u "END"), (2, u "$VALUES"), (0, u "[Lcom/example/penelope/penelope/frontend/Lexer$Kind;"), (6, .class_ 31), (1, u "java/lang/Enum"), (28, .class_ 61), (0, u "com/example/penelope/penelope/frontend/Lexer")] 2

/-- com/example/penelope/penelope/frontend/Lexer$Kind -/
def k12 : Class := { plain "com/example/penelope/penelope/frontend/Lexer$Kind" (some 11) with
  accessFlags := 16432
  interfaces := #[]
  cf := some (fileOf pool12 1 #[.nestHost 60] #[] 16432 29 #[] #[{ accessFlags := 16409, nameIndex := 5, descriptorIndex := 6, attributes := #[] }, { accessFlags := 16409, nameIndex := 9, descriptorIndex := 6, attributes := #[] }, { accessFlags := 16409, nameIndex := 12, descriptorIndex := 6, attributes := #[] }, { accessFlags := 16409, nameIndex := 15, descriptorIndex := 6, attributes := #[] }, { accessFlags := 16409, nameIndex := 18, descriptorIndex := 6, attributes := #[] }, { accessFlags := 4122, nameIndex := 21, descriptorIndex := 22, attributes := #[] }])
  fields := #[{ name := "IDENTIFIER", type := (.object "com/example/penelope/penelope/frontend/Lexer$Kind"), accessFlags := 16409, slot := 0, constantValue := 0 }, { name := "NUMBER", type := (.object "com/example/penelope/penelope/frontend/Lexer$Kind"), accessFlags := 16409, slot := 1, constantValue := 0 }, { name := "STRING", type := (.object "com/example/penelope/penelope/frontend/Lexer$Kind"), accessFlags := 16409, slot := 2, constantValue := 0 }, { name := "PUNCTUATOR", type := (.object "com/example/penelope/penelope/frontend/Lexer$Kind"), accessFlags := 16409, slot := 3, constantValue := 0 }, { name := "END", type := (.object "com/example/penelope/penelope/frontend/Lexer$Kind"), accessFlags := 16409, slot := 4, constantValue := 0 }, { name := "$VALUES", type := (.array (.object "com/example/penelope/penelope/frontend/Lexer$Kind")), accessFlags := 4122, slot := 5, constantValue := 0 }]
  methods := #[]
  instanceTypes := #[(.object "java/lang/String"), .int, .int]
  staticTypes := #[(.object "com/example/penelope/penelope/frontend/Lexer$Kind"), (.object "com/example/penelope/penelope/frontend/Lexer$Kind"), (.object "com/example/penelope/penelope/frontend/Lexer$Kind"), (.object "com/example/penelope/penelope/frontend/Lexer$Kind"), (.object "com/example/penelope/penelope/frontend/Lexer$Kind"), (.array (.object "com/example/penelope/penelope/frontend/Lexer$Kind"))]
  resolved := Array.replicate 64 none
  statics := some 1 }

def pool13 : Array CpInfo := pool [(4, .class_ 6), (1, u "java/lang/Object"), (0, u "<init>"), (0, u "()V"), (5, .class_ 16), (1, u "java/lang/StringLatin1"), (104, u "$assertionsDisabled"), (0, u "Z"), (98, .class_ 223), (1, u "java/lang/StringLatin1$LinesSpliterator"), (57, u "equals"), (0, u "([B[B)Z"), (107, .class_ 391), (0, u "java/lang/StringLatin1$CharsSpliterator")] 3

def k13m0 : Method := { name := "<init>", desc := "()V", sig := { parameters := [], returnType := none }, accessFlags := 0, code := none }
def k13c1 : Code := { maxStack := 3, maxLocals := 3, code := jdk_43_method_13_code, exceptionTable := #[], attributes := #[] }
def k13m1 : Method := { name := "equals", desc := "([B[B)Z", sig := { parameters := [(.array .byte), (.array .byte)], returnType := some .boolean }, accessFlags := 9, code := some k13c1 }
/-- java/lang/StringLatin1 -/
def k13 : Class := { plain "java/lang/StringLatin1" (some 0) with
  accessFlags := 48
  interfaces := #[]
  cf := some (fileOf pool13 14 #[.nestMembers #[390, 221]] #[{ accessFlags := 0, nameIndex := 7, descriptorIndex := 8, attributes := #[] }, { accessFlags := 9, nameIndex := 281, descriptorIndex := 282, attributes := #[] }] 48 4 #[] #[{ accessFlags := 4120, nameIndex := 121, descriptorIndex := 122, attributes := #[] }])
  fields := #[{ name := "$assertionsDisabled", type := .boolean, accessFlags := 4120, slot := 0, constantValue := 0 }]
  methods := #[k13m0, k13m1]
  instanceTypes := #[]
  staticTypes := #[.boolean]
  resolved := Array.replicate 395 none
  statics := none }

def pool14 : Array CpInfo := pool [(2, .class_ 4), (1, u "java/lang/Object"), (0, u "<init>"), (0, u "()V"), (17, .class_ 26), (1, u "jdk/internal/util/Preconditions"), (28, .class_ 56), (0, u "jdk/internal/util/Preconditions$4"), (57, .class_ 115), (0, u "jdk/internal/util/Preconditions$1"), (7, u "SIOOBE_FORMATTER"), (0, u "Ljava/util/function/BiFunction;"), (0, .class_ 126), (0, u "jdk/internal/util/Preconditions$2"), (3, u "AIOOBE_FORMATTER"), (0, .class_ 132), (0, u "jdk/internal/util/Preconditions$3"), (3, u "IOOBE_FORMATTER")] 57

def k14m0 : Method := { name := "<init>", desc := "()V", sig := { parameters := [], returnType := none }, accessFlags := 1, code := none }
/-- jdk/internal/util/Preconditions -/
def k14 : Class := { plain "jdk/internal/util/Preconditions" (some 0) with
  accessFlags := 33
  interfaces := #[]
  cf := some (fileOf pool14 24 #[.nestMembers #[55, 131, 125, 114]] #[{ accessFlags := 1, nameIndex := 5, descriptorIndex := 6, attributes := #[] }] 33 2 #[] #[{ accessFlags := 25, nameIndex := 123, descriptorIndex := 124, attributes := #[] }, { accessFlags := 25, nameIndex := 130, descriptorIndex := 124, attributes := #[] }, { accessFlags := 25, nameIndex := 136, descriptorIndex := 124, attributes := #[] }])
  fields := #[{ name := "SIOOBE_FORMATTER", type := (.object "java/util/function/BiFunction"), accessFlags := 25, slot := 0, constantValue := 0 }, { name := "AIOOBE_FORMATTER", type := (.object "java/util/function/BiFunction"), accessFlags := 25, slot := 1, constantValue := 0 }, { name := "IOOBE_FORMATTER", type := (.object "java/util/function/BiFunction"), accessFlags := 25, slot := 2, constantValue := 0 }]
  methods := #[k14m0]
  instanceTypes := #[]
  staticTypes := #[(.object "java/util/function/BiFunction"), (.object "java/util/function/BiFunction"), (.object "java/util/function/BiFunction")]
  resolved := Array.replicate 194 none
  statics := some 2 }

def pool15 : Array CpInfo := pool [(9, u "<init>"), (6, .class_ 18), (1, u "java/lang/Object"), (0, u "()V"), (1, .class_ 23), (1, u "jdk/internal/util/ArraysSupport"), (0, u "LOG2_ARRAY_LONG_INDEX_SCALE"), (0, u "I"), (2, u "U"), (0, u "Ljdk/internal/misc/Unsafe;"), (8, u "BIG_ENDIAN"), (0, u "Z"), (8, u "LOG2_BYTE_BIT_SIZE"), (4, u "LOG2_ARRAY_INT_INDEX_SCALE"), (54, u "JLA"), (0, u "Ljdk/internal/access/JavaLangAccess;"), (11, u "LOG2_ARRAY_BOOLEAN_INDEX_SCALE"), (9, u "LOG2_ARRAY_BYTE_INDEX_SCALE"), (5, u "LOG2_ARRAY_CHAR_INDEX_SCALE"), (5, u "LOG2_ARRAY_SHORT_INDEX_SCALE"), (18, u "LOG2_ARRAY_FLOAT_INDEX_SCALE"), (24, u "LOG2_ARRAY_DOUBLE_INDEX_SCALE"), (89, u "T_BOOLEAN"), (2, u "T_CHAR"), (1, u "T_FLOAT"), (1, u "T_DOUBLE"), (1, u "T_BYTE"), (1, u "T_SHORT"), (1, u "T_INT"), (1, u "T_LONG"), (1, u "SOFT_MAX_ARRAY_LENGTH")] 83

def k15m0 : Method := { name := "<init>", desc := "()V", sig := { parameters := [], returnType := none }, accessFlags := 2, code := none }
/-- jdk/internal/util/ArraysSupport -/
def k15 : Class := { plain "jdk/internal/util/ArraysSupport" (some 0) with
  accessFlags := 33
  interfaces := #[]
  cf := some (fileOf pool15 21 #[] #[{ accessFlags := 2, nameIndex := 9, descriptorIndex := 19, attributes := #[] }] 33 16 #[] #[{ accessFlags := 24, nameIndex := 28, descriptorIndex := 29, attributes := #[] }, { accessFlags := 26, nameIndex := 38, descriptorIndex := 39, attributes := #[] }, { accessFlags := 25, nameIndex := 121, descriptorIndex := 25, attributes := #[] }, { accessFlags := 25, nameIndex := 131, descriptorIndex := 25, attributes := #[] }, { accessFlags := 25, nameIndex := 137, descriptorIndex := 25, attributes := #[] }, { accessFlags := 25, nameIndex := 143, descriptorIndex := 25, attributes := #[] }, { accessFlags := 25, nameIndex := 53, descriptorIndex := 25, attributes := #[] }, { accessFlags := 25, nameIndex := 24, descriptorIndex := 25, attributes := #[] }, { accessFlags := 25, nameIndex := 162, descriptorIndex := 25, attributes := #[] }, { accessFlags := 25, nameIndex := 187, descriptorIndex := 25, attributes := #[] }, { accessFlags := 26, nameIndex := 48, descriptorIndex := 25, attributes := #[] }, { accessFlags := 25, nameIndex := 277, descriptorIndex := 25, attributes := #[] }, { accessFlags := 25, nameIndex := 280, descriptorIndex := 25, attributes := #[] }, { accessFlags := 25, nameIndex := 282, descriptorIndex := 25, attributes := #[] }, { accessFlags := 25, nameIndex := 284, descriptorIndex := 25, attributes := #[] }, { accessFlags := 25, nameIndex := 286, descriptorIndex := 25, attributes := #[] }, { accessFlags := 25, nameIndex := 288, descriptorIndex := 25, attributes := #[] }, { accessFlags := 25, nameIndex := 290, descriptorIndex := 25, attributes := #[] }, { accessFlags := 25, nameIndex := 292, descriptorIndex := 25, attributes := #[] }, { accessFlags := 26, nameIndex := 108, descriptorIndex := 109, attributes := #[] }, { accessFlags := 25, nameIndex := 294, descriptorIndex := 25, attributes := #[] }])
  fields := #[{ name := "U", type := (.object "jdk/internal/misc/Unsafe"), accessFlags := 24, slot := 0, constantValue := 0 }, { name := "BIG_ENDIAN", type := .boolean, accessFlags := 26, slot := 1, constantValue := 0 }, { name := "LOG2_ARRAY_BOOLEAN_INDEX_SCALE", type := .int, accessFlags := 25, slot := 2, constantValue := 0 }, { name := "LOG2_ARRAY_BYTE_INDEX_SCALE", type := .int, accessFlags := 25, slot := 3, constantValue := 0 }, { name := "LOG2_ARRAY_CHAR_INDEX_SCALE", type := .int, accessFlags := 25, slot := 4, constantValue := 0 }, { name := "LOG2_ARRAY_SHORT_INDEX_SCALE", type := .int, accessFlags := 25, slot := 5, constantValue := 0 }, { name := "LOG2_ARRAY_INT_INDEX_SCALE", type := .int, accessFlags := 25, slot := 6, constantValue := 0 }, { name := "LOG2_ARRAY_LONG_INDEX_SCALE", type := .int, accessFlags := 25, slot := 7, constantValue := 0 }, { name := "LOG2_ARRAY_FLOAT_INDEX_SCALE", type := .int, accessFlags := 25, slot := 8, constantValue := 0 }, { name := "LOG2_ARRAY_DOUBLE_INDEX_SCALE", type := .int, accessFlags := 25, slot := 9, constantValue := 0 }, { name := "LOG2_BYTE_BIT_SIZE", type := .int, accessFlags := 26, slot := 10, constantValue := 0 }, { name := "T_BOOLEAN", type := .int, accessFlags := 25, slot := 11, constantValue := 0 }, { name := "T_CHAR", type := .int, accessFlags := 25, slot := 12, constantValue := 0 }, { name := "T_FLOAT", type := .int, accessFlags := 25, slot := 13, constantValue := 0 }, { name := "T_DOUBLE", type := .int, accessFlags := 25, slot := 14, constantValue := 0 }, { name := "T_BYTE", type := .int, accessFlags := 25, slot := 15, constantValue := 0 }, { name := "T_SHORT", type := .int, accessFlags := 25, slot := 16, constantValue := 0 }, { name := "T_INT", type := .int, accessFlags := 25, slot := 17, constantValue := 0 }, { name := "T_LONG", type := .int, accessFlags := 25, slot := 18, constantValue := 0 }, { name := "JLA", type := (.object "jdk/internal/access/JavaLangAccess"), accessFlags := 26, slot := 19, constantValue := 0 }, { name := "SOFT_MAX_ARRAY_LENGTH", type := .int, accessFlags := 25, slot := 20, constantValue := 0 }]
  methods := #[k15m0]
  instanceTypes := #[]
  staticTypes := #[(.object "jdk/internal/misc/Unsafe"), .boolean, .int, .int, .int, .int, .int, .int, .int, .int, .int, .int, .int, .int, .int, .int, .int, .int, .int, (.object "jdk/internal/access/JavaLangAccess"), .int]
  resolved := Array.replicate 378 none
  statics := none }

def pool16 : Array CpInfo := pool [(1, u "java/lang/Cloneable"), (0, .class_ 1), (0, u "java/lang/Object"), (0, .class_ 3)] 3

/-- java/lang/Cloneable -/
def k16 : Class := { plain "java/lang/Cloneable" (some 0) with
  accessFlags := 1537
  interfaces := #[]
  cf := some (fileOf pool16 2 #[] #[] 1537 4 #[] #[])
  fields := #[]
  methods := #[]
  instanceTypes := #[]
  staticTypes := #[]
  resolved := Array.replicate 8 none
  statics := none }

/-- the primitive byte -/
def k17 : Class := { plain "byte" none with kind := .primitive 'B', accessFlags := 0x411 }
/-- [B -/
def k18 : Class := { plain "[B" (some 0) with kind := .array 17 .byte, interfaces := #[16, 2], accessFlags := 1041 }

/-- the primitive char -/
def k19 : Class := { plain "char" none with kind := .primitive 'C', accessFlags := 0x411 }
/-- [C -/
def k20 : Class := { plain "[C" (some 0) with kind := .array 19 .char, interfaces := #[16, 2], accessFlags := 1041 }

/-- the primitive int -/
def k21 : Class := { plain "int" none with kind := .primitive 'I', accessFlags := 0x411 }
/-- [I -/
def k22 : Class := { plain "[I" (some 0) with kind := .array 21 .int, interfaces := #[16, 2], accessFlags := 1041 }

def heap : Heap := #[{ cls := 7, slots := #[.long 0, .int 1, .null, .int 0, .null, .int 0, .int 0], vm := .statics 7 },
  { cls := 12, slots := #[.ref 3, .ref 4, .ref 5, .ref 6, .ref 7, .null], vm := .statics 12 },
  { cls := 14, slots := #[.null, .null, .null], vm := .statics 14 },
  { cls := 12, slots := #[.null, .int 0, .int 0], vm := .none },
  { cls := 12, slots := #[.null, .int 1, .int 0], vm := .none },
  { cls := 12, slots := #[.null, .int 2, .int 0], vm := .none },
  { cls := 12, slots := #[.null, .int 3, .int 0], vm := .none },
  { cls := 12, slots := #[.null, .int 4, .int 0], vm := .none }]
def classes : Array Class := #[k0, k1, k2, k3, k4, k5, k6, k7, k8, k9, k10, k11, k12, k13, k14, k15, k16, k17, k18, k19, k20, k21, k22]
def interned : List (Array UInt16 × Addr) := []
def slotsUsed : Nat := 31
def theMethod : MethodId := ⟨1, 3⟩
def args0 : Array Value := #[.int 5, .int 5, .int 5, .int 5]
def aboutOver (below : List Frame) : State where
  vm := { classes := classes, interned := interned.toArray }
  heap := heap
  slotsUsed := slotsUsed
  threads := #[{ frames := .invoking theMethod args0 :: below }]
def below0 : List Frame := [.native { method := ⟨0, 0⟩, args := #[] }]
def about1 : State := aboutOver below0
def p0 : Program := .bare "" "" ""
def e0 : Env := launch0.env 0 0 0
theorem w_frames : about1.frames = Frame.invoking theMethod args0 :: below0 := rfl
set_option maxRecDepth 65536 in
theorem w_args : argsFit about1.vm theMethod args0 = true := by decide +kernel
set_option maxRecDepth 65536 in
theorem w_heap : heapFits about1 = true := by decide +kernel
set_option maxRecDepth 65536 in
theorem w_runnable : about1.curStatus? = some .runnable := by decide +kernel
set_option maxRecDepth 65536 in
theorem w_alone : about1.alone = true := by decide +kernel
set_option maxRecDepth 65536 in
theorem w_named : about1.methodNamed? x = some theMethod := by decide +kernel
set_option maxRecDepth 65536 in
theorem w_hears : about1.hears theMethod below0 = true := by decide +kernel
set_option maxRecDepth 65536 in
theorem w_ripe : about1.ripe theMethod args0 below0 = true := by decide +kernel
theorem w_running : about1.status = .running := rfl
set_option maxRecDepth 65536 in
theorem w_room : about1.hasRoom e0.platform room_1 = true :=
  launch0.hasRoom_least _ room_1 (by decide +kernel) (by decide +kernel) (by decide +kernel) (by decide +kernel) (by decide +kernel) (by decide +kernel)
theorem allAtoms_all (ts : List Jvm.Cond) (a : Array Jvm.Value) (st : Jvm.State) : (allAtoms ts).before a st = ts.all (fun c => c.before a st) := by
  induction ts with
  | nil => rfl
  | cons c t ih =>
    show (Jvm.Cond.and c (allAtoms t)).before a st = _
    rw [Jvm.Cond.before_and, ih, List.all_cons]
def words1 : List Jvm.Cond := Jvm.Cond.code x code maxLocals ret :: tables_1
/-- a 'code' word, met by the world's own term for the bytes: nothing is compared byte by byte -/
theorem code_word {y : MethodName} {bytes : ByteArray} {mx : Nat} {rt : Option FieldType} {a : Array Value} {s : State} {m : MethodId} {meth : Method} {c : Code} (h1 : s.methodNamed? y = some m) (h2 : s.vm.method? m = some meth) (h3 : meth.code = some c) (h4 : c.code = bytes)
    (h5 : (c.maxLocals == mx && c.exceptionTable.isEmpty && decide (c.maxStack ≤ mostOperands) && decide (meth.sig.returnType = rt) && !meth.locks && decide (parseMethodDescriptor y.desc = some meth.sig)) = true) : (Jvm.Cond.code y bytes mx rt).before a s = true := by
  simp only [Bool.and_eq_true, beq_iff_eq, Bool.not_eq_true', decide_eq_true_eq] at h5
  obtain ⟨⟨⟨⟨⟨g1, g2⟩, g3⟩, g4⟩, g5⟩, g6⟩ := h5
  simp [Cond.before, Cond.holds, Cond.value, h1, h2, h3, h4, g1, g2, g3, g4, g5, g6]
def isCode : Jvm.Cond → Bool
  | .code _ _ _ _ => true
  | _ => false
theorem all_split {L : List Jvm.Cond} {P : Jvm.Cond → Bool} (h1 : L.all (fun c => isCode c || P c) = true) (h2 : ∀ c ∈ L.filter isCode, P c = true) : L.all P = true := by
  refine List.all_eq_true.mpr fun c hc => ?_
  have h := List.all_eq_true.mp h1 c hc
  rcases Bool.eq_false_or_eq_true (isCode c) with hi | hi
  · exact h2 c (List.mem_filter.mpr ⟨hc, hi⟩)
  · simpa [hi] using h
set_option maxRecDepth 65536 in
theorem w_c0 : (Jvm.Cond.code x code maxLocals ret).before args0 about1 = true := code_word (m := ⟨1, 3⟩) (meth := k1m3) (c := k1c3) (by decide +kernel) rfl rfl rfl (by decide +kernel)
set_option maxRecDepth 65536 in
theorem w_c1 : (Jvm.Cond.code ({ cls := "com/example/penelope/penelope/frontend/TokenIsPinLaw", name := "mk", desc := "(ICC)Ljava/lang/String;" } : Jvm.MethodName) method_2_code (3 : Nat) (Option.some (Jvm.ClassFile.FieldType.object "java/lang/String"))).before args0 about1 = true := code_word (m := ⟨1, 1⟩) (meth := k1m1) (c := k1c1) (by decide +kernel) rfl rfl rfl (by decide +kernel)
set_option maxRecDepth 65536 in
theorem w_c2 : (Jvm.Cond.code ({ cls := "java/lang/String", name := "<init>", desc := "([C)V" } : Jvm.MethodName) jdk_42_method_3_code (2 : Nat) (Option.none : Option Jvm.ClassFile.FieldType)).before args0 about1 = true := code_word (m := ⟨7, 1⟩) (meth := k7m1) (c := k7c1) (by decide +kernel) rfl rfl rfl (by decide +kernel)
set_option maxRecDepth 65536 in
theorem w_c3 : (Jvm.Cond.code ({ cls := "java/lang/String", name := "<init>", desc := "([CIILjava/lang/Void;)V" } : Jvm.MethodName) jdk_42_method_149_code (6 : Nat) (Option.none : Option Jvm.ClassFile.FieldType)).before args0 about1 = true := code_word (m := ⟨7, 3⟩) (meth := k7m3) (c := k7c3) (by decide +kernel) rfl rfl rfl (by decide +kernel)
set_option maxRecDepth 65536 in
theorem w_c4 : (Jvm.Cond.code ({ cls := "java/lang/Object", name := "<init>", desc := "()V" } : Jvm.MethodName) object_method_1_code (1 : Nat) (Option.none : Option Jvm.ClassFile.FieldType)).before args0 about1 = true := code_word (m := ⟨0, 0⟩) (meth := k0m0) (c := k0c0) (by decide +kernel) rfl rfl rfl (by decide +kernel)
set_option maxRecDepth 65536 in
theorem w_c5 : (Jvm.Cond.code ({ cls := "java/lang/StringUTF16", name := "compress", desc := "([CII)[B" } : Jvm.MethodName) jdk_52_method_16_code (6 : Nat) (Option.some (Jvm.ClassFile.FieldType.array Jvm.ClassFile.FieldType.byte))).before args0 about1 = true := code_word (m := ⟨8, 2⟩) (meth := k8m2) (c := k8c2) (by decide +kernel) rfl rfl rfl (by decide +kernel)
set_option maxRecDepth 65536 in
theorem w_c6 : (Jvm.Cond.code ({ cls := "java/lang/StringUTF16", name := "compress", desc := "([CI[BII)I" } : Jvm.MethodName) jdk_52_method_21_code (7 : Nat) (Option.some Jvm.ClassFile.FieldType.int)).before args0 about1 = true := code_word (m := ⟨8, 3⟩) (meth := k8m3) (c := k8c3) (by decide +kernel) rfl rfl rfl (by decide +kernel)
set_option maxRecDepth 65536 in
theorem w_c7 : (Jvm.Cond.code ({ cls := "java/lang/StringUTF16", name := "coderFromArrayLen", desc := "([BI)B" } : Jvm.MethodName) jdk_52_method_15_code (2 : Nat) (Option.some Jvm.ClassFile.FieldType.byte)).before args0 about1 = true := code_word (m := ⟨8, 1⟩) (meth := k8m1) (c := k8c1) (by decide +kernel) rfl rfl rfl (by decide +kernel)
set_option maxRecDepth 65536 in
theorem w_c8 : (Jvm.Cond.code ({ cls := "com/example/penelope/penelope/frontend/TokenIsPinLaw", name := "kindOf", desc := "(I)Lcom/example/penelope/penelope/frontend/Lexer$Kind;" } : Jvm.MethodName) method_3_code (1 : Nat) (Option.some (Jvm.ClassFile.FieldType.object "com/example/penelope/penelope/frontend/Lexer$Kind"))).before args0 about1 = true := code_word (m := ⟨1, 2⟩) (meth := k1m2) (c := k1c2) (by decide +kernel) rfl rfl rfl (by decide +kernel)
set_option maxRecDepth 65536 in
theorem w_c9 : (Jvm.Cond.code ({ cls := "com/example/penelope/penelope/frontend/Lexer$Token", name := "<init>", desc := "(Lcom/example/penelope/penelope/frontend/Lexer$Kind;Ljava/lang/String;I)V" } : Jvm.MethodName) prog_66_method_1_code (4 : Nat) (Option.none : Option Jvm.ClassFile.FieldType)).before args0 about1 = true := code_word (m := ⟨10, 0⟩) (meth := k10m0) (c := k10c0) (by decide +kernel) rfl rfl rfl (by decide +kernel)
set_option maxRecDepth 65536 in
theorem w_c10 : (Jvm.Cond.code ({ cls := "java/lang/Record", name := "<init>", desc := "()V" } : Jvm.MethodName) jdk_30_method_1_code (1 : Nat) (Option.none : Option Jvm.ClassFile.FieldType)).before args0 about1 = true := code_word (m := ⟨9, 0⟩) (meth := k9m0) (c := k9c0) (by decide +kernel) rfl rfl rfl (by decide +kernel)
set_option maxRecDepth 65536 in
theorem w_c11 : (Jvm.Cond.code ({ cls := "com/example/penelope/penelope/frontend/Lexer$Token", name := "is", desc := "(Ljava/lang/String;)Z" } : Jvm.MethodName) prog_66_method_2_code (2 : Nat) (Option.some Jvm.ClassFile.FieldType.boolean)).before args0 about1 = true := code_word (m := ⟨10, 1⟩) (meth := k10m1) (c := k10c1) (by decide +kernel) rfl rfl rfl (by decide +kernel)
set_option maxRecDepth 65536 in
theorem w_c12 : (Jvm.Cond.code ({ cls := "java/lang/String", name := "equals", desc := "(Ljava/lang/Object;)Z" } : Jvm.MethodName) jdk_42_method_66_code (3 : Nat) (Option.some Jvm.ClassFile.FieldType.boolean)).before args0 about1 = true := code_word (m := ⟨7, 2⟩) (meth := k7m2) (c := k7c2) (by decide +kernel) rfl rfl rfl (by decide +kernel)
set_option maxRecDepth 65536 in
theorem w_c13 : (Jvm.Cond.code ({ cls := "java/lang/StringLatin1", name := "equals", desc := "([B[B)Z" } : Jvm.MethodName) jdk_43_method_13_code (3 : Nat) (Option.some Jvm.ClassFile.FieldType.boolean)).before args0 about1 = true := code_word (m := ⟨13, 1⟩) (meth := k13m1) (c := k13c1) (by decide +kernel) rfl rfl rfl (by decide +kernel)
def codes1 : List Jvm.Cond := [Jvm.Cond.code x code maxLocals ret, Jvm.Cond.code ({ cls := "com/example/penelope/penelope/frontend/TokenIsPinLaw", name := "mk", desc := "(ICC)Ljava/lang/String;" } : Jvm.MethodName) method_2_code (3 : Nat) (Option.some (Jvm.ClassFile.FieldType.object "java/lang/String")), Jvm.Cond.code ({ cls := "java/lang/String", name := "<init>", desc := "([C)V" } : Jvm.MethodName) jdk_42_method_3_code (2 : Nat) (Option.none : Option Jvm.ClassFile.FieldType), Jvm.Cond.code ({ cls := "java/lang/String", name := "<init>", desc := "([CIILjava/lang/Void;)V" } : Jvm.MethodName) jdk_42_method_149_code (6 : Nat) (Option.none : Option Jvm.ClassFile.FieldType), Jvm.Cond.code ({ cls := "java/lang/Object", name := "<init>", desc := "()V" } : Jvm.MethodName) object_method_1_code (1 : Nat) (Option.none : Option Jvm.ClassFile.FieldType), Jvm.Cond.code ({ cls := "java/lang/StringUTF16", name := "compress", desc := "([CII)[B" } : Jvm.MethodName) jdk_52_method_16_code (6 : Nat) (Option.some (Jvm.ClassFile.FieldType.array Jvm.ClassFile.FieldType.byte)), Jvm.Cond.code ({ cls := "java/lang/StringUTF16", name := "compress", desc := "([CI[BII)I" } : Jvm.MethodName) jdk_52_method_21_code (7 : Nat) (Option.some Jvm.ClassFile.FieldType.int), Jvm.Cond.code ({ cls := "java/lang/StringUTF16", name := "coderFromArrayLen", desc := "([BI)B" } : Jvm.MethodName) jdk_52_method_15_code (2 : Nat) (Option.some Jvm.ClassFile.FieldType.byte), Jvm.Cond.code ({ cls := "com/example/penelope/penelope/frontend/TokenIsPinLaw", name := "kindOf", desc := "(I)Lcom/example/penelope/penelope/frontend/Lexer$Kind;" } : Jvm.MethodName) method_3_code (1 : Nat) (Option.some (Jvm.ClassFile.FieldType.object "com/example/penelope/penelope/frontend/Lexer$Kind")), Jvm.Cond.code ({ cls := "com/example/penelope/penelope/frontend/Lexer$Token", name := "<init>", desc := "(Lcom/example/penelope/penelope/frontend/Lexer$Kind;Ljava/lang/String;I)V" } : Jvm.MethodName) prog_66_method_1_code (4 : Nat) (Option.none : Option Jvm.ClassFile.FieldType), Jvm.Cond.code ({ cls := "java/lang/Record", name := "<init>", desc := "()V" } : Jvm.MethodName) jdk_30_method_1_code (1 : Nat) (Option.none : Option Jvm.ClassFile.FieldType), Jvm.Cond.code ({ cls := "com/example/penelope/penelope/frontend/Lexer$Token", name := "is", desc := "(Ljava/lang/String;)Z" } : Jvm.MethodName) prog_66_method_2_code (2 : Nat) (Option.some Jvm.ClassFile.FieldType.boolean), Jvm.Cond.code ({ cls := "java/lang/String", name := "equals", desc := "(Ljava/lang/Object;)Z" } : Jvm.MethodName) jdk_42_method_66_code (3 : Nat) (Option.some Jvm.ClassFile.FieldType.boolean), Jvm.Cond.code ({ cls := "java/lang/StringLatin1", name := "equals", desc := "([B[B)Z" } : Jvm.MethodName) jdk_43_method_13_code (3 : Nat) (Option.some Jvm.ClassFile.FieldType.boolean)]
set_option maxRecDepth 65536 in
theorem codes_eq : words1.filter isCode = codes1 := rfl
theorem w_codes : ∀ c ∈ words1.filter isCode, c.before args0 about1 = true := by
  rw [codes_eq]
  intro c hc
  simp only [codes1, List.mem_cons, List.not_mem_nil, or_false] at hc
  rcases hc with rfl | rfl | rfl | rfl | rfl | rfl | rfl | rfl | rfl | rfl | rfl | rfl | rfl | rfl
  · exact w_c0
  · exact w_c1
  · exact w_c2
  · exact w_c3
  · exact w_c4
  · exact w_c5
  · exact w_c6
  · exact w_c7
  · exact w_c8
  · exact w_c9
  · exact w_c10
  · exact w_c11
  · exact w_c12
  · exact w_c13
set_option maxRecDepth 65536 in
theorem w_t1 : (words1.take 24).all (fun c => isCode c || c.before args0 about1) = true := by decide +kernel
set_option maxRecDepth 65536 in
theorem w_t2 : ((words1.drop 24).take 24).all (fun c => isCode c || c.before args0 about1) = true := by decide +kernel
set_option maxRecDepth 65536 in
theorem w_t3 : (((words1.drop 24).drop 24).take 24).all (fun c => isCode c || c.before args0 about1) = true := by decide +kernel
set_option maxRecDepth 65536 in
theorem w_t4 : (((words1.drop 24).drop 24).drop 24).all (fun c => isCode c || c.before args0 about1) = true := by decide +kernel
theorem w_tables : (allAtoms (Jvm.Cond.code x code maxLocals ret :: tables_1)).before args0 about1 = true := by
  rw [allAtoms_all]
  show words1.all (fun c => c.before args0 about1) = true
  refine all_split ?_ w_codes
  rw [← List.take_append_drop 24 words1, List.all_append, w_t1, ← List.take_append_drop 24 (words1.drop 24), List.all_append, w_t2, ← List.take_append_drop 24 ((words1.drop 24).drop 24), List.all_append, w_t3, w_t4]
  rfl
set_option maxRecDepth 65536 in
theorem w_rest : rest_1_c.before args0 about1 = true := by decide +kernel
set_option maxRecDepth 65536 in
theorem w_case : (Jvm.Cond.and given_1 narrow_1).before args0 about1 = true := by decide +kernel
set_option maxRecDepth 65536 in
theorem w_consts : constsHeld consts_1 about1 := Jvm.Lit.constsHeldB_iff.mp (by decide +kernel)
theorem w_applies : (headSpec (Jvm.Cond.code x code maxLocals ret :: tables_1) room_1).applies x e0.platform about1 = true :=
  (Spec.applies_iff w_frames).mpr ⟨w_running, w_runnable, w_alone, w_named, w_hears, w_ripe, w_room, w_tables⟩
theorem atStart : AtStart classFile x code maxLocals ret World_1 tables_1 room_1 Calls_1 rest_1 Pre_1 launch0 p0 e0 about1 theMethod args0 below0 :=
  ⟨lists_1, trivial, launch0.admits_env _ _ _, launch0.least_env, fairChoices_fair.cas, fairChoices_fair.clock, w_frames, w_args, w_heap, w_applies, ⟨w_consts, trivial⟩, w_rest, w_case⟩
end start1
theorem witness_1 : WitnessClaimed_1 := ⟨start1.p0, start1.e0, start1.about1, start1.theMethod, start1.args0, start1.below0, start1.atStart⟩
end Jvm.Pilot.@@N@@
