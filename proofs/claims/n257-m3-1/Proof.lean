import JvmDerived
import JvmDerived.Pilot.@@N@@Statement
import JvmDerived.Pilot.@@N@@Code
set_option linter.unusedVariables false
set_option linter.unusedSimpArgs false
namespace Jvm.OwnW
open Sem ClassFile Op Lib Bundle Jvm.Stand Jvm.Free Jvm.LawKit Jvm.RoadKit
/-! OwnW: a walk as one goal. Go: 'from every state of the walk that stands over this heap, with this frame, the method comes to its end with Q'. Each step is one lemma; tables, written places, rebased starts and booked constants ride inside. -/
abbrev Gb : Type := Launch × State × Array Value × List (String × Nat)
abbrev Gb.l (G : Gb) : Launch := G.1
abbrev Gb.Z (G : Gb) : State := G.2.1
abbrev Gb.a0 (G : Gb) : Array Value := G.2.2.1
abbrev Gb.EL (G : Gb) : List (String × Nat) := G.2.2.2
abbrev Cx : Type := (Program × Env × State × MethodId) × (Array Value × List Frame × Method × Code)
abbrev Cx.p (B : Cx) : Program := B.1.1
abbrev Cx.e (B : Cx) : Env := B.1.2.1
abbrev Cx.s (B : Cx) : State := B.1.2.2.1
abbrev Cx.m (B : Cx) : MethodId := B.1.2.2.2
abbrev Cx.as (B : Cx) : Array Value := B.2.1
abbrev Cx.bl (B : Cx) : List Frame := B.2.2.1
abbrev Cx.mt (B : Cx) : Method := B.2.2.2.1
abbrev Cx.c (B : Cx) : Code := B.2.2.2.2
abbrev Mt : Type := (String × String × Room) × (List (Nat × Instr × Nat) × Nat × Option FieldType)
abbrev Mt.own (M : Mt) : String := M.1.1
abbrev Mt.nm (M : Mt) : String := M.1.2.1
abbrev Mt.R (M : Mt) : Room := M.1.2.2
abbrev Mt.P (M : Mt) : List (Nat × Instr × Nat) := M.2.1
abbrev Mt.maxL (M : Mt) : Nat := M.2.2.1
abbrev Mt.ret (M : Mt) : Option FieldType := M.2.2.2
abbrev Wd (G : Gb) (d : Jvm.Cond) : Prop := d.before G.a0 G.Z = true
def Wo (G : Gb) (B : Cx) (own : String) (R : Room) (h : Heap) (sf : List Addr) (cells slots : Nat) (T : State) (vm0 : Vm) (k0 : Nat) (locs : List Loc) : Prop :=
  Stand B.p G.l B.e R (B.s.setVm vm0) B.m B.as B.bl B.mt B.c T locs cells slots ∧ T.heap = h ∧ B.s.Since vm0 k0 ∧ k0 ≤ h.size ∧
  G.Z.Warmed39 vm0 ∧ vm0.findClass own = some B.m.cls ∧ Fr G.Z.heap.size locs ∧ Ext G.Z.heap h ∧ CHr G.Z G.EL B.s.vm B.s.heap vm0 h ∧
  ∀ x ∈ sf, Safe G.Z G.EL vm0 h x ∧ x < h.size
def Fin (G : Gb) (B : Cx) (R : Room) (Q : Option Value → Heap → (Addr → Prop) → Prop) (u : State) : Prop :=
  ∃ (t : State) (v : Option Value) (L : List Loc), Steps B.p.tables B.e B.bl u t ∧ t.status = .running ∧ Ended t B.bl (.returned v) ∧ Q v t.heap (fun x => Safe G.Z G.EL t.vm t.heap x ∧ x < t.heap.size) ∧ Fr G.Z.heap.size L ∧ Ext G.Z.heap t.heap ∧
    CHr G.Z G.EL B.s.vm B.s.heap t.vm t.heap ∧ ReturnedEndW B.s (.returned v) t L R.cells R.slots
def Go (G : Gb) (B : Cx) (M : Mt) (Q : Option Value → Heap → (Addr → Prop) → Prop) (h : Heap) (sf : List Addr) (cells slots pc : Nat) (Ls : Array Slot) (st : List Value) : Prop :=
  ∀ T vm0 k0 locs, Wo G B M.own M.R h sf cells slots T vm0 k0 locs → Fin G B M.R Q (T.setTop (mkF B.m pc Ls st))
def Kd (G : Gb) (B : Cx) (M : Mt) : Prop :=
  B.p.tables.exec = Jvm.exec ∧ (∀ q ∈ M.P, decode B.c.code q.1 = .ok q.2) ∧ B.c.maxLocals = M.maxL ∧ B.mt.sig.returnType = M.ret ∧ B.mt.locks = false ∧ B.mt.name = M.nm ∧ EW G.Z G.a0 G.EL
/-- a contract: from these arguments over this heap it returns, and Q holds of what is returned and of the heap behind -/
def Ctr (G : Gb) (ws : List Jvm.Cond) (y : MethodName) (bytes : ByteArray) (maxL : Nat) (ret : Option FieldType) (rm : Room) (as' : Array Value) (h : Heap) (sf : List Addr) (Q : Option Value → Heap → (Addr → Prop) → Prop) : Prop :=
  MetFree G.l y (head1 (Jvm.Cond.code y bytes maxL ret :: ws) rm)
    (fun a U => a = as' ∧ G.Z.Warmed39 U.vm ∧ U.heap = h ∧ CHv G.Z G.EL U.vm h ∧ Ext G.Z.heap h ∧ ∀ x ∈ sf, Safe G.Z G.EL U.vm h x ∧ x < h.size) (fun _ _ _ _ _ => True)
    (fun _ U o U' => ∃ v L, o = .returned v ∧ (Q v U'.heap (fun x => Safe G.Z G.EL U'.vm U'.heap x ∧ x < U'.heap.size) ∧ Fr G.Z.heap.size L ∧ Ext G.Z.heap U'.heap) ∧ CHr G.Z G.EL U.vm U.heap U'.vm U'.heap ∧ ReturnedEndW U o U' L rm.cells rm.slots)
section Base
variable {G : Gb} {B : Cx} {M : Mt} {R : Room} {Q : Option Value → Heap → (Addr → Prop) → Prop} {h : Heap} {sf : List Addr} {cells slots pc : Nat} {Ls : Array Slot} {st : List Value}
theorem Fin.pre {u u' : State} (f : Fin G B R Q u') (k : ∀ target, Steps B.p.tables B.e B.bl u' target → Steps B.p.tables B.e B.bl u target) : Fin G B R Q u := by
  obtain ⟨t, v, L, s, r⟩ := f
  exact ⟨t, v, L, k _ s, r⟩
theorem Kd.dec (K : Kd G B M) {k : Nat} {i : Instr} {len : Nat} (hd : M.P[k]? = some (pc, i, len)) : decode B.c.code pc = .ok (i, len) := K.2.1 (pc, i, len) (List.mem_of_getElem? hd)
/-! ### plain steps -/
def intAt (Ls : Array Slot) (k : Nat) : Option Int32 := match Ls[k]? with | some (.val (.int v)) => some v | _ => none
def longAt (Ls : Array Slot) (k : Nat) : Option Int64 := match Ls[k]? with | some (.val (.long v)) => some v | _ => none
def refAt (Ls : Array Slot) (k : Nat) : Option Value := match Ls[k]? with | some (.val (.ref a)) => some (.ref a) | some (.val .null) => some .null | _ => none
theorem intAt_ok {k : Nat} {v : Int32} (q : intAt Ls k = some v) : Ls[k]? = some (.val (.int v)) := by
  unfold intAt at q; split at q
  · rename_i u; cases q; exact u
  · cases q
theorem longAt_ok {k : Nat} {v : Int64} (q : longAt Ls k = some v) : Ls[k]? = some (.val (.long v)) := by
  unfold longAt at q; split at q
  · rename_i u; cases q; exact u
  · cases q
theorem refAt_ok {k : Nat} {v : Value} (q : refAt Ls k = some v) : Ls[k]? = some (.val v) ∧ v.isRef = true := by
  unfold refAt at q; split at q
  · rename_i u; cases q; exact ⟨u, rfl⟩
  · rename_i u; cases q; exact ⟨u, rfl⟩
  · cases q
def sem1 (i : Instr) (n pc : Nat) (Ls : Array Slot) (st : List Value) : Option (Nat × Array Slot × List Value) :=
  match i, n, st with
  | .aconst_null, 1, st => some (pc + 1, Ls, .null :: st)
  | .iconst z, 1, st => some (pc + 1, Ls, .int (Int32.ofInt z) :: st)
  | .bipush z, 2, st => some (pc + 2, Ls, .int (Int8.ofInt z).toInt32 :: st)
  | .sipush z, 3, st => some (pc + 3, Ls, .int (Int16.ofInt z).toInt32 :: st)
  | .iload k, 2, st => (intAt Ls k).map fun v => (pc + 2, Ls, .int v :: st)
  | .iload_n k, 1, st => (intAt Ls k.val).map fun v => (pc + 1, Ls, .int v :: st)
  | .lload k, 2, st => (longAt Ls k).map fun v => (pc + 2, Ls, .long v :: st)
  | .lload_n k, 1, st => (longAt Ls k.val).map fun v => (pc + 1, Ls, .long v :: st)
  | .aload k, 2, st => (refAt Ls k).map fun v => (pc + 2, Ls, v :: st)
  | .aload_n k, 1, st => (refAt Ls k.val).map fun v => (pc + 1, Ls, v :: st)
  | .istore k, 2, .int x :: st => (storeLocals Ls k (.int x)).map fun l => (pc + 2, l, st)
  | .istore_n k, 1, .int x :: st => (storeLocals Ls k.val (.int x)).map fun l => (pc + 1, l, st)
  | .astore k, 2, .ref x :: st => (storeLocals Ls k (.ref x)).map fun l => (pc + 2, l, st)
  | .astore k, 2, .null :: st => (storeLocals Ls k .null).map fun l => (pc + 2, l, st)
  | .astore_n k, 1, .ref x :: st => (storeLocals Ls k.val (.ref x)).map fun l => (pc + 1, l, st)
  | .astore_n k, 1, .null :: st => (storeLocals Ls k.val .null).map fun l => (pc + 1, l, st)
  | .pop, 1, x :: st => if x.category = 1 then some (pc + 1, Ls, st) else none
  | .dup, 1, x :: st => if x.category = 1 then some (pc + 1, Ls, x :: x :: st) else none
  | .dup_x1, 1, x :: y :: st => if x.category = 1 then (if y.category = 1 then some (pc + 1, Ls, x :: y :: x :: st) else none) else none
  | .iadd, 1, .int y :: .int x :: st => some (pc + 1, Ls, .int (x + y) :: st)
  | .isub, 1, .int y :: .int x :: st => some (pc + 1, Ls, .int (x - y) :: st)
  | .imul, 1, .int y :: .int x :: st => some (pc + 1, Ls, .int (x * y) :: st)
  | .iand, 1, .int y :: .int x :: st => some (pc + 1, Ls, .int (x &&& y) :: st)
  | .ior, 1, .int y :: .int x :: st => some (pc + 1, Ls, .int (x ||| y) :: st)
  | .ixor, 1, .int y :: .int x :: st => some (pc + 1, Ls, .int (x ^^^ y) :: st)
  | .ishl, 1, .int y :: .int x :: st => some (pc + 1, Ls, .int (x <<< (y &&& 31)) :: st)
  | .ishr, 1, .int y :: .int x :: st => some (pc + 1, Ls, .int (x >>> (y &&& 31)) :: st)
  | .iushr, 1, .int y :: .int x :: st => some (pc + 1, Ls, .int (XT.ushr x y) :: st)
  | .lushr, 1, .int y :: .long x :: st => some (pc + 1, Ls, .long (XT.ushrL x y) :: st)
  | .i2l, 1, .int x :: st => some (pc + 1, Ls, .long x.toInt64 :: st)
  | .l2i, 1, .long x :: st => some (pc + 1, Ls, .int x.toInt32 :: st)
  | .i2b, 1, .int x :: st => some (pc + 1, Ls, .int x.toInt8.toInt32 :: st)
  | .i2c, 1, .int x :: st => some (pc + 1, Ls, .int x.toUInt32.toUInt16.toUInt32.toInt32 :: st)
  | .lcmp, 1, .long y :: .long x :: st => some (pc + 1, Ls, .int (XT.cmpL x y) :: st)
  | .iinc k z, 3, st => (intAt Ls k).bind fun x => (storeLocals Ls k (.int (x + Int32.ofInt z))).map fun l => (pc + 3, l, st)
  | .goto o, 3, st => if 0 ≤ (pc : Int) + o then some (((pc : Int) + o).toNat, Ls, st) else none
  | _, _, _ => none
theorem sem1_ok {tb : Tables} [Ours tb] {e : Env} {below : List Frame} {T target : State} {m : MethodId} {c : Code} (h : At T m c below) (hx : tb.exec = Jvm.exec) {i : Instr} {n : Nat} {f : Nat × Array Slot × List Value}
    (hd : decode c.code pc = .ok (i, n)) (hs : sem1 i n pc Ls st = some f) (hr : Steps tb e below (T.setTop (mkF m f.1 f.2.1 f.2.2)) target) : Steps tb e below (T.setTop (mkF m pc Ls st)) target := by
  unfold sem1 at hs
  split at hs
  · cases hs; exact XS.aconstNull h hx rfl hd hr
  · cases hs; exact XS.iconst h hx rfl hd hr
  · cases hs; exact XS.bipush h hx rfl hd hr
  · cases hs; exact XS.sipush h hx rfl hd hr
  · obtain ⟨v, q, rfl⟩ := Option.map_eq_some_iff.mp hs; exact XS.iload h hx rfl hd (intAt_ok q) hr
  · obtain ⟨v, q, rfl⟩ := Option.map_eq_some_iff.mp hs; exact XS.iloadN h hx rfl hd (intAt_ok q) hr
  · obtain ⟨v, q, rfl⟩ := Option.map_eq_some_iff.mp hs; exact XT.lload h hx rfl hd (longAt_ok q) hr
  · obtain ⟨v, q, rfl⟩ := Option.map_eq_some_iff.mp hs; exact XT.lloadN h hx rfl hd (longAt_ok q) hr
  · obtain ⟨v, q, rfl⟩ := Option.map_eq_some_iff.mp hs; exact XS.aload h hx rfl hd (refAt_ok q).1 (refAt_ok q).2 hr
  · obtain ⟨v, q, rfl⟩ := Option.map_eq_some_iff.mp hs; exact XS.aloadN h hx rfl hd (refAt_ok q).1 (refAt_ok q).2 hr
  · obtain ⟨v, q, rfl⟩ := Option.map_eq_some_iff.mp hs; exact XS.istore h hx rfl hd rfl q hr
  · obtain ⟨v, q, rfl⟩ := Option.map_eq_some_iff.mp hs; exact XS.istoreN h hx rfl hd rfl q hr
  · obtain ⟨v, q, rfl⟩ := Option.map_eq_some_iff.mp hs; exact XS.astore h hx rfl hd rfl rfl q hr
  · obtain ⟨v, q, rfl⟩ := Option.map_eq_some_iff.mp hs; exact XS.astore h hx rfl hd rfl rfl q hr
  · obtain ⟨v, q, rfl⟩ := Option.map_eq_some_iff.mp hs; exact XS.astoreN h hx rfl hd rfl rfl q hr
  · obtain ⟨v, q, rfl⟩ := Option.map_eq_some_iff.mp hs; exact XS.astoreN h hx rfl hd rfl rfl q hr
  · split at hs
    · rename_i q; cases hs; exact XT.pop h hx rfl hd rfl q hr
    · cases hs
  · split at hs
    · rename_i q; cases hs; exact XS.dup h hx rfl hd rfl q hr
    · cases hs
  · split at hs
    · rename_i q
      split at hs
      · rename_i q'; cases hs; exact XT.dupX1 h hx rfl hd rfl q q' hr
      · cases hs
    · cases hs
  · cases hs; exact XS.iadd h hx rfl hd rfl hr
  · cases hs; exact XS.isub h hx rfl hd rfl hr
  · cases hs; exact XS.imul h hx rfl hd rfl hr
  · cases hs; exact XS.iand h hx rfl hd rfl hr
  · cases hs; exact XT.ior h hx rfl hd rfl hr
  · cases hs; exact XT.ixor h hx rfl hd rfl hr
  · cases hs; exact XT.ishl h hx rfl hd rfl hr
  · cases hs; exact XT.ishr h hx rfl hd rfl hr
  · cases hs; exact XT.iushr h hx rfl hd rfl hr
  · cases hs; exact XT.lushr h hx rfl hd rfl hr
  · cases hs; exact XT.i2l h hx rfl hd rfl hr
  · cases hs; exact XT.l2i h hx rfl hd rfl hr
  · cases hs; exact XT.i2b h hx rfl hd rfl hr
  · cases hs; exact XT.i2c h hx rfl hd rfl hr
  · cases hs; exact XT.lcmp h hx rfl hd rfl hr
  · obtain ⟨x, q, hs⟩ := Option.bind_eq_some_iff.mp hs
    obtain ⟨v, q', rfl⟩ := Option.map_eq_some_iff.mp hs; exact XS.iinc h hx rfl hd (intAt_ok q) q' hr
  · split at hs
    · rename_i q; cases hs; exact XS.goto h hx rfl (pc0 := pc) rfl hd q rfl hr
    · cases hs
  · cases hs
def runs : Nat → List (Nat × Instr × Nat) → Nat × Array Slot × List Value → Option (Nat × Array Slot × List Value)
  | 0, _, f => some f
  | _ + 1, [], _ => none
  | n + 1, q :: P, f => if q.1 = f.1 then (sem1 q.2.1 q.2.2 f.1 f.2.1 f.2.2).bind fun f' => runs n P f' else none
theorem runs_ok {tb : Tables} [Ours tb] {e : Env} {below : List Frame} {T target : State} {m : MethodId} {c : Code} (h : At T m c below) (hx : tb.exec = Jvm.exec) : ∀ (n : Nat) (P : List (Nat × Instr × Nat)) (f f' : Nat × Array Slot × List Value),
    (∀ q ∈ P, decode c.code q.1 = .ok q.2) → runs n P f = some f' → Steps tb e below (T.setTop (mkF m f'.1 f'.2.1 f'.2.2)) target → Steps tb e below (T.setTop (mkF m f.1 f.2.1 f.2.2)) target
  | 0, _, f, f', _, hs, hr => by cases hs; exact hr
  | _ + 1, [], _, _, _, hs, _ => by cases hs
  | n + 1, q :: P, f, f', hP, hs, hr => by
    simp only [runs] at hs
    split at hs
    · rename_i u
      obtain ⟨g, q1, q2⟩ := Option.bind_eq_some_iff.mp hs
      exact sem1_ok h hx (by rw [← u]; exact hP q (List.mem_cons_self ..)) q1 (runs_ok h hx n P g f' (fun z hz => hP z (List.mem_cons_of_mem _ hz)) q2 hr)
    · cases hs
theorem go_run (K : Kd G B M) (k n : Nat) {pc' : Nat} {Ls' : Array Slot} {st' : List Value} (hr : runs n (M.P.drop k) (pc, Ls, st) = some (pc', Ls', st')) (g : Go G B M Q h sf cells slots pc' Ls' st') : Go G B M Q h sf cells slots pc Ls st := by
  intro T vm0 k0 locs W
  exact (g T vm0 k0 locs W).pre fun target q => runs_ok W.1.here K.1 n _ (pc, Ls, st) (pc', Ls', st') (fun z hz => K.2.1 z (List.mem_of_mem_drop hz)) hr q
/-! ### branches -/
theorem go_if2 (K : Kd G B M) {k : Nat} {cd : ClassFile.Cond} {o : Int} {x : Int32} (hd : M.P[k]? = some (pc, .ifCond cd o, 3)) {pc' : Nat} (ho : 0 ≤ (pc : Int) + o ∧ ((pc : Int) + o).toNat = pc') {A : Prop} [Decidable A] (hA : A → ifCond.holds cd x = true) (hN : ¬ A → ifCond.holds cd x = false)
    (gT : A → Go G B M Q h sf cells slots pc' Ls st) (gF : ¬ A → Go G B M Q h sf cells slots (pc + 3) Ls st) : Go G B M Q h sf cells slots pc Ls (.int x :: st) := by
  intro T vm0 k0 locs W
  by_cases a : A
  · exact (gT a T vm0 k0 locs W).pre fun target hr => XS.ifYes W.1.here K.1 rfl (pc0 := pc) (pc' := pc') rfl (K.dec hd) rfl (hA a) ho.1 ho.2 hr
  · exact (gF a T vm0 k0 locs W).pre fun target hr => XS.ifNo W.1.here K.1 rfl (K.dec hd) rfl (hN a) hr
theorem go_icmp2 (K : Kd G B M) {k : Nat} {cd : ClassFile.Cond} {o : Int} {x y : Int32} (hd : M.P[k]? = some (pc, .if_icmp cd o, 3)) {pc' : Nat} (ho : 0 ≤ (pc : Int) + o ∧ ((pc : Int) + o).toNat = pc') {A : Prop} [Decidable A] (hA : A → if_icmp.holds cd x y = true) (hN : ¬ A → if_icmp.holds cd x y = false)
    (gT : A → Go G B M Q h sf cells slots pc' Ls st) (gF : ¬ A → Go G B M Q h sf cells slots (pc + 3) Ls st) : Go G B M Q h sf cells slots pc Ls (.int y :: .int x :: st) := by
  intro T vm0 k0 locs W
  by_cases a : A
  · exact (gT a T vm0 k0 locs W).pre fun target hr => XS.icmpYes W.1.here K.1 rfl (pc0 := pc) (pc' := pc') rfl (K.dec hd) rfl (hA a) ho.1 ho.2 hr
  · exact (gF a T vm0 k0 locs W).pre fun target hr => XS.icmpNo W.1.here K.1 rfl (K.dec hd) rfl (hN a) hr
theorem go_ifeq (K : Kd G B M) {k : Nat} {o : Int} {x : Int32} (hd : M.P[k]? = some (pc, .ifCond .eq o, 3)) {pc' : Nat} (ho : 0 ≤ (pc : Int) + o ∧ ((pc : Int) + o).toNat = pc') (gT : x = 0 → Go G B M Q h sf cells slots pc' Ls st) (gF : ¬ x = 0 → Go G B M Q h sf cells slots (pc + 3) Ls st) : Go G B M Q h sf cells slots pc Ls (.int x :: st) :=
  go_if2 K hd ho (fun q => by rw [if0]; exact (teq q).1) (fun q => by rw [if0]; exact (feq q).1) gT gF
theorem go_ifne (K : Kd G B M) {k : Nat} {o : Int} {x : Int32} (hd : M.P[k]? = some (pc, .ifCond .ne o, 3)) {pc' : Nat} (ho : 0 ≤ (pc : Int) + o ∧ ((pc : Int) + o).toNat = pc') (gT : ¬ x = 0 → Go G B M Q h sf cells slots pc' Ls st) (gF : x = 0 → Go G B M Q h sf cells slots (pc + 3) Ls st) : Go G B M Q h sf cells slots pc Ls (.int x :: st) :=
  go_if2 K hd ho (A := ¬ x = 0) (fun q => by rw [if0]; exact (feq q).2) (fun q => by rw [if0]; exact (teq (Decidable.not_not.mp q)).2) gT (fun q => gF (Decidable.not_not.mp q))
theorem go_iflt (K : Kd G B M) {k : Nat} {o : Int} {x : Int32} (hd : M.P[k]? = some (pc, .ifCond .lt o, 3)) {pc' : Nat} (ho : 0 ≤ (pc : Int) + o ∧ ((pc : Int) + o).toNat = pc') (gT : x < 0 → Go G B M Q h sf cells slots pc' Ls st) (gF : ¬ x < 0 → Go G B M Q h sf cells slots (pc + 3) Ls st) : Go G B M Q h sf cells slots pc Ls (.int x :: st) :=
  go_if2 K hd ho (fun q => by rw [if0]; exact (tlt q).1) (fun q => by rw [if0]; exact (flt q).1) gT gF
theorem go_ifge (K : Kd G B M) {k : Nat} {o : Int} {x : Int32} (hd : M.P[k]? = some (pc, .ifCond .ge o, 3)) {pc' : Nat} (ho : 0 ≤ (pc : Int) + o ∧ ((pc : Int) + o).toNat = pc') (gT : ¬ x < 0 → Go G B M Q h sf cells slots pc' Ls st) (gF : x < 0 → Go G B M Q h sf cells slots (pc + 3) Ls st) : Go G B M Q h sf cells slots pc Ls (.int x :: st) :=
  go_if2 K hd ho (A := ¬ x < 0) (fun q => by rw [if0]; exact (flt q).2.1) (fun q => by rw [if0]; exact (tlt (Decidable.not_not.mp q)).2.1) gT (fun q => gF (Decidable.not_not.mp q))
theorem go_ifgt (K : Kd G B M) {k : Nat} {o : Int} {x : Int32} (hd : M.P[k]? = some (pc, .ifCond .gt o, 3)) {pc' : Nat} (ho : 0 ≤ (pc : Int) + o ∧ ((pc : Int) + o).toNat = pc') (gT : 0 < x → Go G B M Q h sf cells slots pc' Ls st) (gF : ¬ 0 < x → Go G B M Q h sf cells slots (pc + 3) Ls st) : Go G B M Q h sf cells slots pc Ls (.int x :: st) :=
  go_if2 K hd ho (fun q => by rw [if0]; exact (tlt q).2.2.1) (fun q => by rw [if0]; exact (flt q).2.2.1) gT gF
theorem go_ifle (K : Kd G B M) {k : Nat} {o : Int} {x : Int32} (hd : M.P[k]? = some (pc, .ifCond .le o, 3)) {pc' : Nat} (ho : 0 ≤ (pc : Int) + o ∧ ((pc : Int) + o).toNat = pc') (gT : ¬ 0 < x → Go G B M Q h sf cells slots pc' Ls st) (gF : 0 < x → Go G B M Q h sf cells slots (pc + 3) Ls st) : Go G B M Q h sf cells slots pc Ls (.int x :: st) :=
  go_if2 K hd ho (A := ¬ 0 < x) (fun q => by rw [if0]; exact (flt q).2.2.2) (fun q => by rw [if0]; exact (tlt (Decidable.not_not.mp q)).2.2.2) gT (fun q => gF (Decidable.not_not.mp q))
theorem go_icmpeq (K : Kd G B M) {k : Nat} {o : Int} {x y : Int32} (hd : M.P[k]? = some (pc, .if_icmp .eq o, 3)) {pc' : Nat} (ho : 0 ≤ (pc : Int) + o ∧ ((pc : Int) + o).toNat = pc') (gT : x = y → Go G B M Q h sf cells slots pc' Ls st) (gF : ¬ x = y → Go G B M Q h sf cells slots (pc + 3) Ls st) : Go G B M Q h sf cells slots pc Ls (.int y :: .int x :: st) :=
  go_icmp2 K hd ho (fun q => (teq q).1) (fun q => (feq q).1) gT gF
theorem go_icmpne (K : Kd G B M) {k : Nat} {o : Int} {x y : Int32} (hd : M.P[k]? = some (pc, .if_icmp .ne o, 3)) {pc' : Nat} (ho : 0 ≤ (pc : Int) + o ∧ ((pc : Int) + o).toNat = pc') (gT : ¬ x = y → Go G B M Q h sf cells slots pc' Ls st) (gF : x = y → Go G B M Q h sf cells slots (pc + 3) Ls st) : Go G B M Q h sf cells slots pc Ls (.int y :: .int x :: st) :=
  go_icmp2 K hd ho (A := ¬ x = y) (fun q => (feq q).2) (fun q => (teq (Decidable.not_not.mp q)).2) gT (fun q => gF (Decidable.not_not.mp q))
theorem go_icmplt (K : Kd G B M) {k : Nat} {o : Int} {x y : Int32} (hd : M.P[k]? = some (pc, .if_icmp .lt o, 3)) {pc' : Nat} (ho : 0 ≤ (pc : Int) + o ∧ ((pc : Int) + o).toNat = pc') (gT : x < y → Go G B M Q h sf cells slots pc' Ls st) (gF : ¬ x < y → Go G B M Q h sf cells slots (pc + 3) Ls st) : Go G B M Q h sf cells slots pc Ls (.int y :: .int x :: st) :=
  go_icmp2 K hd ho (fun q => (tlt q).1) (fun q => (flt q).1) gT gF
theorem go_icmpge (K : Kd G B M) {k : Nat} {o : Int} {x y : Int32} (hd : M.P[k]? = some (pc, .if_icmp .ge o, 3)) {pc' : Nat} (ho : 0 ≤ (pc : Int) + o ∧ ((pc : Int) + o).toNat = pc') (gT : ¬ x < y → Go G B M Q h sf cells slots pc' Ls st) (gF : x < y → Go G B M Q h sf cells slots (pc + 3) Ls st) : Go G B M Q h sf cells slots pc Ls (.int y :: .int x :: st) :=
  go_icmp2 K hd ho (A := ¬ x < y) (fun q => (flt q).2.1) (fun q => (tlt (Decidable.not_not.mp q)).2.1) gT (fun q => gF (Decidable.not_not.mp q))
theorem go_icmpgt (K : Kd G B M) {k : Nat} {o : Int} {x y : Int32} (hd : M.P[k]? = some (pc, .if_icmp .gt o, 3)) {pc' : Nat} (ho : 0 ≤ (pc : Int) + o ∧ ((pc : Int) + o).toNat = pc') (gT : y < x → Go G B M Q h sf cells slots pc' Ls st) (gF : ¬ y < x → Go G B M Q h sf cells slots (pc + 3) Ls st) : Go G B M Q h sf cells slots pc Ls (.int y :: .int x :: st) :=
  go_icmp2 K hd ho (fun q => (tlt q).2.2.1) (fun q => (flt q).2.2.1) gT gF
theorem go_icmple (K : Kd G B M) {k : Nat} {o : Int} {x y : Int32} (hd : M.P[k]? = some (pc, .if_icmp .le o, 3)) {pc' : Nat} (ho : 0 ≤ (pc : Int) + o ∧ ((pc : Int) + o).toNat = pc') (gT : ¬ y < x → Go G B M Q h sf cells slots pc' Ls st) (gF : y < x → Go G B M Q h sf cells slots (pc + 3) Ls st) : Go G B M Q h sf cells slots pc Ls (.int y :: .int x :: st) :=
  go_icmp2 K hd ho (A := ¬ y < x) (fun q => (flt q).2.2.2) (fun q => (tlt (Decidable.not_not.mp q)).2.2.2) gT (fun q => gF (Decidable.not_not.mp q))
theorem go_ifnullY (K : Kd G B M) {k : Nat} {o : Int} (hd : M.P[k]? = some (pc, .ifnull o, 3)) {pc' : Nat} (ho : 0 ≤ (pc : Int) + o ∧ ((pc : Int) + o).toNat = pc') (g : Go G B M Q h sf cells slots pc' Ls st) : Go G B M Q h sf cells slots pc Ls (.null :: st) := by
  intro T vm0 k0 locs W
  exact (g T vm0 k0 locs W).pre fun target hr => XS.ifnullYes W.1.here K.1 rfl (pc0 := pc) (pc' := pc') rfl (K.dec hd) rfl ho.1 ho.2 hr
theorem go_ifnullN (K : Kd G B M) {k : Nat} {o : Int} {a : Addr} (hd : M.P[k]? = some (pc, .ifnull o, 3)) (g : Go G B M Q h sf cells slots (pc + 3) Ls st) : Go G B M Q h sf cells slots pc Ls (.ref a :: st) := by
  intro T vm0 k0 locs W
  exact (g T vm0 k0 locs W).pre fun target hr => XS.ifnullNo W.1.here K.1 rfl (K.dec hd) rfl hr
theorem go_ifnonY (K : Kd G B M) {k : Nat} {o : Int} {a : Addr} (hd : M.P[k]? = some (pc, .ifnonnull o, 3)) {pc' : Nat} (ho : 0 ≤ (pc : Int) + o ∧ ((pc : Int) + o).toNat = pc') (g : Go G B M Q h sf cells slots pc' Ls st) : Go G B M Q h sf cells slots pc Ls (.ref a :: st) := by
  intro T vm0 k0 locs W
  exact (g T vm0 k0 locs W).pre fun target hr => XT.ifnonnullYes W.1.here K.1 rfl (pc0 := pc) (pc' := pc') rfl (K.dec hd) rfl ho.1 ho.2 hr
theorem go_ifnonN (K : Kd G B M) {k : Nat} {o : Int} (hd : M.P[k]? = some (pc, .ifnonnull o, 3)) (g : Go G B M Q h sf cells slots (pc + 3) Ls st) : Go G B M Q h sf cells slots pc Ls (.null :: st) := by
  intro T vm0 k0 locs W
  exact (g T vm0 k0 locs W).pre fun target hr => XT.ifnonnullNo W.1.here K.1 rfl (K.dec hd) rfl hr
theorem go_acmp (K : Kd G B M) {k : Nat} {cd : ACond} {o : Int} {x y : Value} (hd : M.P[k]? = some (pc, .if_acmp cd o, 3)) (h1 : x.isRef = true) (h2 : y.isRef = true) {same : Bool} (hq : decide (x = y) = same) {pc' : Nat} (ho : 0 ≤ (pc : Int) + o) (hp : pc' = if acV cd same = true then ((pc : Int) + o).toNat else pc + 3)
    (g : Go G B M Q h sf cells slots pc' Ls st) : Go G B M Q h sf cells slots pc Ls (y :: x :: st) := by
  intro T vm0 k0 locs W
  exact (g T vm0 k0 locs W).pre fun target hr => RoadKit.acmp W.1 K.1 rfl h1 h2 (pc0 := pc) rfl (K.dec hd) rfl hq ho hp hr
theorem go_irem (K : Kd G B M) {k : Nat} {x y : Int32} (hd : M.P[k]? = some (pc, .irem, 1)) (hy : y ≠ 0) (g : Go G B M Q h sf cells slots (pc + 1) Ls (.int (x % y) :: st)) : Go G B M Q h sf cells slots pc Ls (.int y :: .int x :: st) := by
  intro T vm0 k0 locs W
  exact (g T vm0 k0 locs W).pre fun target hr => iremM W.1 K.1 rfl (K.dec hd) rfl hy hr
/-! ### the end -/
theorem go_leave (K : Kd G B M) {v : Option Value} (hv : M.ret = none → v = none) (q : ∀ Sf : Addr → Prop, (∀ x ∈ sf, Sf x) → Q v h Sf)
    (rt : ∀ (T : State) (vm0 : Vm) (locs : List Loc) (fs : List Frame), Stand B.p G.l B.e M.R (B.s.setVm vm0) B.m B.as B.bl B.mt B.c T locs cells slots →
      (∀ (f : JFrame) (acts : List Action), f.method = B.m → f.locked = none → f.entered = [] → (doReturn B.e (T.setTop f) acts v).1 = T.setFrames fs) → Steps B.p.tables B.e B.bl (T.setTop (mkF B.m pc Ls st)) (T.setFrames fs))
    (hc : cells ≤ M.R.cells) (hs : slots ≤ M.R.slots) : Go G B M Q h sf cells slots pc Ls st := by
  intro T vm0 k0 locs W
  obtain ⟨X, eT, hS, hk, hZ, hown, hF, hE, hC, hs0⟩ := W
  obtain ⟨fs, hr, hrun, hend, hW⟩ := X.leaveW hS (by rw [eT]; exact hk) (v := v) (fun z => hv (by rw [← K.2.2.2.1]; exact z)) K.2.2.2.2.1
  obtain ⟨w1, w2, w3, w4⟩ := hW
  have A := CHv.at X hZ K.2.2.2.2.2.2 hC.1
  refine ⟨_, v, locs, rt T vm0 locs fs X hr, hrun, hend, ?_, hF, ?_, ?_, w1, w2, w3, w4.mono hc hs⟩
  · show Q v T.heap (fun x => Safe G.Z G.EL T.vm T.heap x ∧ x < T.heap.size)
    rw [eT]
    exact q _ fun x hx => ⟨A.safe (hs0 x hx).2 (hs0 x hx).1, (hs0 x hx).2⟩
  · show Ext G.Z.heap T.heap
    rw [eT]; exact hE
  · show CHr G.Z G.EL B.s.vm B.s.heap T.vm T.heap
    rw [eT]; exact hC.trans A
theorem go_return (K : Kd G B M) {k : Nat} (hd : M.P[k]? = some (pc, .return_, 1)) (hr : M.ret = none) (hc : Nat.ble cells M.R.cells = true) (hs : Nat.ble slots M.R.slots = true) (q : ∀ Sf : Addr → Prop, (∀ x ∈ sf, Sf x) → Q none h Sf) : Go G B M Q h sf cells slots pc Ls [] :=
  go_leave K (fun _ => rfl) q (fun T vm0 locs fs X hl => X.returnOut K.1 (K.2.2.2.1.trans hr) (K.dec hd) hl) (Nat.le_of_ble_eq_true hc) (Nat.le_of_ble_eq_true hs)
theorem go_ret (K : Kd G B M) {k : Nat} {i : Instr} {t : FieldType} {w : Value} (hd : M.P[k]? = some (pc, i, 1)) (hr : M.ret = some t) (hn : narrow t w = w)
    (hi : (i = .ireturn ∧ (t = .int ∨ t = .boolean ∨ t = .byte ∨ t = .char ∨ t = .short) ∧ ∃ z, w = .int z) ∨ (i = .lreturn ∧ t = .long ∧ ∃ z, w = .long z) ∨ (i = .dreturn ∧ t = .double ∧ ∃ z, w = .double z) ∨ (i = .freturn ∧ t = .float ∧ ∃ z, w = .float z) ∨ (i = .areturn ∧ t.isReference = true ∧ w.isRef = true))
    (hc : Nat.ble cells M.R.cells = true) (hs : Nat.ble slots M.R.slots = true) (q : ∀ Sf : Addr → Prop, (∀ x ∈ sf, Sf x) → Q (some w) h Sf) : Go G B M Q h sf cells slots pc Ls (w :: st) :=
  go_leave K (fun z => by rw [hr] at z; cases z) q (fun T vm0 locs fs X hl => retOut X K.1 (K.2.2.2.1.trans hr) hn hi (K.dec hd) hl) (Nat.le_of_ble_eq_true hc) (Nat.le_of_ble_eq_true hs)
theorem go_ireturn (K : Kd G B M) {k : Nat} {t : FieldType} {z : Int32} (hd : M.P[k]? = some (pc, .ireturn, 1)) (hr : M.ret = some t) (ht : t = .int ∨ t = .boolean ∨ t = .byte ∨ t = .char ∨ t = .short) (hn : narrow t (.int z) = .int z) (hc : Nat.ble cells M.R.cells = true) (hs : Nat.ble slots M.R.slots = true) (q : ∀ Sf : Addr → Prop, (∀ x ∈ sf, Sf x) → Q (some (.int z)) h Sf) : Go G B M Q h sf cells slots pc Ls (.int z :: st) :=
  go_ret K hd hr hn (Or.inl ⟨rfl, ht, z, rfl⟩) hc hs q
theorem go_areturn (K : Kd G B M) {k : Nat} {t : FieldType} {w : Value} (hd : M.P[k]? = some (pc, .areturn, 1)) (hr : M.ret = some t) (ht : t.isReference = true) (hw : w.isRef = true) (hn : narrow t w = w) (hc : Nat.ble cells M.R.cells = true) (hs : Nat.ble slots M.R.slots = true) (q : ∀ Sf : Addr → Prop, (∀ x ∈ sf, Sf x) → Q (some w) h Sf) : Go G B M Q h sf cells slots pc Ls (w :: st) :=
  go_ret K hd hr hn (Or.inr (Or.inr (Or.inr (Or.inr ⟨rfl, ht, hw⟩)))) hc hs q
theorem go_lreturn (K : Kd G B M) {k : Nat} {z : Int64} (hd : M.P[k]? = some (pc, .lreturn, 1)) (hr : M.ret = some .long) (hc : Nat.ble cells M.R.cells = true) (hs : Nat.ble slots M.R.slots = true) (q : ∀ Sf : Addr → Prop, (∀ x ∈ sf, Sf x) → Q (some (.long z)) h Sf) : Go G B M Q h sf cells slots pc Ls (.long z :: st) :=
  go_ret K hd hr rfl (Or.inr (Or.inl ⟨rfl, rfl, z, rfl⟩)) hc hs q
end Base
end Jvm.OwnW
namespace Jvm.OwnW
open Sem ClassFile Op Lib Bundle Jvm.Stand Jvm.Free Jvm.LawKit Jvm.RoadKit
section Heap
variable {G : Gb} {B : Cx} {M : Mt} {R : Room} {Q : Option Value → Heap → (Addr → Prop) → Prop} {h : Heap} {sf : List Addr} {cells slots pc : Nat} {Ls : Array Slot} {st : List Value}
theorem go_getfield (K : Kd G B M) {k ix : Nat} {R0 O n d host : String} {a : Addr} {v : Value} (hd : M.P[k]? = some (pc, .getfield ix, 3)) (w : Wd G (.fieldLink M.own ix R0 n d) ∨ Wd G (.fieldLinkNest M.own ix R0 n d host)) (via : Via G.Z R0 O n d) (F : Fld G.Z h a O n d v)
    (g : Go G B M Q h sf cells slots (pc + 3) Ls (v :: st)) : Go G B M Q h sf cells slots pc Ls (.ref a :: st) := by
  intro T vm0 k0 locs W
  obtain ⟨X, eT, hS, hk, hZ, hown, hF, hE, hC, hs⟩ := W
  obtain ⟨T', X', e', st'⟩ := RoadKit.getF X K.1 hZ hown w via eT F (g := mkF B.m pc Ls (.ref a :: st)) rfl rfl (K.dec hd)
  exact (g T' vm0 k0 locs ⟨X', e', hS, hk, hZ, hown, hF, hE, hC, hs⟩).pre st'
theorem go_getstatic (K : Kd G B M) {k ix : Nat} {R0 O n d host : String} {v : Value} (hd : M.P[k]? = some (pc, .getstatic ix, 3)) (w : Wd G (.fieldLink M.own ix R0 n d) ∨ Wd G (.fieldLinkNest M.own ix R0 n d host)) (via : Via G.Z R0 O n d) (F : Sta G.Z G.Z.heap O n d v)
    (g : Go G B M Q h sf cells slots (pc + 3) Ls (v :: st)) : Go G B M Q h sf cells slots pc Ls st := by
  intro T vm0 k0 locs W
  obtain ⟨X, eT, hS, hk, hZ, hown, hF, hE, hC, hs⟩ := W
  obtain ⟨T', X', e', st'⟩ := getS2 X K.1 hZ hown w via eT (F.ext hE) (g := mkF B.m pc Ls st) rfl (K.dec hd)
  exact (g T' vm0 k0 locs ⟨X', e', hS, hk, hZ, hown, hF, hE, hC, hs⟩).pre st'
theorem go_new (K : Kd G B M) {k ix n : Nat} {C : String} (hd : M.P[k]? = some (pc, .new ix, 3)) (w : Wd G (.classLink M.own ix C)) (wi : Wd G (.instantiable C n)) (wz : Wd G (.initialized C)) (hc : Nat.ble (cells + 1) M.R.cells = true) (hl : Nat.ble (slots + n) M.R.slots = true)
    (g : ∀ (h' : Heap) (a : Addr), a = h.size → G.Z.heap.size ≤ a → Ext h h' → Exa G.Z h' a C → (∀ {O nm d : String} {ty : FieldType}, Laid G.Z G.a0 C O nm d → parseFieldDescriptor d = some ty → Fld G.Z h' a O nm d (defaultValue ty)) → Go G B M Q h' (a :: sf) (cells + 1) (slots + n) (pc + 3) Ls (.ref a :: st)) : Go G B M Q h sf cells slots pc Ls st := by
  intro T vm0 k0 locs W
  obtain ⟨X, eT, hS, hk, hZ, hown, hF, hE, hC, hs⟩ := W
  obtain ⟨T', h', X', e', E', A', D', -, st'⟩ := newO X K.1 hZ hown w wi wz eT (g := mkF B.m pc Ls st) rfl (K.dec hd) (Nat.le_of_ble_eq_true hc) (Nat.le_of_ble_eq_true hl)
  refine (g h' h.size rfl hE.1 E' A' D' T' vm0 k0 locs ⟨X', e', hS, Nat.le_trans hk E'.1, hZ, hown, hF, ⟨Nat.le_trans hE.1 E'.1, fun x c q => E'.2 x c (hE.2 x c q)⟩, hC.trans (CHr.ext E' hC.1), fun x hx => ?_⟩).pre st'
  rcases List.mem_cons.mp hx with rfl | hx
  · exact ⟨Safe.ext E' hC.1 (Safe.new (Nat.le_refl _)), A'.lt⟩
  · exact ⟨Safe.ext E' hC.1 (hs x hx).1, Nat.lt_of_lt_of_le (hs x hx).2 E'.1⟩
theorem go_wr (K : Kd G B M) {a : Addr} {sl pc' : Nat} {v : Value} {st' : List Value} (ha : G.Z.heap.size ≤ a) (hsf : a ∈ sf ∨ ∀ vm0 : Vm, G.Z.vm.Alike vm0 → Safe G.Z G.EL vm0 h a)
    (law : ∀ (T : State) (vm0 : Vm) (locs : List Loc), Stand B.p G.l B.e M.R (B.s.setVm vm0) B.m B.as B.bl B.mt B.c T locs cells slots → T.heap = h → G.Z.Warmed39 vm0 → vm0.findClass M.own = some B.m.cls →
      ∃ (T' : State) (h' : Heap), Stand B.p G.l B.e M.R (B.s.setVm vm0) B.m B.as B.bl B.mt B.c T' (locs ++ [⟨a, sl⟩]) cells slots ∧ T'.heap = h' ∧ Wr h h' a sl v ∧ ∀ target, Steps B.p.tables B.e B.bl (T'.setTop (mkF B.m pc' Ls st')) target → Steps B.p.tables B.e B.bl (T.setTop (mkF B.m pc Ls st)) target)
    (g : ∀ h' : Heap, Wr h h' a sl v → Go G B M Q h' sf cells slots pc' Ls st') : Go G B M Q h sf cells slots pc Ls st := by
  intro T vm0 k0 locs W
  obtain ⟨X, eT, hS, hk, hZ, hown, hF, hE, hC, hs⟩ := W
  obtain ⟨T', h', X', e', W', st''⟩ := law T vm0 locs X eT hZ hown
  have S : Safe G.Z G.EL vm0 h a := hsf.elim (fun q => (hs a q).1) (fun q => q vm0 hZ.alike)
  exact (g h' W' T' vm0 k0 _ ⟨X', e', hS, by rw [W'.size]; exact hk, hZ, hown, Fr.snoc X' hF ha, (Old.wr (n0 := G.Z.heap.size) ⟨rfl, hE⟩ W' ha).2, hC.trans (CHr.wr W' S hC.1), fun x hx => ⟨Safe.wr W' S hC.1 (hs x hx).1, by rw [W'.size]; exact (hs x hx).2⟩⟩).pre st''
theorem go_putfield (K : Kd G B M) {k ix kk : Nat} {R0 O n d host C : String} {ty : FieldType} {a : Addr} {v old : Value} (hd : M.P[k]? = some (pc, .putfield ix, 3)) (w : Wd G (.fieldLink M.own ix R0 n d) ∨ Wd G (.fieldLinkNest M.own ix R0 n d host)) (via : Via G.Z R0 O n d) (F : Fld G.Z h a O n d old) (E : Exa G.Z h a C)
    (L : Wd G (.lays C O n d) ∨ (Wd G (.laysFinal C O n d) ∧ M.own = O ∧ M.nm = "<init>")) (wi : Wd G (.instantiable C kk)) (hty : parseFieldDescriptor d = some ty) (hn : narrow ty v = v) (hf : fits ty v = true) (ha : G.Z.heap.size ≤ a) (hsf : a ∈ sf ∨ (C ≠ "java/lang/String" ∧ C ≠ "[B"))
    (g : ∀ h' : Heap, Wr h h' a (RoadKit.slotOf G.Z O n d) v → Go G B M Q h' sf cells slots (pc + 3) Ls st) : Go G B M Q h sf cells slots pc Ls (v :: .ref a :: st) :=
  go_wr K ha (hsf.imp id fun q vm0 hal => Safe.exa hal E q.1 q.2) (fun T vm0 locs X eT hZ hown => RoadKit.putF X K.1 hZ hown w via eT F E (L.imp id fun q => ⟨q.1, q.2.1, K.2.2.2.2.2.1.trans q.2.2⟩) wi hty hn hf (g := mkF B.m pc Ls (v :: .ref a :: st)) rfl rfl (K.dec hd)) g
theorem go_newarray (K : Kd G B M) {k cap : Nat} {aty : ArrayType} {n : Int32} (hd : M.P[k]? = some (pc, .newarray aty, 2)) (w : Wd G (.arrayClass (newarray.typeOf aty))) (hn : ¬ n < 0) (hcap : n.toNatClampNeg ≤ cap) (hb : Nat.ble (cap * 8) 536870912 = true) (hc : Nat.ble (cells + 1) M.R.cells = true) (hl : Nat.ble (slots + cap) M.R.slots = true)
    (g : ∀ (h' : Heap) (a : Addr) (kA : ClassId), a = h.size → G.Z.heap.size ≤ a → Ext h h' → Arv G.Z h' a kA (newarray.typeOf aty) n [] (defaultValue (newarray.typeOf aty)) → Go G B M Q h' (a :: sf) (cells + 1) (slots + cap) (pc + 2) Ls (.ref a :: st)) : Go G B M Q h sf cells slots pc Ls (.int n :: st) := by
  intro T vm0 k0 locs W
  obtain ⟨X, eT, hS, hk, hZ, hown, hF, hE, hC, hs⟩ := W
  obtain ⟨T', h', cA, X', e', E', A', st'⟩ := newP X K.1 hZ w eT (g := mkF B.m pc Ls (.int n :: st)) rfl (K.dec hd) rfl hn hcap (Nat.le_of_ble_eq_true hb) (Nat.le_of_ble_eq_true hc) (Nat.le_of_ble_eq_true hl)
  refine (g h' h.size cA rfl hE.1 E' (Arv.new A' hn) T' vm0 k0 locs ⟨X', e', hS, Nat.le_trans hk E'.1, hZ, hown, hF, ⟨Nat.le_trans hE.1 E'.1, fun x c q => E'.2 x c (hE.2 x c q)⟩, hC.trans (CHr.ext E' hC.1), fun x hx => ?_⟩).pre st'
  rcases List.mem_cons.mp hx with rfl | hx
  · exact ⟨Safe.ext E' hC.1 (Safe.new (Nat.le_refl _)), A'.lt⟩
  · exact ⟨Safe.ext E' hC.1 (hs x hx).1, Nat.lt_of_lt_of_le (hs x hx).2 E'.1⟩
theorem go_castore (K : Kd G B M) {k i : Nat} {a : Addr} {kA : ClassId} {z j x : Int32} {vs : List Value} {dv : Value} (hd : M.P[k]? = some (pc, .castore, 1)) (A : Arv G.Z h a kA .char z vs dv) (hj : ¬ j < 0 ∧ j < z) (hi : j.toNatClampNeg = i) (hl : i < vs.length) (ha : G.Z.heap.size ≤ a)
    (g : ∀ h' : Heap, Wr h h' a j.toNatClampNeg (.int (nar .char x)) → Arv G.Z h' a kA .char z (vs.set i (.int (nar .char x))) dv → Go G B M Q h' sf cells slots (pc + 1) Ls st) : Go G B M Q h sf cells slots pc Ls (.int x :: .int j :: .ref a :: st) := by
  obtain ⟨c, A1, q1, S, q3, H, Gf⟩ := A
  exact go_wr K ha (Or.inr fun vm0 hal => Safe.arr hal A1 (by decide)) (fun T vm0 locs X eT hZ hown => stC X K.1 hZ eT A1 (inb_of S hj) (g := mkF B.m pc Ls (.int x :: .int j :: .ref a :: st)) rfl rfl (K.dec hd)) fun h' W => g h' W (Arv.set A1 q1 S q3 H Gf (fits_nar_char _) W i hi hl)
theorem go_bastore (K : Kd G B M) {k i : Nat} {a : Addr} {kA : ClassId} {z j x : Int32} {vs : List Value} {dv : Value} (hd : M.P[k]? = some (pc, .bastore, 1)) (A : Arv G.Z h a kA .byte z vs dv) (hj : ¬ j < 0 ∧ j < z) (hi : j.toNatClampNeg = i) (hl : i < vs.length) (ha : G.Z.heap.size ≤ a) (hsf : a ∈ sf)
    (g : ∀ h' : Heap, Wr h h' a j.toNatClampNeg (.int (nar .byte x)) → Arv G.Z h' a kA .byte z (vs.set i (.int (nar .byte x))) dv → Go G B M Q h' sf cells slots (pc + 1) Ls st) : Go G B M Q h sf cells slots pc Ls (.int x :: .int j :: .ref a :: st) := by
  obtain ⟨c, A1, q1, S, q3, H, Gf⟩ := A
  exact go_wr K ha (Or.inl hsf) (fun T vm0 locs X eT hZ hown => stB X K.1 hZ eT A1 (inb_of S hj) (g := mkF B.m pc Ls (.int x :: .int j :: .ref a :: st)) rfl rfl (K.dec hd)) fun h' W => g h' W (Arv.set A1 q1 S q3 H Gf (fits_nar_byte _) W i hi hl)
theorem go_iastore (K : Kd G B M) {k i : Nat} {a : Addr} {kA : ClassId} {z j x : Int32} {vs : List Value} {dv : Value} (hd : M.P[k]? = some (pc, .iastore, 1)) (A : Arv G.Z h a kA .int z vs dv) (hj : ¬ j < 0 ∧ j < z) (hi : j.toNatClampNeg = i) (hl : i < vs.length) (ha : G.Z.heap.size ≤ a)
    (g : ∀ h' : Heap, Wr h h' a j.toNatClampNeg (.int x) → Arv G.Z h' a kA .int z (vs.set i (.int x)) dv → Go G B M Q h' sf cells slots (pc + 1) Ls st) : Go G B M Q h sf cells slots pc Ls (.int x :: .int j :: .ref a :: st) := by
  obtain ⟨c, A1, q1, S, q3, H, Gf⟩ := A
  exact go_wr K ha (Or.inr fun vm0 hal => Safe.arr hal A1 (by decide)) (fun T vm0 locs X eT hZ hown => stI X K.1 hZ eT A1 (inb_of S hj) (g := mkF B.m pc Ls (.int x :: .int j :: .ref a :: st)) rfl rfl (K.dec hd)) fun h' W => g h' W (Arv.set A1 q1 S q3 H Gf rfl W i hi hl)
theorem go_caload (K : Kd G B M) {k : Nat} {a : Addr} {kA : ClassId} {z j : Int32} {vs : List Value} {v dv : Value} (hd : M.P[k]? = some (pc, .caload, 1)) (A : Arv G.Z h a kA .char z vs dv) (hj : ¬ j < 0 ∧ j < z) (hv : vs.getD j.toNatClampNeg dv = v)
    (g : Go G B M Q h sf cells slots (pc + 1) Ls (v :: st)) : Go G B M Q h sf cells slots pc Ls (.int j :: .ref a :: st) := by
  intro T vm0 k0 locs W
  obtain ⟨c, A1, q1, S, q3, H, Gf⟩ := A
  have X := W.1
  exact (g T vm0 k0 locs W).pre fun target hr => X.caload K.1 (j := j) (v := v) (by rw [W.2.1]; exact A1.1) (State.isArrayOf_alike W.2.2.2.2.1.alike A1.2.1) A1.2.2 (inb_of S hj) (H.at (inb_of S hj) hv) (g := mkF B.m pc Ls (.int j :: .ref a :: st)) rfl rfl (K.dec hd) _ hr
theorem go_baload (K : Kd G B M) {k : Nat} {a : Addr} {kA : ClassId} {z j : Int32} {vs : List Value} {v dv : Value} (hd : M.P[k]? = some (pc, .baload, 1)) (A : Arv G.Z h a kA .byte z vs dv) (hj : ¬ j < 0 ∧ j < z) (hv : vs.getD j.toNatClampNeg dv = v)
    (g : Go G B M Q h sf cells slots (pc + 1) Ls (v :: st)) : Go G B M Q h sf cells slots pc Ls (.int j :: .ref a :: st) := by
  intro T vm0 k0 locs W
  obtain ⟨c, A1, q1, S, q3, H, Gf⟩ := A
  have X := W.1
  exact (g T vm0 k0 locs W).pre fun target hr => X.baloadBytes K.1 (j := j) (v := v) (by rw [W.2.1]; exact A1.1) (State.isArrayOf_alike W.2.2.2.2.1.alike A1.2.1) A1.2.2 (inb_of S hj) (H.at (inb_of S hj) hv) (g := mkF B.m pc Ls (.int j :: .ref a :: st)) rfl rfl (K.dec hd) _ hr
theorem go_iaload (K : Kd G B M) {k : Nat} {a : Addr} {kA : ClassId} {z j : Int32} {vs : List Value} {v dv : Value} (hd : M.P[k]? = some (pc, .iaload, 1)) (A : Arv G.Z h a kA .int z vs dv) (hj : ¬ j < 0 ∧ j < z) (hv : vs.getD j.toNatClampNeg dv = v)
    (g : Go G B M Q h sf cells slots (pc + 1) Ls (v :: st)) : Go G B M Q h sf cells slots pc Ls (.int j :: .ref a :: st) := by
  intro T vm0 k0 locs W
  obtain ⟨c, A1, q1, S, q3, H, Gf⟩ := A
  have X := W.1
  exact (g T vm0 k0 locs W).pre fun target hr => X.iaload K.1 (j := j) (v := v) (by rw [W.2.1]; exact A1.1) (State.isArrayOf_alike W.2.2.2.2.1.alike A1.2.1) A1.2.2 (inb_of S hj) (H.at (inb_of S hj) hv) (g := mkF B.m pc Ls (.int j :: .ref a :: st)) rfl rfl (K.dec hd) _ hr
theorem go_aaload (K : Kd G B M) {k : Nat} {a : Addr} {kA : ClassId} {ty : FieldType} {z j : Int32} {vs : List Value} {v dv : Value} (hd : M.P[k]? = some (pc, .aaload, 1)) (A : Arv G.Z h a kA ty z vs dv) (hty : ty.isReference = true) (hj : ¬ j < 0 ∧ j < z) (hv : vs.getD j.toNatClampNeg dv = v)
    (g : Go G B M Q h sf cells slots (pc + 1) Ls (v :: st)) : Go G B M Q h sf cells slots pc Ls (.int j :: .ref a :: st) := by
  intro T vm0 k0 locs W
  obtain ⟨c, A1, q1, S, q3, H, Gf⟩ := A
  have X := W.1
  exact (g T vm0 k0 locs W).pre fun target hr => X.aaload K.1 (j := j) (v := v) (by rw [W.2.1]; exact A1.1) (State.isArrayOf_alike W.2.2.2.2.1.alike A1.2.1) hty A1.2.2 (inb_of S hj) (H.at (inb_of S hj) hv) (g := mkF B.m pc Ls (.int j :: .ref a :: st)) rfl rfl (K.dec hd) _ hr
theorem go_arraylength (K : Kd G B M) {k : Nat} {a : Addr} {kA : ClassId} {ty : FieldType} {z : Int32} {vs : List Value} {dv : Value} (hd : M.P[k]? = some (pc, .arraylength, 1)) (A : Arv G.Z h a kA ty z vs dv)
    (g : Go G B M Q h sf cells slots (pc + 1) Ls (.int z :: st)) : Go G B M Q h sf cells slots pc Ls (.ref a :: st) := by
  intro T vm0 k0 locs W
  obtain ⟨c, A1, q1, S, q3, H, Gf⟩ := A
  have X := W.1
  exact (g T vm0 k0 locs W).pre fun target hr => X.arraylength K.1 (by rw [W.2.1]; exact A1.1) (State.isArrayOf_alike W.2.2.2.2.1.alike A1.2.1) (g := mkF B.m pc Ls (.ref a :: st)) rfl rfl (K.dec hd) _ (by rw [len_of S q3]; exact hr)
theorem go_cast (K : Kd G B M) {k ix : Nat} {C : String} {a : Addr} (hd : M.P[k]? = some (pc, .checkcast ix, 3)) (w : Wd G (.classLink M.own ix C)) (F : Ins G.Z h a C true)
    (g : Go G B M Q h sf cells slots (pc + 3) Ls (.ref a :: st)) : Go G B M Q h sf cells slots pc Ls (.ref a :: st) := by
  intro T vm0 k0 locs W
  obtain ⟨X, eT, hS, hk, hZ, hown, hF, hE, hC, hs⟩ := W
  obtain ⟨T', X', e', st'⟩ := castY X K.1 hZ hown w eT F (g := mkF B.m pc Ls (.ref a :: st)) rfl rfl (K.dec hd)
  exact (g T' vm0 k0 locs ⟨X', e', hS, hk, hZ, hown, hF, hE, hC, hs⟩).pre st'
theorem go_instY (K : Kd G B M) {k ix : Nat} {C : String} {a : Addr} (hd : M.P[k]? = some (pc, .instanceof ix, 3)) (w : Wd G (.classLink M.own ix C)) (F : Ins G.Z h a C true)
    (g : Go G B M Q h sf cells slots (pc + 3) Ls (.int 1 :: st)) : Go G B M Q h sf cells slots pc Ls (.ref a :: st) := by
  intro T vm0 k0 locs W
  obtain ⟨X, eT, hS, hk, hZ, hown, hF, hE, hC, hs⟩ := W
  obtain ⟨T', X', e', st'⟩ := instY X K.1 hZ hown w eT F (g := mkF B.m pc Ls (.ref a :: st)) rfl rfl (K.dec hd)
  exact (g T' vm0 k0 locs ⟨X', e', hS, hk, hZ, hown, hF, hE, hC, hs⟩).pre st'
theorem go_instN (K : Kd G B M) {k ix : Nat} {C D : String} {a : Addr} (hd : M.P[k]? = some (pc, .instanceof ix, 3)) (w : Wd G (.classLink M.own ix C)) (E : Exa G.Z h a D) (F : ∃ c t, G.Z.vm.findClass D = some c ∧ G.Z.vm.findClass C = some t ∧ G.Z.vm.assignable c t = false)
    (g : Go G B M Q h sf cells slots (pc + 3) Ls (.int 0 :: st)) : Go G B M Q h sf cells slots pc Ls (.ref a :: st) := by
  intro T vm0 k0 locs W
  obtain ⟨X, eT, hS, hk, hZ, hown, hF, hE, hC, hs⟩ := W
  obtain ⟨T', X', e', st'⟩ := instNo X K.1 hZ hown w eT E F (g := mkF B.m pc Ls (.ref a :: st)) rfl rfl (K.dec hd)
  exact (g T' vm0 k0 locs ⟨X', e', hS, hk, hZ, hown, hF, hE, hC, hs⟩).pre st'
theorem go_inst0 (K : Kd G B M) {k ix : Nat} (hd : M.P[k]? = some (pc, .instanceof ix, 3)) (g : Go G B M Q h sf cells slots (pc + 3) Ls (.int 0 :: st)) : Go G B M Q h sf cells slots pc Ls (.null :: st) := by
  intro T vm0 k0 locs W
  exact (g T vm0 k0 locs W).pre fun target hr => W.1.instanceofNull K.1 (g := mkF B.m pc Ls (.null :: st)) rfl rfl (K.dec hd) target hr
theorem go_init0 (K : Kd G B M) {k ix : Nat} {a : Addr} (hd : M.P[k]? = some (pc, .invokespecial ix, 3)) (w1 : Wd G (.methodLink M.own ix Lib.objectInit)) (w2 : Wd G (.instanceMethod Lib.objectInit)) (w3 : Wd G (.code Lib.objectInit ⟨#[0xb1]⟩ 1 none)) (hsz : Ls.size = M.maxL)
    (hf : Nat.ble 1 M.R.frames = true) (hl : Nat.ble ((st.map fun v => v.category).sum + 12) M.R.locals = true) (g : Go G B M Q h sf cells slots (pc + 3) Ls st) : Go G B M Q h sf cells slots pc Ls (.ref a :: st) := by
  intro T vm0 k0 locs W
  obtain ⟨X, eT, hS, hk, hZ, hown, hF, hE, hC, hs⟩ := W
  obtain ⟨T', X', e', st'⟩ := initO X K.1 hZ hown w1 w2 w3 eT (g := mkF B.m pc Ls (.ref a :: st)) rfl (hsz.trans K.2.2.1.symm) rfl (K.dec hd) (Nat.le_of_ble_eq_true hf) (W := (st.map fun v => v.category).sum) (by show 2 * 0 + _ ≤ _; omega) (Nat.le_of_ble_eq_true hl)
  exact (g T' vm0 k0 locs ⟨X', e', hS, hk, hZ, hown, hF, hE, hC, hs⟩).pre st'
theorem go_ldcI (K : Kd G B M) {k ix : Nat} {v : Int32} (hd : M.P[k]? = some (pc, .ldc ix, 2)) (w : Wd G (.constant M.own ix v)) (g : Go G B M Q h sf cells slots (pc + 2) Ls (.int v :: st)) : Go G B M Q h sf cells slots pc Ls st := by
  intro T vm0 k0 locs W
  obtain ⟨X, eT, hS, hk, hZ, hown, hF, hE, hC, hs⟩ := id W
  exact (g T vm0 k0 locs W).pre (X.ldcInt K.1 hown (mv hZ w) (g := mkF B.m pc Ls st) rfl (K.dec hd))
/-- 'ldc' of a String constant, of which nothing is asked -/
theorem go_ldc (K : Kd G B M) {k ix n : Nat} {text : String} (hd : M.P[k]? = some (pc, .ldc ix, 2)) (w : Wd G (.stringLink M.own ix text)) (wS : ∀ d ∈ Bundle.stringAtoms, Wd G d) (hn : Nat.ble (4 * text.toList.length) n = true) (hb : Nat.ble n 536870912 = true) (hc : Nat.ble (cells + 2) M.R.cells = true) (hl : Nat.ble (slots + (n + 4)) M.R.slots = true)
    (g : ∀ (h' : Heap) (a : Addr), Ext h h' → Go G B M Q h' sf (cells + 2) (slots + (n + 4)) (pc + 2) Ls (.ref a :: st)) : Go G B M Q h sf cells slots pc Ls st := by
  intro T vm0 k0 locs W
  obtain ⟨X, eT, hS, hk, hZ, hown, hF, hE, hC, hs⟩ := W
  obtain ⟨a, T', h', k1, X', e', E', hS', hk', hZ', hown', hC', -, st'⟩ := ldcOH X K.1 hZ hown w wS eT hS hk K.2.2.2.2.2.2 hC.1 (g := mkF B.m pc Ls st) rfl (K.dec hd) (Nat.le_of_ble_eq_true hn) (Nat.le_of_ble_eq_true hb) (Nat.le_of_ble_eq_true hc) (Nat.le_of_ble_eq_true hl)
  exact (g h' a E' T' T'.vm k1 locs ⟨X', e', hS', hk', hZ', hown', hF, ⟨Nat.le_trans hE.1 E'.1, fun x c q => E'.2 x c (hE.2 x c q)⟩, hC.trans hC', fun x hx => ⟨hC'.safe (hs x hx).2 (hs x hx).1, Nat.lt_of_lt_of_le (hs x hx).2 E'.1⟩⟩).pre st'
/-- 'ldc' of a String constant whose text is known -/
theorem go_ldcS (K : Kd G B M) {k ix n : Nat} {text : String} (hd : M.P[k]? = some (pc, .ldc ix, 2)) (w : Wd G (.stringLink M.own ix text)) (wS : ∀ d ∈ Bundle.stringAtoms, Wd G d) (hmem : (M.own, ix) ∈ G.EL)
    {vs : List Value} {z : Int32} (ht : (∀ c ∈ text.toList, c.toNat < 256) ∧ text.toList.map (fun c => Value.int (Jvm.Lit.byteI c.toNat.toUInt16)) = vs) (hz : ¬ z < 0) (hzl : z.toNatClampNeg = vs.length)
    (hn : Nat.ble (4 * text.toList.length) n = true) (hb : Nat.ble n 536870912 = true) (hc : Nat.ble (cells + 2) M.R.cells = true) (hl : Nat.ble (slots + (n + 4)) M.R.slots = true)
    (g : ∀ (h' : Heap) (a b : Addr) (kb : ClassId), Ext h h' → Exa G.Z h' a "java/lang/String" → Fld G.Z h' a "java/lang/String" "coder" "B" (.int 0) → Fld G.Z h' a "java/lang/String" "value" "[B" (.ref b) → Arv G.Z h' b kb .byte z vs (.int 0) → (∀ x ∈ sf, x ≠ a ∧ x ≠ b) →
      Go G B M Q h' sf (cells + 2) (slots + (n + 4)) (pc + 2) Ls (.ref a :: st)) : Go G B M Q h sf cells slots pc Ls st := by
  intro T vm0 k0 locs W
  obtain ⟨X, eT, hS, hk, hZ, hown, hF, hE, hC, hs⟩ := W
  obtain ⟨a, T', h', k1, b, kb, X', e', E', hS', hk', hZ', hown', A1, A2, A3, A4, -, -, hC', -, hne, st'⟩ := ldcCH X K.1 hZ hown w wS eT hS hk K.2.2.2.2.2.2 hmem hC.1 ht hz hzl (g := mkF B.m pc Ls st) rfl (K.dec hd) (Nat.le_of_ble_eq_true hn) (Nat.le_of_ble_eq_true hb) (Nat.le_of_ble_eq_true hc) (Nat.le_of_ble_eq_true hl)
  have hsf : ∀ x ∈ sf, Safe G.Z G.EL T'.vm h' x ∧ x < h'.size := fun x hx => ⟨hC'.safe (hs x hx).2 (hs x hx).1, Nat.lt_of_lt_of_le (hs x hx).2 E'.1⟩
  exact (g h' a b kb E' A1 A2 A3 A4 (fun x hx => hne x (hsf x hx).1) T' T'.vm k1 locs ⟨X', e', hS', hk', hZ', hown', hF, ⟨Nat.le_trans hE.1 E'.1, fun x c q => E'.2 x c (hE.2 x c q)⟩, hC.trans hC', hsf⟩).pre st'
end Heap
/-! ### contracts and calls -/
section Calls
variable {G : Gb} {B : Cx} {M : Mt} {R : Room} {Q : Option Value → Heap → (Addr → Prop) → Prop} {h : Heap} {sf : List Addr} {cells slots pc : Nat} {Ls : Array Slot} {st : List Value}
theorem ctr_of (M : Mt) {ws : List Jvm.Cond} {y : MethodName} {bytes : ByteArray} {as' : Array Value} (ho : M.own = y.cls) (hnm : M.nm = y.name) (pf : plainFor y = true) (hP : ∀ q ∈ M.P, decode bytes q.1 = .ok q.2) (hEL : EW G.Z G.a0 G.EL) {Ls : Array Slot} (ef : ∀ m, entryFrame m as' M.maxL = mkF m 0 Ls [])
    (H : ∀ B : Cx, Kd G B M → Ext G.Z.heap h → Go G B M Q h sf 0 0 0 Ls []) : Ctr G ws y bytes M.maxL M.ret M.R as' h sf Q := by
  refine MetFree.of_bodySF pf hisR ?_
  intro p e s m args below meth c s₁ Bd hml hP' hK
  obtain ⟨rfl, hZ, hh, hCH, hE, hs⟩ := hP'
  have hK : Kd G ((p, e, s, m), (args, below, meth, c)) M := ⟨Bd.exec, fun q hq => by show decode c.code q.1 = _; rw [Bd.bytes]; exact hP q hq, hml, Bd.returns, Bd.notSynchronized, (name_of_methodNamed Bd.named Bd.method).1.trans hnm.symm, hEL⟩
  have X0 : Stand p G.l e M.R s m args below meth c s₁ [] 0 0 := Stand.of_body Bd
  have X1 : Stand p G.l e M.R (s.setVm s.vm) m args below meth c s₁ [] 0 0 := X0
  have e0 : s₁.heap = h := by rw [← hh, Bd.state]; rfl
  have hown : s.vm.findClass M.own = some m.cls := by rw [ho]; exact findClass_of_methodNamed Bd.named
  have hb : CHr G.Z G.EL s.vm s.heap s.vm h := by rw [hh]; exact CHr.refl hCH
  obtain ⟨t, v, L, k1, k2, k3, k4, k5, k6, k7, k8⟩ := H ((p, e, s, m), (args, below, meth, c)) hK hE s₁ s.vm 0 [] ⟨X1, e0, (State.WarmedH.refl s).since 0, Nat.zero_le _, hZ, hown, Fr.nil _, hE, hb, hs⟩
  refine ⟨t, .returned v, ?_, k2, k3, v, L, rfl, ⟨k4, k5, k6⟩, k7, k8⟩
  rw [ef m]
  exact k1
theorem backG {y : MethodName} {bytes : ByteArray} {maxL : Nat} {ret : Option FieldType} {rm : Room} {len W : Nat} {as' : Array Value} {Qc : Option Value → Heap → (Addr → Prop) → Prop} {sf' : List Addr} {p : Program} {e : Env} {below : List Frame} {s : State} {args : Array Value} {vm0 : Vm}
    (C : Ctr G [] y bytes maxL ret rm as' h sf' Qc) (hZ : G.Z.Warmed39 vm0) (wc : Wd G (.code y bytes maxL ret)) (wz : Wd G (.initialized y.cls)) (hf : rm.frames + 1 ≤ R.frames) (hl : W + (maxL + 11) + rm.locals ≤ R.locals) (hEL : EW G.Z G.a0 G.EL) (H : CHv G.Z G.EL vm0 h) (hE : Ext G.Z.heap h) (hs : ∀ x ∈ sf', Safe G.Z G.EL vm0 h x ∧ x < h.size) :
    BackS G.l R p e below (s.setVm vm0) args y len W (fun A a => a = as' ∧ A.U.heap = h ∧ A.cells + rm.cells ≤ R.cells ∧ A.slots + rm.slots ≤ R.slots)
      (fun A _ v B => ∃ L, (Qc v B.U.heap (fun x => Safe G.Z G.EL B.U.vm B.U.heap x ∧ x < B.U.heap.size) ∧ Fr G.Z.heap.size L ∧ Ext G.Z.heap B.U.heap) ∧ B.locs = A.locs ++ L ∧ B.cells = A.cells + rm.cells ∧ B.slots = A.slots + rm.slots ∧ CHr G.Z G.EL vm0 h B.U.vm B.U.heap) := by
  refine BackS.of_freeW (bytes := bytes) (maxL := maxL) (ret := ret) (E := fun _ first o t L k n => k = rm.cells ∧ n = rm.slots ∧ (∃ v, o = .returned v ∧ Qc v t.heap (fun x => Safe G.Z G.EL t.vm t.heap x ∧ x < t.heap.size) ∧ Fr G.Z.heap.size L ∧ Ext G.Z.heap t.heap) ∧ CHr G.Z G.EL first.vm first.heap t.vm t.heap) C hf hl ?_ ?_ ?_ ?_ ?_
  · intro m meth c A a Y hp
    have hU : G.Z.Warmed39 A.U.vm := wtrans (s := s.setVm vm0) hZ Y.warmed
    refine ⟨?_, mv hU wc, mv hU wz, hp.2.2.1, hp.2.2.2⟩
    show (Jvm.Cond.and _ .tt).before a A.U = true
    rw [Cond.before_and, mv hU wc]; rfl
  · intro m meth c A a g mk Y hp
    have A1 := CHv.at Y hZ hEL H
    exact ⟨hp.1, wtrans (s := s.setVm vm0) hZ Y.warmed, hp.2.1, A1.1, hE, fun x hx => ⟨A1.safe (hs x hx).2 (hs x hx).1, (hs x hx).2⟩⟩
  · intros; trivial
  · intro _ _ _ _ q
    obtain ⟨v, L, h1, h2, h3, h4⟩ := q
    exact ⟨L, _, _, h4, rfl, rfl, ⟨v, h1, h2⟩, h3⟩
  · intro m meth c A a g mk v t L k n Y hp _ _ q
    obtain ⟨e1, e2, ⟨v', e3, e4⟩, e5⟩ := q
    cases e3; subst e1 e2
    refine ⟨L, e4, rfl, rfl, rfl, (CHv.at Y hZ hEL H).trans ?_⟩
    rw [← hp.2.1]; exact e5
/-- the room that a call asks of its maker -/
def rok (R : Room) (rest : List Value) (maxL : Nat) (rm : Room) (cells slots : Nat) : Bool :=
  Nat.ble (rm.frames + 1) R.frames && (Nat.ble ((rest.map fun v => v.category).sum + (maxL + 11) + rm.locals) R.locals && (Nat.ble (cells + rm.cells) R.cells && Nat.ble (slots + rm.slots) R.slots))
theorem rok_ok {rest : List Value} {maxL : Nat} {rm : Room} (q : rok R rest maxL rm cells slots = true) : rm.frames + 1 ≤ R.frames ∧ (rest.map fun v => v.category).sum + (maxL + 11) + rm.locals ≤ R.locals ∧ cells + rm.cells ≤ R.cells ∧ slots + rm.slots ≤ R.slots := by
  simp only [rok, Bool.and_eq_true] at q
  exact ⟨Nat.le_of_ble_eq_true q.1, Nat.le_of_ble_eq_true q.2.1, Nat.le_of_ble_eq_true q.2.2.1, Nat.le_of_ble_eq_true q.2.2.2⟩
/-- behind any call: the walk goes on -/
theorem call_on {rm : Room} {Qc : Option Value → Heap → (Addr → Prop) → Prop} {pc' : Nat} {rest : List Value} {T : State} {vm0 : Vm} {k0 : Nat} {locs : List Loc} (W : Wo G B M.own M.R h sf cells slots T vm0 k0 locs)
    (call : ∃ (v : Option Value) (vm₁ : Vm) (A : Pt), (B.s.setVm vm0).WarmedH vm₁ ∧ Stand B.p G.l B.e M.R ((B.s.setVm vm0).setVm A.U.vm) B.m B.as B.bl B.mt B.c A.U A.locs A.cells A.slots ∧ (B.s.setVm vm0).Since A.U.vm A.U.heap.size ∧ T.heap.size ≤ A.U.heap.size ∧
      (∃ L, (Qc v A.U.heap (fun x => Safe G.Z G.EL A.U.vm A.U.heap x ∧ x < A.U.heap.size) ∧ Fr G.Z.heap.size L ∧ Ext G.Z.heap A.U.heap) ∧ A.locs = locs ++ L ∧ A.cells = cells + rm.cells ∧ A.slots = slots + rm.slots ∧ CHr G.Z G.EL vm0 h A.U.vm A.U.heap) ∧
      Steps B.p.tables B.e B.bl (T.setTop (mkF B.m pc Ls st)) (A.U.setTop (mkF B.m pc' Ls (v.toList ++ rest))))
    (g : ∀ (v : Option Value) (h' : Heap) (Sf : Addr → Prop), h.size ≤ h'.size → Qc v h' Sf → ∃ nw : List Addr, (∀ x ∈ nw, Sf x) ∧ Go G B M Q h' (nw ++ sf) (cells + rm.cells) (slots + rm.slots) pc' Ls (v.toList ++ rest)) : Fin G B M.R Q (T.setTop (mkF B.m pc Ls st)) := by
  obtain ⟨X, eT, hS, hk, hZ, hown, hF, hE, hC, hs⟩ := W
  obtain ⟨v, vm₁, ⟨U, L0, c0, n0⟩, -, X', hS', hgr, ⟨L, ⟨hq, hfr, hext⟩, e1, e2, e3, hC'⟩, stp⟩ := call
  dsimp only [Pt.U, Pt.locs, Pt.cells, Pt.slots] at X' hS' hgr hq hfr hext e1 e2 e3 hC' stp
  subst e1 e2 e3
  rw [eT] at hgr
  obtain ⟨nw, n1, n2⟩ := g v U.heap _ hgr hq
  refine (n2 U U.vm U.heap.size _ ⟨X', rfl, hS.trans hS' (Nat.le_trans hk hgr), Nat.le_refl _, State.Warmed39.trans (t := B.s.setVm vm0) hZ hS'.1, (hS'.1.alike.findClass _ _).trans hown, hF.app hfr, hext, hC.trans hC', fun x hx => ?_⟩).pre fun target hr => stp.trans hr
  rcases List.mem_append.mp hx with hx | hx
  · exact n1 x hx
  · exact ⟨hC'.safe (hs x hx).2 (hs x hx).1, Nat.lt_of_lt_of_le (hs x hx).2 hgr⟩
theorem go_staticN (K : Kd G B M) {k ix : Nat} {y : MethodName} {bytes : ByteArray} {maxL : Nat} {ret : Option FieldType} {rm : Room} {argsL rest : List Value} {ps : List FieldType} {rt : Option FieldType} {sf' : List Addr} {Qc : Option Value → Heap → (Addr → Prop) → Prop} (hd : M.P[k]? = some (pc, .invokestatic ix, 3))
    (w1 : Wd G (.methodLink M.own ix y)) (w2 : Wd G (.static y)) (w3 : Wd G (.initialized y.cls)) (w4 : Wd G (.code y bytes maxL ret)) (hy : y.cls ≠ "java/lang/invoke/MethodHandle" ∧ y.cls ≠ "java/lang/invoke/VarHandle") (pd : parseMethodDescriptor y.desc = some ⟨ps, rt⟩)
    (C : Ctr G [] y bytes maxL ret rm argsL.toArray h sf' Qc) (hst : st = argsL.reverse ++ rest) (hlen : argsL.length = ps.length) (hsz : Ls.size = M.maxL) (hsub : ∀ x ∈ sf', x ∈ sf) (hrm : rok M.R rest maxL rm cells slots = true)
    (g : ∀ (v : Option Value) (h' : Heap) (Sf : Addr → Prop), h.size ≤ h'.size → Qc v h' Sf → ∃ nw : List Addr, (∀ x ∈ nw, Sf x) ∧ Go G B M Q h' (nw ++ sf) (cells + rm.cells) (slots + rm.slots) (pc + 3) Ls (v.toList ++ rest)) : Go G B M Q h sf cells slots pc Ls st := by
  intro T vm0 k0 locs W
  obtain ⟨r1, r2, r3, r4⟩ := rok_ok hrm
  obtain ⟨X, eT, hS, hk, hZ, hown, hF, hE, hC, hs⟩ := id W
  subst hst
  exact call_on W (callSS X K.1 hown (mv hZ w1) (mv hZ w2) (mv hZ w3) (mv hZ w4) hy (backG (W := (rest.map fun v => v.category).sum) C hZ w4 w3 r1 r2 K.2.2.2.2.2.2 hC.1 hE (fun x hx => hs x (hsub x hx))) (g := mkF B.m pc Ls (argsL.reverse ++ rest)) rfl (hsz.trans K.2.2.1.symm) (argsL := argsL) (rest := rest) (lenOf pd hlen) rfl (by show 2 * 0 + _ ≤ _; omega) (K.dec hd) (fun vm₁ _ => ⟨rfl, eT, r3, r4⟩)) g
theorem go_static (K : Kd G B M) {k ix : Nat} {y : MethodName} {bytes : ByteArray} {maxL : Nat} {ret : Option FieldType} {rm : Room} {argsL rest : List Value} {ps : List FieldType} {rt : Option FieldType} {sf' : List Addr} {Qc : Option Value → Heap → (Addr → Prop) → Prop} (hd : M.P[k]? = some (pc, .invokestatic ix, 3))
    (w1 : Wd G (.methodLink M.own ix y)) (w2 : Wd G (.static y)) (w3 : Wd G (.initialized y.cls)) (w4 : Wd G (.code y bytes maxL ret)) (hy : y.cls ≠ "java/lang/invoke/MethodHandle" ∧ y.cls ≠ "java/lang/invoke/VarHandle") (pd : parseMethodDescriptor y.desc = some ⟨ps, rt⟩)
    (C : Ctr G [] y bytes maxL ret rm argsL.toArray h sf' Qc) (hst : st = argsL.reverse ++ rest) (hlen : argsL.length = ps.length) (hsz : Ls.size = M.maxL) (hsub : ∀ x ∈ sf', x ∈ sf) (hrm : rok M.R rest maxL rm cells slots = true)
    (g : ∀ (v : Option Value) (h' : Heap) (Sf : Addr → Prop), h.size ≤ h'.size → Qc v h' Sf → Go G B M Q h' sf (cells + rm.cells) (slots + rm.slots) (pc + 3) Ls (v.toList ++ rest)) : Go G B M Q h sf cells slots pc Ls st :=
  go_staticN K hd w1 w2 w3 w4 hy pd C hst hlen hsz hsub hrm fun v h' Sf z q => ⟨[], (fun _ u => nomatch u), g v h' Sf z q⟩
theorem go_specialN (K : Kd G B M) {k ix : Nat} {y : MethodName} {bytes : ByteArray} {maxL : Nat} {rm : Room} {a : Addr} {argsL rest : List Value} {ps : List FieldType} {rt : Option FieldType} {sf' : List Addr} {Qc : Option Value → Heap → (Addr → Prop) → Prop} (hd : M.P[k]? = some (pc, .invokespecial ix, 3)) (hy1 : y.name = "<init>")
    (w1 : Wd G (.methodLink M.own ix y)) (w2 : Wd G (.instanceMethod y)) (w3 : Wd G (.initialized y.cls)) (w4 : Wd G (.code y bytes maxL none)) (hy : y.cls ≠ "java/lang/invoke/MethodHandle" ∧ y.cls ≠ "java/lang/invoke/VarHandle") (pd : parseMethodDescriptor y.desc = some ⟨ps, rt⟩)
    (C : Ctr G [] y bytes maxL none rm (.ref a :: argsL).toArray h sf' Qc) (hst : st = argsL.reverse ++ .ref a :: rest) (hlen : argsL.length = ps.length) (hsz : Ls.size = M.maxL) (hsub : ∀ x ∈ sf', x ∈ sf) (hrm : rok M.R rest maxL rm cells slots = true)
    (g : ∀ (v : Option Value) (h' : Heap) (Sf : Addr → Prop), h.size ≤ h'.size → Qc v h' Sf → ∃ nw : List Addr, (∀ x ∈ nw, Sf x) ∧ Go G B M Q h' (nw ++ sf) (cells + rm.cells) (slots + rm.slots) (pc + 3) Ls (v.toList ++ rest)) : Go G B M Q h sf cells slots pc Ls st := by
  intro T vm0 k0 locs W
  obtain ⟨r1, r2, r3, r4⟩ := rok_ok hrm
  obtain ⟨X, eT, hS, hk, hZ, hown, hF, hE, hC, hs⟩ := id W
  subst hst
  exact call_on W (X.specialBackS K.1 hy1 hown (mv hZ w1) (mv hZ w2) (mv hZ w4) hy (backG (W := (rest.map fun v => v.category).sum) C hZ w4 w3 r1 r2 K.2.2.2.2.2.2 hC.1 hE (fun x hx => hs x (hsub x hx))) (g := mkF B.m pc Ls (argsL.reverse ++ .ref a :: rest)) rfl (hsz.trans K.2.2.1.symm) (Steps.refl _) (a := a) (argsL := argsL) (rest := rest) (lenOf pd hlen) rfl (by show 2 * 0 + _ ≤ _; omega) (K.dec hd) (fun vm₁ _ => ⟨rfl, eT, r3, r4⟩)) g
theorem go_special (K : Kd G B M) {k ix : Nat} {y : MethodName} {bytes : ByteArray} {maxL : Nat} {rm : Room} {a : Addr} {argsL rest : List Value} {ps : List FieldType} {rt : Option FieldType} {sf' : List Addr} {Qc : Option Value → Heap → (Addr → Prop) → Prop} (hd : M.P[k]? = some (pc, .invokespecial ix, 3)) (hy1 : y.name = "<init>")
    (w1 : Wd G (.methodLink M.own ix y)) (w2 : Wd G (.instanceMethod y)) (w3 : Wd G (.initialized y.cls)) (w4 : Wd G (.code y bytes maxL none)) (hy : y.cls ≠ "java/lang/invoke/MethodHandle" ∧ y.cls ≠ "java/lang/invoke/VarHandle") (pd : parseMethodDescriptor y.desc = some ⟨ps, rt⟩)
    (C : Ctr G [] y bytes maxL none rm (.ref a :: argsL).toArray h sf' Qc) (hst : st = argsL.reverse ++ .ref a :: rest) (hlen : argsL.length = ps.length) (hsz : Ls.size = M.maxL) (hsub : ∀ x ∈ sf', x ∈ sf) (hrm : rok M.R rest maxL rm cells slots = true)
    (g : ∀ (v : Option Value) (h' : Heap) (Sf : Addr → Prop), h.size ≤ h'.size → Qc v h' Sf → Go G B M Q h' sf (cells + rm.cells) (slots + rm.slots) (pc + 3) Ls (v.toList ++ rest)) : Go G B M Q h sf cells slots pc Ls st :=
  go_specialN K hd hy1 w1 w2 w3 w4 hy pd C hst hlen hsz hsub hrm fun v h' Sf z q => ⟨[], (fun _ u => nomatch u), g v h' Sf z q⟩
theorem go_virtualN (K : Kd G B M) {k ix : Nat} {y z : MethodName} {bytes : ByteArray} {maxL : Nat} {ret : Option FieldType} {rm : Room} {C : String} {a : Addr} {argsL rest : List Value} {ps : List FieldType} {rt : Option FieldType} {sf' : List Addr} {Qc : Option Value → Heap → (Addr → Prop) → Prop} (hd : M.P[k]? = some (pc, .invokevirtual ix, 3))
    (w1 : Wd G (.methodLink M.own ix y)) (w2 : Wd G (.declares y)) (w3 : Wd G (.selects C y z)) (w4 : Wd G (.instanceMethod z)) (w5 : Wd G (.initialized z.cls)) (w6 : Wd G (.code z bytes maxL ret)) (hy : y.cls ≠ "java/lang/invoke/MethodHandle" ∧ y.cls ≠ "java/lang/invoke/VarHandle") (pd : parseMethodDescriptor y.desc = some ⟨ps, rt⟩) (E : Exa G.Z h a C)
    (nf : ∀ vm0 : Vm, G.Z.Warmed39 vm0 → NotFace (B.s.setVm vm0) y)
    (Ct : Ctr G [] z bytes maxL ret rm (.ref a :: argsL).toArray h sf' Qc) (hst : st = argsL.reverse ++ .ref a :: rest) (hlen : argsL.length = ps.length) (hsz : Ls.size = M.maxL) (hsub : ∀ x ∈ sf', x ∈ sf) (hrm : rok M.R rest maxL rm cells slots = true)
    (g : ∀ (v : Option Value) (h' : Heap) (Sf : Addr → Prop), h.size ≤ h'.size → Qc v h' Sf → ∃ nw : List Addr, (∀ x ∈ nw, Sf x) ∧ Go G B M Q h' (nw ++ sf) (cells + rm.cells) (slots + rm.slots) (pc + 3) Ls (v.toList ++ rest)) : Go G B M Q h sf cells slots pc Ls st := by
  intro T vm0 k0 locs W
  obtain ⟨r1, r2, r3, r4⟩ := rok_ok hrm
  obtain ⟨X, eT, hS, hk, hZ, hown, hF, hE, hC, hs⟩ := id W
  obtain ⟨cB, kB, i1, i2, i3⟩ := isOf (s := B.s.setVm vm0) hZ eT E
  subst hst
  exact call_on W (X.virtualBackS K.1 hown (mv hZ w1) (mv hZ w2) (nf vm0 hZ) (mv hZ w3) (mv hZ w4) hy (backG (W := (rest.map fun v => v.category).sum) Ct hZ w6 w5 r1 r2 K.2.2.2.2.2.2 hC.1 hE (fun x hx => hs x (hsub x hx))) i1 i3 (g := mkF B.m pc Ls (argsL.reverse ++ .ref a :: rest)) rfl (hsz.trans K.2.2.1.symm) (Steps.refl _) (argsL := argsL) (rest := rest) (lenOf pd hlen) rfl (by show 2 * 0 + _ ≤ _; omega) (K.dec hd) (fun vm₁ _ => ⟨rfl, eT, r3, r4⟩)) g
theorem go_virtual (K : Kd G B M) {k ix : Nat} {y z : MethodName} {bytes : ByteArray} {maxL : Nat} {ret : Option FieldType} {rm : Room} {C : String} {a : Addr} {argsL rest : List Value} {ps : List FieldType} {rt : Option FieldType} {sf' : List Addr} {Qc : Option Value → Heap → (Addr → Prop) → Prop} (hd : M.P[k]? = some (pc, .invokevirtual ix, 3))
    (w1 : Wd G (.methodLink M.own ix y)) (w2 : Wd G (.declares y)) (w3 : Wd G (.selects C y z)) (w4 : Wd G (.instanceMethod z)) (w5 : Wd G (.initialized z.cls)) (w6 : Wd G (.code z bytes maxL ret)) (hy : y.cls ≠ "java/lang/invoke/MethodHandle" ∧ y.cls ≠ "java/lang/invoke/VarHandle") (pd : parseMethodDescriptor y.desc = some ⟨ps, rt⟩) (E : Exa G.Z h a C)
    (nf : ∀ vm0 : Vm, G.Z.Warmed39 vm0 → NotFace (B.s.setVm vm0) y)
    (Ct : Ctr G [] z bytes maxL ret rm (.ref a :: argsL).toArray h sf' Qc) (hst : st = argsL.reverse ++ .ref a :: rest) (hlen : argsL.length = ps.length) (hsz : Ls.size = M.maxL) (hsub : ∀ x ∈ sf', x ∈ sf) (hrm : rok M.R rest maxL rm cells slots = true)
    (g : ∀ (v : Option Value) (h' : Heap) (Sf : Addr → Prop), h.size ≤ h'.size → Qc v h' Sf → Go G B M Q h' sf (cells + rm.cells) (slots + rm.slots) (pc + 3) Ls (v.toList ++ rest)) : Go G B M Q h sf cells slots pc Ls st :=
  go_virtualN K hd w1 w2 w3 w4 w5 w6 hy pd E nf Ct hst hlen hsz hsub hrm fun v h' Sf z q => ⟨[], (fun _ u => nomatch u), g v h' Sf z q⟩
end Calls
end Jvm.OwnW
namespace Jvm.OwnW
open Sem ClassFile Op Lib Bundle Jvm.Stand Jvm.Free Jvm.LawKit Jvm.RoadKit
section Small
variable {G : Gb} {B : Cx} {M : Mt} {Q : Option Value → Heap → (Addr → Prop) → Prop} {h h0 h1 h2 : Heap} {sf : List Addr} {cells slots pc : Nat} {Ls : Array Slot} {st : List Value} {a b : Addr}
theorem Ext.rf (h : Heap) : Ext h h := ⟨Nat.le_refl _, fun _ _ q => q⟩
theorem Ext.tr (E : Ext h0 h1) (F : Ext h1 h2) : Ext h0 h2 := ⟨Nat.le_trans E.1 F.1, fun x c q => F.2 x c (E.2 x c q)⟩
theorem Ext.keepN {ws : List Addr} (E : Ext h0 h1) (K : Keep h1 h2 ws) (q : ∀ x ∈ ws, h0.size ≤ x) : Ext h0 h2 :=
  ⟨Nat.le_trans E.1 K.1, fun x c r => K.2.1 x c (E.2 x c r) fun z => absurd (Array.getElem?_eq_some_iff.mp r).1 (Nat.not_lt.mpr (q x z))⟩
theorem Ext.wrN {sl : Nat} {v : Value} (E : Ext h0 h1) (W : Wr h1 h2 a sl v) (q : h0.size ≤ a) : Ext h0 h2 := Ext.keepN E (Keep.of_wr W) (allS q all0)
theorem Ext.keep0 {ws : List Addr} (E : Ext h0 h1) : Keep h0 h1 ws := (Keep.refl h0 ws).ext E
theorem sub0 : ∀ x ∈ ([] : List Addr), x ∈ sf := fun _ q => nomatch q
theorem subS {L : List Addr} (m : a ∈ sf) (r : ∀ x ∈ L, x ∈ sf) : ∀ x ∈ a :: L, x ∈ sf := fun x q => (List.mem_cons.mp q).elim (fun u => u ▸ m) (r x)
theorem nfS {C : String} {y : MethodName} {s : State} (w : Wd G (.selects C y y)) : ∀ vm0 : Vm, G.Z.Warmed39 vm0 → NotFace (s.setVm vm0) y := fun vm0 hZ => notFace_of_selects (args := #[]) (mv (s := s.setVm vm0) hZ w)
/-- the sheet's words, the constants whose text is asked, what the String laws ask -/
def Gl (ts : List Jvm.Cond) (el : List (String × Nat)) (G : Gb) : Prop := (∀ d ∈ ts, Wd G d) ∧ G.EL = el ∧ EW G.Z G.a0 G.EL ∧ (∀ d ∈ Bundle.stringAtoms, Wd G d) ∧ ∃ z : Int32, Sta G.Z G.Z.heap "java/lang/String" "COMPACT_STRINGS" "Z" (.int z) ∧ ¬ z = 0
variable {ts : List Jvm.Cond} {es : List (String × Nat)}
theorem Gl.w (H : Gl ts es G) {d : Jvm.Cond} (k : Nat) (q : ts[k]? = some d) : Wd G d := H.1 d (List.mem_of_getElem? q)
theorem Gl.el (H : Gl ts es G) : EW G.Z G.a0 G.EL := H.2.2.1
theorem Gl.ws (H : Gl ts es G) : ∀ d ∈ Bundle.stringAtoms, Wd G d := H.2.2.2.1
theorem Gl.cs (H : Gl ts es G) : ∃ z : Int32, Sta G.Z G.Z.heap "java/lang/String" "COMPACT_STRINGS" "Z" (.int z) ∧ ¬ z = 0 := H.2.2.2.2
theorem Gl.mem (H : Gl ts es G) {p : String × Nat} (q : p ∈ es) : p ∈ G.EL := H.2.1 ▸ q
/-! ### Strings -/
def by8 (cs : List Int32) : List Value := cs.map fun c => Value.int c.toInt8.toInt32
def Lat (cs : List Int32) : Prop := cs.length ≤ 4000 ∧ ∀ c ∈ cs, ¬ c < 0 ∧ ¬ (255 : Int32) < c
def Str (G : Gb) (h : Heap) (a : Addr) (cs : List Int32) : Prop := ∃ (t : Addr) (kb : ClassId), Exa G.Z h a "java/lang/String" ∧ Fld G.Z h a "java/lang/String" "coder" "B" (.int 0) ∧ Fld G.Z h a "java/lang/String" "value" "[B" (.ref t) ∧ Arv G.Z h t kb .byte cs.length.toInt32 (by8 cs) (.int 0)
variable {cs ds : List Int32}
theorem Str.exa (S : Str G h a cs) : Exa G.Z h a "java/lang/String" := by obtain ⟨t, kb, h1, -⟩ := S; exact h1
theorem Str.lt (S : Str G h a cs) : a < h.size := S.exa.lt
theorem Str.ext (S : Str G h a cs) (E : Ext h h1) : Str G h1 a cs := by
  obtain ⟨t, kb, e1, e2, e3, e4⟩ := S
  exact ⟨t, kb, Exa.ext E e1, Fld.ext E e2, Fld.ext E e3, e4.ext E⟩
theorem by8_len : (by8 cs).length = cs.length := by simp [by8]
theorem len_nn {n : Nat} (q : n < 2 ^ 31) : ¬ n.toInt32 < 0 := by
  rw [Int32.lt_iff_toInt_lt, len_toInt q]; have : (0 : Int32).toInt = 0 := rfl
  omega
theorem len_nat {n : Nat} (q : n < 2 ^ 31) : n.toInt32.toNatClampNeg = n := by
  simp only [Int32.toNatClampNeg, len_toInt q]; rfl
theorem len_lt {i n : Nat} (hn : n < 2 ^ 31) (q : i < n) : i.toInt32 < n.toInt32 := by
  rw [Int32.lt_iff_toInt_lt, len_toInt hn, len_toInt (Nat.lt_trans q hn)]; omega
theorem len_nlt {i n : Nat} (hi : i < 2 ^ 31) (q : n ≤ i) : ¬ i.toInt32 < n.toInt32 := by
  rw [Int32.lt_iff_toInt_lt, len_toInt hi, len_toInt (Nat.lt_of_le_of_lt q hi)]; omega
theorem len_succ (i : Nat) : i.toInt32 + Int32.ofInt 1 = (i + 1).toInt32 := by
  rw [show Int32.ofInt 1 = (1 : Nat).toInt32 from rfl]
  exact (Int32.ofNat_add i 1).symm
theorem lat_lt (q : Lat cs) : cs.length < 2 ^ 31 := Nat.lt_of_le_of_lt q.1 (by decide)
/-- 'ldc' of a constant whose text is asked, as a Str -/
theorem go_ldcT (K : Kd G B M) {k ix n : Nat} {text : String} (hd : M.P[k]? = some (pc, .ldc ix, 2)) (w : Wd G (.stringLink M.own ix text)) (wS : ∀ d ∈ Bundle.stringAtoms, Wd G d) (hmem : (M.own, ix) ∈ G.EL)
    (ht : (∀ c ∈ text.toList, c.toNat < 256) ∧ text.toList.map (fun c => Value.int (Jvm.Lit.byteI c.toNat.toUInt16)) = by8 cs) (hz : cs.length < 2 ^ 31)
    (hn : Nat.ble (4 * text.toList.length) n = true) (hb : Nat.ble n 536870912 = true) (hc : Nat.ble (cells + 2) M.R.cells = true) (hl : Nat.ble (slots + (n + 4)) M.R.slots = true)
    (g : ∀ (h' : Heap) (a : Addr), Ext h h' → Str G h' a cs → Go G B M Q h' sf (cells + 2) (slots + (n + 4)) (pc + 2) Ls (.ref a :: st)) : Go G B M Q h sf cells slots pc Ls st :=
  go_ldcS K hd w wS hmem ht (len_nn hz) (by rw [len_nat hz, by8_len]) hn hb hc hl fun h' a b kb E1 e1 e2 e3 e4 _ => g h' a E1 ⟨b, kb, e1, e2, e3, e4⟩
theorem c8_lat (x : Int32) : ¬ (x &&& 255) < 0 ∧ ¬ (255 : Int32) < (x &&& 255) := by
  have q := c_and x 255 (by decide)
  simp only [Int32.lt_iff_toInt_lt]
  have e1 : (255 : Int32).toInt = 255 := by decide
  have e0 : (0 : Int32).toInt = 0 := by decide
  rw [e1] at q ⊢; rw [e0]; omega
theorem nar_c8 (x : Int32) : nar .char (x &&& 255) = x &&& 255 := i2c_mask x
theorem nar_i2c8 (x : Int32) : nar .char (x &&& 255).toUInt32.toUInt16.toUInt32.toInt32 = x &&& 255 := by rw [i2c_mask]; exact i2c_mask x
theorem i8_idem (x : Int32) : x.toInt8.toInt32.toInt8.toInt32 = x.toInt8.toInt32 := by rw [Int8.toInt8_toInt32]
theorem Arv.ty_ne {k1 k2 : ClassId} {t1 t2 : FieldType} {z1 z2 : Int32} {v1 v2 : List Value} {d1 d2 : Value} (A : Arv G.Z h a k1 t1 z1 v1 d1) (A' : Arv G.Z h b k2 t2 z2 v2 d2) (q : t1 ≠ t2) : a ≠ b := fun e => by
  subst e
  obtain ⟨c1, ⟨x1, ⟨-, kk, y1, p1, z1⟩, -⟩, -⟩ := A
  obtain ⟨c2, ⟨x2, ⟨-, kk', y2, p2, z2⟩, -⟩, -⟩ := A'
  cases x1.symm.trans x2
  cases y1.symm.trans y2
  have := z1.symm.trans z2
  injection this with _ e
  exact q e
end Small
end Jvm.OwnW
namespace Jvm.OwnW
open Sem ClassFile Op Lib Bundle Jvm.Stand Jvm.Free Jvm.LawKit Jvm.RoadKit
section Small2
variable {G : Gb} {h h1 : Heap} {a b : Addr} {cs ds : List Int32}
theorem Str.wrO {C : String} {n sl : Nat} {v : Value} (S : Str G h b cs) (E : Exa G.Z h a C) (hC : C ≠ "java/lang/String") (wi : Wd G (.instantiable C n)) (W : Wr h h1 a sl v) : Str G h1 b cs := by
  obtain ⟨t, kb, e1, e2, e3, e4⟩ := S
  have n1 : b ≠ a := fun q => (Exa.ne E e1 hC) q.symm
  have n2 : t ≠ a := (Exa.neArv E e4 wi).symm
  exact ⟨t, kb, Exa.wr W e1, Fld.other W e2 (Or.inl n1), Fld.other W e3 (Or.inl n1), e4.other W n2⟩
theorem get_map {i : Nat} (q : i < cs.length) : (cs.map Value.int).getD i (.int 0) = .int cs[i] := by
  simp [List.getD_eq_getElem?_getD, q]
theorem get_by8 {i : Nat} (q : i < cs.length) : (by8 cs).getD i (.int 0) = .int cs[i].toInt8.toInt32 := by
  simp [by8, List.getD_eq_getElem?_getD, q]
theorem set_by8 {i k : Nat} (q : i < cs.length) : (by8 (cs.take i) ++ List.replicate (k + 1) (Value.int 0)).set i (.int (nar .byte cs[i].toInt8.toInt32)) = by8 (cs.take (i + 1)) ++ List.replicate k (Value.int 0) := by
  have e : nar .byte cs[i].toInt8.toInt32 = cs[i].toInt8.toInt32 := i8_idem _
  have l : (by8 (cs.take i)).length = i := by rw [by8_len, List.length_take]; omega
  rw [e, List.set_append_right _ _ (Nat.le_of_eq l), l, Nat.sub_self, List.replicate_succ, List.set_cons_zero, List.take_succ_eq_append_getElem q]
  show _ = List.map _ (cs.take i ++ [cs[i]]) ++ _
  rw [List.map_append, List.append_assoc]
  rfl
theorem len_zero {n : Nat} (hn : n < 2 ^ 31) (q : n.toInt32 = 0) : n = 0 := by
  have e := congrArg Int32.toInt q
  rw [len_toInt hn] at e
  have : (0 : Int32).toInt = 0 := rfl
  omega
theorem len_inj {n m : Nat} (hn : n < 2 ^ 31) (hm : m < 2 ^ 31) (q : n.toInt32 = m.toInt32) : n = m := by
  have e := congrArg Int32.toInt q
  rw [len_toInt hn, len_toInt hm] at e
  omega
/-- the low byte, as signed, tells a char of 0 to 255 -/
theorem i8_inj {x y : Int32} (hx : ¬ x < 0 ∧ ¬ (255 : Int32) < x) (hy : ¬ y < 0 ∧ ¬ (255 : Int32) < y) (q : x.toInt8.toInt32 = y.toInt8.toInt32) : x = y := by
  have e := congrArg Int32.toInt q
  have a1 := c_i2b x
  have a2 := c_i2b y
  simp only [Int32.lt_iff_toInt_lt] at hx hy
  have e0 : (0 : Int32).toInt = 0 := by decide
  have e1 : (255 : Int32).toInt = 255 := by decide
  rw [e0, e1] at hx hy
  apply Int32.toInt_inj.mp
  omega
theorem by8_inj : ∀ {cs ds : List Int32}, (∀ c ∈ cs, ¬ c < 0 ∧ ¬ (255 : Int32) < c) → (∀ c ∈ ds, ¬ c < 0 ∧ ¬ (255 : Int32) < c) → by8 cs = by8 ds → cs = ds
  | [], [], _, _, _ => rfl
  | [], _ :: _, _, _, q => by cases q
  | _ :: _, [], _, _, q => by cases q
  | c :: cs, d :: ds, h1, h2, q => by
    simp only [by8, List.map_cons, List.cons.injEq, Value.int.injEq] at q
    rw [i8_inj (h1 c (List.mem_cons_self ..)) (h2 d (List.mem_cons_self ..)) q.1, by8_inj (fun x hx => h1 x (List.mem_cons_of_mem _ hx)) (fun x hx => h2 x (List.mem_cons_of_mem _ hx)) q.2]
/-- one String, one text -/
theorem Str.inj (hl : Lat cs) (hl' : Lat ds) (S : Str G h a cs) (S' : Str G h a ds) : cs = ds := by
  obtain ⟨t, kb, -, -, e3, c, A, -, z1, -, H, -⟩ := S
  obtain ⟨t', kb', -, -, f3, c', A', -, z2, -, H', -⟩ := S'
  have et : t = t' := by
    by_cases u : (Value.ref t) = .ref t'
    · exact Value.ref.inj u
    · exact absurd rfl (Fld.ne e3 f3 u)
  subst et
  cases A.1.symm.trans A'.1
  have n1 := lat_lt hl
  have n2 := lat_lt hl'
  rw [len_nat n1] at z1
  rw [len_nat n2] at z2
  refine by8_inj hl.2 hl'.2 (List.ext_getElem (by rw [by8_len, by8_len]; omega) fun i q1 q2 => ?_)
  have u1 := H i (by rw [by8_len] at q1; omega)
  have u2 := H' i (by rw [by8_len] at q1; omega)
  have := Option.some.inj (u1.symm.trans u2)
  rw [List.getD_eq_getElem?_getD, List.getD_eq_getElem?_getD, List.getElem?_eq_getElem q1, List.getElem?_eq_getElem q2] at this
  exact this
end Small2
end Jvm.OwnW
namespace Jvm.OwnW
open Sem ClassFile Op Lib Bundle Jvm.Stand Jvm.Free Jvm.LawKit Jvm.RoadKit
theorem bool_n {b : Int32} (q : b = 0 ∨ b = 1) : narrow .boolean (.int b) = .int b := by rcases q with rfl | rfl <;> rfl
theorem bool_f {b : Int32} (q : b = 0 ∨ b = 1) : fits .boolean (.int b) = true := by rcases q with rfl | rfl <;> rfl
theorem lat1 {x : Int32} (q : ¬ x < 0 ∧ ¬ (255 : Int32) < x) : Lat [x] := ⟨(by simp), fun c hc => by cases List.mem_singleton.mp hc; exact q⟩
theorem lat0 : Lat [] := ⟨(by decide), fun c hc => nomatch hc⟩
theorem latC {x : Int32} {cs : List Int32} (q : ¬ x < 0 ∧ ¬ (255 : Int32) < x) (l : Lat cs) (hn : cs.length + 1 ≤ 4000) : Lat (x :: cs) := ⟨hn, fun c hc => by
  rcases List.mem_cons.mp hc with rfl | hc
  · exact q
  · exact l.2 c hc⟩
end Jvm.OwnW
namespace Jvm.OwnW
open Sem ClassFile Op Lib Bundle Jvm.Stand Jvm.Free Jvm.LawKit Jvm.RoadKit
theorem shr0 (x : Int32) : x >>> ((0 : Int32) &&& 31) = x := by
  have e := c_ishr x 0 0 (by decide)
  apply Int32.toInt_inj.mp
  rw [e]; simp
theorem c8_id {c : Int32} (q : ¬ c < 0 ∧ ¬ (255 : Int32) < c) : c &&& 255 = c := by
  apply Int32.toInt_inj.mp
  rw [c_mask c 255 8 (by decide) (by decide)]
  simp only [Int32.lt_iff_toInt_lt] at q
  have e0 : (0 : Int32).toInt = 0 := by decide
  have e1 : (255 : Int32).toInt = 255 := by decide
  rw [e0, e1] at q
  have : ((2 ^ 8 : Nat) : Int) = 256 := by decide
  rw [this]; omega
theorem nar_id {c : Int32} (q : ¬ c < 0 ∧ ¬ (255 : Int32) < c) : nar .char c = c := by
  have e := nar_c8 c
  rw [c8_id q] at e
  exact e
theorem char_n {c : Int32} (q : ¬ c < 0 ∧ ¬ (255 : Int32) < c) : narrow .char (.int c) = .int c := congrArg Value.int (nar_id q)
theorem b8_char {c : Int32} (q : ¬ c < 0 ∧ ¬ (255 : Int32) < c) : (c.toInt8.toInt32 &&& (255 : Int32)).toUInt32.toUInt16.toUInt32.toInt32 = c := by
  rw [i2c_mask]
  apply Int32.toInt_inj.mp
  rw [c_mask _ 255 8 (by decide) (by decide)]
  have a1 := c_i2b c
  simp only [Int32.lt_iff_toInt_lt] at q
  have e0 : (0 : Int32).toInt = 0 := by decide
  have e1 : (255 : Int32).toInt = 255 := by decide
  rw [e0, e1] at q
  have : ((2 ^ 8 : Nat) : Int) = 256 := by decide
  rw [this]; omega
end Jvm.OwnW
namespace Jvm.OwnW
open Sem ClassFile Op Lib Bundle Jvm.Stand Jvm.Free Jvm.LawKit Jvm.RoadKit
theorem Str.keepO {G : Gb} {h h1 : Heap} {a b : Addr} {cs : List Int32} {C : String} {n : Nat} (S : Str G h b cs) (E : Exa G.Z h a C) (hC : C ≠ "java/lang/String") (wi : Wd G (.instantiable C n)) (K : Keep h h1 [a]) : Str G h1 b cs := by
  obtain ⟨t, kb, e1, e2, e3, e4⟩ := S
  have n1 : b ≠ a := fun q => (Exa.ne E e1 hC) q.symm
  have n2 : t ≠ a := (Exa.neArv E e4 wi).symm
  exact ⟨t, kb, e1.keep K, e2.keep K (ninS n1 nin0), e3.keep K (ninS n1 nin0), e4.keep K (ninS n2 nin0)⟩
end Jvm.OwnW
namespace Jvm.OwnW
theorem cmpL_self (x : Int64) : Jvm.Free.XT.cmpL x x = 0 := by simp [Jvm.Free.XT.cmpL]
end Jvm.OwnW
namespace Jvm.OwnW
open Sem ClassFile Op Lib Bundle Jvm.Stand Jvm.Free Jvm.LawKit Jvm.RoadKit
theorem rem3 (x : Int32) : (x &&& 3) % 3 = 0 ∨ (x &&& 3) % 3 = 1 ∨ (x &&& 3) % 3 = 2 := by
  have a := c_and x 3 (by decide)
  have b := (c_irem (x &&& 3) 3 3 (by decide)).1 a.1
  have e0 : (0 : Int32).toInt = 0 := by decide
  have e1 : (1 : Int32).toInt = 1 := by decide
  have e2 : (2 : Int32).toInt = 2 := by decide
  rcases (by omega : (x &&& 3).toInt % 3 = 0 ∨ (x &&& 3).toInt % 3 = 1 ∨ (x &&& 3).toInt % 3 = 2) with q | q | q
  · exact Or.inl (Int32.toInt_inj.mp (by rw [b, q, e0]))
  · exact Or.inr (Or.inl (Int32.toInt_inj.mp (by rw [b, q, e1])))
  · exact Or.inr (Or.inr (Int32.toInt_inj.mp (by rw [b, q, e2])))
theorem tok_fin {r kk s : Int32} {A B C : Prop} (sp : (r = 1 ∧ A ∧ B) ∨ (r = 0 ∧ ¬ (A ∧ B))) (hk : (kk = 1 ∧ C) ∨ (kk = 0 ∧ ¬ C)) (hs : (s = 1 ∧ B) ∨ (s = 0 ∧ ¬ B)) (hc : A ↔ C) : r = if kk = 0 then 0 else if s = 0 then 0 else 1 := by
  rcases hk with ⟨rfl, c⟩ | ⟨rfl, c⟩
  · rcases hs with ⟨rfl, b⟩ | ⟨rfl, b⟩
    · rcases sp with ⟨u, -⟩ | ⟨-, u⟩
      · rw [u]; simp
      · exact absurd ⟨hc.mpr c, b⟩ u
    · rcases sp with ⟨-, -, u⟩ | ⟨u, -⟩
      · exact absurd u b
      · rw [u]; simp
  · rcases sp with ⟨-, u, -⟩ | ⟨u, -⟩
    · exact absurd (hc.mp u) c
    · rw [u]; simp
/-- the text that a maker of Strings of up to two chars makes -/
def Mk2 (n c0 c1 : Int32) (cs : List Int32) : Prop := (n = 0 ∧ cs = []) ∨ (¬ n = 0 ∧ n = 1 ∧ cs = [c0]) ∨ (¬ n = 0 ∧ ¬ n = 1 ∧ cs = [c0, c1])
theorem Mk2.zero {c0 c1 : Int32} {cs : List Int32} (q : Mk2 0 c0 c1 cs) : cs = [] := by rcases q with ⟨-, q⟩ | ⟨q, -⟩ | ⟨q, -⟩ <;> first | exact q | exact absurd rfl q
theorem Mk2.one {c0 c1 : Int32} {cs : List Int32} (q : Mk2 1 c0 c1 cs) : cs = [c0] := by rcases q with ⟨q, -⟩ | ⟨-, -, q⟩ | ⟨-, q, -⟩ <;> first | exact q | exact absurd rfl q | exact absurd q (by decide)
theorem Mk2.two {c0 c1 : Int32} {cs : List Int32} (q : Mk2 2 c0 c1 cs) : cs = [c0, c1] := by rcases q with ⟨q, -⟩ | ⟨-, q, -⟩ | ⟨-, -, q⟩ <;> first | exact q | exact absurd q (by decide)
/-- two such texts -/
theorem Mk2.same {n m c0 c1 d0 d1 : Int32} {cs ds : List Int32} (hn : n = 0 ∨ n = 1 ∨ n = 2) (hm : m = 0 ∨ m = 1 ∨ m = 2) (q : Mk2 n c0 c1 cs) (r : Mk2 m d0 d1 ds) : cs = ds ↔ (n = m ∧ (n < 1 ∨ c0 = d0) ∧ (n < 2 ∨ c1 = d1)) := by
  rcases hn with rfl | rfl | rfl <;> rcases hm with rfl | rfl | rfl <;> (first | rw [q.zero] | rw [q.one] | rw [q.two]) <;> (first | rw [r.zero] | rw [r.one] | rw [r.two]) <;> simp
end Jvm.OwnW
namespace Jvm.OwnW
open Sem ClassFile Op Lib Bundle Jvm.Stand Jvm.Free Jvm.LawKit Jvm.RoadKit
theorem nar_ii {c : Int32} (q : ¬ c < 0 ∧ ¬ (255 : Int32) < c) : nar .char c.toUInt32.toUInt16.toUInt32.toInt32 = c := by
  have e : c.toUInt32.toUInt16.toUInt32.toInt32 = c := nar_id q
  rw [e]; exact nar_id q
theorem x8_lat (x y : Int32) : ¬ ((x &&& 255) ^^^ (y &&& 255)) < 0 ∧ ¬ (255 : Int32) < ((x &&& 255) ^^^ (y &&& 255)) := by
  have e : (x &&& 255) ^^^ (y &&& 255) = (x ^^^ y) &&& 255 := by
    apply Int32.toBitVec_inj.mp
    simp only [Int32.toBitVec_xor, Int32.toBitVec_and]
    apply BitVec.eq_of_getLsbD_eq
    intro i hi
    simp only [BitVec.getLsbD_and, BitVec.getLsbD_xor]
    cases x.toBitVec.getLsbD i <;> cases y.toBitVec.getLsbD i <;> cases (255 : Int32).toBitVec.getLsbD i <;> rfl
  rw [e]; exact c8_lat _
/-- a class under Object alone can't be cast to another one that is no interface -/
theorem noCast {G : Gb} {C O K : String} {n : Nat} (w : Wd G (.superclass C O)) (w0 : Wd G (.noSuperclass O)) (wi : Wd G (.instantiable K n)) (h1 : C ≠ K) (h2 : O ≠ K) : ∃ c t, G.Z.vm.findClass C = some c ∧ G.Z.vm.findClass K = some t ∧ G.Z.vm.assignable c t = false := by
  obtain ⟨c, hc⟩ := found_sup w
  obtain ⟨p, k, kp, a1, a2, a3, a4, a5, -, a7⟩ := Cond.superclass_spec hc w
  obtain ⟨o, ko, b1, b2, b3, -, -⟩ := Cond.noSuperclass_spec w0
  cases b1.symm.trans a1
  obtain ⟨t, kt, c1, c2, c3, c4, c5, -⟩ := Cond.instantiable_spec wi
  have n1 := ids_ne hc c1 h1
  have n2 := ids_ne b1 c1 h2
  have c4' := (Bool.or_eq_false_iff.mp c4).1
  refine ⟨c, t, hc, c1, ?_⟩
  show G.Z.vm.assignableAux (255 + 1) c t = false
  simp [Vm.assignableAux, n1, a2, c2, a5, c3, c4', Vm.isSubclass, Vm.isSubclassAux, a4]
  generalize G.Z.vm.classes.size = f
  cases f <;> simp [Vm.isSubclassAux, n2, b2, b3]
end Jvm.OwnW
namespace Jvm.OwnW
open Jvm.RoadKit
theorem fld_apart {args : Array Value} {s : State} {t u : Term} {C n d : String} {a b : Addr} {i j : Value} (e1 : t.eval args s none [] s = some (.ref a)) (e2 : u.eval args s none [] s = some (.ref b)) (f1 : (Term.field t C n d).eval args s none [] s = some i) (f2 : (Term.field u C n d).eval args s none [] s = some j) (q : i ≠ j) : a ≠ b := fun e => by
  subst e
  rw [fld_at e1] at f1
  rw [fld_at e2] at f2
  exact q (Option.some.inj (f1.symm.trans f2))
end Jvm.OwnW
namespace Jvm.OwnW
open Sem ClassFile Op Lib Bundle Jvm.Stand Jvm.Free Jvm.LawKit Jvm.RoadKit
section More
variable {G : Gb} {B : Cx} {M : Mt} {R : Room} {Q : Option Value → Heap → (Addr → Prop) → Prop} {h : Heap} {sf : List Addr} {cells slots pc : Nat} {Ls : Array Slot} {st : List Value}
theorem sameM {y z : MethodName} {C : String} (wd : Wd G (.declares y)) (ws : Wd G (.selects C z z)) (hc : y.cls = z.cls) (hy : y.cls ≠ "java/lang/invoke/MethodHandle" ∧ y.cls ≠ "java/lang/invoke/VarHandle") : Wd G (.sameMethod y.cls y.cls y.name y.desc) := by
  obtain ⟨r0, r, hn, -⟩ := Cond.declares_spec wd
  obtain ⟨c2, r2, m2, q1, q2, q3, q4, kP, hkP, hkPi⟩ := Cond.selects_spec ws
  have e1 := findClass_of_methodNamed hn
  have e2 := findClass_of_methodNamed q3
  rw [← hc] at e2
  have e3 : m2.cls = r0.cls := Option.some.inj (e2.symm.trans e1)
  have e4 := State.methodFound?_of_named hn hy
  have e5 : G.Z.methodNamed? ⟨y.cls, y.name, y.desc⟩ = some r0 := hn
  rw [e3] at hkP
  show (Jvm.Cond.sameMethod y.cls y.cls y.name y.desc).before G.a0 G.Z = true
  simp [Cond.before, Cond.holds, Cond.value, e1, e4, e5, hkP, hkPi]
/-- a method's class is no interface, told by another method of it -/
theorem nfO {C : String} {y z : MethodName} {s : State} (w : Wd G (.selects C z z)) (hc : y.cls = z.cls) : ∀ vm0 : Vm, G.Z.Warmed39 vm0 → NotFace (s.setVm vm0) y := fun vm0 hZ r0 h0 => by
  obtain ⟨c2, r2, m2, q1, q2, q3, q4, kP, hkP, hkPi⟩ := Cond.selects_spec (mv (s := s.setVm vm0) (args := #[]) hZ w)
  have e1 := findClass_of_methodNamed h0
  have e2 := findClass_of_methodNamed q3
  rw [hc] at e1
  have e3 : m2.cls = r0.cls := Option.some.inj (e2.symm.trans e1)
  exact ⟨kP, by rw [← e3]; exact hkP, hkPi⟩
theorem go_superN (K : Kd G B M) {k ix : Nat} {y : MethodName} {bytes : ByteArray} {maxL : Nat} {ret : Option FieldType} {rm : Room} {C : String} {a : Addr} {argsL rest : List Value} {ps : List FieldType} {rt : Option FieldType} {sf' : List Addr} {Qc : Option Value → Heap → (Addr → Prop) → Prop} (hd : M.P[k]? = some (pc, .invokespecial ix, 3))
    (w1 : Wd G (.methodLink M.own ix y)) (w2 : Wd G (.sameMethod y.cls y.cls y.name y.desc)) (w3 : Wd G (.instanceMethod y)) (w4 : Wd G (.superclass M.own y.cls)) (w5 : Wd G (.initialized y.cls)) (w6 : Wd G (.code y bytes maxL ret)) (hn : y.name ≠ "<init>") (pd : parseMethodDescriptor y.desc = some ⟨ps, rt⟩) (E : Exa G.Z h a C)
    (Ct : Ctr G [] y bytes maxL ret rm (.ref a :: argsL).toArray h sf' Qc) (hst : st = argsL.reverse ++ .ref a :: rest) (hlen : argsL.length = ps.length) (hsz : Ls.size = M.maxL) (hsub : ∀ x ∈ sf', x ∈ sf) (hrm : rok M.R rest maxL rm cells slots = true)
    (g : ∀ (v : Option Value) (h' : Heap) (Sf : Addr → Prop), h.size ≤ h'.size → Qc v h' Sf → ∃ nw : List Addr, (∀ x ∈ nw, Sf x) ∧ Go G B M Q h' (nw ++ sf) (cells + rm.cells) (slots + rm.slots) (pc + 3) Ls (v.toList ++ rest)) : Go G B M Q h sf cells slots pc Ls st := by
  intro T vm0 k0 locs W
  obtain ⟨r1, r2, r3, r4⟩ := rok_ok hrm
  obtain ⟨X, eT, hS, hk, hZ, hown, hF, hE, hC, hs⟩ := id W
  subst hst
  exact call_on W (superBackS X K.1 hZ hown w1 w2 w3 w4 hn (backG (W := (rest.map fun v => v.category).sum) Ct hZ w6 w5 r1 r2 K.2.2.2.2.2.2 hC.1 hE (fun x hx => hs x (hsub x hx))) eT (Ins.self E) (g := mkF B.m pc Ls (argsL.reverse ++ .ref a :: rest)) rfl (hsz.trans K.2.2.1.symm) w6 (argsL := argsL) (rest := rest) (lenOf pd hlen) rfl (by show 2 * 0 + _ ≤ _; omega) (K.dec hd) (fun vm₁ _ => ⟨rfl, eT, r3, r4⟩)) g
theorem go_super (K : Kd G B M) {k ix : Nat} {y : MethodName} {bytes : ByteArray} {maxL : Nat} {ret : Option FieldType} {rm : Room} {C : String} {a : Addr} {argsL rest : List Value} {ps : List FieldType} {rt : Option FieldType} {sf' : List Addr} {Qc : Option Value → Heap → (Addr → Prop) → Prop} (hd : M.P[k]? = some (pc, .invokespecial ix, 3))
    (w1 : Wd G (.methodLink M.own ix y)) (w2 : Wd G (.sameMethod y.cls y.cls y.name y.desc)) (w3 : Wd G (.instanceMethod y)) (w4 : Wd G (.superclass M.own y.cls)) (w5 : Wd G (.initialized y.cls)) (w6 : Wd G (.code y bytes maxL ret)) (hn : y.name ≠ "<init>") (pd : parseMethodDescriptor y.desc = some ⟨ps, rt⟩) (E : Exa G.Z h a C)
    (Ct : Ctr G [] y bytes maxL ret rm (.ref a :: argsL).toArray h sf' Qc) (hst : st = argsL.reverse ++ .ref a :: rest) (hlen : argsL.length = ps.length) (hsz : Ls.size = M.maxL) (hsub : ∀ x ∈ sf', x ∈ sf) (hrm : rok M.R rest maxL rm cells slots = true)
    (g : ∀ (v : Option Value) (h' : Heap) (Sf : Addr → Prop), h.size ≤ h'.size → Qc v h' Sf → Go G B M Q h' sf (cells + rm.cells) (slots + rm.slots) (pc + 3) Ls (v.toList ++ rest)) : Go G B M Q h sf cells slots pc Ls st :=
  go_superN K hd w1 w2 w3 w4 w5 w6 hn pd E Ct hst hlen hsz hsub hrm fun v h' Sf z q => ⟨[], (fun _ u => nomatch u), g v h' Sf z q⟩
/-- invokevirtual of a method that the receiver's class takes as it stands, the entry's own class declaring it: private ones too -/
theorem go_virt0N (K : Kd G B M) {k ix : Nat} {y : MethodName} {bytes : ByteArray} {maxL : Nat} {ret : Option FieldType} {rm : Room} {C : String} {a : Addr} {argsL rest : List Value} {ps : List FieldType} {rt : Option FieldType} {sf' : List Addr} {Qc : Option Value → Heap → (Addr → Prop) → Prop} (hd : M.P[k]? = some (pc, .invokevirtual ix, 3))
    (w1 : Wd G (.methodLink M.own ix y)) (w3 : Wd G (.selects C y y)) (w4 : Wd G (.instanceMethod y)) (w5 : Wd G (.initialized y.cls)) (w6 : Wd G (.code y bytes maxL ret)) (hy : y.cls ≠ "java/lang/invoke/MethodHandle" ∧ y.cls ≠ "java/lang/invoke/VarHandle") (pd : parseMethodDescriptor y.desc = some ⟨ps, rt⟩) (E : Exa G.Z h a C)
    (Ct : Ctr G [] y bytes maxL ret rm (.ref a :: argsL).toArray h sf' Qc) (hst : st = argsL.reverse ++ .ref a :: rest) (hlen : argsL.length = ps.length) (hsz : Ls.size = M.maxL) (hsub : ∀ x ∈ sf', x ∈ sf) (hrm : rok M.R rest maxL rm cells slots = true)
    (g : ∀ (v : Option Value) (h' : Heap) (Sf : Addr → Prop), h.size ≤ h'.size → Qc v h' Sf → ∃ nw : List Addr, (∀ x ∈ nw, Sf x) ∧ Go G B M Q h' (nw ++ sf) (cells + rm.cells) (slots + rm.slots) (pc + 3) Ls (v.toList ++ rest)) : Go G B M Q h sf cells slots pc Ls st := by
  intro T vm0 k0 locs W
  obtain ⟨r1, r2, r3, r4⟩ := rok_ok hrm
  obtain ⟨X, eT, hS, hk, hZ, hown, hF, hE, hC, hs⟩ := id W
  obtain ⟨cB, kB, i1, i2, cellB, i3, i4, i5⟩ := isOf (s := B.s.setVm vm0) hZ eT E
  subst hst
  have v3 : (Jvm.Cond.selects C y y).before B.as (B.s.setVm vm0) = true := mv hZ w3
  have v4 : (Jvm.Cond.instanceMethod y).before B.as (B.s.setVm vm0) = true := mv hZ w4
  have v6 : (Jvm.Cond.code y bytes maxL ret).before B.as (B.s.setVm vm0) = true := mv hZ w6
  obtain ⟨mk, methM, hnamed, hmethM, hstM, habM⟩ := Cond.instanceMethod_spec v4
  obtain ⟨methM', cM, hmethM', -, -, -, -, -, -, hsigM⟩ := Cond.code_spec hnamed v6
  cases hmethM.symm.trans hmethM'
  obtain ⟨c2, r2', m2, q1, q2, q3, q4, kP, hkP, hkPi⟩ := Cond.selects_spec v3
  cases i1.symm.trans q1
  cases (State.methodFound?_of_named hnamed hy).symm.trans q2
  cases hnamed.symm.trans q3
  have hselP : selectMethod B.e.platform (B.s.setVm vm0).vm cellB.cls mk = .method mk := by rw [Launch.admits_selectMethod X.admits, i4]; exact q4
  have hlen' : ∀ sig, parseMethodDescriptor y.desc = some sig → argsL.length = sig.parameters.length := lenOf pd hlen
  have hK := backG (R := M.R) (p := B.p) (e := B.e) (below := B.bl) (s := B.s) (args := B.as) (len := 3) (W := (rest.map fun v => v.category).sum) Ct hZ w6 w5 r1 r2 K.2.2.2.2.2.2 hC.1 hE (fun x hx => hs x (hsub x hx))
  refine call_on W ?_ g
  obtain ⟨vm₁, X₁, hstep₁⟩ := X.invokevirtual K.1 hown (mv hZ w1) hnamed hmethM hstM hkP hkPi hy (a := a) (cell := cellB) i3 (fun z u => by rw [u] at i5; cases i5) hselP hmethM habM hkP hkPi (g := mkF B.m pc Ls (argsL.reverse ++ .ref a :: rest)) rfl (argsL := argsL) (rest := rest) (hlen' _ hsigM) rfl (K.dec hd)
  obtain ⟨v, A, X', hS', hgr, hpost, hsteps⟩ := hK B.m B.mt B.c ⟨T.setVm vm₁, locs, cells, slots⟩ { mkF B.m pc Ls (argsL.reverse ++ .ref a :: rest) with stack := rest } (.invokevirtual ix) mk (.ref a :: argsL).toArray X₁ rfl (hsz.trans K.2.2.1.symm) (K.dec hd) (by show 2 * 0 + (rest.map fun v => v.category).sum ≤ _; omega) (X₁.named hnamed) ⟨rfl, eT, r3, r4⟩
  exact ⟨v, vm₁, A, X₁.warmed, X', hS', hgr, hpost, (hstep₁ _ fun acts => by rw [doInvoke_state]; exact Steps.refl _).trans hsteps⟩
theorem go_virt0 (K : Kd G B M) {k ix : Nat} {y : MethodName} {bytes : ByteArray} {maxL : Nat} {ret : Option FieldType} {rm : Room} {C : String} {a : Addr} {argsL rest : List Value} {ps : List FieldType} {rt : Option FieldType} {sf' : List Addr} {Qc : Option Value → Heap → (Addr → Prop) → Prop} (hd : M.P[k]? = some (pc, .invokevirtual ix, 3))
    (w1 : Wd G (.methodLink M.own ix y)) (w3 : Wd G (.selects C y y)) (w4 : Wd G (.instanceMethod y)) (w5 : Wd G (.initialized y.cls)) (w6 : Wd G (.code y bytes maxL ret)) (hy : y.cls ≠ "java/lang/invoke/MethodHandle" ∧ y.cls ≠ "java/lang/invoke/VarHandle") (pd : parseMethodDescriptor y.desc = some ⟨ps, rt⟩) (E : Exa G.Z h a C)
    (Ct : Ctr G [] y bytes maxL ret rm (.ref a :: argsL).toArray h sf' Qc) (hst : st = argsL.reverse ++ .ref a :: rest) (hlen : argsL.length = ps.length) (hsz : Ls.size = M.maxL) (hsub : ∀ x ∈ sf', x ∈ sf) (hrm : rok M.R rest maxL rm cells slots = true)
    (g : ∀ (v : Option Value) (h' : Heap) (Sf : Addr → Prop), h.size ≤ h'.size → Qc v h' Sf → Go G B M Q h' sf (cells + rm.cells) (slots + rm.slots) (pc + 3) Ls (v.toList ++ rest)) : Go G B M Q h sf cells slots pc Ls st :=
  go_virt0N K hd w1 w3 w4 w5 w6 hy pd E Ct hst hlen hsz hsub hrm fun v h' Sf z q => ⟨[], (fun _ u => nomatch u), g v h' Sf z q⟩
/-- System.arraycopy between arrays of one primitive kind -/
theorem go_arraycopy (K : Kd G B M) {k ix : Nat} {a b : Addr} {kA kB : ClassId} {ty : FieldType} {z z' sp dp nn : Int32} {vs vd us : List Value} {dv dd : Value} (hd : M.P[k]? = some (pc, .invokestatic ix, 3))
    (w1 : Wd G (.methodLink M.own ix Jvm.Stand.acN)) (w2 : Wd G (.native Jvm.Stand.acN)) (w3 : Wd G (.static Jvm.Stand.acN)) (w4 : Wd G (.initialized "java/lang/System")) (A : Arv G.Z h a kA ty z vs dv) (A' : Arv G.Z h b kB ty z' vd dd) (hp : refKind ty = false)
    (h1 : ¬ sp < 0) (h2 : ¬ dp < 0) (h3 : ¬ nn < 0) (h4 : sp.toNatClampNeg + nn.toNatClampNeg ≤ z.toNatClampNeg) (h5 : dp.toNatClampNeg + nn.toNatClampNeg ≤ z'.toNatClampNeg)
    (hus : us = (List.range nn.toNatClampNeg).map fun i => vs.getD (sp.toNatClampNeg + i) dv) (hl : dp.toNatClampNeg + nn.toNatClampNeg ≤ vd.length) (ge : G.Z.heap.size ≤ b) (hsf : b ∈ sf ∨ ty ≠ .byte) (hsz : Ls.size = M.maxL)
    (hf : Nat.ble 1 M.R.frames = true) (hlo : Nat.ble ((st.map fun v => v.category).sum + (nativeFrameWords "java/lang/System" "arraycopy" 5 + 11)) M.R.locals = true)
    (g : ∀ h' : Heap, Keep h h' [b] → Arv G.Z h' b kB ty z' (vd.take dp.toNatClampNeg ++ us ++ vd.drop (dp.toNatClampNeg + nn.toNatClampNeg)) dd → Go G B M Q h' sf cells slots (pc + 3) Ls st) : Go G B M Q h sf cells slots pc Ls (.int nn :: .int dp :: .ref b :: .int sp :: .ref a :: st) := by
  intro T vm0 k0 locs W
  obtain ⟨X, eT, hS, hk, hZ, hown, hF, hE, hC, hs⟩ := W
  have S : Safe G.Z G.EL vm0 h b := hsf.elim (fun q => (hs b q).1) (fun q => Safe.arv hZ.alike A' q)
  obtain ⟨T', h', L, X', e', N', K', A2, st'⟩ := cpA X K.1 hZ hown w1 w2 w3 w4 eT A A' (Or.inl ⟨rfl, hp⟩) h1 h2 h3 h4 h5 hus hl hF ge (g := mkF B.m pc Ls (.int nn :: .int dp :: .ref b :: .int sp :: .ref a :: st)) rfl (hsz.trans K.2.2.1.symm) rfl (K.dec hd) (Nat.le_of_ble_eq_true hf) (W := (st.map fun v => v.category).sum) (by show 2 * 0 + _ ≤ _; omega) (Nat.le_of_ble_eq_true hlo)
  have sa : ∀ x ∈ [b], Safe G.Z G.EL vm0 h x := allS S all0
  exact (g h' K' A2 T' vm0 k0 L ⟨X', e', hS, Nat.le_trans hk K'.1, hZ, hown, N', (Old.keep (n0 := G.Z.heap.size) ⟨rfl, hE⟩ K' (allS ge all0)).2, hC.trans (CHr.keep K' sa hC.1), fun x hx => ⟨Safe.keep K' sa hC.1 (hs x hx).1, Nat.lt_of_lt_of_le (hs x hx).2 K'.1⟩⟩).pre st'
end More
end Jvm.OwnW
namespace Jvm.OwnW
open Sem ClassFile Op Lib Bundle Jvm.Stand Jvm.Free Jvm.LawKit Jvm.RoadKit
section Bld
variable {G : Gb} {h h1 : Heap} {a t : Addr} {kb : ClassId} {cs ds : List Int32} {m : Nat}
/-- a StringBuilder a over the byte[] t of m bytes, holding the chars cs -/
def Sb (G : Gb) (h : Heap) (a t : Addr) (kb : ClassId) (cs : List Int32) (m : Nat) : Prop :=
  Exa G.Z h a "java/lang/StringBuilder" ∧ Fld G.Z h a "java/lang/AbstractStringBuilder" "value" "[B" (.ref t) ∧ Fld G.Z h a "java/lang/AbstractStringBuilder" "coder" "B" (.int 0) ∧
  Fld G.Z h a "java/lang/AbstractStringBuilder" "count" "I" (.int cs.length.toInt32) ∧ Arv G.Z h t kb .byte m.toInt32 (by8 cs ++ List.replicate (m - cs.length) (.int 0)) (.int 0) ∧ cs.length ≤ m ∧ m < 2 ^ 31
theorem Sb.ext (S : Sb G h a t kb cs m) (E : Ext h h1) : Sb G h1 a t kb cs m := by
  obtain ⟨e1, e2, e3, e4, e5, e6⟩ := S
  exact ⟨Exa.ext E e1, Fld.ext E e2, Fld.ext E e3, Fld.ext E e4, e5.ext E, e6⟩
theorem Sb.exa (S : Sb G h a t kb cs m) : Exa G.Z h a "java/lang/StringBuilder" := S.1
theorem Str.keep2 {C : String} {n : Nat} {b : Addr} (S : Str G h b cs) (E : Exa G.Z h a C) (hC : C ≠ "java/lang/String") (wi : Wd G (.instantiable C n)) (ws : Wd G (.instantiable "java/lang/String" 4)) (A : Arv G.Z h t kb .byte m.toInt32 ((by8 ds) ++ List.replicate (m - ds.length) (.int 0)) (.int 0)) (hne : ∀ u, Fld G.Z h b "java/lang/String" "value" "[B" (.ref u) → u ≠ t) (K : Keep h h1 [a, t]) : Str G h1 b cs := by
  obtain ⟨u, ku, e1, e2, e3, e4⟩ := S
  have n1 : b ≠ a := fun q => (Exa.ne E e1 hC) q.symm
  have n2 : u ≠ a := (Exa.neArv E e4 wi).symm
  have n3 : b ≠ t := Exa.neArv e1 A ws
  have n4 : u ≠ t := hne u e3
  exact ⟨u, ku, e1.keep K, e2.keep K (ninS n1 (ninS n3 nin0)), e3.keep K (ninS n1 (ninS n3 nin0)), e4.keep K (ninS n2 (ninS n4 nin0))⟩
theorem shl0 (x : Int32) : x <<< ((0 : Int32) &&& 31) = x := by
  rw [shlm (m := 1) (by decide)]; simp
theorem add_len (n k : Nat) : n.toInt32 + k.toInt32 = (n + k).toInt32 := (Int32.ofNat_add n k).symm
theorem sub_len {n k : Nat} (q : k ≤ n) : n.toInt32 - k.toInt32 = (n - k).toInt32 := by
  have e := add_len (n - k) k
  rw [Nat.sub_add_cancel q] at e
  rw [← e, Int32.add_sub_cancel]
theorem le_len {n k : Nat} (hk : k < 2 ^ 31) (q : n ≤ k) : ¬ 0 < n.toInt32 - k.toInt32 := by
  have h1 := len_toInt (Nat.lt_of_le_of_lt q hk)
  have h2 := len_toInt hk
  have h3 := c_isub n.toInt32 k.toInt32
  have h4 := rng32 (n.toInt32 - k.toInt32)
  rw [h1, h2] at h3
  rw [Int32.lt_iff_toInt_lt]
  have e0 : (0 : Int32).toInt = 0 := rfl
  rw [e0]; omega
theorem len_ge {p q : Nat} (hp : p < 2 ^ 31) (hq : q < 2 ^ 31) (h : q ≤ p) (u : ¬ q.toInt32 < p.toInt32) : p.toInt32 = q.toInt32 := by
  rcases Nat.lt_or_ge q p with v | v
  · exact absurd (len_lt hp v) u
  · rw [Nat.le_antisymm v h]
theorem map_range {vs : List Value} {d : Value} {i n : Nat} (q : i + n ≤ vs.length) : (List.range n).map (fun k => vs.getD (i + k) d) = (vs.drop i).take n := by
  apply List.ext_getElem
  · simp; omega
  · intro j p1 p2
    have hj : i + j < vs.length := by simp at p1; omega
    simp [List.getD_eq_getElem?_getD, hj]
theorem by8_app : by8 (cs ++ ds) = by8 cs ++ by8 ds := by simp [by8]
theorem by8_take {n : Nat} : by8 (cs.take n) = (by8 cs).take n := by simp [by8, List.map_take]
theorem by8_drop {n : Nat} : by8 (cs.drop n) = (by8 cs).drop n := by simp [by8, List.map_drop]
/-- the chars ds put behind cs -/
theorem sb_put (q : cs.length + ds.length ≤ m) : (by8 cs ++ List.replicate (m - cs.length) (Value.int 0)).take cs.length ++ by8 ds ++ (by8 cs ++ List.replicate (m - cs.length) (Value.int 0)).drop (cs.length + ds.length) = by8 (cs ++ ds) ++ List.replicate (m - (cs ++ ds).length) (Value.int 0) := by
  have l : (by8 cs).length = cs.length := by8_len
  rw [List.take_append_of_le_length (by omega), List.take_of_length_le (by omega), List.drop_append, List.drop_of_length_le (by omega), List.nil_append, l, by8_app, List.length_append]
  congr 1
  rw [List.drop_replicate]
  congr 1
  omega
end Bld
end Jvm.OwnW
namespace Jvm.OwnW
open Sem ClassFile Op Lib Bundle Jvm.Stand Jvm.Free Jvm.LawKit Jvm.RoadKit
section More
variable {G : Gb} {B : Cx} {M : Mt} {Q : Option Value → Heap → (Addr → Prop) → Prop} {h : Heap} {sf : List Addr} {cells slots pc : Nat} {Ls : Array Slot} {st : List Value}
/-- 'getfield' over an entry that is resolved -/
theorem go_getfieldR (K : Kd G B M) {k ix : Nat} {O n d : String} {a : Addr} {v : Value} (hd : M.P[k]? = some (pc, .getfield ix, 3)) (w : Wd G (.fieldRef M.own ix O n d)) (F : Fld G.Z h a O n d v)
    (g : Go G B M Q h sf cells slots (pc + 3) Ls (v :: st)) : Go G B M Q h sf cells slots pc Ls (.ref a :: st) := by
  intro T vm0 k0 locs W
  obtain ⟨X, eT, hS, hk, hZ, hown, hF, hE, hC, hs⟩ := W
  have hW : G.Z.Warmed39 T.vm := wtrans hZ X.warmed
  have w' := Cond.fieldRef_warmed39 hW w
  have hcur : T.vm.findClass M.own = some B.m.cls := by
    rw [X.warmed.alike.findClass]; exact hown
  obtain ⟨c, k1, i, f, hi, hr⟩ := Cond.fieldRef_spec (cur := B.m.cls) (s := G.Z.setVm T.vm) hcur w'
  obtain ⟨cell, cf, k2, i2, f2, h1, h2, h3, h4, -, -, h7⟩ := F
  obtain ⟨k', hi', -⟩ := State.fieldFound?_setVm (s := G.Z) hW.alike h2
  cases hi.symm.trans hi'
  refine (g T vm0 k0 locs ⟨X, eT, hS, hk, hZ, hown, hF, hE, hC, hs⟩).pre (fun target hrest => ?_)
  have hd' := K.dec hd
  jvm_step X.here [K.1, hd', getfield.wp_ready (e := B.e) (s := T) (f := mkF B.m pc Ls (.ref a :: st)) X.here.top hr h3 rfl (show T.heap[a]? = some cell by rw [eT]; exact h1) h4 h7]
  exact hrest
/-- invokeinterface; the entry's own interface declares the method -/
theorem go_interfaceN (K : Kd G B M) {k ix cnt : Nat} {xi y : MethodName} {bytes : ByteArray} {maxL : Nat} {ret : Option FieldType} {rm : Room} {C : String} {a : Addr} {argsL rest : List Value} {ps : List FieldType} {rt : Option FieldType} {sf' : List Addr} {Qc : Option Value → Heap → (Addr → Prop) → Prop} (hd : M.P[k]? = some (pc, .invokeinterface ix cnt, 5))
    (w1 : Wd G (.methodLink M.own ix xi)) (w2 : Wd G (.declares xi)) (w3 : Wd G (.interfaceMethod xi.cls xi.cls xi.name xi.desc)) (w4 : Wd G (.selects C xi y)) (w5 : Wd G (.instanceMethod y)) (w6 : Wd G (.publicMethod y)) (w7 : Wd G (.unhidden C xi.name xi.desc)) (w8 : Wd G (.castable C xi.cls)) (w9 : Wd G (.initialized y.cls)) (w10 : Wd G (.code y bytes maxL ret)) (hfa : ((Jvm.Cond.interfaceMethod xi.cls xi.cls xi.name xi.desc).onTables && (Jvm.Cond.interfaceMethod xi.cls xi.cls xi.name xi.desc).keepsFace) = true)
    (hy : xi.cls ≠ "java/lang/invoke/MethodHandle" ∧ xi.cls ≠ "java/lang/invoke/VarHandle") (pd : parseMethodDescriptor xi.desc = some ⟨ps, rt⟩) (E : Exa G.Z h a C)
    (Ct : Ctr G [] y bytes maxL ret rm (.ref a :: argsL).toArray h sf' Qc) (hst : st = argsL.reverse ++ .ref a :: rest) (hlen : argsL.length = ps.length) (hsz : Ls.size = M.maxL) (hsub : ∀ x ∈ sf', x ∈ sf) (hrm : rok M.R rest maxL rm cells slots = true)
    (g : ∀ (v : Option Value) (h' : Heap) (Sf : Addr → Prop), h.size ≤ h'.size → Qc v h' Sf → ∃ nw : List Addr, (∀ x ∈ nw, Sf x) ∧ Go G B M Q h' (nw ++ sf) (cells + rm.cells) (slots + rm.slots) (pc + 5) Ls (v.toList ++ rest)) : Go G B M Q h sf cells slots pc Ls st := by
  intro T vm0 k0 locs W
  obtain ⟨r1, r2, r3, r4⟩ := rok_ok hrm
  obtain ⟨X, eT, hS, hk, hZ, hown, hF, hE, hC, hs⟩ := id W
  obtain ⟨cB, kB, i1, i2, i3⟩ := isOf (s := B.s.setVm vm0) hZ eT E
  subst hst
  exact call_on W (X.interfaceBackS K.1 hown (mv hZ w1) (mv hZ w2) (mv hZ w3 hfa) (mv hZ w4) (mv hZ w5) (mv hZ w6) (mv hZ w7) (mv hZ w8) hy (backG (W := (rest.map fun v => v.category).sum) Ct hZ w10 w9 r1 r2 K.2.2.2.2.2.2 hC.1 hE (fun x hx => hs x (hsub x hx))) i1 i2 i3 (g := mkF B.m pc Ls (argsL.reverse ++ .ref a :: rest)) rfl (hsz.trans K.2.2.1.symm) (Steps.refl _) (argsL := argsL) (rest := rest) (lenOf pd hlen) rfl (by show 2 * 0 + _ ≤ _; omega) (K.dec hd) (fun vm₁ _ => ⟨rfl, eT, r3, r4⟩)) g
theorem go_interface (K : Kd G B M) {k ix cnt : Nat} {xi y : MethodName} {bytes : ByteArray} {maxL : Nat} {ret : Option FieldType} {rm : Room} {C : String} {a : Addr} {argsL rest : List Value} {ps : List FieldType} {rt : Option FieldType} {sf' : List Addr} {Qc : Option Value → Heap → (Addr → Prop) → Prop} (hd : M.P[k]? = some (pc, .invokeinterface ix cnt, 5))
    (w1 : Wd G (.methodLink M.own ix xi)) (w2 : Wd G (.declares xi)) (w3 : Wd G (.interfaceMethod xi.cls xi.cls xi.name xi.desc)) (w4 : Wd G (.selects C xi y)) (w5 : Wd G (.instanceMethod y)) (w6 : Wd G (.publicMethod y)) (w7 : Wd G (.unhidden C xi.name xi.desc)) (w8 : Wd G (.castable C xi.cls)) (w9 : Wd G (.initialized y.cls)) (w10 : Wd G (.code y bytes maxL ret)) (hfa : ((Jvm.Cond.interfaceMethod xi.cls xi.cls xi.name xi.desc).onTables && (Jvm.Cond.interfaceMethod xi.cls xi.cls xi.name xi.desc).keepsFace) = true)
    (hy : xi.cls ≠ "java/lang/invoke/MethodHandle" ∧ xi.cls ≠ "java/lang/invoke/VarHandle") (pd : parseMethodDescriptor xi.desc = some ⟨ps, rt⟩) (E : Exa G.Z h a C)
    (Ct : Ctr G [] y bytes maxL ret rm (.ref a :: argsL).toArray h sf' Qc) (hst : st = argsL.reverse ++ .ref a :: rest) (hlen : argsL.length = ps.length) (hsz : Ls.size = M.maxL) (hsub : ∀ x ∈ sf', x ∈ sf) (hrm : rok M.R rest maxL rm cells slots = true)
    (g : ∀ (v : Option Value) (h' : Heap) (Sf : Addr → Prop), h.size ≤ h'.size → Qc v h' Sf → Go G B M Q h' sf (cells + rm.cells) (slots + rm.slots) (pc + 5) Ls (v.toList ++ rest)) : Go G B M Q h sf cells slots pc Ls st :=
  go_interfaceN K hd w1 w2 w3 w4 w5 w6 w7 w8 w9 w10 hfa hy pd E Ct hst hlen hsz hsub hrm fun v h' Sf z q => ⟨[], (fun _ u => nomatch u), g v h' Sf z q⟩
end More
theorem lt_len {i n : Nat} (hn : n < 2 ^ 31) (hi : i < 2 ^ 31) (q : i.toInt32 < n.toInt32) : i < n := by
  rcases Nat.lt_or_ge i n with u | u
  · exact u
  · exact absurd q (len_nlt hi u)
theorem lat_app {cs ds : List Int32} (p : Lat cs) (q : Lat ds) (hn : cs.length + ds.length ≤ 4000) : Lat (cs ++ ds) :=
  ⟨by rw [List.length_append]; exact hn, fun c hc => (List.mem_append.mp hc).elim (p.2 c) (q.2 c)⟩
theorem out_len (n k : Nat) : (n + (k + 1)).toInt32 = n.toInt32 + 1 + k.toInt32 := by
  rw [show n.toInt32 + 1 = (n + 1).toInt32 from add_len n 1, add_len]
  congr 1
  omega
theorem and3 (x : Int32) : x &&& 3 = 0 ∨ x &&& 3 = 1 ∨ x &&& 3 = 2 ∨ x &&& 3 = 3 := by
  have q := c_and x 3 (by decide)
  have h1 := rng32 (x &&& 3)
  have e3 : (3 : Int32).toInt = 3 := by decide
  rw [e3] at q
  have h2 : (x &&& 3).toInt = 0 ∨ (x &&& 3).toInt = 1 ∨ (x &&& 3).toInt = 2 ∨ (x &&& 3).toInt = 3 := by omega
  rcases h2 with u | u | u | u
  · exact Or.inl (Int32.toInt_inj.mp (u.trans (by decide)))
  · exact Or.inr (Or.inl (Int32.toInt_inj.mp (u.trans (by decide))))
  · exact Or.inr (Or.inr (Or.inl (Int32.toInt_inj.mp (u.trans (by decide)))))
  · exact Or.inr (Or.inr (Or.inr (Int32.toInt_inj.mp (u.trans (by decide)))))
end Jvm.OwnW
namespace Jvm.OwnW
open Sem ClassFile Op Lib Bundle Jvm.Stand Jvm.Free Jvm.LawKit Jvm.RoadKit
theorem len_small {s : State} {args : Array Value} {t : Term} {x : Addr} {cl : Cell} {v : Value} (ht : t.eval args s none [] s = some (.ref x)) (ha : s.arrayAt? x = some cl) (hl : (Term.length t).eval args s none [] s = some v) : cl.slots.size < 2 ^ 31 :=
  Decidable.byContradiction fun nq => by simp [Term.eval, ht, ha, nq] at hl
/-- a String that stands in the heap at the start, as a sheet's words say it -/
theorem str_start {G : Gb} {args : Array Value} {t : Term} {a : Addr} {cs : List Int32} (hf : Fit G.Z) (ev : t.eval args G.Z none [] G.Z = some (.ref a)) (hx : (Cond.exactly t "java/lang/String").value args G.Z none G.Z [] = some true)
    (hA : (Cond.arrayOf (.field t "java/lang/String" "value" "[B") .byte).value args G.Z none G.Z [] = some true) (hl : (Term.length (.field t "java/lang/String" "value" "[B")).eval args G.Z none [] G.Z = some (.int cs.length.toInt32))
    (hc : (Term.field t "java/lang/String" "coder" "B").eval args G.Z none [] G.Z = some (.int 0)) (hm : cs.length < 2 ^ 31)
    (he : ∀ (x : Addr) (cl : Cell), (Term.field t "java/lang/String" "value" "[B").eval args G.Z none [] G.Z = some (.ref x) → G.Z.heap[x]? = some cl → HasL cl 0 (by8 cs)) : Str G G.Z.heap a cs := by
  obtain ⟨x, ex⟩ := arr_v hA
  obtain ⟨cl, A⟩ := Arr.start ex hA
  have ha : G.Z.arrayAt? x = some cl := Arr.fin (Vm.Alike.refl _) A
  have q : cl.slots.size < 2 ^ 31 := Decidable.byContradiction fun nq => nq (len_small ex ha hl)
  have e : cl.slots.size.toInt32 = cs.length.toInt32 := by
    have u := (len_f ex ha q).symm.trans hl
    exact Value.int.inj (Option.some.inj u)
  refine ⟨x, cl.cls, Exa.start ev hx, Fld.start (by rw [← fld_at ev]; exact hc), Fld.start (by rw [← fld_at ev]; exact ex), Arv.start hf A q e (len_nn hm) (by rw [len_nat hm, by8_len]) (he x cl ex A.1)⟩
end Jvm.OwnW
namespace Jvm.OwnW
open Sem ClassFile Op Lib Bundle Jvm.Stand Jvm.Free Jvm.LawKit Jvm.RoadKit
theorem ushr1_nn (x : Int32) : 0 ≤ (XT.ushr x 1).toInt := by
  have q : (XT.ushr x 1).toInt = _ := c_iushr x 1 1 (by decide) (by decide)
  rw [q]
  exact Int.ediv_nonneg (Int.emod_nonneg _ (by decide)) (by decide)
theorem i32_eq {x : Int32} (k : Int32) (q : x.toInt = k.toInt) : x = k := Int32.toInt_inj.mp q
theorem rem4 (x : Int32) : XT.ushr x 1 % 4 = 0 ∨ XT.ushr x 1 % 4 = 1 ∨ XT.ushr x 1 % 4 = 2 ∨ XT.ushr x 1 % 4 = 3 := by
  have b := (c_irem (XT.ushr x 1) 4 4 (by decide)).1 (ushr1_nn x)
  rcases (by omega : (XT.ushr x 1).toInt % 4 = 0 ∨ (XT.ushr x 1).toInt % 4 = 1 ∨ (XT.ushr x 1).toInt % 4 = 2 ∨ (XT.ushr x 1).toInt % 4 = 3) with q | q | q | q
  · exact Or.inl (i32_eq 0 (b.trans q))
  · exact Or.inr (Or.inl (i32_eq 1 (b.trans q)))
  · exact Or.inr (Or.inr (Or.inl (i32_eq 2 (b.trans q))))
  · exact Or.inr (Or.inr (Or.inr (i32_eq 3 (b.trans q))))
theorem rem5 (x : Int32) : XT.ushr x 1 % 5 = 0 ∨ XT.ushr x 1 % 5 = 1 ∨ XT.ushr x 1 % 5 = 2 ∨ XT.ushr x 1 % 5 = 3 ∨ XT.ushr x 1 % 5 = 4 := by
  have b := (c_irem (XT.ushr x 1) 5 5 (by decide)).1 (ushr1_nn x)
  rcases (by omega : (XT.ushr x 1).toInt % 5 = 0 ∨ (XT.ushr x 1).toInt % 5 = 1 ∨ (XT.ushr x 1).toInt % 5 = 2 ∨ (XT.ushr x 1).toInt % 5 = 3 ∨ (XT.ushr x 1).toInt % 5 = 4) with q | q | q | q | q
  · exact Or.inl (i32_eq 0 (b.trans q))
  · exact Or.inr (Or.inl (i32_eq 1 (b.trans q)))
  · exact Or.inr (Or.inr (Or.inl (i32_eq 2 (b.trans q))))
  · exact Or.inr (Or.inr (Or.inr (Or.inl (i32_eq 3 (b.trans q)))))
  · exact Or.inr (Or.inr (Or.inr (Or.inr (i32_eq 4 (b.trans q)))))
end Jvm.OwnW
namespace Jvm.OwnW
open Sem ClassFile Op Lib Bundle Jvm.Stand Jvm.Free Jvm.LawKit Jvm.RoadKit
theorem url_len {us fs : List Int32} : (us ++ (35 : Int32) :: fs).length.toInt32 - fs.length.toInt32 - (1 : Int32) = us.length.toInt32 := by
  rw [sub_len (n := (us ++ (35 : Int32) :: fs).length) (k := fs.length) (by simp only [List.length_append, List.length_cons]; omega)]
  rw [show ((us ++ (35 : Int32) :: fs).length - fs.length).toInt32 - (1 : Int32) = ((us ++ (35 : Int32) :: fs).length - fs.length - 1).toInt32 from sub_len (k := 1) (by simp only [List.length_append, List.length_cons]; omega)]
  congr 1
  simp only [List.length_append, List.length_cons]
  omega
end Jvm.OwnW

namespace Jvm.Pilot.@@N@@
open Jvm Jvm.ClassFile Sem Op Lib Jvm.Free Jvm.Stand Jvm.LawKit Jvm.RoadKit Bundle Jvm.OwnW Jvm.Pilot.@@N@@.Jvm.D
abbrev els : List (String × Nat) := consts_1
theorem pd_0 : parseMethodDescriptor "([CI[BII)I" = some ⟨[(.array .char), .int, (.array .byte), .int, .int], (some .int)⟩ := by decide +kernel
theorem pd_1 : parseMethodDescriptor "([CII)[B" = some ⟨[(.array .char), .int, .int], (some (.array .byte))⟩ := by decide +kernel
theorem pd_2 : parseMethodDescriptor "([BI)B" = some ⟨[(.array .byte), .int], (some .byte)⟩ := by decide +kernel
theorem pd_3 : parseMethodDescriptor "([CIILjava/lang/Void;)V" = some ⟨[(.array .char), .int, .int, (.object "java/lang/Void")], none⟩ := by decide +kernel
theorem pd_4 : parseMethodDescriptor "([B[B)Z" = some ⟨[(.array .byte), (.array .byte)], (some .boolean)⟩ := by decide +kernel
theorem pd_5 : parseMethodDescriptor "()B" = some ⟨[], (some .byte)⟩ := by decide +kernel
theorem pd_6 : parseMethodDescriptor "(II)V" = some ⟨[.int, .int], none⟩ := by decide +kernel
theorem pd_7 : parseMethodDescriptor "(II)I" = some ⟨[.int, .int], (some .int)⟩ := by decide +kernel
theorem pd_8 : parseMethodDescriptor "([BII)[B" = some ⟨[(.array .byte), .int, .int], (some (.array .byte))⟩ := by decide +kernel
theorem pd_9 : parseMethodDescriptor "(IIILjava/util/function/BiFunction;)I" = some ⟨[.int, .int, .int, (.object "java/util/function/BiFunction")], (some .int)⟩ := by decide +kernel
theorem pd_10 : parseMethodDescriptor "([BB)V" = some ⟨[(.array .byte), .byte], none⟩ := by decide +kernel
theorem pd_11 : parseMethodDescriptor "()I" = some ⟨[], (some .int)⟩ := by decide +kernel
theorem pd_12 : parseMethodDescriptor "(III)V" = some ⟨[.int, .int, .int], none⟩ := by decide +kernel
theorem pd_13 : parseMethodDescriptor "()Z" = some ⟨[], (some .boolean)⟩ := by decide +kernel
theorem pd_14 : parseMethodDescriptor "([BII)Ljava/lang/String;" = some ⟨[(.array .byte), .int, .int], (some (.object "java/lang/String"))⟩ := by decide +kernel
theorem pd_15 : parseMethodDescriptor "([BI[BII)I" = some ⟨[(.array .byte), .int, (.array .byte), .int, .int], (some .int)⟩ := by decide +kernel
theorem pd_16 : parseMethodDescriptor "(Ljava/lang/String;I)Z" = some ⟨[(.object "java/lang/String"), .int], (some .boolean)⟩ := by decide +kernel
theorem pd_17 : parseMethodDescriptor "(Ljava/lang/String;)Z" = some ⟨[(.object "java/lang/String")], (some .boolean)⟩ := by decide +kernel
theorem pd_18 : parseMethodDescriptor "(II)Ljava/lang/String;" = some ⟨[.int, .int], (some (.object "java/lang/String"))⟩ := by decide +kernel
theorem pd_19 : parseMethodDescriptor "([C)V" = some ⟨[(.array .char)], none⟩ := by decide +kernel
theorem pd_20 : parseMethodDescriptor "(ICCCC)[C" = some ⟨[.int, .char, .char, .char, .char], (some (.array .char))⟩ := by decide +kernel
theorem pd_21 : parseMethodDescriptor "(Ljava/lang/String;)Ljava/lang/String;" = some ⟨[(.object "java/lang/String")], (some (.object "java/lang/String"))⟩ := by decide +kernel
theorem pd_22 : parseMethodDescriptor "(Ljava/lang/Object;)Z" = some ⟨[(.object "java/lang/Object")], (some .boolean)⟩ := by decide +kernel
theorem pn_0 : plainName "java/lang/StringUTF16" = true := by first | (simp [plainName, overriddenIn]; done) | decide +kernel
def P_cfal : List (Nat × Instr × Nat) := [(0, .iload_n 1, 1), (1, .aload_n 0, 1), (2, .arraylength, 1), (3, .isub, 1), (4, .bipush 31, 2), (6, .iushr, 1), (7, .i2b, 1), (8, .ireturn, 1)]
theorem L_cfal : ∀ q ∈ P_cfal, decode jdk_52_method_15_code q.1 = .ok q.2 := by decide +kernel
def M_cfal : Mt := (("java/lang/StringUTF16", "coderFromArrayLen", ({ frames := 0, cells := 0, slots := 0, locals := 0 } : Room)), P_cfal, 2, (some .byte))
set_option maxRecDepth 65536 in
set_option maxHeartbeats 4000000 in
theorem c_cfal {G : Gb} (H : Gl tables_1 els G) {h : Heap} {t : Addr} {kb : ClassId} {n : Int32} {vs : List Value} {dv : Value} (A : Arv G.Z h t kb .byte n vs dv) :
    Ctr G [] (⟨"java/lang/StringUTF16", "coderFromArrayLen", "([BI)B"⟩ : MethodName) jdk_52_method_15_code 2 (some .byte) ({ frames := 0, cells := 0, slots := 0, locals := 0 } : Room) #[.ref t, .int n] h [] (fun v h' Sf => v = some (.int 0) ∧ h = h') := by
  refine ctr_of M_cfal rfl rfl (plainFor_of_name pn_0) L_cfal H.el (Ls := #[.val (.ref t), .val (.int n)]) (fun m => by first | rfl | (simp [entryFrame, mkF, argsToLocals, Value.category]; done)) ?_
  intro B K hE
  refine go_run K 0 2 (pc' := 2) (st' := [(.ref t), (.int n)]) rfl ?_
  refine go_arraylength K (k := 2) rfl A ?_
  refine go_run K 3 4 (pc' := 8) (st' := [(.int ((XT.ushr (n - n) (31 : Int32))).toInt8.toInt32)]) rfl ?_
  rw [show ((XT.ushr (n - n) (31 : Int32))).toInt8.toInt32 = (0 : Int32) from by rw [Int32.sub_self]; decide]
  refine go_ireturn K (k := 7) rfl rfl (by decide) rfl rfl rfl ?_
  intro Sf hSf
  exact ⟨rfl, rfl⟩
def P_cmp5 : List (Nat × Instr × Nat) := [(0, .iconst 0, 1), (1, .istore 5, 2), (3, .iload 5, 2), (5, .iload 4, 2), (7, .if_icmp .ge 37, 3), (10, .aload_n 0, 1), (11, .iload_n 1, 1), (12, .caload, 1), (13, .istore 6, 2), (15, .iload 6, 2), (17, .sipush 255, 3), (20, .if_icmp .le 6, 3), (23, .iload 5, 2), (25, .ireturn, 1), (26, .aload_n 2, 1), (27, .iload_n 3, 1), (28, .iload 6, 2), (30, .i2b, 1), (31, .bastore, 1), (32, .iinc 1 1, 3), (35, .iinc 3 1, 3), (38, .iinc 5 1, 3), (41, .goto (-38), 3), (44, .iload 4, 2), (46, .ireturn, 1)]
theorem L_cmp5 : ∀ q ∈ P_cmp5, decode jdk_52_method_21_code q.1 = .ok q.2 := by decide +kernel
def M_cmp5 : Mt := (("java/lang/StringUTF16", "compress", ({ frames := 0, cells := 0, slots := 0, locals := 0 } : Room)), P_cmp5, 7, (some .int))
set_option maxRecDepth 65536 in
set_option maxHeartbeats 4000000 in
theorem c_cmp5 {G : Gb} (H : Gl tables_1 els G) {h : Heap} {ca da : Addr} {kc kd : ClassId} {cs : List Int32} (hl : Lat cs) (Ac : Arv G.Z h ca kc .char cs.length.toInt32 (cs.map Value.int) (.int 0)) (Ad : Arv G.Z h da kd .byte cs.length.toInt32 (List.replicate cs.length (.int 0)) (.int 0)) (hd : G.Z.heap.size ≤ da) :
    Ctr G [] (⟨"java/lang/StringUTF16", "compress", "([CI[BII)I"⟩ : MethodName) jdk_52_method_21_code 7 (some .int) ({ frames := 0, cells := 0, slots := 0, locals := 0 } : Room) #[.ref ca, .int 0, .ref da, .int 0, .int cs.length.toInt32] h [da] (fun v h' Sf => v = some (.int cs.length.toInt32) ∧ Keep h h' [da] ∧ Arv G.Z h' da kd .byte cs.length.toInt32 (by8 cs) (.int 0)) := by
  refine ctr_of M_cmp5 rfl rfl (plainFor_of_name pn_0) L_cmp5 H.el (Ls := #[.val (.ref ca), .val (.int (0 : Int32)), .val (.ref da), .val (.int (0 : Int32)), .val (.int cs.length.toInt32), .unset, .unset]) (fun m => by first | rfl | (simp [entryFrame, mkF, argsToLocals, Value.category]; done)) ?_
  intro B K hE
  have hlt := lat_lt hl
  refine go_run K 0 2 (pc' := 3) (Ls' := #[.val (.ref ca), .val (.int (0 : Int32)), .val (.ref da), .val (.int (0 : Int32)), .val (.int cs.length.toInt32), .val (.int (0 : Int32)), .unset]) (st' := []) rfl ?_
  have loop : ∀ (k i : Nat) (h1 : Heap) (o : Slot), i + k = cs.length → Keep h h1 [da] → Arv G.Z h1 ca kc .char cs.length.toInt32 (cs.map Value.int) (.int 0) → Arv G.Z h1 da kd .byte cs.length.toInt32 (by8 (cs.take i) ++ List.replicate k (.int 0)) (.int 0) → (o = .unset ∨ ∃ w, o = .val (.int w)) →
      Go G B M_cmp5 (fun v h' Sf => v = some (.int cs.length.toInt32) ∧ Keep h h' [da] ∧ Arv G.Z h' da kd .byte cs.length.toInt32 (by8 cs) (.int 0)) h1 [da] 0 0 3 #[.val (.ref ca), .val (.int i.toInt32), .val (.ref da), .val (.int i.toInt32), .val (.int cs.length.toInt32), .val (.int i.toInt32), o] [] := by
    intro k; induction k with
    | zero =>
      intro i h1 o hi hK Ac Ad ho
      refine go_run K 2 2 (pc' := 7) (st' := [(.int cs.length.toInt32), (.int i.toInt32)]) rfl ?_
      refine go_icmpge K (k := 4) rfl (pc' := 44) (by decide) (fun _ => ?_) (fun q => absurd q (len_nlt (by omega) (by omega)))
      refine go_run K 23 1 (pc' := 46) (st' := [(.int cs.length.toInt32)]) rfl ?_
      refine go_ireturn K (k := 24) rfl rfl (by decide) rfl rfl rfl ?_
      intro Sf hSf
      refine ⟨rfl, hK, ?_⟩
      rw [List.replicate_zero, List.append_nil, List.take_of_length_le (by omega)] at Ad
      exact Ad
    | succ k ih =>
      intro i h1 o hi hK Ac Ad ho
      have hin : i < cs.length := by omega
      have hc := hl.2 _ (List.getElem_mem hin)
      refine go_run K 2 2 (pc' := 7) (st' := [(.int cs.length.toInt32), (.int i.toInt32)]) rfl ?_
      refine go_icmpge K (k := 4) rfl (pc' := 44) (by decide) (fun q => absurd (len_lt hlt hin) q) (fun _ => ?_)
      refine go_run K 5 2 (pc' := 12) (st' := [(.int i.toInt32), (.ref ca)]) rfl ?_
      refine go_caload K (k := 7) rfl Ac ⟨len_nn (by omega), len_lt hlt hin⟩ (v := .int cs[i]) (by rw [len_nat (by omega)]; exact get_map hin) ?_
      obtain rfl | ⟨w0, rfl⟩ := ho
      all_goals
        refine go_run K 8 3 (pc' := 20) (Ls' := #[.val (.ref ca), .val (.int i.toInt32), .val (.ref da), .val (.int i.toInt32), .val (.int cs.length.toInt32), .val (.int i.toInt32), .val (.int cs[i])]) (st' := [(.int (255 : Int32)), (.int cs[i])]) rfl ?_
        refine go_icmple K (k := 11) rfl (pc' := 26) (by decide) (fun _ => ?_) (fun q => absurd q hc.2)
        refine go_run K 14 4 (pc' := 31) (st' := [(.int (cs[i]).toInt8.toInt32), (.int i.toInt32), (.ref da)]) rfl ?_
        refine go_bastore K (k := 18) rfl Ad (i := i) ⟨len_nn (by omega), len_lt hlt hin⟩ (len_nat (by omega)) (by rw [List.length_append, by8_len, List.length_take, List.length_replicate]; omega) hd (List.mem_cons_self ..) ?_
        intro h1 W2 A3
        refine go_run K 19 4 (pc' := 3) (Ls' := #[.val (.ref ca), .val (.int (i.toInt32 + Int32.ofInt 1)), .val (.ref da), .val (.int (i.toInt32 + Int32.ofInt 1)), .val (.int cs.length.toInt32), .val (.int (i.toInt32 + Int32.ofInt 1)), .val (.int cs[i])]) (st' := []) rfl ?_
        rw [len_succ i]
        refine ih (i + 1) h1 _ (by omega) (hK.wr W2 (Or.inl (List.mem_cons_self ..))) (Ac.other W2 (Arv.ty_ne Ac Ad (by decide))) ?_ (Or.inr ⟨_, rfl⟩)
        rw [set_by8 hin] at A3
        exact A3
  exact loop cs.length 0 h .unset (by omega) (Keep.refl _ _) Ac Ad (Or.inl rfl)
def P_cmp3 : List (Nat × Instr × Nat) := [(0, .iload_n 2, 1), (1, .newarray .byte, 2), (3, .astore_n 3, 1), (4, .aload_n 0, 1), (5, .iload_n 1, 1), (6, .aload_n 3, 1), (7, .iconst 0, 1), (8, .iload_n 2, 1), (9, .invokestatic 115, 3), (12, .istore 4, 2), (14, .iload 4, 2), (16, .iload_n 2, 1), (17, .if_icmp .eq 40, 3), (20, .aload_n 0, 1), (21, .iload_n 1, 1), (22, .iload_n 2, 1), (23, .invokestatic 119, 3), (26, .astore 5, 2), (28, .aload 5, 2), (30, .iload 4, 2), (32, .invokestatic 71, 3), (35, .sipush 255, 3), (38, .if_icmp .gt 16, 3), (41, .aload 5, 2), (43, .iconst 0, 1), (44, .aload_n 3, 1), (45, .iconst 0, 1), (46, .iload_n 2, 1), (47, .invokestatic 123, 3), (50, .iload_n 2, 1), (51, .if_icmp .eq 6, 3), (54, .aload 5, 2), (56, .areturn, 1), (57, .aload_n 3, 1), (58, .areturn, 1)]
theorem L_cmp3 : ∀ q ∈ P_cmp3, decode jdk_52_method_16_code q.1 = .ok q.2 := by decide +kernel
def M_cmp3 : Mt := (("java/lang/StringUTF16", "compress", ({ frames := 1, cells := 1, slots := 5, locals := 18 } : Room)), P_cmp3, 6, (some (.array .byte)))
set_option maxRecDepth 65536 in
set_option maxHeartbeats 4000000 in
theorem c_cmp3 {G : Gb} (H : Gl tables_1 els G) {h : Heap} {ca : Addr} {kc : ClassId} {cs : List Int32} (hl : Lat cs) (hcap : cs.length ≤ 5) (Ac : Arv G.Z h ca kc .char cs.length.toInt32 (cs.map Value.int) (.int 0)) :
    Ctr G [] (⟨"java/lang/StringUTF16", "compress", "([CII)[B"⟩ : MethodName) jdk_52_method_16_code 6 (some (.array .byte)) ({ frames := 1, cells := 1, slots := 5, locals := 18 } : Room) #[.ref ca, .int 0, .int cs.length.toInt32] h [] (fun v h' Sf => ∃ (t : Addr) (kb : ClassId), v = some (.ref t) ∧ Ext h h' ∧ Arv G.Z h' t kb .byte cs.length.toInt32 (by8 cs) (.int 0) ∧ G.Z.heap.size ≤ t) := by
  refine ctr_of M_cmp3 rfl rfl (plainFor_of_name pn_0) L_cmp3 H.el (Ls := #[.val (.ref ca), .val (.int (0 : Int32)), .val (.int cs.length.toInt32), .unset, .unset, .unset]) (fun m => by first | rfl | (simp [entryFrame, mkF, argsToLocals, Value.category]; done)) ?_
  intro B K hE
  have hlt := lat_lt hl
  refine go_run K 0 1 (pc' := 1) (st' := [(.int cs.length.toInt32)]) rfl ?_
  refine go_newarray K (k := 1) rfl (H.w 19 rfl) (len_nn hlt) (cap := 5) (by rw [len_nat hlt]; exact hcap) rfl rfl rfl ?_
  intro h2 a1 k3 e4 g5 E6 A7
  have A7' : Arv G.Z h2 a1 k3 .byte cs.length.toInt32 (List.replicate cs.length (.int 0)) (.int 0) := Arv.pad A7 (pad_rep [] _ _)
  refine go_run K 2 6 (pc' := 9) (Ls' := #[.val (.ref ca), .val (.int (0 : Int32)), .val (.int cs.length.toInt32), .val (.ref a1), .unset, .unset]) (st' := [(.int cs.length.toInt32), (.int (0 : Int32)), (.ref a1), (.int (0 : Int32)), (.ref ca)]) rfl ?_
  have c8 := (Ac.ext E6)
  refine go_static K (k := 8) rfl (H.w 66 rfl) (H.w 67 rfl) (H.w 64 rfl) (H.w 68 rfl) (by decide) pd_0 (c_cmp5 (cs := cs) H hl c8 A7' g5) (argsL := [(.ref ca), (.int (0 : Int32)), (.ref a1), (.int (0 : Int32)), (.int cs.length.toInt32)]) (rest := []) rfl rfl rfl (subS (List.mem_cons_self ..) sub0) rfl ?_
  rintro _ h9 _ - ⟨rfl, K10, A11⟩
  show Go G B M_cmp3 _ h9 (a1 :: []) 1 5 12 #[.val (.ref ca), .val (.int (0 : Int32)), .val (.int cs.length.toInt32), .val (.ref a1), .unset, .unset] [(.int cs.length.toInt32)]
  refine go_run K 9 3 (pc' := 17) (Ls' := #[.val (.ref ca), .val (.int (0 : Int32)), .val (.int cs.length.toInt32), .val (.ref a1), .val (.int cs.length.toInt32), .unset]) (st' := [(.int cs.length.toInt32), (.int cs.length.toInt32)]) rfl ?_
  refine go_icmpeq K (k := 12) rfl (pc' := 57) (by decide) (fun _ => ?_) (fun q => absurd rfl q)
  refine go_run K 33 1 (pc' := 58) (st' := [(.ref a1)]) rfl ?_
  have X12 : Ext h h9 := (Ext.keepN E6 K10 (allS (Nat.le_trans (Nat.le_refl _) (Nat.le_of_eq e4.symm)) all0))
  refine go_areturn K (k := 34) rfl rfl rfl rfl rfl rfl rfl ?_
  intro Sf hSf
  exact ⟨_, _, rfl, X12, A11, g5⟩
theorem pn_1 : plainName "java/lang/String" = true := by first | (simp [plainName, overriddenIn]; done) | decide +kernel
def P_si4 : List (Nat × Instr × Nat) := [(0, .aload_n 0, 1), (1, .invokespecial 1, 3), (4, .iload_n 3, 1), (5, .ifCond .ne 22, 3), (8, .aload_n 0, 1), (9, .ldc 7, 2), (11, .getfield 9, 3), (14, .putfield 9, 3), (17, .aload_n 0, 1), (18, .ldc 7, 2), (20, .getfield 15, 3), (23, .putfield 15, 3), (26, .return_, 1), (27, .getstatic 38, 3), (30, .ifCond .eq 28, 3), (33, .aload_n 1, 1), (34, .iload_n 2, 1), (35, .iload_n 3, 1), (36, .invokestatic 177, 3), (39, .astore 5, 2), (41, .aload_n 0, 1), (42, .aload 5, 2), (44, .iload_n 3, 1), (45, .invokestatic 47, 3), (48, .putfield 15, 3), (51, .aload_n 0, 1), (52, .aload 5, 2), (54, .putfield 9, 3), (57, .return_, 1), (58, .aload_n 0, 1), (59, .iconst 1, 1), (60, .putfield 15, 3), (63, .aload_n 0, 1), (64, .aload_n 1, 1), (65, .iload_n 2, 1), (66, .iload_n 3, 1), (67, .invokestatic 180, 3), (70, .putfield 9, 3), (73, .return_, 1)]
theorem L_si4 : ∀ q ∈ P_si4, decode jdk_42_method_149_code q.1 = .ok q.2 := by decide +kernel
def M_si4 : Mt := (("java/lang/String", "<init>", ({ frames := 2, cells := 4, slots := 8, locals := 35 } : Room)), P_si4, 6, none)
set_option maxRecDepth 65536 in
set_option maxHeartbeats 4000000 in
theorem c_si4 {G : Gb} (H : Gl tables_1 els G) {h : Heap} {a ca : Addr} {kc : ClassId} {cs : List Int32} (hl : Lat cs) (hcap : cs.length ≤ 5) (E0 : Exa G.Z h a "java/lang/String") (V0 : Fld G.Z h a "java/lang/String" "value" "[B" .null) (C0 : Fld G.Z h a "java/lang/String" "coder" "B" (.int 0)) (g0 : G.Z.heap.size ≤ a) (Ac : Arv G.Z h ca kc .char cs.length.toInt32 (cs.map Value.int) (.int 0)) :
    Ctr G [] (⟨"java/lang/String", "<init>", "([CIILjava/lang/Void;)V"⟩ : MethodName) jdk_42_method_149_code 6 none ({ frames := 2, cells := 4, slots := 8, locals := 35 } : Room) #[.ref a, .ref ca, .int 0, .int cs.length.toInt32, .null] h [a] (fun v h' Sf => v = none ∧ Keep h h' [a] ∧ Str G h' a cs) := by
  refine ctr_of M_si4 rfl rfl (plainFor_of_name pn_1) L_si4 H.el (Ls := #[.val (.ref a), .val (.ref ca), .val (.int (0 : Int32)), .val (.int cs.length.toInt32), .val .null, .unset]) (fun m => by first | rfl | (simp [entryFrame, mkF, argsToLocals, Value.category]; done)) ?_
  intro B K hE
  have hlt := lat_lt hl
  obtain ⟨cz, hcs, hcz⟩ := H.cs
  refine go_run K 0 1 (pc' := 1) (st' := [(.ref a)]) rfl ?_
  refine go_init0 K (k := 1) rfl (H.w 15 rfl) (H.w 16 rfl) (H.w 17 rfl) rfl rfl rfl ?_
  refine go_run K 2 1 (pc' := 5) (st' := [(.int cs.length.toInt32)]) rfl ?_
  refine go_ifne K (k := 3) rfl (pc' := 27) (by decide) (fun hne1 => ?_) (fun hz2 => ?_)
  · refine go_getstatic K (k := 13) rfl (host := "") (Or.inl (H.w 51 rfl)) Via.refl hcs ?_
    refine go_ifeq K (k := 14) rfl (pc' := 58) (by decide) (fun q => absurd q hcz) (fun _ => ?_)
    refine go_run K 15 3 (pc' := 36) (st' := [(.int cs.length.toInt32), (.int (0 : Int32)), (.ref ca)]) rfl ?_
    refine go_static K (k := 18) rfl (H.w 62 rfl) (H.w 63 rfl) (H.w 64 rfl) (H.w 65 rfl) (by decide) pd_1 (c_cmp3 (cs := cs) H hl hcap Ac) (argsL := [(.ref ca), (.int (0 : Int32)), (.int cs.length.toInt32)]) (rest := []) rfl rfl rfl sub0 rfl ?_
    rintro _ h28 _ - ⟨t29, k30, rfl, E31, A32, g33⟩
    show Go G B M_si4 _ h28 (a :: []) 1 5 39 #[.val (.ref a), .val (.ref ca), .val (.int (0 : Int32)), .val (.int cs.length.toInt32), .val .null, .unset] [(.ref t29)]
    refine go_run K 19 4 (pc' := 45) (Ls' := #[.val (.ref a), .val (.ref ca), .val (.int (0 : Int32)), .val (.int cs.length.toInt32), .val .null, .val (.ref t29)]) (st' := [(.int cs.length.toInt32), (.ref t29), (.ref a)]) rfl ?_
    refine go_static K (k := 23) rfl (H.w 69 rfl) (H.w 70 rfl) (H.w 64 rfl) (H.w 71 rfl) (by decide) pd_2 (c_cfal H A32) (argsL := [(.ref t29), (.int cs.length.toInt32)]) (rest := [(.ref a)]) rfl rfl rfl sub0 rfl ?_
    rintro _ _ _ - ⟨rfl, rfl⟩
    show Go G B M_si4 _ h28 (a :: []) 1 5 48 #[.val (.ref a), .val (.ref ca), .val (.int (0 : Int32)), .val (.int cs.length.toInt32), .val .null, .val (.ref t29)] [(.int (0 : Int32)), (.ref a)]
    have c34 := (C0.ext E31)
    have c35 := (E0.ext E31)
    refine go_putfield K (k := 24) rfl (host := "") (Or.inl (H.w 25 rfl)) Via.refl c34 c35 (Or.inr ⟨(H.w 21 rfl), rfl, rfl⟩) (H.w 1 rfl) (ty := .byte) (by decide) rfl rfl g0 (Or.inl (List.mem_cons_self ..)) ?_
    intro h36 W37
    have c38 := (V0.ext E31)
    have F39 : Exa G.Z h36 a "java/lang/String" := Exa.wr W37 c35
    have F40 : Fld G.Z h36 a "java/lang/String" "value" "[B" .null := Fld.other W37 c38 (Or.inr (slot_ne (Or.inr (H.w 20 rfl)) (Or.inr (H.w 21 rfl)) (by decide) (t := (.array .byte)) (t' := .byte) (by decide) (by decide)))
    have F41 : Fld G.Z h36 a "java/lang/String" "coder" "B" (.int (0 : Int32)) := Fld.same W37 c34
    refine go_run K 25 2 (pc' := 54) (st' := [(.ref t29), (.ref a)]) rfl ?_
    refine go_putfield K (k := 27) rfl (host := "") (Or.inl (H.w 24 rfl)) Via.refl F40 F39 (Or.inr ⟨(H.w 20 rfl), rfl, rfl⟩) (H.w 1 rfl) (ty := (.array .byte)) (by decide) rfl rfl g0 (Or.inl (List.mem_cons_self ..)) ?_
    intro h42 W43
    have F44 : Exa G.Z h42 a "java/lang/String" := Exa.wr W43 F39
    have F45 : Fld G.Z h42 a "java/lang/String" "value" "[B" (.ref t29) := Fld.same W43 F40
    have F46 : Fld G.Z h42 a "java/lang/String" "coder" "B" (.int (0 : Int32)) := Fld.other W43 F41 (Or.inr (slot_ne (Or.inr (H.w 21 rfl)) (Or.inr (H.w 20 rfl)) (by decide) (t := .byte) (t' := (.array .byte)) (by decide) (by decide)))
    have c47 := (Arv.other (Arv.other A32 W37 (Exa.neArv c35 A32 (H.w 1 rfl)).symm) W43 (Exa.neArv F39 (Arv.other A32 W37 (Exa.neArv c35 A32 (H.w 1 rfl)).symm) (H.w 1 rfl)).symm)
    refine go_return K (k := 28) rfl rfl rfl rfl ?_
    intro Sf hSf
    exact ⟨rfl, ((((Keep.refl _ [a]).ext E31).wr W37 (Or.inl (List.mem_cons_self ..))).wr W43 (Or.inl (List.mem_cons_self ..))), _, _, F44, F46, F45, c47⟩
  · have hnil : cs = [] := List.eq_nil_of_length_eq_zero (len_zero hlt hz2)
    refine go_run K 4 1 (pc' := 9) (st' := [(.ref a)]) rfl ?_
    refine go_ldcT K (k := 5) rfl (H.w 18 rfl) H.ws (H.mem (by decide)) (cs := []) (by decide) (by decide) (n := 0) rfl rfl rfl rfl ?_
    intro h4 a3 E5 S6
    obtain ⟨t1, k1, e1, e2, e3, e4⟩ := S6
    refine go_getfield K (k := 6) rfl (host := "") (Or.inl (H.w 24 rfl)) Via.refl e3 ?_
    have c7 := (V0.ext E5)
    have c8 := (E0.ext E5)
    refine go_putfield K (k := 7) rfl (host := "") (Or.inl (H.w 24 rfl)) Via.refl c7 c8 (Or.inr ⟨(H.w 20 rfl), rfl, rfl⟩) (H.w 1 rfl) (ty := (.array .byte)) (by decide) rfl rfl g0 (Or.inl (List.mem_cons_self ..)) ?_
    intro h9 W10
    have c11 := (C0.ext E5)
    have F12 : Exa G.Z h9 a "java/lang/String" := Exa.wr W10 c8
    have F13 : Fld G.Z h9 a "java/lang/String" "value" "[B" (.ref t1) := Fld.same W10 c7
    have F14 : Fld G.Z h9 a "java/lang/String" "coder" "B" (.int (0 : Int32)) := Fld.other W10 c11 (Or.inr (slot_ne (Or.inr (H.w 21 rfl)) (Or.inr (H.w 20 rfl)) (by decide) (t := .byte) (t' := (.array .byte)) (by decide) (by decide)))
    refine go_run K 8 1 (pc' := 18) (st' := [(.ref a)]) rfl ?_
    refine go_ldcT K (k := 9) rfl (H.w 18 rfl) H.ws (H.mem (by decide)) (cs := []) (by decide) (by decide) (n := 0) rfl rfl rfl rfl ?_
    intro h16 a15 E17 S18
    obtain ⟨t2, k2, f1, f2, f3, f4⟩ := S18
    refine go_getfield K (k := 10) rfl (host := "") (Or.inl (H.w 25 rfl)) Via.refl f2 ?_
    have c19 := (F14.ext E17)
    have c20 := (F12.ext E17)
    refine go_putfield K (k := 11) rfl (host := "") (Or.inl (H.w 25 rfl)) Via.refl c19 c20 (Or.inr ⟨(H.w 21 rfl), rfl, rfl⟩) (H.w 1 rfl) (ty := .byte) (by decide) rfl rfl g0 (Or.inl (List.mem_cons_self ..)) ?_
    intro h21 W22
    have c23 := (F13.ext E17)
    have F24 : Exa G.Z h21 a "java/lang/String" := Exa.wr W22 c20
    have F25 : Fld G.Z h21 a "java/lang/String" "value" "[B" (.ref t1) := Fld.other W22 c23 (Or.inr (slot_ne (Or.inr (H.w 20 rfl)) (Or.inr (H.w 21 rfl)) (by decide) (t := (.array .byte)) (t' := .byte) (by decide) (by decide)))
    have F26 : Fld G.Z h21 a "java/lang/String" "coder" "B" (.int (0 : Int32)) := Fld.same W22 c19
    have c27 := (Arv.other ((Arv.other e4 W10 (Exa.neArv c8 e4 (H.w 1 rfl)).symm).ext E17) W22 (Exa.neArv c20 ((Arv.other e4 W10 (Exa.neArv c8 e4 (H.w 1 rfl)).symm).ext E17) (H.w 1 rfl)).symm)
    refine go_return K (k := 12) rfl rfl rfl rfl ?_
    intro Sf hSf
    exact ⟨rfl, (((((Keep.refl _ [a]).ext E5).wr W10 (Or.inl (List.mem_cons_self ..))).ext E17).wr W22 (Or.inl (List.mem_cons_self ..))), _, _, F24, F26, F25, (by rw [hnil]; exact c27)⟩
def P_si : List (Nat × Instr × Nat) := [(0, .aload_n 0, 1), (1, .aload_n 1, 1), (2, .iconst 0, 1), (3, .aload_n 1, 1), (4, .arraylength, 1), (5, .aconst_null, 1), (6, .invokespecial 27, 3), (9, .return_, 1)]
theorem L_si : ∀ q ∈ P_si, decode jdk_42_method_3_code q.1 = .ok q.2 := by decide +kernel
def M_si : Mt := (("java/lang/String", "<init>", ({ frames := 3, cells := 4, slots := 8, locals := 52 } : Room)), P_si, 2, none)
set_option maxRecDepth 65536 in
set_option maxHeartbeats 4000000 in
theorem c_si {G : Gb} (H : Gl tables_1 els G) {h : Heap} {a ca : Addr} {kc : ClassId} {cs : List Int32} (hl : Lat cs) (hcap : cs.length ≤ 5) (E0 : Exa G.Z h a "java/lang/String") (V0 : Fld G.Z h a "java/lang/String" "value" "[B" .null) (C0 : Fld G.Z h a "java/lang/String" "coder" "B" (.int 0)) (g0 : G.Z.heap.size ≤ a) (Ac : Arv G.Z h ca kc .char cs.length.toInt32 (cs.map Value.int) (.int 0)) :
    Ctr G [] (⟨"java/lang/String", "<init>", "([C)V"⟩ : MethodName) jdk_42_method_3_code 2 none ({ frames := 3, cells := 4, slots := 8, locals := 52 } : Room) #[.ref a, .ref ca] h [a] (fun v h' Sf => v = none ∧ Keep h h' [a] ∧ Str G h' a cs) := by
  refine ctr_of M_si rfl rfl (plainFor_of_name pn_1) L_si H.el (Ls := #[.val (.ref a), .val (.ref ca)]) (fun m => by first | rfl | (simp [entryFrame, mkF, argsToLocals, Value.category]; done)) ?_
  intro B K hE
  refine go_run K 0 4 (pc' := 4) (st' := [(.ref ca), (.int (0 : Int32)), (.ref ca), (.ref a)]) rfl ?_
  refine go_arraylength K (k := 4) rfl Ac ?_
  refine go_run K 5 1 (pc' := 6) (st' := [.null, (.int cs.length.toInt32), (.int (0 : Int32)), (.ref ca), (.ref a)]) rfl ?_
  refine go_special K (k := 6) rfl rfl (H.w 11 rfl) (H.w 12 rfl) (H.w 2 rfl) (H.w 14 rfl) (by decide) pd_3 (c_si4 (cs := cs) H hl hcap E0 V0 C0 g0 Ac) (argsL := [(.ref ca), (.int (0 : Int32)), (.int cs.length.toInt32), .null]) (rest := []) rfl rfl rfl (subS (List.mem_cons_self ..) sub0) rfl ?_
  rintro _ h1 _ - ⟨rfl, K2, S3⟩
  show Go G B M_si _ h1 (a :: []) 4 8 9 #[.val (.ref a), .val (.ref ca)] []
  refine go_return K (k := 7) rfl rfl rfl rfl ?_
  intro Sf hSf
  exact ⟨rfl, ((Keep.refl _ [a]).trans K2 (allS (Or.inl (List.mem_cons_self ..)) all0)), S3⟩
def P_sib : List (Nat × Instr × Nat) := [(0, .aload_n 0, 1), (1, .invokespecial 1, 3), (4, .aload_n 0, 1), (5, .aload_n 1, 1), (6, .putfield 9, 3), (9, .aload_n 0, 1), (10, .iload_n 2, 1), (11, .putfield 15, 3), (14, .return_, 1)]
theorem L_sib : ∀ q ∈ P_sib, decode jdk_42_method_151_code q.1 = .ok q.2 := by decide +kernel
def M_sib : Mt := (("java/lang/String", "<init>", ({ frames := 1, cells := 0, slots := 0, locals := 12 } : Room)), P_sib, 3, none)
set_option maxRecDepth 65536 in
set_option maxHeartbeats 4000000 in
theorem c_sib {G : Gb} (H : Gl tables_1 els G) {h : Heap} {a t : Addr} (E0 : Exa G.Z h a "java/lang/String") (V0 : Fld G.Z h a "java/lang/String" "value" "[B" .null) (C0 : Fld G.Z h a "java/lang/String" "coder" "B" (.int 0)) (g0 : G.Z.heap.size ≤ a) :
    Ctr G [] (⟨"java/lang/String", "<init>", "([BB)V"⟩ : MethodName) jdk_42_method_151_code 3 none ({ frames := 1, cells := 0, slots := 0, locals := 12 } : Room) #[.ref a, .ref t, .int 0] h [a] (fun v h' Sf => v = none ∧ Keep h h' [a] ∧ Exa G.Z h' a "java/lang/String" ∧ Fld G.Z h' a "java/lang/String" "coder" "B" (.int 0) ∧ Fld G.Z h' a "java/lang/String" "value" "[B" (.ref t)) := by
  refine ctr_of M_sib rfl rfl (plainFor_of_name pn_1) L_sib H.el (Ls := #[.val (.ref a), .val (.ref t), .val (.int (0 : Int32))]) (fun m => by first | rfl | (simp [entryFrame, mkF, argsToLocals, Value.category]; done)) ?_
  intro B K hE
  refine go_run K 0 1 (pc' := 1) (st' := [(.ref a)]) rfl ?_
  refine go_init0 K (k := 1) rfl (H.w 15 rfl) (H.w 16 rfl) (H.w 17 rfl) rfl rfl rfl ?_
  refine go_run K 2 2 (pc' := 6) (st' := [(.ref t), (.ref a)]) rfl ?_
  refine go_putfield K (k := 4) rfl (host := "") (Or.inl (H.w 24 rfl)) Via.refl V0 E0 (Or.inr ⟨(H.w 20 rfl), rfl, rfl⟩) (H.w 1 rfl) (ty := (.array .byte)) (by decide) rfl rfl g0 (Or.inl (List.mem_cons_self ..)) ?_
  intro h1 W2
  have F3 : Exa G.Z h1 a "java/lang/String" := Exa.wr W2 E0
  have F4 : Fld G.Z h1 a "java/lang/String" "value" "[B" (.ref t) := Fld.same W2 V0
  have F5 : Fld G.Z h1 a "java/lang/String" "coder" "B" (.int (0 : Int32)) := Fld.other W2 C0 (Or.inr (slot_ne (Or.inr (H.w 21 rfl)) (Or.inr (H.w 20 rfl)) (by decide) (t := .byte) (t' := (.array .byte)) (by decide) (by decide)))
  refine go_run K 5 2 (pc' := 11) (st' := [(.int (0 : Int32)), (.ref a)]) rfl ?_
  refine go_putfield K (k := 7) rfl (host := "") (Or.inl (H.w 25 rfl)) Via.refl F5 F3 (Or.inr ⟨(H.w 21 rfl), rfl, rfl⟩) (H.w 1 rfl) (ty := .byte) (by decide) rfl rfl g0 (Or.inl (List.mem_cons_self ..)) ?_
  intro h6 W7
  have F8 : Exa G.Z h6 a "java/lang/String" := Exa.wr W7 F3
  have F9 : Fld G.Z h6 a "java/lang/String" "value" "[B" (.ref t) := Fld.other W7 F4 (Or.inr (slot_ne (Or.inr (H.w 20 rfl)) (Or.inr (H.w 21 rfl)) (by decide) (t := (.array .byte)) (t' := .byte) (by decide) (by decide)))
  have F10 : Fld G.Z h6 a "java/lang/String" "coder" "B" (.int (0 : Int32)) := Fld.same W7 F5
  refine go_return K (k := 8) rfl rfl rfl rfl ?_
  intro Sf hSf
  exact ⟨rfl, (((Keep.refl _ [a]).wr W2 (Or.inl (List.mem_cons_self ..))).wr W7 (Or.inl (List.mem_cons_self ..))), F8, F10, F9⟩
theorem pn_2 : plainName "java/lang/StringLatin1" = true := by first | (simp [plainName, overriddenIn]; done) | decide +kernel
def P_leq : List (Nat × Instr × Nat) := [(0, .aload_n 0, 1), (1, .arraylength, 1), (2, .aload_n 1, 1), (3, .arraylength, 1), (4, .if_icmp .ne 30, 3), (7, .iconst 0, 1), (8, .istore_n 2, 1), (9, .iload_n 2, 1), (10, .aload_n 0, 1), (11, .arraylength, 1), (12, .if_icmp .ge 20, 3), (15, .aload_n 0, 1), (16, .iload_n 2, 1), (17, .baload, 1), (18, .aload_n 1, 1), (19, .iload_n 2, 1), (20, .baload, 1), (21, .if_icmp .eq 5, 3), (24, .iconst 0, 1), (25, .ireturn, 1), (26, .iinc 2 1, 3), (29, .goto (-20), 3), (32, .iconst 1, 1), (33, .ireturn, 1), (34, .iconst 0, 1), (35, .ireturn, 1)]
theorem L_leq : ∀ q ∈ P_leq, decode jdk_43_method_13_code q.1 = .ok q.2 := by decide +kernel
def M_leq : Mt := (("java/lang/StringLatin1", "equals", ({ frames := 0, cells := 0, slots := 0, locals := 0 } : Room)), P_leq, 3, (some .boolean))
set_option maxRecDepth 65536 in
set_option maxHeartbeats 4000000 in
theorem c_leq {G : Gb} (H : Gl tables_1 els G) {h : Heap} {t u : Addr} {kt ku : ClassId} {cs ds : List Int32} (l1 : Lat cs) (l2 : Lat ds) (A1 : Arv G.Z h t kt .byte cs.length.toInt32 (by8 cs) (.int 0)) (A2 : Arv G.Z h u ku .byte ds.length.toInt32 (by8 ds) (.int 0)) :
    Ctr G [] (⟨"java/lang/StringLatin1", "equals", "([B[B)Z"⟩ : MethodName) jdk_43_method_13_code 3 (some .boolean) ({ frames := 0, cells := 0, slots := 0, locals := 0 } : Room) #[.ref t, .ref u] h [] (fun v h' Sf => ∃ r : Int32, v = some (.int r) ∧ h = h' ∧ ((r = 1 ∧ cs = ds) ∨ (r = 0 ∧ ¬ cs = ds))) := by
  refine ctr_of M_leq rfl rfl (plainFor_of_name pn_2) L_leq H.el (Ls := #[.val (.ref t), .val (.ref u), .unset]) (fun m => by first | rfl | (simp [entryFrame, mkF, argsToLocals, Value.category]; done)) ?_
  intro B K hE
  have hl1 := lat_lt l1
  have hl2 := lat_lt l2
  refine go_run K 0 1 (pc' := 1) (st' := [(.ref t)]) rfl ?_
  refine go_arraylength K (k := 1) rfl A1 ?_
  refine go_run K 2 1 (pc' := 3) (st' := [(.ref u), (.int cs.length.toInt32)]) rfl ?_
  refine go_arraylength K (k := 3) rfl A2 ?_
  refine go_icmpne K (k := 4) rfl (pc' := 34) (by decide) (fun q1 => ?_) (fun q2 => ?_)
  · refine go_run K 24 1 (pc' := 35) (st' := [(.int (0 : Int32))]) rfl ?_
    refine go_ireturn K (k := 25) rfl rfl (by decide) rfl rfl rfl ?_
    intro Sf hSf
    exact ⟨0, rfl, rfl, Or.inr ⟨rfl, fun e => q1 (by rw [e])⟩⟩
  · have hlen : cs.length = ds.length := len_inj hl1 hl2 q2
    refine go_run K 5 2 (pc' := 9) (Ls' := #[.val (.ref t), .val (.ref u), .val (.int (0 : Int32))]) (st' := []) rfl ?_
    have loop : ∀ (k i : Nat), i + k = cs.length → cs.take i = ds.take i → Go G B M_leq (fun v h' Sf => ∃ r : Int32, v = some (.int r) ∧ h = h' ∧ ((r = 1 ∧ cs = ds) ∨ (r = 0 ∧ ¬ cs = ds))) h [] 0 0 9 #[.val (.ref t), .val (.ref u), .val (.int i.toInt32)] [] := by
      intro k; induction k with
      | zero =>
        intro i hi ht
        refine go_run K 7 2 (pc' := 11) (st' := [(.ref t), (.int i.toInt32)]) rfl ?_
        refine go_arraylength K (k := 9) rfl A1 ?_
        refine go_icmpge K (k := 10) rfl (pc' := 32) (by decide) (fun _ => ?_) (fun q => absurd q (len_nlt (by omega) (by omega)))
        refine go_run K 22 1 (pc' := 33) (st' := [(.int (1 : Int32))]) rfl ?_
        refine go_ireturn K (k := 23) rfl rfl (by decide) rfl rfl rfl ?_
        intro Sf hSf
        refine ⟨1, rfl, rfl, Or.inl ⟨rfl, ?_⟩⟩
        rw [List.take_of_length_le (by omega), List.take_of_length_le (by omega)] at ht
        exact ht
      | succ k ih =>
        intro i hi ht
        have p1 : i < cs.length := by omega
        have p2 : i < ds.length := by omega
        refine go_run K 7 2 (pc' := 11) (st' := [(.ref t), (.int i.toInt32)]) rfl ?_
        refine go_arraylength K (k := 9) rfl A1 ?_
        refine go_icmpge K (k := 10) rfl (pc' := 32) (by decide) (fun q => absurd (len_lt hl1 p1) q) (fun _ => ?_)
        refine go_run K 11 2 (pc' := 17) (st' := [(.int i.toInt32), (.ref t)]) rfl ?_
        refine go_baload K (k := 13) rfl A1 ⟨len_nn (by omega), len_lt hl1 p1⟩ (v := .int cs[i].toInt8.toInt32) (by rw [len_nat (by omega)]; exact get_by8 p1) ?_
        refine go_run K 14 2 (pc' := 20) (st' := [(.int i.toInt32), (.ref u), (.int cs[i].toInt8.toInt32)]) rfl ?_
        refine go_baload K (k := 16) rfl A2 ⟨len_nn (by omega), len_lt hl2 p2⟩ (v := .int ds[i].toInt8.toInt32) (by rw [len_nat (by omega)]; exact get_by8 p2) ?_
        refine go_icmpeq K (k := 17) rfl (pc' := 26) (by decide) (fun q3 => ?_) (fun q4 => ?_)
        · refine go_run K 20 2 (pc' := 9) (Ls' := #[.val (.ref t), .val (.ref u), .val (.int (i.toInt32 + Int32.ofInt 1))]) (st' := []) rfl ?_
          rw [len_succ i]
          refine ih (i + 1) (by omega) ?_
          rw [List.take_succ_eq_append_getElem p1, List.take_succ_eq_append_getElem p2, ht, i8_inj (l1.2 _ (List.getElem_mem p1)) (l2.2 _ (List.getElem_mem p2)) q3]
        · refine go_run K 18 1 (pc' := 25) (st' := [(.int (0 : Int32))]) rfl ?_
          refine go_ireturn K (k := 19) rfl rfl (by decide) rfl rfl rfl ?_
          intro Sf hSf
          refine ⟨0, rfl, rfl, Or.inr ⟨rfl, fun e => q4 ?_⟩⟩
          subst e; rfl
    exact loop cs.length 0 (by omega) rfl
def P_seq : List (Nat × Instr × Nat) := [(0, .aload_n 0, 1), (1, .aload_n 1, 1), (2, .if_acmp .ne 5, 3), (5, .iconst 1, 1), (6, .ireturn, 1), (7, .aload_n 1, 1), (8, .instanceof 10, 3), (11, .ifCond .eq 43, 3), (14, .aload_n 1, 1), (15, .checkcast 10, 3), (18, .astore_n 2, 1), (19, .getstatic 38, 3), (22, .ifCond .eq 14, 3), (25, .aload_n 0, 1), (26, .getfield 15, 3), (29, .aload_n 2, 1), (30, .getfield 15, 3), (33, .if_icmp .ne 21, 3), (36, .aload_n 0, 1), (37, .getfield 9, 3), (40, .aload_n 2, 1), (41, .getfield 9, 3), (44, .invokestatic 541, 3), (47, .ifCond .eq 7, 3), (50, .iconst 1, 1), (51, .goto 4, 3), (54, .iconst 0, 1), (55, .ireturn, 1)]
theorem L_seq : ∀ q ∈ P_seq, decode jdk_42_method_66_code q.1 = .ok q.2 := by decide +kernel
def M_seq : Mt := (("java/lang/String", "equals", ({ frames := 1, cells := 0, slots := 0, locals := 14 } : Room)), P_seq, 3, (some .boolean))
set_option maxRecDepth 65536 in
set_option maxHeartbeats 4000000 in
theorem c_seq {G : Gb} (H : Gl tables_1 els G) {h : Heap} {a b : Addr} {cs ds : List Int32} (l1 : Lat cs) (l2 : Lat ds) (S1 : Str G h a cs) (S2 : Str G h b ds) :
    Ctr G [] (⟨"java/lang/String", "equals", "(Ljava/lang/Object;)Z"⟩ : MethodName) jdk_42_method_66_code 3 (some .boolean) ({ frames := 1, cells := 0, slots := 0, locals := 14 } : Room) #[.ref a, .ref b] h [] (fun v h' Sf => ∃ r : Int32, v = some (.int r) ∧ h = h' ∧ ((r = 1 ∧ cs = ds) ∨ (r = 0 ∧ ¬ cs = ds))) := by
  refine ctr_of M_seq rfl rfl (plainFor_of_name pn_1) L_seq H.el (Ls := #[.val (.ref a), .val (.ref b), .unset]) (fun m => by first | rfl | (simp [entryFrame, mkF, argsToLocals, Value.category]; done)) ?_
  intro B K hE
  obtain ⟨cz, hcs, hcz⟩ := H.cs
  obtain ⟨t1, k2, e3, e4, e5, e6⟩ := id S1
  obtain ⟨t7, k8, e9, e10, e11, e12⟩ := id S2
  refine go_run K 0 2 (pc' := 2) (st' := [(.ref b), (.ref a)]) rfl ?_
  by_cases hab : a = b
  · refine go_acmp K (k := 2) rfl rfl rfl (same := true) (by rw [hab]; exact decide_eq_true rfl) (pc' := 5) (by decide) rfl ?_
    refine go_run K 3 1 (pc' := 6) (st' := [(.int (1 : Int32))]) rfl ?_
    refine go_ireturn K (k := 4) rfl rfl (by decide) rfl rfl rfl ?_
    intro Sf hSf
    exact ⟨1, rfl, rfl, Or.inl ⟨rfl, Str.inj l1 l2 S1 (hab ▸ S2)⟩⟩
  · refine go_acmp K (k := 2) rfl rfl rfl (same := false) (decide_eq_false fun e => hab (Value.ref.inj e)) (pc' := 7) (by decide) rfl ?_
    refine go_run K 5 1 (pc' := 8) (st' := [(.ref b)]) rfl ?_
    refine go_instY K (k := 6) rfl (H.w 57 rfl) (Ins.self e9) ?_
    refine go_ifeq K (k := 7) rfl (pc' := 54) (by decide) (fun q => absurd q (by decide)) (fun _ => ?_)
    refine go_run K 8 1 (pc' := 15) (st' := [(.ref b)]) rfl ?_
    refine go_cast K (k := 9) rfl (H.w 57 rfl) (Ins.self e9) ?_
    refine go_run K 10 1 (pc' := 19) (Ls' := #[.val (.ref a), .val (.ref b), .val (.ref b)]) (st' := []) rfl ?_
    refine go_getstatic K (k := 11) rfl (host := "") (Or.inl (H.w 51 rfl)) Via.refl hcs ?_
    refine go_ifeq K (k := 12) rfl (pc' := 36) (by decide) (fun q => absurd q hcz) (fun _ => ?_)
    refine go_run K 13 1 (pc' := 26) (st' := [(.ref a)]) rfl ?_
    refine go_getfield K (k := 14) rfl (host := "") (Or.inl (H.w 25 rfl)) Via.refl e4 ?_
    refine go_run K 15 1 (pc' := 30) (st' := [(.ref b), (.int (0 : Int32))]) rfl ?_
    refine go_getfield K (k := 16) rfl (host := "") (Or.inl (H.w 25 rfl)) Via.refl e10 ?_
    refine go_icmpne K (k := 17) rfl (pc' := 54) (by decide) (fun q => absurd rfl q) (fun _ => ?_)
    refine go_run K 18 1 (pc' := 37) (st' := [(.ref a)]) rfl ?_
    refine go_getfield K (k := 19) rfl (host := "") (Or.inl (H.w 24 rfl)) Via.refl e5 ?_
    refine go_run K 20 1 (pc' := 41) (st' := [(.ref b), (.ref t1)]) rfl ?_
    refine go_getfield K (k := 21) rfl (host := "") (Or.inl (H.w 24 rfl)) Via.refl e11 ?_
    refine go_static K (k := 22) rfl (H.w 58 rfl) (H.w 59 rfl) (H.w 60 rfl) (H.w 61 rfl) (by decide) pd_4 (c_leq H l1 l2 e6 e12) (argsL := [(.ref t1), (.ref t7)]) (rest := []) rfl rfl rfl sub0 rfl ?_
    rintro _ _ _ - ⟨r13, rfl, rfl, q14⟩
    show Go G B M_seq _ h [] 0 0 47 #[.val (.ref a), .val (.ref b), .val (.ref b)] [(.int r13)]
    refine go_ifeq K (k := 23) rfl (pc' := 54) (by decide) (fun q15 => ?_) (fun q16 => ?_)
    · refine go_run K 26 1 (pc' := 55) (st' := [(.int (0 : Int32))]) rfl ?_
      refine go_ireturn K (k := 27) rfl rfl (by decide) rfl rfl rfl ?_
      intro Sf hSf
      refine ⟨0, rfl, rfl, Or.inr ⟨rfl, ?_⟩⟩
      rcases q14 with ⟨u1, -⟩ | ⟨-, u2⟩
      · rw [u1] at q15; exact absurd q15 (by decide)
      · exact u2
    · refine go_run K 24 2 (pc' := 55) (st' := [(.int (1 : Int32))]) rfl ?_
      refine go_ireturn K (k := 27) rfl rfl (by decide) rfl rfl rfl ?_
      intro Sf hSf
      refine ⟨1, rfl, rfl, Or.inl ⟨rfl, ?_⟩⟩
      rcases q14 with ⟨-, u2⟩ | ⟨u1, -⟩
      · exact u2
      · exact absurd u1 q16
def P_cod : List (Nat × Instr × Nat) := [(0, .getstatic 38, 3), (3, .ifCond .eq 10, 3), (6, .aload_n 0, 1), (7, .getfield 15, 3), (10, .goto 4, 3), (13, .iconst 1, 1), (14, .ireturn, 1)]
theorem L_cod : ∀ q ∈ P_cod, decode jdk_42_method_152_code q.1 = .ok q.2 := by decide +kernel
def M_cod : Mt := (("java/lang/String", "coder", ({ frames := 0, cells := 0, slots := 0, locals := 0 } : Room)), P_cod, 1, (some .byte))
set_option maxRecDepth 65536 in
set_option maxHeartbeats 4000000 in
theorem c_cod {G : Gb} (H : Gl tables_1 els G) {h : Heap} {a : Addr} {cs : List Int32} (S1 : Str G h a cs) :
    Ctr G [] (⟨"java/lang/String", "coder", "()B"⟩ : MethodName) jdk_42_method_152_code 1 (some .byte) ({ frames := 0, cells := 0, slots := 0, locals := 0 } : Room) #[.ref a] h [] (fun v h' Sf => v = some (.int 0) ∧ h = h') := by
  refine ctr_of M_cod rfl rfl (plainFor_of_name pn_1) L_cod H.el (Ls := #[.val (.ref a)]) (fun m => by first | rfl | (simp [entryFrame, mkF, argsToLocals, Value.category]; done)) ?_
  intro B K hE
  obtain ⟨cz, hcs, hcz⟩ := H.cs
  obtain ⟨t1, k2, e3, e4, e5, e6⟩ := id S1
  refine go_getstatic K (k := 0) rfl (host := "") (Or.inl (H.w 51 rfl)) Via.refl hcs ?_
  refine go_ifeq K (k := 1) rfl (pc' := 13) (by decide) (fun q => absurd q hcz) (fun _ => ?_)
  refine go_run K 2 1 (pc' := 7) (st' := [(.ref a)]) rfl ?_
  refine go_getfield K (k := 3) rfl (host := "") (Or.inl (H.w 25 rfl)) Via.refl e4 ?_
  refine go_run K 4 1 (pc' := 14) (st' := [(.int (0 : Int32))]) rfl ?_
  refine go_ireturn K (k := 6) rfl rfl (by decide) rfl rfl rfl ?_
  intro Sf hSf
  exact ⟨rfl, rfl⟩
def P_len : List (Nat × Instr × Nat) := [(0, .aload_n 0, 1), (1, .getfield 9, 3), (4, .arraylength, 1), (5, .aload_n 0, 1), (6, .invokevirtual 335, 3), (9, .ishr, 1), (10, .ireturn, 1)]
theorem L_len : ∀ q ∈ P_len, decode jdk_42_method_54_code q.1 = .ok q.2 := by decide +kernel
def M_len : Mt := (("java/lang/String", "length", ({ frames := 1, cells := 0, slots := 0, locals := 13 } : Room)), P_len, 1, (some .int))
set_option maxRecDepth 65536 in
set_option maxHeartbeats 4000000 in
theorem c_len {G : Gb} (H : Gl tables_1 els G) {h : Heap} {a : Addr} {cs : List Int32} (S1 : Str G h a cs) :
    Ctr G [] (⟨"java/lang/String", "length", "()I"⟩ : MethodName) jdk_42_method_54_code 1 (some .int) ({ frames := 1, cells := 0, slots := 0, locals := 13 } : Room) #[.ref a] h [] (fun v h' Sf => v = some (.int cs.length.toInt32) ∧ h = h') := by
  refine ctr_of M_len rfl rfl (plainFor_of_name pn_1) L_len H.el (Ls := #[.val (.ref a)]) (fun m => by first | rfl | (simp [entryFrame, mkF, argsToLocals, Value.category]; done)) ?_
  intro B K hE
  obtain ⟨t1, k2, e3, e4, e5, e6⟩ := id S1
  refine go_run K 0 1 (pc' := 1) (st' := [(.ref a)]) rfl ?_
  refine go_getfield K (k := 1) rfl (host := "") (Or.inl (H.w 24 rfl)) Via.refl e5 ?_
  refine go_arraylength K (k := 2) rfl e6 ?_
  refine go_run K 3 1 (pc' := 6) (st' := [(.ref a), (.int cs.length.toInt32)]) rfl ?_
  refine go_virt0 K (k := 4) rfl (H.w 46 rfl) (H.w 49 rfl) (H.w 48 rfl) (H.w 2 rfl) (H.w 50 rfl) (by decide) pd_5 S1.exa (c_cod H S1) (argsL := []) (rest := [(.int cs.length.toInt32)]) rfl rfl rfl sub0 rfl ?_
  rintro _ _ _ - ⟨rfl, rfl⟩
  show Go G B M_len _ h [] 0 0 9 #[.val (.ref a)] [(.int (0 : Int32)), (.int cs.length.toInt32)]
  refine go_run K 5 1 (pc' := 10) (st' := [(.int (cs.length.toInt32 >>> ((0 : Int32) &&& 31)))]) rfl ?_
  rw [shr0]
  refine go_ireturn K (k := 6) rfl rfl (by decide) rfl rfl rfl ?_
  intro Sf hSf
  exact ⟨rfl, rfl⟩
def P_isl : List (Nat × Instr × Nat) := [(0, .getstatic 38, 3), (3, .ifCond .eq 14, 3), (6, .aload_n 0, 1), (7, .getfield 15, 3), (10, .ifCond .ne 7, 3), (13, .iconst 1, 1), (14, .goto 4, 3), (17, .iconst 0, 1), (18, .ireturn, 1)]
theorem L_isl : ∀ q ∈ P_isl, decode jdk_42_method_154_code q.1 = .ok q.2 := by decide +kernel
def M_isl : Mt := (("java/lang/String", "isLatin1", ({ frames := 0, cells := 0, slots := 0, locals := 0 } : Room)), P_isl, 1, (some .boolean))
set_option maxRecDepth 65536 in
set_option maxHeartbeats 4000000 in
theorem c_isl {G : Gb} (H : Gl tables_1 els G) {h : Heap} {a : Addr} {cs : List Int32} (S1 : Str G h a cs) :
    Ctr G [] (⟨"java/lang/String", "isLatin1", "()Z"⟩ : MethodName) jdk_42_method_154_code 1 (some .boolean) ({ frames := 0, cells := 0, slots := 0, locals := 0 } : Room) #[.ref a] h [] (fun v h' Sf => v = some (.int 1) ∧ h = h') := by
  refine ctr_of M_isl rfl rfl (plainFor_of_name pn_1) L_isl H.el (Ls := #[.val (.ref a)]) (fun m => by first | rfl | (simp [entryFrame, mkF, argsToLocals, Value.category]; done)) ?_
  intro B K hE
  obtain ⟨cz, hcs, hcz⟩ := H.cs
  obtain ⟨t1, k2, e3, e4, e5, e6⟩ := id S1
  refine go_getstatic K (k := 0) rfl (host := "") (Or.inl (H.w 51 rfl)) Via.refl hcs ?_
  refine go_ifeq K (k := 1) rfl (pc' := 17) (by decide) (fun q => absurd q hcz) (fun _ => ?_)
  refine go_run K 2 1 (pc' := 7) (st' := [(.ref a)]) rfl ?_
  refine go_getfield K (k := 3) rfl (host := "") (Or.inl (H.w 25 rfl)) Via.refl e4 ?_
  refine go_ifne K (k := 4) rfl (pc' := 17) (by decide) (fun q => absurd rfl q) (fun _ => ?_)
  refine go_run K 5 2 (pc' := 18) (st' := [(.int (1 : Int32))]) rfl ?_
  refine go_ireturn K (k := 8) rfl rfl (by decide) rfl rfl rfl ?_
  intro Sf hSf
  exact ⟨rfl, rfl⟩
theorem pf_3 : plainFor (⟨"java/lang/Math", "min", "(II)I"⟩ : MethodName) = true := by decide +kernel
def P_min : List (Nat × Instr × Nat) := [(0, .iload_n 0, 1), (1, .iload_n 1, 1), (2, .if_icmp .gt 7, 3), (5, .iload_n 0, 1), (6, .goto 4, 3), (9, .iload_n 1, 1), (10, .ireturn, 1)]
theorem L_min : ∀ q ∈ P_min, decode jdk_29_method_69_code q.1 = .ok q.2 := by decide +kernel
def M_min : Mt := (("java/lang/Math", "min", ({ frames := 0, cells := 0, slots := 0, locals := 0 } : Room)), P_min, 2, (some .int))
set_option maxRecDepth 65536 in
set_option maxHeartbeats 4000000 in
theorem c_min {G : Gb} (H : Gl tables_1 els G) {h : Heap} {x y : Int32} :
    Ctr G [] (⟨"java/lang/Math", "min", "(II)I"⟩ : MethodName) jdk_29_method_69_code 2 (some .int) ({ frames := 0, cells := 0, slots := 0, locals := 0 } : Room) #[.int x, .int y] h [] (fun v h' Sf => ∃ r : Int32, v = some (.int r) ∧ h = h' ∧ ((r = x ∧ ¬ y < x) ∨ (r = y ∧ y < x))) := by
  refine ctr_of M_min rfl rfl pf_3 L_min H.el (Ls := #[.val (.int x), .val (.int y)]) (fun m => by first | rfl | (simp [entryFrame, mkF, argsToLocals, Value.category]; done)) ?_
  intro B K hE
  refine go_run K 0 2 (pc' := 2) (st' := [(.int y), (.int x)]) rfl ?_
  refine go_icmpgt K (k := 2) rfl (pc' := 9) (by decide) (fun q1 => ?_) (fun q2 => ?_)
  · refine go_run K 5 1 (pc' := 10) (st' := [(.int y)]) rfl ?_
    refine go_ireturn K (k := 6) rfl rfl (by decide) rfl rfl rfl ?_
    intro Sf hSf
    exact ⟨y, rfl, rfl, Or.inr ⟨rfl, q1⟩⟩
  · refine go_run K 3 2 (pc' := 10) (st' := [(.int x)]) rfl ?_
    refine go_ireturn K (k := 6) rfl rfl (by decide) rfl rfl rfl ?_
    intro Sf hSf
    exact ⟨x, rfl, rfl, Or.inl ⟨rfl, q2⟩⟩
theorem pn_4 : plainName "java/util/Arrays" = true := by first | (simp [plainName, overriddenIn]; done) | decide +kernel
def P_ckl : List (Nat × Instr × Nat) := [(0, .iload_n 1, 1), (1, .iload_n 0, 1), (2, .if_icmp .ge 35, 3), (5, .new 43, 3), (8, .dup, 1), (9, .new 45, 3), (12, .dup, 1), (13, .invokespecial 47, 3), (16, .iload_n 0, 1), (17, .invokevirtual 54, 3), (20, .ldc_w 337, 3), (23, .invokevirtual 50, 3), (26, .iload_n 1, 1), (27, .invokevirtual 54, 3), (30, .invokevirtual 61, 3), (33, .invokespecial 65, 3), (36, .athrow, 1), (37, .return_, 1)]
theorem L_ckl : ∀ q ∈ P_ckl, decode jdk_65_method_131_code q.1 = .ok q.2 := by decide +kernel
def M_ckl : Mt := (("java/util/Arrays", "checkLength", ({ frames := 0, cells := 0, slots := 0, locals := 0 } : Room)), P_ckl, 2, none)
set_option maxRecDepth 65536 in
set_option maxHeartbeats 4000000 in
theorem c_ckl {G : Gb} (H : Gl tables_1 els G) {h : Heap} {x y : Int32} (hle : ¬ y < x) :
    Ctr G [] (⟨"java/util/Arrays", "checkLength", "(II)V"⟩ : MethodName) jdk_65_method_131_code 2 none ({ frames := 0, cells := 0, slots := 0, locals := 0 } : Room) #[.int x, .int y] h [] (fun v h' Sf => v = none ∧ h = h') := by
  refine ctr_of M_ckl rfl rfl (plainFor_of_name pn_4) L_ckl H.el (Ls := #[.val (.int x), .val (.int y)]) (fun m => by first | rfl | (simp [entryFrame, mkF, argsToLocals, Value.category]; done)) ?_
  intro B K hE
  refine go_run K 0 2 (pc' := 2) (st' := [(.int x), (.int y)]) rfl ?_
  refine go_icmpge K (k := 2) rfl (pc' := 37) (by decide) (fun _ => ?_) (fun q => absurd q hle)
  refine go_return K (k := 17) rfl rfl rfl rfl ?_
  intro Sf hSf
  exact ⟨rfl, rfl⟩
def P_crb : List (Nat × Instr × Nat) := [(0, .iload_n 1, 1), (1, .iload_n 2, 1), (2, .invokestatic 343, 3), (5, .iload_n 2, 1), (6, .iload_n 1, 1), (7, .isub, 1), (8, .istore_n 3, 1), (9, .iload_n 3, 1), (10, .newarray .byte, 2), (12, .astore 4, 2), (14, .aload_n 0, 1), (15, .iload_n 1, 1), (16, .aload 4, 2), (18, .iconst 0, 1), (19, .aload_n 0, 1), (20, .arraylength, 1), (21, .iload_n 1, 1), (22, .isub, 1), (23, .iload_n 3, 1), (24, .invokestatic 304, 3), (27, .invokestatic 150, 3), (30, .aload 4, 2), (32, .areturn, 1)]
theorem L_crb : ∀ q ∈ P_crb, decode jdk_65_method_133_code q.1 = .ok q.2 := by decide +kernel
def M_crb : Mt := (("java/util/Arrays", "copyOfRangeByte", ({ frames := 1, cells := 1, slots := 5, locals := 18 } : Room)), P_crb, 5, (some (.array .byte)))
set_option maxRecDepth 65536 in
set_option maxHeartbeats 4000000 in
theorem c_crb {G : Gb} (H : Gl tables_1 els G) {h : Heap} {t : Addr} {kt : ClassId} {m i j : Nat} {vs : List Value} (hij : i ≤ j) (hjm : j ≤ m) (hm : m < 2 ^ 31) (hv : vs.length = m) (hcap : j - i ≤ 5) (A1 : Arv G.Z h t kt .byte m.toInt32 vs (.int 0)) :
    Ctr G [] (⟨"java/util/Arrays", "copyOfRangeByte", "([BII)[B"⟩ : MethodName) jdk_65_method_133_code 5 (some (.array .byte)) ({ frames := 1, cells := 1, slots := 5, locals := 18 } : Room) #[.ref t, .int i.toInt32, .int j.toInt32] h [] (fun v h' Sf => ∃ (u : Addr) (ku : ClassId), v = some (.ref u) ∧ Ext h h' ∧ Arv G.Z h' u ku .byte (j - i).toInt32 ((vs.drop i).take (j - i)) (.int 0) ∧ G.Z.heap.size ≤ u ∧ h.size ≤ u ∧ Sf u) := by
  refine ctr_of M_crb rfl rfl (plainFor_of_name pn_4) L_crb H.el (Ls := #[.val (.ref t), .val (.int i.toInt32), .val (.int j.toInt32), .unset, .unset]) (fun m => by first | rfl | (simp [entryFrame, mkF, argsToLocals, Value.category]; done)) ?_
  intro B K hE
  refine go_run K 0 2 (pc' := 2) (st' := [(.int j.toInt32), (.int i.toInt32)]) rfl ?_
  refine go_static K (k := 2) rfl (H.w 106 rfl) (H.w 107 rfl) (H.w 101 rfl) (H.w 108 rfl) (by decide) pd_6 (c_ckl (x := i.toInt32) (y := j.toInt32) H (len_nlt (by omega) hij)) (argsL := [(.int i.toInt32), (.int j.toInt32)]) (rest := []) rfl rfl rfl sub0 rfl ?_
  rintro _ _ _ - ⟨rfl, rfl⟩
  show Go G B M_crb _ h [] 0 0 5 #[.val (.ref t), .val (.int i.toInt32), .val (.int j.toInt32), .unset, .unset] []
  refine go_run K 3 5 (pc' := 10) (Ls' := #[.val (.ref t), .val (.int i.toInt32), .val (.int j.toInt32), .val (.int (j.toInt32 - i.toInt32)), .unset]) (st' := [(.int (j.toInt32 - i.toInt32))]) rfl ?_
  rw [sub_len hij]
  refine go_newarray K (k := 8) rfl (H.w 19 rfl) (len_nn (by omega)) (cap := 5) (by rw [len_nat (by omega)]; exact hcap) rfl rfl rfl ?_
  intro h2 a1 k3 e4 g5 E6 A7
  have A7' : Arv G.Z h2 a1 k3 .byte (j - i).toInt32 (List.replicate (j - i) (.int 0)) (.int 0) := Arv.pad A7 (pad_rep [] _ _)
  refine go_run K 9 6 (pc' := 20) (Ls' := #[.val (.ref t), .val (.int i.toInt32), .val (.int j.toInt32), .val (.int (j - i).toInt32), .val (.ref a1)]) (st' := [(.ref t), (.int (0 : Int32)), (.ref a1), (.int i.toInt32), (.ref t)]) rfl ?_
  have c8 := (A1.ext E6)
  refine go_arraylength K (k := 15) rfl c8 ?_
  refine go_run K 16 3 (pc' := 24) (st' := [(.int (j - i).toInt32), (.int (m.toInt32 - i.toInt32)), (.int (0 : Int32)), (.ref a1), (.int i.toInt32), (.ref t)]) rfl ?_
  rw [sub_len (show i ≤ m by omega)]
  refine go_static K (k := 19) rfl (H.w 109 rfl) (H.w 110 rfl) (H.w 111 rfl) (H.w 112 rfl) (by decide) pd_7 (c_min (x := (m - i).toInt32) (y := (j - i).toInt32) H) (argsL := [(.int (m - i).toInt32), (.int (j - i).toInt32)]) (rest := [(.int (0 : Int32)), (.ref a1), (.int i.toInt32), (.ref t)]) rfl rfl rfl sub0 rfl ?_
  rintro _ _ _ - ⟨r9, rfl, rfl, q10⟩
  show Go G B M_crb _ h2 (a1 :: []) 1 5 27 #[.val (.ref t), .val (.int i.toInt32), .val (.int j.toInt32), .val (.int (j - i).toInt32), .val (.ref a1)] [(.int r9), (.int (0 : Int32)), (.ref a1), (.int i.toInt32), (.ref t)]
  have hr : r9 = (j - i).toInt32 := by
    rcases q10 with ⟨u1, u2⟩ | ⟨u1, -⟩
    · rw [u1]; exact len_ge (by omega) (by omega) (by omega) u2
    · exact u1
  rw [hr]
  refine go_arraycopy K (k := 20) rfl (H.w 113 rfl) (H.w 116 rfl) (H.w 114 rfl) (H.w 115 rfl) c8 A7' rfl (len_nn (by omega)) (by decide) (len_nn (by omega)) (by rw [len_nat (by omega), len_nat (by omega), len_nat (by omega)]; omega) (by rw [len_nat (by omega)]; exact Nat.le_of_eq (Nat.zero_add _)) (us := ((vs.drop i).take (j - i))) (by rw [len_nat (by omega), len_nat (by omega)]; exact (map_range (by omega)).symm) (by rw [len_nat (by omega), List.length_replicate]; exact Nat.le_of_eq (Nat.zero_add _)) g5 (Or.inl (List.mem_cons_self ..)) rfl rfl rfl ?_
  intro h11 K12 A13
  refine go_run K 21 1 (pc' := 32) (st' := [(.ref a1)]) rfl ?_
  have X14 : Ext h h11 := (Ext.keepN E6 K12 (allS (Nat.le_trans (Nat.le_refl _) (Nat.le_of_eq e4.symm)) all0))
  refine go_areturn K (k := 22) rfl rfl rfl rfl rfl rfl rfl ?_
  intro Sf hSf
  refine ⟨a1, k3, rfl, X14, ?_, g5, Nat.le_of_eq e4.symm, hSf _ (List.mem_cons_self ..)⟩
  have u := A13
  rw [show (0 : Int32).toNatClampNeg = 0 from rfl, len_nat (by omega), List.take_zero, List.nil_append, Nat.zero_add, show List.drop (j - i) (List.replicate (j - i) (Value.int 0)) = [] from List.drop_of_length_le (by rw [List.length_replicate]; exact Nat.le_refl _), List.append_nil] at u
  exact u
def P_cor : List (Nat × Instr × Nat) := [(0, .iload_n 1, 1), (1, .ifCond .ne 9, 3), (4, .iload_n 2, 1), (5, .aload_n 0, 1), (6, .arraylength, 1), (7, .if_icmp .eq 10, 3), (10, .aload_n 0, 1), (11, .iload_n 1, 1), (12, .iload_n 2, 1), (13, .invokestatic 339, 3), (16, .areturn, 1), (17, .aload_n 0, 1), (18, .invokevirtual 310, 3), (21, .checkcast 311, 3), (24, .areturn, 1)]
theorem L_cor : ∀ q ∈ P_cor, decode jdk_65_method_132_code q.1 = .ok q.2 := by decide +kernel
def M_cor : Mt := (("java/util/Arrays", "copyOfRange", ({ frames := 2, cells := 1, slots := 5, locals := 34 } : Room)), P_cor, 3, (some (.array .byte)))
set_option maxRecDepth 65536 in
set_option maxHeartbeats 4000000 in
theorem c_cor {G : Gb} (H : Gl tables_1 els G) {h : Heap} {t : Addr} {kt : ClassId} {m i j : Nat} {vs : List Value} (hne : ¬ (i = 0 ∧ j = m)) (hij : i ≤ j) (hjm : j ≤ m) (hm : m < 2 ^ 31) (hv : vs.length = m) (hcap : j - i ≤ 5) (A1 : Arv G.Z h t kt .byte m.toInt32 vs (.int 0)) :
    Ctr G [] (⟨"java/util/Arrays", "copyOfRange", "([BII)[B"⟩ : MethodName) jdk_65_method_132_code 3 (some (.array .byte)) ({ frames := 2, cells := 1, slots := 5, locals := 34 } : Room) #[.ref t, .int i.toInt32, .int j.toInt32] h [] (fun v h' Sf => ∃ (u : Addr) (ku : ClassId), v = some (.ref u) ∧ Ext h h' ∧ Arv G.Z h' u ku .byte (j - i).toInt32 ((vs.drop i).take (j - i)) (.int 0) ∧ G.Z.heap.size ≤ u ∧ h.size ≤ u ∧ Sf u) := by
  refine ctr_of M_cor rfl rfl (plainFor_of_name pn_4) L_cor H.el (Ls := #[.val (.ref t), .val (.int i.toInt32), .val (.int j.toInt32)]) (fun m => by first | rfl | (simp [entryFrame, mkF, argsToLocals, Value.category]; done)) ?_
  intro B K hE
  refine go_run K 0 1 (pc' := 1) (st' := [(.int i.toInt32)]) rfl ?_
  refine go_ifne K (k := 1) rfl (pc' := 10) (by decide) (fun q1 => ?_) (fun q2 => ?_)
  · refine go_run K 6 3 (pc' := 13) (st' := [(.int j.toInt32), (.int i.toInt32), (.ref t)]) rfl ?_
    refine go_staticN K (k := 9) rfl (H.w 103 rfl) (H.w 104 rfl) (H.w 101 rfl) (H.w 105 rfl) (by decide) pd_8 (c_crb (i := i) (j := j) (m := m) H hij hjm hm hv hcap A1) (argsL := [(.ref t), (.int i.toInt32), (.int j.toInt32)]) (rest := []) rfl rfl rfl sub0 rfl ?_
    rintro _ h3 Sf11 - ⟨u4, k5, rfl, E6, A7, g8, f9, s10⟩
    refine ⟨[u4], allS s10 all0, ?_⟩
    show Go G B M_cor _ h3 (u4 :: []) 1 5 16 #[.val (.ref t), .val (.int i.toInt32), .val (.int j.toInt32)] [(.ref u4)]
    refine go_areturn K (k := 10) rfl rfl rfl rfl rfl rfl rfl ?_
    intro Sf hSf
    exact ⟨_, _, rfl, E6, A7, g8, f9, hSf _ (List.mem_cons_self ..)⟩
  · refine go_run K 2 2 (pc' := 6) (st' := [(.ref t), (.int j.toInt32)]) rfl ?_
    refine go_arraylength K (k := 4) rfl A1 ?_
    refine go_icmpeq K (k := 5) rfl (pc' := 17) (by decide) (fun q => absurd q (fun e => hne ⟨len_zero (by omega) q2, len_inj (by omega) (by omega) e⟩)) (fun _ => ?_)
    refine go_run K 6 3 (pc' := 13) (st' := [(.int j.toInt32), (.int i.toInt32), (.ref t)]) rfl ?_
    refine go_staticN K (k := 9) rfl (H.w 103 rfl) (H.w 104 rfl) (H.w 101 rfl) (H.w 105 rfl) (by decide) pd_8 (c_crb (i := i) (j := j) (m := m) H hij hjm hm hv hcap A1) (argsL := [(.ref t), (.int i.toInt32), (.int j.toInt32)]) (rest := []) rfl rfl rfl sub0 rfl ?_
    rintro _ h12 Sf20 - ⟨u13, k14, rfl, E15, A16, g17, f18, s19⟩
    refine ⟨[u13], allS s19 all0, ?_⟩
    show Go G B M_cor _ h12 (u13 :: []) 1 5 16 #[.val (.ref t), .val (.int i.toInt32), .val (.int j.toInt32)] [(.ref u13)]
    refine go_areturn K (k := 10) rfl rfl rfl rfl rfl rfl rfl ?_
    intro Sf hSf
    exact ⟨_, _, rfl, E15, A16, g17, f18, hSf _ (List.mem_cons_self ..)⟩
theorem pn_5 : plainName "jdk/internal/util/Preconditions" = true := by first | (simp [plainName, overriddenIn]; done) | decide +kernel
def P_pft : List (Nat × Instr × Nat) := [(0, .iload_n 0, 1), (1, .ifCond .lt 13, 3), (4, .iload_n 0, 1), (5, .iload_n 1, 1), (6, .if_icmp .gt 8, 3), (9, .iload_n 1, 1), (10, .iload_n 2, 1), (11, .if_icmp .le 11, 3), (14, .aload_n 3, 1), (15, .iload_n 0, 1), (16, .iload_n 1, 1), (17, .iload_n 2, 1), (18, .invokestatic 99, 3), (21, .athrow, 1), (22, .iload_n 0, 1), (23, .ireturn, 1)]
theorem L_pft : ∀ q ∈ P_pft, decode jdk_41_method_12_code q.1 = .ok q.2 := by decide +kernel
def M_pft : Mt := (("jdk/internal/util/Preconditions", "checkFromToIndex", ({ frames := 0, cells := 0, slots := 0, locals := 0 } : Room)), P_pft, 4, (some .int))
set_option maxRecDepth 65536 in
set_option maxHeartbeats 4000000 in
theorem c_pft {G : Gb} (H : Gl tables_1 els G) {h : Heap} {x y n : Int32} {f : Addr} (h1 : ¬ x < 0) (h2 : ¬ y < x) (h3 : ¬ n < y) :
    Ctr G [] (⟨"jdk/internal/util/Preconditions", "checkFromToIndex", "(IIILjava/util/function/BiFunction;)I"⟩ : MethodName) jdk_41_method_12_code 4 (some .int) ({ frames := 0, cells := 0, slots := 0, locals := 0 } : Room) #[.int x, .int y, .int n, .ref f] h [] (fun v h' Sf => v = some (.int x) ∧ h = h') := by
  refine ctr_of M_pft rfl rfl (plainFor_of_name pn_5) L_pft H.el (Ls := #[.val (.int x), .val (.int y), .val (.int n), .val (.ref f)]) (fun m => by first | rfl | (simp [entryFrame, mkF, argsToLocals, Value.category]; done)) ?_
  intro B K hE
  refine go_run K 0 1 (pc' := 1) (st' := [(.int x)]) rfl ?_
  refine go_iflt K (k := 1) rfl (pc' := 14) (by decide) (fun q => absurd q h1) (fun _ => ?_)
  refine go_run K 2 2 (pc' := 6) (st' := [(.int y), (.int x)]) rfl ?_
  refine go_icmpgt K (k := 4) rfl (pc' := 14) (by decide) (fun q => absurd q h2) (fun _ => ?_)
  refine go_run K 5 2 (pc' := 11) (st' := [(.int n), (.int y)]) rfl ?_
  refine go_icmple K (k := 7) rfl (pc' := 22) (by decide) (fun _ => ?_) (fun q => absurd q h3)
  refine go_run K 14 1 (pc' := 23) (st' := [(.int x)]) rfl ?_
  refine go_ireturn K (k := 15) rfl rfl (by decide) rfl rfl rfl ?_
  intro Sf hSf
  exact ⟨rfl, rfl⟩
set_option maxRecDepth 65536 in
set_option maxHeartbeats 4000000 in
theorem c_pftN {G : Gb} (H : Gl tables_1 els G) {h : Heap} {x y n : Int32} (h1 : ¬ x < 0) (h2 : ¬ y < x) (h3 : ¬ n < y) :
    Ctr G [] (⟨"jdk/internal/util/Preconditions", "checkFromToIndex", "(IIILjava/util/function/BiFunction;)I"⟩ : MethodName) jdk_41_method_12_code 4 (some .int) ({ frames := 0, cells := 0, slots := 0, locals := 0 } : Room) #[.int x, .int y, .int n, .null] h [] (fun v h' Sf => v = some (.int x) ∧ h = h') := by
  refine ctr_of M_pft rfl rfl (plainFor_of_name pn_5) L_pft H.el (Ls := #[.val (.int x), .val (.int y), .val (.int n), .val .null]) (fun m => by first | rfl | (simp [entryFrame, mkF, argsToLocals, Value.category]; done)) ?_
  intro B K hE
  refine go_run K 0 1 (pc' := 1) (st' := [(.int x)]) rfl ?_
  refine go_iflt K (k := 1) rfl (pc' := 14) (by decide) (fun q => absurd q h1) (fun _ => ?_)
  refine go_run K 2 2 (pc' := 6) (st' := [(.int y), (.int x)]) rfl ?_
  refine go_icmpgt K (k := 4) rfl (pc' := 14) (by decide) (fun q => absurd q h2) (fun _ => ?_)
  refine go_run K 5 2 (pc' := 11) (st' := [(.int n), (.int y)]) rfl ?_
  refine go_icmple K (k := 7) rfl (pc' := 22) (by decide) (fun _ => ?_) (fun q => absurd q h3)
  refine go_run K 14 1 (pc' := 23) (st' := [(.int x)]) rfl ?_
  refine go_ireturn K (k := 15) rfl rfl (by decide) rfl rfl rfl ?_
  intro Sf hSf
  exact ⟨rfl, rfl⟩
def P_cbe : List (Nat × Instr × Nat) := [(0, .iload_n 0, 1), (1, .iload_n 1, 1), (2, .iload_n 2, 1), (3, .getstatic 1053, 3), (6, .invokestatic 1062, 3), (9, .pop, 1), (10, .return_, 1)]
theorem L_cbe : ∀ q ∈ P_cbe, decode jdk_42_method_158_code q.1 = .ok q.2 := by decide +kernel
def M_cbe : Mt := (("java/lang/String", "checkBoundsBeginEnd", ({ frames := 1, cells := 0, slots := 0, locals := 15 } : Room)), P_cbe, 3, none)
set_option maxRecDepth 65536 in
set_option maxHeartbeats 4000000 in
theorem c_cbe {G : Gb} (H : Gl tables_1 els G) {h : Heap} {x y n : Int32} (hF : ∃ vf : Value, Sta G.Z G.Z.heap "jdk/internal/util/Preconditions" "SIOOBE_FORMATTER" "Ljava/util/function/BiFunction;" vf ∧ vf.isRef = true) (h1 : ¬ x < 0) (h2 : ¬ y < x) (h3 : ¬ n < y) :
    Ctr G [] (⟨"java/lang/String", "checkBoundsBeginEnd", "(III)V"⟩ : MethodName) jdk_42_method_158_code 3 none ({ frames := 1, cells := 0, slots := 0, locals := 15 } : Room) #[.int x, .int y, .int n] h [] (fun v h' Sf => v = none ∧ h = h') := by
  refine ctr_of M_cbe rfl rfl (plainFor_of_name pn_1) L_cbe H.el (Ls := #[.val (.int x), .val (.int y), .val (.int n)]) (fun m => by first | rfl | (simp [entryFrame, mkF, argsToLocals, Value.category]; done)) ?_
  intro B K hE
  obtain ⟨vf, hsf, hrf⟩ := hF
  refine go_run K 0 3 (pc' := 3) (st' := [(.int n), (.int y), (.int x)]) rfl ?_
  obtain rfl | ⟨f, rfl⟩ := ref_cases hrf
  · refine go_getstatic K (k := 3) rfl (host := "") (Or.inl (H.w 85 rfl)) Via.refl hsf ?_
    refine go_static K (k := 4) rfl (H.w 87 rfl) (H.w 88 rfl) (H.w 86 rfl) (H.w 89 rfl) (by decide) pd_9 (c_pftN (x := x) (y := y) (n := n) H h1 h2 h3) (argsL := [(.int x), (.int y), (.int n), .null]) (rest := []) rfl rfl rfl sub0 rfl ?_
    rintro _ _ _ - ⟨rfl, rfl⟩
    show Go G B M_cbe _ h [] 0 0 9 #[.val (.int x), .val (.int y), .val (.int n)] [(.int x)]
    refine go_run K 5 1 (pc' := 10) (st' := []) rfl ?_
    refine go_return K (k := 6) rfl rfl rfl rfl ?_
    intro Sf hSf
    exact ⟨rfl, rfl⟩
  · refine go_getstatic K (k := 3) rfl (host := "") (Or.inl (H.w 85 rfl)) Via.refl hsf ?_
    refine go_static K (k := 4) rfl (H.w 87 rfl) (H.w 88 rfl) (H.w 86 rfl) (H.w 89 rfl) (by decide) pd_9 (c_pft (x := x) (y := y) (n := n) (f := f) H h1 h2 h3) (argsL := [(.int x), (.int y), (.int n), (.ref f)]) (rest := []) rfl rfl rfl sub0 rfl ?_
    rintro _ _ _ - ⟨rfl, rfl⟩
    show Go G B M_cbe _ h [] 0 0 9 #[.val (.int x), .val (.int y), .val (.int n)] [(.int x)]
    refine go_run K 5 1 (pc' := 10) (st' := []) rfl ?_
    refine go_return K (k := 6) rfl rfl rfl rfl ?_
    intro Sf hSf
    exact ⟨rfl, rfl⟩
def P_nst : List (Nat × Instr × Nat) := [(0, .iload_n 2, 1), (1, .ifCond .ne 6, 3), (4, .ldc 151, 2), (6, .areturn, 1), (7, .new 1, 3), (10, .dup, 1), (11, .aload_n 0, 1), (12, .iload_n 1, 1), (13, .iload_n 1, 1), (14, .iload_n 2, 1), (15, .iadd, 1), (16, .invokestatic 232, 3), (19, .iconst 0, 1), (20, .invokespecial 112, 3), (23, .areturn, 1)]
theorem L_nst : ∀ q ∈ P_nst, decode jdk_43_method_47_code q.1 = .ok q.2 := by decide +kernel
def M_nst : Mt := (("java/lang/StringLatin1", "newString", ({ frames := 3, cells := 2, slots := 9, locals := 50 } : Room)), P_nst, 3, (some (.object "java/lang/String")))
set_option maxRecDepth 65536 in
set_option maxHeartbeats 4000000 in
theorem c_nst {G : Gb} (H : Gl tables_1 els G) {h : Heap} {t : Addr} {kt : ClassId} {cs : List Int32} {i n : Nat} (l1 : Lat cs) (hin : i + n ≤ cs.length) (hcap : n ≤ 5) (hne : ¬ (i = 0 ∧ i + n = cs.length)) (A1 : Arv G.Z h t kt .byte cs.length.toInt32 (by8 cs) (.int 0)) :
    Ctr G [] (⟨"java/lang/StringLatin1", "newString", "([BII)Ljava/lang/String;"⟩ : MethodName) jdk_43_method_47_code 3 (some (.object "java/lang/String")) ({ frames := 3, cells := 2, slots := 9, locals := 50 } : Room) #[.ref t, .int i.toInt32, .int n.toInt32] h [] (fun v h' Sf => ∃ s : Addr, v = some (.ref s) ∧ Ext h h' ∧ Str G h' s ((cs.drop i).take n)) := by
  refine ctr_of M_nst rfl rfl (plainFor_of_name pn_2) L_nst H.el (Ls := #[.val (.ref t), .val (.int i.toInt32), .val (.int n.toInt32)]) (fun m => by first | rfl | (simp [entryFrame, mkF, argsToLocals, Value.category]; done)) ?_
  intro B K hE
  have hlt := lat_lt l1
  refine go_run K 0 1 (pc' := 1) (st' := [(.int n.toInt32)]) rfl ?_
  refine go_ifne K (k := 1) rfl (pc' := 7) (by decide) (fun q1 => ?_) (fun q2 => ?_)
  · refine go_new K (k := 4) rfl (H.w 98 rfl) (H.w 1 rfl) (H.w 2 rfl) rfl rfl ?_
    intro h8 a7 e9 g10 E11 A12 D13
    have F14 : Fld G.Z h8 a7 "java/lang/String" "value" "[B" .null := D13 (Or.inr (H.w 20 rfl)) (ty := (.array .byte)) (by decide)
    have F15 : Fld G.Z h8 a7 "java/lang/String" "coder" "B" (.int (0 : Int32)) := D13 (Or.inr (H.w 21 rfl)) (ty := .byte) (by decide)
    refine go_run K 5 6 (pc' := 16) (st' := [(.int (i.toInt32 + n.toInt32)), (.int i.toInt32), (.ref t), (.ref a7), (.ref a7)]) rfl ?_
    rw [add_len]
    have c16 := (A1.ext E11)
    refine go_staticN K (k := 11) rfl (H.w 99 rfl) (H.w 100 rfl) (H.w 101 rfl) (H.w 102 rfl) (by decide) pd_8 (c_cor (i := i) (j := (i + n)) (m := cs.length) H hne (Nat.le_add_right _ _) hin hlt by8_len (by rw [Nat.add_sub_cancel_left]; exact hcap) c16) (argsL := [(.ref t), (.int i.toInt32), (.int (i + n).toInt32)]) (rest := [(.ref a7), (.ref a7)]) rfl rfl rfl sub0 rfl ?_
    rintro _ h17 Sf25 - ⟨u18, k19, rfl, E20, A21, g22, f23, s24⟩
    refine ⟨[u18], allS s24 all0, ?_⟩
    show Go G B M_nst _ h17 (u18 :: (a7 :: [])) 2 9 19 #[.val (.ref t), .val (.int i.toInt32), .val (.int n.toInt32)] [(.ref u18), (.ref a7), (.ref a7)]
    rw [show i + n - i = n by omega] at A21
    have hd : ((by8 cs).drop i).take n = by8 ((cs.drop i).take n) := by rw [by8_take, by8_drop]
    rw [hd, show n.toInt32 = ((cs.drop i).take n).length.toInt32 from by rw [List.length_take, List.length_drop, Nat.min_eq_left (by omega)]] at A21
    refine go_run K 12 1 (pc' := 20) (st' := [(.int (0 : Int32)), (.ref u18), (.ref a7), (.ref a7)]) rfl ?_
    have c26 := (A12.ext E20)
    have c27 := (F14.ext E20)
    have c28 := (F15.ext E20)
    refine go_special K (k := 13) rfl rfl (H.w 117 rfl) (H.w 118 rfl) (H.w 2 rfl) (H.w 119 rfl) (by decide) pd_10 (c_sib (t := u18) H c26 c27 c28 g10) (argsL := [(.ref u18), (.int (0 : Int32))]) (rest := [(.ref a7)]) rfl rfl rfl (subS (List.mem_cons_of_mem _ (List.mem_cons_self ..)) sub0) rfl ?_
    rintro _ h29 _ - ⟨rfl, K30, E31, F32, F33⟩
    show Go G B M_nst _ h29 (u18 :: (a7 :: [])) 2 9 23 #[.val (.ref t), .val (.int i.toInt32), .val (.int n.toInt32)] [(.ref a7)]
    have X34 : Ext h h17 := (Ext.tr E11 E20)
    have X35 : Ext h h29 := (Ext.keepN X34 K30 (allS (Nat.le_trans (Nat.le_refl _) (Nat.le_of_eq e9.symm)) all0))
    have c36 := (A21.keep K30 (ninS (Exa.neArv c26 A21 (H.w 1 rfl)).symm nin0))
    refine go_areturn K (k := 14) rfl rfl rfl rfl rfl rfl rfl ?_
    intro Sf hSf
    exact ⟨_, rfl, X35, _, _, E31, F32, F33, c36⟩
  · refine go_ldcT K (k := 2) rfl (H.w 120 rfl) H.ws (H.mem (by decide)) (cs := []) (by decide) (by decide) (n := 0) rfl rfl rfl rfl ?_
    intro h4 a3 E5 S6
    refine go_areturn K (k := 3) rfl rfl rfl rfl rfl rfl rfl ?_
    intro Sf hSf
    refine ⟨_, rfl, E5, ?_⟩
    rw [show n = 0 from len_zero (by omega) q2, List.take_zero]
    exact S6
def P_sub : List (Nat × Instr × Nat) := [(0, .aload_n 0, 1), (1, .invokevirtual 505, 3), (4, .istore_n 3, 1), (5, .iload_n 1, 1), (6, .iload_n 2, 1), (7, .iload_n 3, 1), (8, .invokestatic 521, 3), (11, .iload_n 1, 1), (12, .ifCond .ne 10, 3), (15, .iload_n 2, 1), (16, .iload_n 3, 1), (17, .if_icmp .ne 5, 3), (20, .aload_n 0, 1), (21, .areturn, 1), (22, .iload_n 2, 1), (23, .iload_n 1, 1), (24, .isub, 1), (25, .istore 4, 2), (27, .aload_n 0, 1), (28, .invokevirtual 492, 3), (31, .ifCond .eq 16, 3), (34, .aload_n 0, 1), (35, .getfield 9, 3), (38, .iload_n 1, 1), (39, .iload 4, 2), (41, .invokestatic 685, 3), (44, .goto 13, 3), (47, .aload_n 0, 1), (48, .getfield 9, 3), (51, .iload_n 1, 1), (52, .iload 4, 2), (54, .invokestatic 689, 3), (57, .areturn, 1)]
theorem L_sub : ∀ q ∈ P_sub, decode jdk_42_method_92_code q.1 = .ok q.2 := by decide +kernel
def M_sub : Mt := (("java/lang/String", "substring", ({ frames := 4, cells := 2, slots := 9, locals := 64 } : Room)), P_sub, 5, (some (.object "java/lang/String")))
set_option maxRecDepth 65536 in
set_option maxHeartbeats 4000000 in
theorem c_sub {G : Gb} (H : Gl tables_1 els G) {h : Heap} {a : Addr} {cs : List Int32} {i j : Nat} (l1 : Lat cs) (hij : i ≤ j) (hjn : j ≤ cs.length) (hcap : j - i ≤ 5) (hF : ∃ vf : Value, Sta G.Z G.Z.heap "jdk/internal/util/Preconditions" "SIOOBE_FORMATTER" "Ljava/util/function/BiFunction;" vf ∧ vf.isRef = true) (S1 : Str G h a cs) :
    Ctr G [] (⟨"java/lang/String", "substring", "(II)Ljava/lang/String;"⟩ : MethodName) jdk_42_method_92_code 5 (some (.object "java/lang/String")) ({ frames := 4, cells := 2, slots := 9, locals := 64 } : Room) #[.ref a, .int i.toInt32, .int j.toInt32] h [] (fun v h' Sf => ∃ s : Addr, v = some (.ref s) ∧ Ext h h' ∧ Str G h' s ((cs.drop i).take (j - i))) := by
  refine ctr_of M_sub rfl rfl (plainFor_of_name pn_1) L_sub H.el (Ls := #[.val (.ref a), .val (.int i.toInt32), .val (.int j.toInt32), .unset, .unset]) (fun m => by first | rfl | (simp [entryFrame, mkF, argsToLocals, Value.category]; done)) ?_
  intro B K hE
  have hlt := lat_lt l1
  obtain ⟨t1, k2, e3, e4, e5, e6⟩ := id S1
  refine go_run K 0 1 (pc' := 1) (st' := [(.ref a)]) rfl ?_
  refine go_virt0 K (k := 1) rfl (H.w 41 rfl) (H.w 44 rfl) (H.w 43 rfl) (H.w 2 rfl) (H.w 45 rfl) (by decide) pd_11 S1.exa (c_len H S1) (argsL := []) (rest := []) rfl rfl rfl sub0 rfl ?_
  rintro _ _ _ - ⟨rfl, rfl⟩
  show Go G B M_sub _ h [] 0 0 4 #[.val (.ref a), .val (.int i.toInt32), .val (.int j.toInt32), .unset, .unset] [(.int (cs).length.toInt32)]
  show Go G B M_sub _ h [] 0 0 4 #[.val (.ref a), .val (.int i.toInt32), .val (.int j.toInt32), .unset, .unset] [(.int cs.length.toInt32)]
  refine go_run K 2 4 (pc' := 8) (Ls' := #[.val (.ref a), .val (.int i.toInt32), .val (.int j.toInt32), .val (.int cs.length.toInt32), .unset]) (st' := [(.int cs.length.toInt32), (.int j.toInt32), (.int i.toInt32)]) rfl ?_
  refine go_static K (k := 6) rfl (H.w 82 rfl) (H.w 83 rfl) (H.w 2 rfl) (H.w 84 rfl) (by decide) pd_12 (c_cbe (x := i.toInt32) (y := j.toInt32) (n := cs.length.toInt32) H hF (len_nn (by omega)) (len_nlt (by omega) hij) (len_nlt (by omega) hjn)) (argsL := [(.int i.toInt32), (.int j.toInt32), (.int cs.length.toInt32)]) (rest := []) rfl rfl rfl sub0 rfl ?_
  rintro _ _ _ - ⟨rfl, rfl⟩
  show Go G B M_sub _ h [] 0 0 11 #[.val (.ref a), .val (.int i.toInt32), .val (.int j.toInt32), .val (.int cs.length.toInt32), .unset] []
  refine go_run K 7 1 (pc' := 12) (st' := [(.int i.toInt32)]) rfl ?_
  refine go_ifne K (k := 8) rfl (pc' := 22) (by decide) (fun q7 => ?_) (fun q8 => ?_)
  · refine go_run K 14 5 (pc' := 28) (Ls' := #[.val (.ref a), .val (.int i.toInt32), .val (.int j.toInt32), .val (.int cs.length.toInt32), .val (.int (j.toInt32 - i.toInt32))]) (st' := [(.ref a)]) rfl ?_
    rw [sub_len hij]
    refine go_virt0 K (k := 19) rfl (H.w 90 rfl) (H.w 93 rfl) (H.w 92 rfl) (H.w 2 rfl) (H.w 94 rfl) (by decide) pd_13 S1.exa (c_isl H S1) (argsL := []) (rest := []) rfl rfl rfl sub0 rfl ?_
    rintro _ _ _ - ⟨rfl, rfl⟩
    show Go G B M_sub _ h [] 0 0 31 #[.val (.ref a), .val (.int i.toInt32), .val (.int j.toInt32), .val (.int cs.length.toInt32), .val (.int (j - i).toInt32)] [(.int (1 : Int32))]
    refine go_ifeq K (k := 20) rfl (pc' := 47) (by decide) (fun q => absurd q (by decide)) (fun _ => ?_)
    refine go_run K 21 1 (pc' := 35) (st' := [(.ref a)]) rfl ?_
    refine go_getfield K (k := 22) rfl (host := "") (Or.inl (H.w 24 rfl)) Via.refl e5 ?_
    refine go_run K 23 2 (pc' := 41) (st' := [(.int (j - i).toInt32), (.int i.toInt32), (.ref t1)]) rfl ?_
    refine go_static K (k := 25) rfl (H.w 95 rfl) (H.w 96 rfl) (H.w 60 rfl) (H.w 97 rfl) (by decide) pd_14 (c_nst (cs := cs) (i := i) (n := (j - i)) H l1 (by omega) hcap (fun e => q7 (by rw [e.1]; rfl)) e6) (argsL := [(.ref t1), (.int i.toInt32), (.int (j - i).toInt32)]) (rest := []) rfl rfl rfl sub0 rfl ?_
    rintro _ h9 _ - ⟨a10, rfl, E11, S12⟩
    show Go G B M_sub _ h9 [] 2 9 44 #[.val (.ref a), .val (.int i.toInt32), .val (.int j.toInt32), .val (.int cs.length.toInt32), .val (.int (j - i).toInt32)] [(.ref a10)]
    refine go_run K 26 1 (pc' := 57) (st' := [(.ref a10)]) rfl ?_
    refine go_areturn K (k := 32) rfl rfl rfl rfl rfl rfl rfl ?_
    intro Sf hSf
    exact ⟨_, rfl, E11, S12⟩
  · refine go_run K 9 2 (pc' := 17) (st' := [(.int cs.length.toInt32), (.int j.toInt32)]) rfl ?_
    refine go_icmpne K (k := 11) rfl (pc' := 22) (by decide) (fun q13 => ?_) (fun q14 => ?_)
    · refine go_run K 14 5 (pc' := 28) (Ls' := #[.val (.ref a), .val (.int i.toInt32), .val (.int j.toInt32), .val (.int cs.length.toInt32), .val (.int (j.toInt32 - i.toInt32))]) (st' := [(.ref a)]) rfl ?_
      rw [sub_len hij]
      refine go_virt0 K (k := 19) rfl (H.w 90 rfl) (H.w 93 rfl) (H.w 92 rfl) (H.w 2 rfl) (H.w 94 rfl) (by decide) pd_13 S1.exa (c_isl H S1) (argsL := []) (rest := []) rfl rfl rfl sub0 rfl ?_
      rintro _ _ _ - ⟨rfl, rfl⟩
      show Go G B M_sub _ h [] 0 0 31 #[.val (.ref a), .val (.int i.toInt32), .val (.int j.toInt32), .val (.int cs.length.toInt32), .val (.int (j - i).toInt32)] [(.int (1 : Int32))]
      refine go_ifeq K (k := 20) rfl (pc' := 47) (by decide) (fun q => absurd q (by decide)) (fun _ => ?_)
      refine go_run K 21 1 (pc' := 35) (st' := [(.ref a)]) rfl ?_
      refine go_getfield K (k := 22) rfl (host := "") (Or.inl (H.w 24 rfl)) Via.refl e5 ?_
      refine go_run K 23 2 (pc' := 41) (st' := [(.int (j - i).toInt32), (.int i.toInt32), (.ref t1)]) rfl ?_
      refine go_static K (k := 25) rfl (H.w 95 rfl) (H.w 96 rfl) (H.w 60 rfl) (H.w 97 rfl) (by decide) pd_14 (c_nst (cs := cs) (i := i) (n := (j - i)) H l1 (by omega) hcap (fun e => q13 (by rw [show j = cs.length by omega])) e6) (argsL := [(.ref t1), (.int i.toInt32), (.int (j - i).toInt32)]) (rest := []) rfl rfl rfl sub0 rfl ?_
      rintro _ h15 _ - ⟨a16, rfl, E17, S18⟩
      show Go G B M_sub _ h15 [] 2 9 44 #[.val (.ref a), .val (.int i.toInt32), .val (.int j.toInt32), .val (.int cs.length.toInt32), .val (.int (j - i).toInt32)] [(.ref a16)]
      refine go_run K 26 1 (pc' := 57) (st' := [(.ref a16)]) rfl ?_
      refine go_areturn K (k := 32) rfl rfl rfl rfl rfl rfl rfl ?_
      intro Sf hSf
      exact ⟨_, rfl, E17, S18⟩
    · refine go_run K 12 1 (pc' := 21) (st' := [(.ref a)]) rfl ?_
      have hi0 := len_zero (by omega) q8
      have hjn0 := len_inj (by omega) (by omega) q14
      refine go_areturn K (k := 13) rfl rfl rfl rfl rfl rfl rfl ?_
      intro Sf hSf
      refine ⟨_, rfl, Ext.rf _, ?_⟩
      rw [hi0, hjn0, List.drop_zero, Nat.sub_zero, List.take_length]
      exact S1
theorem pn_6 : plainName "jdk/internal/util/ArraysSupport" = true := by first | (simp [plainName, overriddenIn]; done) | decide +kernel
def P_mis : List (Nat × Instr × Nat) := [(0, .iconst 0, 1), (1, .istore 5, 2), (3, .iload 4, 2), (5, .bipush 7, 2), (7, .if_icmp .le 63, 3), (10, .aload_n 0, 1), (11, .iload_n 1, 1), (12, .baload, 1), (13, .aload_n 2, 1), (14, .iload_n 3, 1), (15, .baload, 1), (16, .if_icmp .eq 5, 3), (19, .iconst 0, 1), (20, .ireturn, 1), (21, .getstatic 126, 3), (24, .iload_n 1, 1), (25, .iadd, 1), (26, .istore 6, 2), (28, .getstatic 126, 3), (31, .iload_n 3, 1), (32, .iadd, 1), (33, .istore 7, 2), (35, .aload_n 0, 1), (36, .iload 6, 2), (38, .i2l, 1), (39, .aload_n 2, 1), (40, .iload 7, 2), (42, .i2l, 1), (43, .iload 4, 2), (45, .getstatic 129, 3), (48, .invokestatic 122, 3), (51, .istore 5, 2), (53, .iload 5, 2), (55, .ifCond .lt 6, 3), (58, .iload 5, 2), (60, .ireturn, 1), (61, .iload 4, 2), (63, .iload 5, 2), (65, .iconst (-1), 1), (66, .ixor, 1), (67, .isub, 1), (68, .istore 5, 2), (70, .iload 5, 2), (72, .iload 4, 2), (74, .if_icmp .ge 27, 3), (77, .aload_n 0, 1), (78, .iload_n 1, 1), (79, .iload 5, 2), (81, .iadd, 1), (82, .baload, 1), (83, .aload_n 2, 1), (84, .iload_n 3, 1), (85, .iload 5, 2), (87, .iadd, 1), (88, .baload, 1), (89, .if_icmp .eq 6, 3), (92, .iload 5, 2), (94, .ireturn, 1), (95, .iinc 5 1, 3), (98, .goto (-28), 3), (101, .iconst (-1), 1), (102, .ireturn, 1)]
theorem L_mis : ∀ q ∈ P_mis, decode jdk_48_method_14_code q.1 = .ok q.2 := by decide +kernel
def M_mis : Mt := (("jdk/internal/util/ArraysSupport", "mismatch", ({ frames := 0, cells := 0, slots := 0, locals := 0 } : Room)), P_mis, 8, (some .int))
set_option maxRecDepth 65536 in
set_option maxHeartbeats 4000000 in
theorem c_mis {G : Gb} (H : Gl tables_1 els G) {h : Heap} {t u : Addr} {kt ku : ClassId} {cs : List Int32} {c d : Int32} (l1 : Lat (c :: cs)) (l2 : ¬ d < 0 ∧ ¬ (255 : Int32) < d) (A1 : Arv G.Z h t kt .byte (c :: cs).length.toInt32 (by8 (c :: cs)) (.int 0)) (A2 : Arv G.Z h u ku .byte [d].length.toInt32 (by8 [d]) (.int 0)) :
    Ctr G [] (⟨"jdk/internal/util/ArraysSupport", "mismatch", "([BI[BII)I"⟩ : MethodName) jdk_48_method_14_code 8 (some .int) ({ frames := 0, cells := 0, slots := 0, locals := 0 } : Room) #[.ref t, .int 0, .ref u, .int 0, .int 1] h [] (fun v h' Sf => ∃ r : Int32, v = some (.int r) ∧ h = h' ∧ ((r = -1 ∧ c = d) ∨ (r = 0 ∧ ¬ c = d))) := by
  refine ctr_of M_mis rfl rfl (plainFor_of_name pn_6) L_mis H.el (Ls := #[.val (.ref t), .val (.int (0 : Int32)), .val (.ref u), .val (.int (0 : Int32)), .val (.int (1 : Int32)), .unset, .unset, .unset]) (fun m => by first | rfl | (simp [entryFrame, mkF, argsToLocals, Value.category]; done)) ?_
  intro B K hE
  refine go_run K 0 4 (pc' := 7) (Ls' := #[.val (.ref t), .val (.int (0 : Int32)), .val (.ref u), .val (.int (0 : Int32)), .val (.int (1 : Int32)), .val (.int (0 : Int32)), .unset, .unset]) (st' := [(.int (7 : Int32)), (.int (1 : Int32))]) rfl ?_
  refine go_icmple K (k := 4) rfl (pc' := 70) (by decide) (fun _ => ?_) (fun q => absurd q (by decide))
  refine go_run K 42 2 (pc' := 74) (st' := [(.int (1 : Int32)), (.int (0 : Int32))]) rfl ?_
  refine go_icmpge K (k := 44) rfl (pc' := 101) (by decide) (fun q => absurd (by decide) q) (fun _ => ?_)
  refine go_run K 45 4 (pc' := 82) (st' := [(.int (0 : Int32)), (.ref t)]) rfl ?_
  refine go_baload K (k := 49) rfl A1 ⟨by decide, len_lt (i := 0) (lat_lt l1) (Nat.succ_pos _)⟩ (v := .int (c).toInt8.toInt32) rfl ?_
  refine go_run K 50 4 (pc' := 88) (st' := [(.int (0 : Int32)), (.ref u), (.int (c).toInt8.toInt32)]) rfl ?_
  refine go_baload K (k := 54) rfl A2 ⟨by decide, len_lt (i := 0) (n := 1) (by decide) (by decide)⟩ (v := .int (d).toInt8.toInt32) rfl ?_
  refine go_icmpeq K (k := 55) rfl (pc' := 95) (by decide) (fun q1 => ?_) (fun q2 => ?_)
  · refine go_run K 58 2 (pc' := 70) (Ls' := #[.val (.ref t), .val (.int (0 : Int32)), .val (.ref u), .val (.int (0 : Int32)), .val (.int (1 : Int32)), .val (.int (1 : Int32)), .unset, .unset]) (st' := []) rfl ?_
    refine go_run K 42 2 (pc' := 74) (st' := [(.int (1 : Int32)), (.int (1 : Int32))]) rfl ?_
    refine go_icmpge K (k := 44) rfl (pc' := 101) (by decide) (fun _ => ?_) (fun q => absurd q (by decide))
    refine go_run K 60 1 (pc' := 102) (st' := [(.int (-1 : Int32))]) rfl ?_
    refine go_ireturn K (k := 61) rfl rfl (by decide) rfl rfl rfl ?_
    intro Sf hSf
    exact ⟨_, rfl, rfl, Or.inl ⟨rfl, i8_inj (l1.2 _ (List.mem_cons_self ..)) l2 q1⟩⟩
  · refine go_run K 56 1 (pc' := 94) (st' := [(.int (0 : Int32))]) rfl ?_
    refine go_ireturn K (k := 57) rfl rfl (by decide) rfl rfl rfl ?_
    intro Sf hSf
    exact ⟨_, rfl, rfl, Or.inr ⟨rfl, fun e => q2 (by rw [e])⟩⟩
def P_sw : List (Nat × Instr × Nat) := [(0, .iload_n 2, 1), (1, .ifCond .lt 16, 3), (4, .iload_n 2, 1), (5, .aload_n 0, 1), (6, .invokevirtual 505, 3), (9, .aload_n 1, 1), (10, .invokevirtual 505, 3), (13, .isub, 1), (14, .if_icmp .le 5, 3), (17, .iconst 0, 1), (18, .ireturn, 1), (19, .aload_n 0, 1), (20, .getfield 9, 3), (23, .astore_n 3, 1), (24, .aload_n 1, 1), (25, .getfield 9, 3), (28, .astore 4, 2), (30, .iconst 0, 1), (31, .istore 5, 2), (33, .aload 4, 2), (35, .arraylength, 1), (36, .istore 6, 2), (38, .aload_n 0, 1), (39, .invokevirtual 335, 3), (42, .istore 7, 2), (44, .iload 7, 2), (46, .aload_n 1, 1), (47, .invokevirtual 335, 3), (50, .if_icmp .ne 32, 3), (53, .iload 7, 2), (55, .iconst 1, 1), (56, .if_icmp .ne 7, 3), (59, .iload_n 2, 1), (60, .iconst 1, 1), (61, .ishl, 1), (62, .istore_n 2, 1), (63, .aload_n 3, 1), (64, .iload_n 2, 1), (65, .aload 4, 2), (67, .iconst 0, 1), (68, .iload 6, 2), (70, .invokestatic 607, 3), (73, .ifCond .ge 7, 3), (76, .iconst 1, 1), (77, .goto 4, 3), (80, .iconst 0, 1), (81, .ireturn, 1), (82, .iload 7, 2), (84, .ifCond .ne 5, 3), (87, .iconst 0, 1), (88, .ireturn, 1), (89, .iload 5, 2), (91, .iload 6, 2), (93, .if_icmp .ge 28, 3), (96, .aload_n 3, 1), (97, .iload_n 2, 1), (98, .iinc 2 1, 3), (101, .invokestatic 360, 3), (104, .aload 4, 2), (106, .iload 5, 2), (108, .iinc 5 1, 3), (111, .baload, 1), (112, .sipush 255, 3), (115, .iand, 1), (116, .if_icmp .eq (-27), 3), (119, .iconst 0, 1), (120, .ireturn, 1), (121, .iconst 1, 1), (122, .ireturn, 1)]
theorem L_sw : ∀ q ∈ P_sw, decode jdk_42_method_75_code q.1 = .ok q.2 := by decide +kernel
def M_sw : Mt := (("java/lang/String", "startsWith", ({ frames := 2, cells := 0, slots := 0, locals := 27 } : Room)), P_sw, 8, (some .boolean))
set_option maxRecDepth 65536 in
set_option maxHeartbeats 4000000 in
theorem c_sw {G : Gb} (H : Gl tables_1 els G) {h : Heap} {a b : Addr} {cs : List Int32} {d : Int32} (l1 : Lat cs) (l2 : ¬ d < 0 ∧ ¬ (255 : Int32) < d) (S1 : Str G h a cs) (S2 : Str G h b [d]) :
    Ctr G [] (⟨"java/lang/String", "startsWith", "(Ljava/lang/String;I)Z"⟩ : MethodName) jdk_42_method_75_code 8 (some .boolean) ({ frames := 2, cells := 0, slots := 0, locals := 27 } : Room) #[.ref a, .ref b, .int 0] h [] (fun v h' Sf => ∃ r : Int32, v = some (.int r) ∧ h = h' ∧ ((r = 1 ∧ cs.head? = some d) ∨ (r = 0 ∧ ¬ cs.head? = some d))) := by
  refine ctr_of M_sw rfl rfl (plainFor_of_name pn_1) L_sw H.el (Ls := #[.val (.ref a), .val (.ref b), .val (.int (0 : Int32)), .unset, .unset, .unset, .unset, .unset]) (fun m => by first | rfl | (simp [entryFrame, mkF, argsToLocals, Value.category]; done)) ?_
  intro B K hE
  rcases cs with _ | ⟨c, cs⟩
  · refine go_run K 0 1 (pc' := 1) (st' := [(.int (0 : Int32))]) rfl ?_
    refine go_iflt K (k := 1) rfl (pc' := 17) (by decide) (fun q => absurd q (by decide)) (fun _ => ?_)
    refine go_run K 2 2 (pc' := 6) (st' := [(.ref a), (.int (0 : Int32))]) rfl ?_
    refine go_virt0 K (k := 4) rfl (H.w 41 rfl) (H.w 44 rfl) (H.w 43 rfl) (H.w 2 rfl) (H.w 45 rfl) (by decide) pd_11 S1.exa (c_len H S1) (argsL := []) (rest := [(.int (0 : Int32))]) rfl rfl rfl sub0 rfl ?_
    rintro _ _ _ - ⟨rfl, rfl⟩
    show Go G B M_sw _ h [] 0 0 9 #[.val (.ref a), .val (.ref b), .val (.int (0 : Int32)), .unset, .unset, .unset, .unset, .unset] [(.int ([]).length.toInt32), (.int (0 : Int32))]
    refine go_run K 5 1 (pc' := 10) (st' := [(.ref b), (.int ([]).length.toInt32), (.int (0 : Int32))]) rfl ?_
    refine go_virt0 K (k := 6) rfl (H.w 41 rfl) (H.w 44 rfl) (H.w 43 rfl) (H.w 2 rfl) (H.w 45 rfl) (by decide) pd_11 S2.exa (c_len H S2) (argsL := []) (rest := [(.int ([]).length.toInt32), (.int (0 : Int32))]) rfl rfl rfl sub0 rfl ?_
    rintro _ _ _ - ⟨rfl, rfl⟩
    show Go G B M_sw _ h [] 0 0 13 #[.val (.ref a), .val (.ref b), .val (.int (0 : Int32)), .unset, .unset, .unset, .unset, .unset] [(.int ([d]).length.toInt32), (.int ([]).length.toInt32), (.int (0 : Int32))]
    refine go_run K 7 1 (pc' := 14) (st' := [(.int (([]).length.toInt32 - ([d]).length.toInt32)), (.int (0 : Int32))]) rfl ?_
    refine go_icmple K (k := 8) rfl (pc' := 19) (by decide) (fun q => absurd (show ((0 : Int32) - (1 : Int32)) < 0 by decide) q) (fun _ => ?_)
    refine go_run K 9 1 (pc' := 18) (st' := [(.int (0 : Int32))]) rfl ?_
    refine go_ireturn K (k := 10) rfl rfl (by decide) rfl rfl rfl ?_
    intro Sf hSf
    exact ⟨0, rfl, rfl, Or.inr ⟨rfl, fun e => nomatch e⟩⟩
  · refine go_run K 0 1 (pc' := 1) (st' := [(.int (0 : Int32))]) rfl ?_
    refine go_iflt K (k := 1) rfl (pc' := 17) (by decide) (fun q => absurd q (by decide)) (fun _ => ?_)
    refine go_run K 2 2 (pc' := 6) (st' := [(.ref a), (.int (0 : Int32))]) rfl ?_
    refine go_virt0 K (k := 4) rfl (H.w 41 rfl) (H.w 44 rfl) (H.w 43 rfl) (H.w 2 rfl) (H.w 45 rfl) (by decide) pd_11 S1.exa (c_len H S1) (argsL := []) (rest := [(.int (0 : Int32))]) rfl rfl rfl sub0 rfl ?_
    rintro _ _ _ - ⟨rfl, rfl⟩
    show Go G B M_sw _ h [] 0 0 9 #[.val (.ref a), .val (.ref b), .val (.int (0 : Int32)), .unset, .unset, .unset, .unset, .unset] [(.int ((c :: cs)).length.toInt32), (.int (0 : Int32))]
    refine go_run K 5 1 (pc' := 10) (st' := [(.ref b), (.int ((c :: cs)).length.toInt32), (.int (0 : Int32))]) rfl ?_
    refine go_virt0 K (k := 6) rfl (H.w 41 rfl) (H.w 44 rfl) (H.w 43 rfl) (H.w 2 rfl) (H.w 45 rfl) (by decide) pd_11 S2.exa (c_len H S2) (argsL := []) (rest := [(.int ((c :: cs)).length.toInt32), (.int (0 : Int32))]) rfl rfl rfl sub0 rfl ?_
    rintro _ _ _ - ⟨rfl, rfl⟩
    show Go G B M_sw _ h [] 0 0 13 #[.val (.ref a), .val (.ref b), .val (.int (0 : Int32)), .unset, .unset, .unset, .unset, .unset] [(.int ([d]).length.toInt32), (.int ((c :: cs)).length.toInt32), (.int (0 : Int32))]
    refine go_run K 7 1 (pc' := 14) (st' := [(.int (((c :: cs)).length.toInt32 - ([d]).length.toInt32)), (.int (0 : Int32))]) rfl ?_
    refine go_icmple K (k := 8) rfl (pc' := 19) (by decide) (fun _ => ?_) (fun q => absurd q (by rw [sub_len (show [d].length ≤ (c :: cs).length from Nat.succ_le_succ (Nat.zero_le _))]; exact len_nn (Nat.lt_of_le_of_lt (Nat.sub_le _ _) (lat_lt l1))))
    obtain ⟨t1, k2, e3, e4, e5, e6⟩ := id S1
    obtain ⟨t7, k8, e9, e10, e11, e12⟩ := id S2
    refine go_run K 11 1 (pc' := 20) (st' := [(.ref a)]) rfl ?_
    refine go_getfield K (k := 12) rfl (host := "") (Or.inl (H.w 24 rfl)) Via.refl e5 ?_
    refine go_run K 13 2 (pc' := 25) (Ls' := #[.val (.ref a), .val (.ref b), .val (.int (0 : Int32)), .val (.ref t1), .unset, .unset, .unset, .unset]) (st' := [(.ref b)]) rfl ?_
    refine go_getfield K (k := 15) rfl (host := "") (Or.inl (H.w 24 rfl)) Via.refl e11 ?_
    refine go_run K 16 4 (pc' := 35) (Ls' := #[.val (.ref a), .val (.ref b), .val (.int (0 : Int32)), .val (.ref t1), .val (.ref t7), .val (.int (0 : Int32)), .unset, .unset]) (st' := [(.ref t7)]) rfl ?_
    refine go_arraylength K (k := 20) rfl e12 ?_
    refine go_run K 21 2 (pc' := 39) (Ls' := #[.val (.ref a), .val (.ref b), .val (.int (0 : Int32)), .val (.ref t1), .val (.ref t7), .val (.int (0 : Int32)), .val (.int [d].length.toInt32), .unset]) (st' := [(.ref a)]) rfl ?_
    refine go_virt0 K (k := 23) rfl (H.w 46 rfl) (H.w 49 rfl) (H.w 48 rfl) (H.w 2 rfl) (H.w 50 rfl) (by decide) pd_5 S1.exa (c_cod H S1) (argsL := []) (rest := []) rfl rfl rfl sub0 rfl ?_
    rintro _ _ _ - ⟨rfl, rfl⟩
    show Go G B M_sw _ h [] 0 0 42 #[.val (.ref a), .val (.ref b), .val (.int (0 : Int32)), .val (.ref t1), .val (.ref t7), .val (.int (0 : Int32)), .val (.int [d].length.toInt32), .unset] [(.int (0 : Int32))]
    refine go_run K 24 3 (pc' := 47) (Ls' := #[.val (.ref a), .val (.ref b), .val (.int (0 : Int32)), .val (.ref t1), .val (.ref t7), .val (.int (0 : Int32)), .val (.int [d].length.toInt32), .val (.int (0 : Int32))]) (st' := [(.ref b), (.int (0 : Int32))]) rfl ?_
    refine go_virt0 K (k := 27) rfl (H.w 46 rfl) (H.w 49 rfl) (H.w 48 rfl) (H.w 2 rfl) (H.w 50 rfl) (by decide) pd_5 S2.exa (c_cod H S2) (argsL := []) (rest := [(.int (0 : Int32))]) rfl rfl rfl sub0 rfl ?_
    rintro _ _ _ - ⟨rfl, rfl⟩
    show Go G B M_sw _ h [] 0 0 50 #[.val (.ref a), .val (.ref b), .val (.int (0 : Int32)), .val (.ref t1), .val (.ref t7), .val (.int (0 : Int32)), .val (.int [d].length.toInt32), .val (.int (0 : Int32))] [(.int (0 : Int32)), (.int (0 : Int32))]
    refine go_icmpne K (k := 28) rfl (pc' := 82) (by decide) (fun q => absurd rfl q) (fun _ => ?_)
    refine go_run K 29 2 (pc' := 56) (st' := [(.int (1 : Int32)), (.int (0 : Int32))]) rfl ?_
    refine go_icmpne K (k := 31) rfl (pc' := 63) (by decide) (fun _ => ?_) (fun q => absurd q (by decide))
    refine go_run K 36 5 (pc' := 70) (st' := [(.int [d].length.toInt32), (.int (0 : Int32)), (.ref t7), (.int (0 : Int32)), (.ref t1)]) rfl ?_
    refine go_static K (k := 41) rfl (H.w 72 rfl) (H.w 73 rfl) (H.w 74 rfl) (H.w 75 rfl) (by decide) pd_15 (c_mis H l1 l2 e6 e12) (argsL := [(.ref t1), (.int (0 : Int32)), (.ref t7), (.int (0 : Int32)), (.int [d].length.toInt32)]) (rest := []) rfl rfl rfl sub0 rfl ?_
    rintro _ _ _ - ⟨r13, rfl, rfl, q14⟩
    show Go G B M_sw _ h [] 0 0 73 #[.val (.ref a), .val (.ref b), .val (.int (0 : Int32)), .val (.ref t1), .val (.ref t7), .val (.int (0 : Int32)), .val (.int [d].length.toInt32), .val (.int (0 : Int32))] [(.int r13)]
    refine go_ifge K (k := 42) rfl (pc' := 80) (by decide) (fun q15 => ?_) (fun q16 => ?_)
    · refine go_run K 45 1 (pc' := 81) (st' := [(.int (0 : Int32))]) rfl ?_
      refine go_ireturn K (k := 46) rfl rfl (by decide) rfl rfl rfl ?_
      intro Sf hSf
      refine ⟨0, rfl, rfl, Or.inr ⟨rfl, fun e => ?_⟩⟩
      rcases q14 with ⟨u1, -⟩ | ⟨-, u2⟩
      · rw [u1] at q15; exact absurd (by decide) q15
      · exact u2 (Option.some.inj e)
    · refine go_run K 43 2 (pc' := 81) (st' := [(.int (1 : Int32))]) rfl ?_
      refine go_ireturn K (k := 46) rfl rfl (by decide) rfl rfl rfl ?_
      intro Sf hSf
      refine ⟨1, rfl, rfl, Or.inl ⟨rfl, ?_⟩⟩
      rcases q14 with ⟨-, u2⟩ | ⟨u1, -⟩
      · exact congrArg some u2
      · rw [u1] at q16; exact absurd q16 (by decide)
def P_sw1 : List (Nat × Instr × Nat) := [(0, .aload_n 0, 1), (1, .aload_n 1, 1), (2, .iconst 0, 1), (3, .invokevirtual 624, 3), (6, .ireturn, 1)]
theorem L_sw1 : ∀ q ∈ P_sw1, decode jdk_42_method_76_code q.1 = .ok q.2 := by decide +kernel
def M_sw1 : Mt := (("java/lang/String", "startsWith", ({ frames := 3, cells := 0, slots := 0, locals := 46 } : Room)), P_sw1, 2, (some .boolean))
set_option maxRecDepth 65536 in
set_option maxHeartbeats 4000000 in
theorem c_sw1 {G : Gb} (H : Gl tables_1 els G) {h : Heap} {a b : Addr} {cs : List Int32} {d : Int32} (l1 : Lat cs) (l2 : ¬ d < 0 ∧ ¬ (255 : Int32) < d) (S1 : Str G h a cs) (S2 : Str G h b [d]) :
    Ctr G [] (⟨"java/lang/String", "startsWith", "(Ljava/lang/String;)Z"⟩ : MethodName) jdk_42_method_76_code 2 (some .boolean) ({ frames := 3, cells := 0, slots := 0, locals := 46 } : Room) #[.ref a, .ref b] h [] (fun v h' Sf => ∃ r : Int32, v = some (.int r) ∧ h = h' ∧ ((r = 1 ∧ cs.head? = some d) ∨ (r = 0 ∧ ¬ cs.head? = some d))) := by
  refine ctr_of M_sw1 rfl rfl (plainFor_of_name pn_1) L_sw1 H.el (Ls := #[.val (.ref a), .val (.ref b)]) (fun m => by first | rfl | (simp [entryFrame, mkF, argsToLocals, Value.category]; done)) ?_
  intro B K hE
  refine go_run K 0 3 (pc' := 3) (st' := [(.int (0 : Int32)), (.ref b), (.ref a)]) rfl ?_
  refine go_virt0 K (k := 3) rfl (H.w 36 rfl) (H.w 39 rfl) (H.w 38 rfl) (H.w 2 rfl) (H.w 40 rfl) (by decide) pd_16 S1.exa (c_sw H l1 l2 S1 S2) (argsL := [(.ref b), (.int (0 : Int32))]) (rest := []) rfl rfl rfl sub0 rfl ?_
  rintro _ _ _ - ⟨r1, rfl, rfl, q2⟩
  show Go G B M_sw1 _ h [] 0 0 6 #[.val (.ref a), .val (.ref b)] [(.int r1)]
  refine go_ireturn K (k := 4) rfl rfl (by decide) (bool_n (Or.elim q2 (fun u => Or.inr u.1) (fun u => Or.inl u.1))) rfl rfl ?_
  intro Sf hSf
  exact ⟨_, rfl, rfl, q2⟩
theorem pn_7 : plainName "com/example/crosswarden/crosswarden/config/HostNamesUnbracketedPinLaw" = true := by first | (simp [plainName, overriddenIn]; done) | decide +kernel
def P_make : List (Nat × Instr × Nat) := [(0, .iload_n 0, 1), (1, .newarray .char, 2), (3, .astore 5, 2), (5, .iload_n 0, 1), (6, .ifCond .le 8, 3), (9, .aload 5, 2), (11, .iconst 0, 1), (12, .iload_n 1, 1), (13, .castore, 1), (14, .iload_n 0, 1), (15, .iconst 1, 1), (16, .if_icmp .le 8, 3), (19, .aload 5, 2), (21, .iconst 1, 1), (22, .iload_n 2, 1), (23, .castore, 1), (24, .iload_n 0, 1), (25, .iconst 2, 1), (26, .if_icmp .le 8, 3), (29, .aload 5, 2), (31, .iconst 2, 1), (32, .iload_n 3, 1), (33, .castore, 1), (34, .iload_n 0, 1), (35, .iconst 3, 1), (36, .if_icmp .le 9, 3), (39, .aload 5, 2), (41, .iconst 3, 1), (42, .iload 4, 2), (44, .castore, 1), (45, .aload 5, 2), (47, .areturn, 1)]
theorem L_make : ∀ q ∈ P_make, decode method_2_code q.1 = .ok q.2 := by decide +kernel
def M_make : Mt := (("com/example/crosswarden/crosswarden/config/HostNamesUnbracketedPinLaw", "make", ({ frames := 0, cells := 1, slots := 4, locals := 0 } : Room)), P_make, 6, (some (.array .char)))
set_option maxRecDepth 65536 in
set_option maxHeartbeats 4000000 in
theorem c_make0 {G : Gb} (H : Gl tables_1 els G) {h : Heap} {c0 c1 c2 c3 : Int32}  :
    Ctr G [] (⟨"com/example/crosswarden/crosswarden/config/HostNamesUnbracketedPinLaw", "make", "(ICCCC)[C"⟩ : MethodName) method_2_code 6 (some (.array .char)) ({ frames := 0, cells := 1, slots := 4, locals := 0 } : Room) #[.int 0, .int c0, .int c1, .int c2, .int c3] h [] (fun v h' Sf => ∃ (a : Addr) (ka : ClassId), v = some (.ref a) ∧ Ext h h' ∧ Arv G.Z h' a ka .char (0 : Int32) (([] : List Int32).map Value.int) (.int 0) ∧ G.Z.heap.size ≤ a) := by
  refine ctr_of M_make rfl rfl (plainFor_of_name pn_7) L_make H.el (Ls := #[.val (.int (0 : Int32)), .val (.int c0), .val (.int c1), .val (.int c2), .val (.int c3), .unset]) (fun m => by first | rfl | (simp [entryFrame, mkF, argsToLocals, Value.category]; done)) ?_
  intro B K hE
  refine go_run K 0 1 (pc' := 1) (st' := [(.int (0 : Int32))]) rfl ?_
  refine go_newarray K (k := 1) rfl (H.w 7 rfl) (by decide) (cap := 0) (by decide) rfl rfl rfl ?_
  intro h2 a1 k3 e4 g5 E6 A7
  have A7' : Arv G.Z h2 a1 k3 .char (0 : Int32) [] (.int (0 : Int32)) := Arv.pad A7 (pad_rep [] (.int (0 : Int32)) 0)
  refine go_run K 2 2 (pc' := 6) (Ls' := #[.val (.int (0 : Int32)), .val (.int c0), .val (.int c1), .val (.int c2), .val (.int c3), .val (.ref a1)]) (st' := [(.int (0 : Int32))]) rfl ?_
  refine go_ifle K (k := 4) rfl (pc' := 14) (by decide) (fun _ => ?_) (fun q => absurd q (by decide))
  refine go_run K 9 2 (pc' := 16) (st' := [(.int (1 : Int32)), (.int (0 : Int32))]) rfl ?_
  refine go_icmple K (k := 11) rfl (pc' := 24) (by decide) (fun _ => ?_) (fun q => absurd q (by decide))
  refine go_run K 16 2 (pc' := 26) (st' := [(.int (2 : Int32)), (.int (0 : Int32))]) rfl ?_
  refine go_icmple K (k := 18) rfl (pc' := 34) (by decide) (fun _ => ?_) (fun q => absurd q (by decide))
  refine go_run K 23 2 (pc' := 36) (st' := [(.int (3 : Int32)), (.int (0 : Int32))]) rfl ?_
  refine go_icmple K (k := 25) rfl (pc' := 45) (by decide) (fun _ => ?_) (fun q => absurd q (by decide))
  refine go_run K 30 1 (pc' := 47) (st' := [(.ref a1)]) rfl ?_
  have B8 : Arv G.Z h2 a1 k3 .char (0 : Int32) (([] : List Int32).map Value.int) (.int 0) := by
    have u := A7'
    exact u
  refine go_areturn K (k := 31) rfl rfl rfl rfl rfl rfl rfl ?_
  intro Sf hSf
  exact ⟨_, _, rfl, E6, B8, g5⟩
set_option maxRecDepth 65536 in
set_option maxHeartbeats 4000000 in
theorem c_make1 {G : Gb} (H : Gl tables_1 els G) {h : Heap} {c0 c1 c2 c3 : Int32} (l0 : ¬ c0 < 0 ∧ ¬ (255 : Int32) < c0) :
    Ctr G [] (⟨"com/example/crosswarden/crosswarden/config/HostNamesUnbracketedPinLaw", "make", "(ICCCC)[C"⟩ : MethodName) method_2_code 6 (some (.array .char)) ({ frames := 0, cells := 1, slots := 4, locals := 0 } : Room) #[.int 1, .int c0, .int c1, .int c2, .int c3] h [] (fun v h' Sf => ∃ (a : Addr) (ka : ClassId), v = some (.ref a) ∧ Ext h h' ∧ Arv G.Z h' a ka .char (1 : Int32) (([c0] : List Int32).map Value.int) (.int 0) ∧ G.Z.heap.size ≤ a) := by
  refine ctr_of M_make rfl rfl (plainFor_of_name pn_7) L_make H.el (Ls := #[.val (.int (1 : Int32)), .val (.int c0), .val (.int c1), .val (.int c2), .val (.int c3), .unset]) (fun m => by first | rfl | (simp [entryFrame, mkF, argsToLocals, Value.category]; done)) ?_
  intro B K hE
  refine go_run K 0 1 (pc' := 1) (st' := [(.int (1 : Int32))]) rfl ?_
  refine go_newarray K (k := 1) rfl (H.w 7 rfl) (by decide) (cap := 1) (by decide) rfl rfl rfl ?_
  intro h2 a1 k3 e4 g5 E6 A7
  have A7' : Arv G.Z h2 a1 k3 .char (1 : Int32) [(.int (0 : Int32))] (.int (0 : Int32)) := Arv.pad A7 (pad_rep [] (.int (0 : Int32)) 1)
  refine go_run K 2 2 (pc' := 6) (Ls' := #[.val (.int (1 : Int32)), .val (.int c0), .val (.int c1), .val (.int c2), .val (.int c3), .val (.ref a1)]) (st' := [(.int (1 : Int32))]) rfl ?_
  refine go_ifle K (k := 4) rfl (pc' := 14) (by decide) (fun q => absurd (by decide) q) (fun _ => ?_)
  refine go_run K 5 3 (pc' := 13) (st' := [(.int c0), (.int (0 : Int32)), (.ref a1)]) rfl ?_
  refine go_castore K (k := 8) rfl A7' (i := 0) (by decide) rfl (Nat.le_of_ble_eq_true rfl) g5 ?_
  intro h8 W9 A10
  refine go_run K 9 2 (pc' := 16) (st' := [(.int (1 : Int32)), (.int (1 : Int32))]) rfl ?_
  refine go_icmple K (k := 11) rfl (pc' := 24) (by decide) (fun _ => ?_) (fun q => absurd q (by decide))
  refine go_run K 16 2 (pc' := 26) (st' := [(.int (2 : Int32)), (.int (1 : Int32))]) rfl ?_
  refine go_icmple K (k := 18) rfl (pc' := 34) (by decide) (fun _ => ?_) (fun q => absurd q (by decide))
  refine go_run K 23 2 (pc' := 36) (st' := [(.int (3 : Int32)), (.int (1 : Int32))]) rfl ?_
  refine go_icmple K (k := 25) rfl (pc' := 45) (by decide) (fun _ => ?_) (fun q => absurd q (by decide))
  refine go_run K 30 1 (pc' := 47) (st' := [(.ref a1)]) rfl ?_
  have B11 : Arv G.Z h8 a1 k3 .char (1 : Int32) (([c0] : List Int32).map Value.int) (.int 0) := by
    have u := A10
    rw [nar_id l0] at u
    exact u
  have X12 : Ext h h8 := (Ext.wrN E6 W9 (Nat.le_trans (Nat.le_refl _) (Nat.le_of_eq e4.symm)))
  refine go_areturn K (k := 31) rfl rfl rfl rfl rfl rfl rfl ?_
  intro Sf hSf
  exact ⟨_, _, rfl, X12, B11, g5⟩
set_option maxRecDepth 65536 in
set_option maxHeartbeats 4000000 in
theorem c_make2 {G : Gb} (H : Gl tables_1 els G) {h : Heap} {c0 c1 c2 c3 : Int32} (l0 : ¬ c0 < 0 ∧ ¬ (255 : Int32) < c0) (l1 : ¬ c1 < 0 ∧ ¬ (255 : Int32) < c1) :
    Ctr G [] (⟨"com/example/crosswarden/crosswarden/config/HostNamesUnbracketedPinLaw", "make", "(ICCCC)[C"⟩ : MethodName) method_2_code 6 (some (.array .char)) ({ frames := 0, cells := 1, slots := 4, locals := 0 } : Room) #[.int 2, .int c0, .int c1, .int c2, .int c3] h [] (fun v h' Sf => ∃ (a : Addr) (ka : ClassId), v = some (.ref a) ∧ Ext h h' ∧ Arv G.Z h' a ka .char (2 : Int32) (([c0, c1] : List Int32).map Value.int) (.int 0) ∧ G.Z.heap.size ≤ a) := by
  refine ctr_of M_make rfl rfl (plainFor_of_name pn_7) L_make H.el (Ls := #[.val (.int (2 : Int32)), .val (.int c0), .val (.int c1), .val (.int c2), .val (.int c3), .unset]) (fun m => by first | rfl | (simp [entryFrame, mkF, argsToLocals, Value.category]; done)) ?_
  intro B K hE
  refine go_run K 0 1 (pc' := 1) (st' := [(.int (2 : Int32))]) rfl ?_
  refine go_newarray K (k := 1) rfl (H.w 7 rfl) (by decide) (cap := 2) (by decide) rfl rfl rfl ?_
  intro h2 a1 k3 e4 g5 E6 A7
  have A7' : Arv G.Z h2 a1 k3 .char (2 : Int32) [(.int (0 : Int32)), (.int (0 : Int32))] (.int (0 : Int32)) := Arv.pad A7 (pad_rep [] (.int (0 : Int32)) 2)
  refine go_run K 2 2 (pc' := 6) (Ls' := #[.val (.int (2 : Int32)), .val (.int c0), .val (.int c1), .val (.int c2), .val (.int c3), .val (.ref a1)]) (st' := [(.int (2 : Int32))]) rfl ?_
  refine go_ifle K (k := 4) rfl (pc' := 14) (by decide) (fun q => absurd (by decide) q) (fun _ => ?_)
  refine go_run K 5 3 (pc' := 13) (st' := [(.int c0), (.int (0 : Int32)), (.ref a1)]) rfl ?_
  refine go_castore K (k := 8) rfl A7' (i := 0) (by decide) rfl (Nat.le_of_ble_eq_true rfl) g5 ?_
  intro h8 W9 A10
  refine go_run K 9 2 (pc' := 16) (st' := [(.int (1 : Int32)), (.int (2 : Int32))]) rfl ?_
  refine go_icmple K (k := 11) rfl (pc' := 24) (by decide) (fun q => absurd (by decide) q) (fun _ => ?_)
  refine go_run K 12 3 (pc' := 23) (st' := [(.int c1), (.int (1 : Int32)), (.ref a1)]) rfl ?_
  refine go_castore K (k := 15) rfl A10 (i := 1) (by decide) rfl (Nat.le_of_ble_eq_true rfl) g5 ?_
  intro h11 W12 A13
  refine go_run K 16 2 (pc' := 26) (st' := [(.int (2 : Int32)), (.int (2 : Int32))]) rfl ?_
  refine go_icmple K (k := 18) rfl (pc' := 34) (by decide) (fun _ => ?_) (fun q => absurd q (by decide))
  refine go_run K 23 2 (pc' := 36) (st' := [(.int (3 : Int32)), (.int (2 : Int32))]) rfl ?_
  refine go_icmple K (k := 25) rfl (pc' := 45) (by decide) (fun _ => ?_) (fun q => absurd q (by decide))
  refine go_run K 30 1 (pc' := 47) (st' := [(.ref a1)]) rfl ?_
  have B14 : Arv G.Z h11 a1 k3 .char (2 : Int32) (([c0, c1] : List Int32).map Value.int) (.int 0) := by
    have u := A13
    rw [nar_id l0, nar_id l1] at u
    exact u
  have X15 : Ext h h8 := (Ext.wrN E6 W9 (Nat.le_trans (Nat.le_refl _) (Nat.le_of_eq e4.symm)))
  have X16 : Ext h h11 := (Ext.wrN X15 W12 (Nat.le_trans (Nat.le_refl _) (Nat.le_of_eq e4.symm)))
  refine go_areturn K (k := 31) rfl rfl rfl rfl rfl rfl rfl ?_
  intro Sf hSf
  exact ⟨_, _, rfl, X16, B14, g5⟩
set_option maxRecDepth 65536 in
set_option maxHeartbeats 4000000 in
theorem c_make3 {G : Gb} (H : Gl tables_1 els G) {h : Heap} {c0 c1 c2 c3 : Int32} (l0 : ¬ c0 < 0 ∧ ¬ (255 : Int32) < c0) (l1 : ¬ c1 < 0 ∧ ¬ (255 : Int32) < c1) (l2 : ¬ c2 < 0 ∧ ¬ (255 : Int32) < c2) :
    Ctr G [] (⟨"com/example/crosswarden/crosswarden/config/HostNamesUnbracketedPinLaw", "make", "(ICCCC)[C"⟩ : MethodName) method_2_code 6 (some (.array .char)) ({ frames := 0, cells := 1, slots := 4, locals := 0 } : Room) #[.int 3, .int c0, .int c1, .int c2, .int c3] h [] (fun v h' Sf => ∃ (a : Addr) (ka : ClassId), v = some (.ref a) ∧ Ext h h' ∧ Arv G.Z h' a ka .char (3 : Int32) (([c0, c1, c2] : List Int32).map Value.int) (.int 0) ∧ G.Z.heap.size ≤ a) := by
  refine ctr_of M_make rfl rfl (plainFor_of_name pn_7) L_make H.el (Ls := #[.val (.int (3 : Int32)), .val (.int c0), .val (.int c1), .val (.int c2), .val (.int c3), .unset]) (fun m => by first | rfl | (simp [entryFrame, mkF, argsToLocals, Value.category]; done)) ?_
  intro B K hE
  refine go_run K 0 1 (pc' := 1) (st' := [(.int (3 : Int32))]) rfl ?_
  refine go_newarray K (k := 1) rfl (H.w 7 rfl) (by decide) (cap := 3) (by decide) rfl rfl rfl ?_
  intro h2 a1 k3 e4 g5 E6 A7
  have A7' : Arv G.Z h2 a1 k3 .char (3 : Int32) [(.int (0 : Int32)), (.int (0 : Int32)), (.int (0 : Int32))] (.int (0 : Int32)) := Arv.pad A7 (pad_rep [] (.int (0 : Int32)) 3)
  refine go_run K 2 2 (pc' := 6) (Ls' := #[.val (.int (3 : Int32)), .val (.int c0), .val (.int c1), .val (.int c2), .val (.int c3), .val (.ref a1)]) (st' := [(.int (3 : Int32))]) rfl ?_
  refine go_ifle K (k := 4) rfl (pc' := 14) (by decide) (fun q => absurd (by decide) q) (fun _ => ?_)
  refine go_run K 5 3 (pc' := 13) (st' := [(.int c0), (.int (0 : Int32)), (.ref a1)]) rfl ?_
  refine go_castore K (k := 8) rfl A7' (i := 0) (by decide) rfl (Nat.le_of_ble_eq_true rfl) g5 ?_
  intro h8 W9 A10
  refine go_run K 9 2 (pc' := 16) (st' := [(.int (1 : Int32)), (.int (3 : Int32))]) rfl ?_
  refine go_icmple K (k := 11) rfl (pc' := 24) (by decide) (fun q => absurd (by decide) q) (fun _ => ?_)
  refine go_run K 12 3 (pc' := 23) (st' := [(.int c1), (.int (1 : Int32)), (.ref a1)]) rfl ?_
  refine go_castore K (k := 15) rfl A10 (i := 1) (by decide) rfl (Nat.le_of_ble_eq_true rfl) g5 ?_
  intro h11 W12 A13
  refine go_run K 16 2 (pc' := 26) (st' := [(.int (2 : Int32)), (.int (3 : Int32))]) rfl ?_
  refine go_icmple K (k := 18) rfl (pc' := 34) (by decide) (fun q => absurd (by decide) q) (fun _ => ?_)
  refine go_run K 19 3 (pc' := 33) (st' := [(.int c2), (.int (2 : Int32)), (.ref a1)]) rfl ?_
  refine go_castore K (k := 22) rfl A13 (i := 2) (by decide) rfl (Nat.le_of_ble_eq_true rfl) g5 ?_
  intro h14 W15 A16
  refine go_run K 23 2 (pc' := 36) (st' := [(.int (3 : Int32)), (.int (3 : Int32))]) rfl ?_
  refine go_icmple K (k := 25) rfl (pc' := 45) (by decide) (fun _ => ?_) (fun q => absurd q (by decide))
  refine go_run K 30 1 (pc' := 47) (st' := [(.ref a1)]) rfl ?_
  have B17 : Arv G.Z h14 a1 k3 .char (3 : Int32) (([c0, c1, c2] : List Int32).map Value.int) (.int 0) := by
    have u := A16
    rw [nar_id l0, nar_id l1, nar_id l2] at u
    exact u
  have X18 : Ext h h8 := (Ext.wrN E6 W9 (Nat.le_trans (Nat.le_refl _) (Nat.le_of_eq e4.symm)))
  have X19 : Ext h h11 := (Ext.wrN X18 W12 (Nat.le_trans (Nat.le_refl _) (Nat.le_of_eq e4.symm)))
  have X20 : Ext h h14 := (Ext.wrN X19 W15 (Nat.le_trans (Nat.le_refl _) (Nat.le_of_eq e4.symm)))
  refine go_areturn K (k := 31) rfl rfl rfl rfl rfl rfl rfl ?_
  intro Sf hSf
  exact ⟨_, _, rfl, X20, B17, g5⟩
set_option maxRecDepth 65536 in
set_option maxHeartbeats 4000000 in
theorem c_make4 {G : Gb} (H : Gl tables_1 els G) {h : Heap} {c0 c1 c2 c3 : Int32} (l0 : ¬ c0 < 0 ∧ ¬ (255 : Int32) < c0) (l1 : ¬ c1 < 0 ∧ ¬ (255 : Int32) < c1) (l2 : ¬ c2 < 0 ∧ ¬ (255 : Int32) < c2) (l3 : ¬ c3 < 0 ∧ ¬ (255 : Int32) < c3) :
    Ctr G [] (⟨"com/example/crosswarden/crosswarden/config/HostNamesUnbracketedPinLaw", "make", "(ICCCC)[C"⟩ : MethodName) method_2_code 6 (some (.array .char)) ({ frames := 0, cells := 1, slots := 4, locals := 0 } : Room) #[.int 4, .int c0, .int c1, .int c2, .int c3] h [] (fun v h' Sf => ∃ (a : Addr) (ka : ClassId), v = some (.ref a) ∧ Ext h h' ∧ Arv G.Z h' a ka .char (4 : Int32) (([c0, c1, c2, c3] : List Int32).map Value.int) (.int 0) ∧ G.Z.heap.size ≤ a) := by
  refine ctr_of M_make rfl rfl (plainFor_of_name pn_7) L_make H.el (Ls := #[.val (.int (4 : Int32)), .val (.int c0), .val (.int c1), .val (.int c2), .val (.int c3), .unset]) (fun m => by first | rfl | (simp [entryFrame, mkF, argsToLocals, Value.category]; done)) ?_
  intro B K hE
  refine go_run K 0 1 (pc' := 1) (st' := [(.int (4 : Int32))]) rfl ?_
  refine go_newarray K (k := 1) rfl (H.w 7 rfl) (by decide) (cap := 4) (by decide) rfl rfl rfl ?_
  intro h2 a1 k3 e4 g5 E6 A7
  have A7' : Arv G.Z h2 a1 k3 .char (4 : Int32) [(.int (0 : Int32)), (.int (0 : Int32)), (.int (0 : Int32)), (.int (0 : Int32))] (.int (0 : Int32)) := Arv.pad A7 (pad_rep [] (.int (0 : Int32)) 4)
  refine go_run K 2 2 (pc' := 6) (Ls' := #[.val (.int (4 : Int32)), .val (.int c0), .val (.int c1), .val (.int c2), .val (.int c3), .val (.ref a1)]) (st' := [(.int (4 : Int32))]) rfl ?_
  refine go_ifle K (k := 4) rfl (pc' := 14) (by decide) (fun q => absurd (by decide) q) (fun _ => ?_)
  refine go_run K 5 3 (pc' := 13) (st' := [(.int c0), (.int (0 : Int32)), (.ref a1)]) rfl ?_
  refine go_castore K (k := 8) rfl A7' (i := 0) (by decide) rfl (Nat.le_of_ble_eq_true rfl) g5 ?_
  intro h8 W9 A10
  refine go_run K 9 2 (pc' := 16) (st' := [(.int (1 : Int32)), (.int (4 : Int32))]) rfl ?_
  refine go_icmple K (k := 11) rfl (pc' := 24) (by decide) (fun q => absurd (by decide) q) (fun _ => ?_)
  refine go_run K 12 3 (pc' := 23) (st' := [(.int c1), (.int (1 : Int32)), (.ref a1)]) rfl ?_
  refine go_castore K (k := 15) rfl A10 (i := 1) (by decide) rfl (Nat.le_of_ble_eq_true rfl) g5 ?_
  intro h11 W12 A13
  refine go_run K 16 2 (pc' := 26) (st' := [(.int (2 : Int32)), (.int (4 : Int32))]) rfl ?_
  refine go_icmple K (k := 18) rfl (pc' := 34) (by decide) (fun q => absurd (by decide) q) (fun _ => ?_)
  refine go_run K 19 3 (pc' := 33) (st' := [(.int c2), (.int (2 : Int32)), (.ref a1)]) rfl ?_
  refine go_castore K (k := 22) rfl A13 (i := 2) (by decide) rfl (Nat.le_of_ble_eq_true rfl) g5 ?_
  intro h14 W15 A16
  refine go_run K 23 2 (pc' := 36) (st' := [(.int (3 : Int32)), (.int (4 : Int32))]) rfl ?_
  refine go_icmple K (k := 25) rfl (pc' := 45) (by decide) (fun q => absurd (by decide) q) (fun _ => ?_)
  refine go_run K 26 3 (pc' := 44) (st' := [(.int c3), (.int (3 : Int32)), (.ref a1)]) rfl ?_
  refine go_castore K (k := 29) rfl A16 (i := 3) (by decide) rfl (Nat.le_of_ble_eq_true rfl) g5 ?_
  intro h17 W18 A19
  refine go_run K 30 1 (pc' := 47) (st' := [(.ref a1)]) rfl ?_
  have B20 : Arv G.Z h17 a1 k3 .char (4 : Int32) (([c0, c1, c2, c3] : List Int32).map Value.int) (.int 0) := by
    have u := A19
    rw [nar_id l0, nar_id l1, nar_id l2, nar_id l3] at u
    exact u
  have X21 : Ext h h8 := (Ext.wrN E6 W9 (Nat.le_trans (Nat.le_refl _) (Nat.le_of_eq e4.symm)))
  have X22 : Ext h h11 := (Ext.wrN X21 W12 (Nat.le_trans (Nat.le_refl _) (Nat.le_of_eq e4.symm)))
  have X23 : Ext h h14 := (Ext.wrN X22 W15 (Nat.le_trans (Nat.le_refl _) (Nat.le_of_eq e4.symm)))
  have X24 : Ext h h17 := (Ext.wrN X23 W18 (Nat.le_trans (Nat.le_refl _) (Nat.le_of_eq e4.symm)))
  refine go_areturn K (k := 31) rfl rfl rfl rfl rfl rfl rfl ?_
  intro Sf hSf
  exact ⟨_, _, rfl, X24, B20, g5⟩
theorem pn_8 : plainName "com/example/crosswarden/crosswarden/config/HostNames" = true := by first | (simp [plainName, overriddenIn]; done) | decide +kernel
def P_unb : List (Nat × Instr × Nat) := [(0, .aload_n 0, 1), (1, .ldc 19, 2), (3, .invokevirtual 21, 3), (6, .ifCond .eq 17, 3), (9, .aload_n 0, 1), (10, .iconst 1, 1), (11, .aload_n 0, 1), (12, .invokevirtual 25, 3), (15, .iconst 1, 1), (16, .isub, 1), (17, .invokevirtual 29, 3), (20, .goto 4, 3), (23, .aload_n 0, 1), (24, .areturn, 1)]
theorem L_unb : ∀ q ∈ P_unb, decode prog_3_method_3_code q.1 = .ok q.2 := by decide +kernel
def M_unb : Mt := (("com/example/crosswarden/crosswarden/config/HostNames", "unbracketed", ({ frames := 5, cells := 4, slots := 17, locals := 80 } : Room)), P_unb, 1, (some (.object "java/lang/String")))
set_option maxRecDepth 65536 in
set_option maxHeartbeats 4000000 in
theorem c_unb {G : Gb} (H : Gl tables_1 els G) {h : Heap} {a : Addr} {ds : List Int32} (l1 : Lat (91 :: ds)) (h2 : 1 ≤ ds.length) (h6 : ds.length ≤ 6) (hF : ∃ vf : Value, Sta G.Z G.Z.heap "jdk/internal/util/Preconditions" "SIOOBE_FORMATTER" "Ljava/util/function/BiFunction;" vf ∧ vf.isRef = true) (S1 : Str G h a (91 :: ds)) :
    Ctr G [] (⟨"com/example/crosswarden/crosswarden/config/HostNames", "unbracketed", "(Ljava/lang/String;)Ljava/lang/String;"⟩ : MethodName) prog_3_method_3_code 1 (some (.object "java/lang/String")) ({ frames := 5, cells := 4, slots := 17, locals := 80 } : Room) #[.ref a] h [] (fun v h' Sf => ∃ s : Addr, v = some (.ref s) ∧ Ext h h' ∧ Str G h' s (((91 :: ds).drop 1).take ((91 :: ds).length - 1 - 1))) := by
  refine ctr_of M_unb rfl rfl (plainFor_of_name pn_8) L_unb H.el (Ls := #[.val (.ref a)]) (fun m => by first | rfl | (simp [entryFrame, mkF, argsToLocals, Value.category]; done)) ?_
  intro B K hE
  have hlt := lat_lt l1
  refine go_run K 0 1 (pc' := 1) (st' := [(.ref a)]) rfl ?_
  refine go_ldcT K (k := 1) rfl (H.w 30 rfl) H.ws (H.mem (by decide)) (cs := [(91 : Int32)]) (by decide) (by decide) (n := 4) rfl rfl rfl rfl ?_
  intro h2 a1 E3 S4
  have c5 := (S1.ext E3)
  refine go_virt0 K (k := 2) rfl (H.w 31 rfl) (H.w 34 rfl) (H.w 33 rfl) (H.w 2 rfl) (H.w 35 rfl) (by decide) pd_17 c5.exa (c_sw1 H l1 (by decide) c5 S4) (argsL := [(.ref a1)]) (rest := []) rfl rfl rfl sub0 rfl ?_
  rintro _ _ _ - ⟨r6, rfl, rfl, q7⟩
  show Go G B M_unb _ h2 [] 2 8 6 #[.val (.ref a)] [(.int r6)]
  refine go_ifeq K (k := 3) rfl (pc' := 23) (by decide) (fun q8 => ?_) (fun q9 => ?_)
  · exfalso
    rcases q7 with ⟨u1, -⟩ | ⟨-, u2⟩
    · rw [u1] at q8; exact absurd q8 (by decide)
    · exact u2 rfl
  · refine go_run K 4 3 (pc' := 12) (st' := [(.ref a), (.int (1 : Int32)), (.ref a)]) rfl ?_
    refine go_virt0 K (k := 7) rfl (H.w 76 rfl) (H.w 44 rfl) (H.w 43 rfl) (H.w 2 rfl) (H.w 45 rfl) (by decide) pd_11 c5.exa (c_len H c5) (argsL := []) (rest := [(.int (1 : Int32)), (.ref a)]) rfl rfl rfl sub0 rfl ?_
    rintro _ _ _ - ⟨rfl, rfl⟩
    show Go G B M_unb _ h2 [] 2 8 15 #[.val (.ref a)] [(.int ((91 :: ds)).length.toInt32), (.int (1 : Int32)), (.ref a)]
    refine go_run K 8 2 (pc' := 17) (st' := [(.int (((91 :: ds)).length.toInt32 - (1 : Int32))), (.int (1 : Int32)), (.ref a)]) rfl ?_
    rw [show (91 :: ds).length.toInt32 - (1 : Int32) = ((91 :: ds).length - 1).toInt32 from sub_len (k := 1) (Nat.succ_le_succ (Nat.zero_le _))]
    refine go_virt0 K (k := 10) rfl (H.w 77 rfl) (H.w 80 rfl) (H.w 79 rfl) (H.w 2 rfl) (H.w 81 rfl) (by decide) pd_18 c5.exa (c_sub (i := 1) (j := ((91 :: ds).length - 1)) H l1 (Nat.le_sub_of_add_le (by simp only [List.length_cons]; omega)) (Nat.sub_le _ _) (by simp only [List.length_cons]; omega) hF c5) (argsL := [(.int (1 : Int32)), (.int ((91 :: ds).length - 1).toInt32)]) (rest := []) rfl rfl rfl sub0 rfl ?_
    rintro _ h10 _ - ⟨a11, rfl, E12, S13⟩
    show Go G B M_unb _ h10 [] 4 17 20 #[.val (.ref a)] [(.ref a11)]
    refine go_run K 11 1 (pc' := 24) (st' := [(.ref a11)]) rfl ?_
    have X14 : Ext h h10 := (Ext.tr E3 E12)
    refine go_areturn K (k := 13) rfl rfl rfl rfl rfl rfl rfl ?_
    intro Sf hSf
    exact ⟨_, rfl, X14, S13⟩
set_option maxRecDepth 65536 in
set_option maxHeartbeats 4000000 in
theorem c_unbN {G : Gb} (H : Gl tables_1 els G) {h : Heap} {a : Addr} {cs : List Int32} (l1 : Lat cs) (hne : ¬ cs.head? = some 91) (S1 : Str G h a cs) :
    Ctr G [] (⟨"com/example/crosswarden/crosswarden/config/HostNames", "unbracketed", "(Ljava/lang/String;)Ljava/lang/String;"⟩ : MethodName) prog_3_method_3_code 1 (some (.object "java/lang/String")) ({ frames := 5, cells := 4, slots := 17, locals := 80 } : Room) #[.ref a] h [] (fun v h' Sf => v = some (.ref a) ∧ Ext h h') := by
  refine ctr_of M_unb rfl rfl (plainFor_of_name pn_8) L_unb H.el (Ls := #[.val (.ref a)]) (fun m => by first | rfl | (simp [entryFrame, mkF, argsToLocals, Value.category]; done)) ?_
  intro B K hE
  refine go_run K 0 1 (pc' := 1) (st' := [(.ref a)]) rfl ?_
  refine go_ldcT K (k := 1) rfl (H.w 30 rfl) H.ws (H.mem (by decide)) (cs := [(91 : Int32)]) (by decide) (by decide) (n := 4) rfl rfl rfl rfl ?_
  intro h2 a1 E3 S4
  have c5 := (S1.ext E3)
  refine go_virt0 K (k := 2) rfl (H.w 31 rfl) (H.w 34 rfl) (H.w 33 rfl) (H.w 2 rfl) (H.w 35 rfl) (by decide) pd_17 c5.exa (c_sw1 H l1 (by decide) c5 S4) (argsL := [(.ref a1)]) (rest := []) rfl rfl rfl sub0 rfl ?_
  rintro _ _ _ - ⟨r6, rfl, rfl, q7⟩
  show Go G B M_unb _ h2 [] 2 8 6 #[.val (.ref a)] [(.int r6)]
  refine go_ifeq K (k := 3) rfl (pc' := 23) (by decide) (fun q8 => ?_) (fun q9 => ?_)
  · refine go_run K 12 1 (pc' := 24) (st' := [(.ref a)]) rfl ?_
    refine go_areturn K (k := 13) rfl rfl rfl rfl rfl rfl rfl ?_
    intro Sf hSf
    exact ⟨rfl, E3⟩
  · exfalso
    rcases q7 with ⟨-, u2⟩ | ⟨u1, -⟩
    · exact hne u2
    · exact q9 u1
def P_law : List (Nat × Instr × Nat) := [(0, .iload_n 1, 1), (1, .sipush 255, 3), (4, .iand, 1), (5, .i2c, 1), (6, .istore 5, 2), (8, .iload_n 2, 1), (9, .sipush 255, 3), (12, .iand, 1), (13, .i2c, 1), (14, .istore 6, 2), (16, .iload_n 3, 1), (17, .sipush 255, 3), (20, .iand, 1), (21, .i2c, 1), (22, .istore 7, 2), (24, .iload 4, 2), (26, .sipush 255, 3), (29, .iand, 1), (30, .i2c, 1), (31, .istore 8, 2), (33, .iload_n 0, 1), (34, .iconst 1, 1), (35, .iand, 1), (36, .ifCond .eq 7, 3), (39, .iconst 1, 1), (40, .goto 4, 3), (43, .iconst 0, 1), (44, .istore 9, 2), (46, .iload 9, 2), (48, .ifCond .eq 116, 3), (51, .iload_n 0, 1), (52, .iconst 1, 1), (53, .iushr, 1), (54, .iconst 4, 1), (55, .irem, 1), (56, .istore 10, 2), (58, .iload 10, 2), (60, .iconst 2, 1), (61, .iadd, 1), (62, .newarray .char, 2), (64, .astore 11, 2), (66, .aload 11, 2), (68, .iconst 0, 1), (69, .bipush 91, 2), (71, .castore, 1), (72, .iload 10, 2), (74, .ifCond .le 9, 3), (77, .aload 11, 2), (79, .iconst 1, 1), (80, .iload 5, 2), (82, .castore, 1), (83, .iload 10, 2), (85, .iconst 1, 1), (86, .if_icmp .le 9, 3), (89, .aload 11, 2), (91, .iconst 2, 1), (92, .iload 6, 2), (94, .castore, 1), (95, .iload 10, 2), (97, .iconst 2, 1), (98, .if_icmp .le 9, 3), (101, .aload 11, 2), (103, .iconst 3, 1), (104, .iload 7, 2), (106, .castore, 1), (107, .aload 11, 2), (109, .iload 10, 2), (111, .iconst 1, 1), (112, .iadd, 1), (113, .bipush 93, 2), (115, .castore, 1), (116, .new 7, 3), (119, .dup, 1), (120, .aload 11, 2), (122, .invokespecial 9, 3), (125, .astore 12, 2), (127, .new 7, 3), (130, .dup, 1), (131, .iload 10, 2), (133, .iload 5, 2), (135, .iload 6, 2), (137, .iload 7, 2), (139, .iload 8, 2), (141, .invokestatic 12, 3), (144, .invokespecial 9, 3), (147, .astore 13, 2), (149, .aload 12, 2), (151, .invokestatic 18, 3), (154, .astore 14, 2), (156, .aload 14, 2), (158, .aload 13, 2), (160, .invokevirtual 24, 3), (163, .ireturn, 1), (164, .iload_n 0, 1), (165, .iconst 1, 1), (166, .iushr, 1), (167, .iconst 5, 1), (168, .irem, 1), (169, .istore 10, 2), (171, .iload 10, 2), (173, .iconst 1, 1), (174, .if_icmp .lt 12, 3), (177, .iload 5, 2), (179, .bipush 91, 2), (181, .if_icmp .ne 5, 3), (184, .iconst 1, 1), (185, .ireturn, 1), (186, .new 7, 3), (189, .dup, 1), (190, .iload 10, 2), (192, .iload 5, 2), (194, .iload 6, 2), (196, .iload 7, 2), (198, .iload 8, 2), (200, .invokestatic 12, 3), (203, .invokespecial 9, 3), (206, .astore 11, 2), (208, .new 7, 3), (211, .dup, 1), (212, .iload 10, 2), (214, .iload 5, 2), (216, .iload 6, 2), (218, .iload 7, 2), (220, .iload 8, 2), (222, .invokestatic 12, 3), (225, .invokespecial 9, 3), (228, .astore 12, 2), (230, .aload 11, 2), (232, .invokestatic 18, 3), (235, .astore 13, 2), (237, .aload 13, 2), (239, .aload 12, 2), (241, .invokevirtual 24, 3), (244, .ireturn, 1)]
theorem L_law : ∀ q ∈ P_law, decode code q.1 = .ok q.2 := by decide +kernel
def M_law : Mt := (("com/example/crosswarden/crosswarden/config/HostNamesUnbracketedPinLaw", "law", room_1), P_law, 15, (some .boolean))
set_option maxRecDepth 65536 in
set_option maxHeartbeats 4000000 in
theorem law_ok {G : Gb} (H : Gl tables_1 els G) {h : Heap} {p0 p1 p2 p3 p4 : Int32} (hF : ∃ vf : Value, Sta G.Z G.Z.heap "jdk/internal/util/Preconditions" "SIOOBE_FORMATTER" "Ljava/util/function/BiFunction;" vf ∧ vf.isRef = true) :
    Ctr G tables_1 x code maxLocals ret room_1 #[.int p0, .int p1, .int p2, .int p3, .int p4] h [] (fun v h' Sf => v = some (.int 1)) := by
  refine ctr_of M_law rfl rfl (plainFor_of_name pn_7) L_law H.el (Ls := #[.val (.int p0), .val (.int p1), .val (.int p2), .val (.int p3), .val (.int p4), .unset, .unset, .unset, .unset, .unset, .unset, .unset, .unset, .unset, .unset]) (fun m => by first | rfl | (simp [entryFrame, mkF, argsToLocals, Value.category]; done)) ?_
  intro B K hE
  refine go_run K 0 23 (pc' := 36) (Ls' := #[.val (.int p0), .val (.int p1), .val (.int p2), .val (.int p3), .val (.int p4), .val (.int ((p1 &&& (255 : Int32))).toUInt32.toUInt16.toUInt32.toInt32), .val (.int ((p2 &&& (255 : Int32))).toUInt32.toUInt16.toUInt32.toInt32), .val (.int ((p3 &&& (255 : Int32))).toUInt32.toUInt16.toUInt32.toInt32), .val (.int ((p4 &&& (255 : Int32))).toUInt32.toUInt16.toUInt32.toInt32), .unset, .unset, .unset, .unset, .unset, .unset]) (st' := [(.int (p0 &&& (1 : Int32)))]) rfl ?_
  rw [i2c_mask p1, i2c_mask p2, i2c_mask p3, i2c_mask p4]
  refine go_ifeq K (k := 23) rfl (pc' := 43) (by decide) (fun q1 => ?_) (fun q2 => ?_)
  · refine go_run K 26 3 (pc' := 48) (Ls' := #[.val (.int p0), .val (.int p1), .val (.int p2), .val (.int p3), .val (.int p4), .val (.int (p1 &&& (255 : Int32))), .val (.int (p2 &&& (255 : Int32))), .val (.int (p3 &&& (255 : Int32))), .val (.int (p4 &&& (255 : Int32))), .val (.int (0 : Int32)), .unset, .unset, .unset, .unset, .unset]) (st' := [(.int (0 : Int32))]) rfl ?_
    refine go_ifeq K (k := 29) rfl (pc' := 164) (by decide) (fun _ => ?_) (fun q => absurd rfl q)
    refine go_run K 93 4 (pc' := 168) (st' := [(.int (5 : Int32)), (.int (XT.ushr p0 (1 : Int32)))]) rfl ?_
    refine go_irem K (k := 97) rfl (by decide) ?_
    obtain hn | hn | hn | hn | hn := rem5 p0
    · rw [hn]
      refine go_run K 98 3 (pc' := 174) (Ls' := #[.val (.int p0), .val (.int p1), .val (.int p2), .val (.int p3), .val (.int p4), .val (.int (p1 &&& (255 : Int32))), .val (.int (p2 &&& (255 : Int32))), .val (.int (p3 &&& (255 : Int32))), .val (.int (p4 &&& (255 : Int32))), .val (.int (0 : Int32)), .val (.int (0 : Int32)), .unset, .unset, .unset, .unset]) (st' := [(.int (1 : Int32)), (.int (0 : Int32))]) rfl ?_
      refine go_icmplt K (k := 101) rfl (pc' := 186) (by decide) (fun _ => ?_) (fun q => absurd (by decide) q)
      refine go_new K (k := 107) rfl (H.w 0 rfl) (H.w 1 rfl) (H.w 2 rfl) rfl rfl ?_
      intro h254 a253 e255 g256 E257 A258 D259
      have F260 : Fld G.Z h254 a253 "java/lang/String" "value" "[B" .null := D259 (Or.inr (H.w 20 rfl)) (ty := (.array .byte)) (by decide)
      have F261 : Fld G.Z h254 a253 "java/lang/String" "coder" "B" (.int (0 : Int32)) := D259 (Or.inr (H.w 21 rfl)) (ty := .byte) (by decide)
      refine go_run K 108 6 (pc' := 200) (st' := [(.int (p4 &&& (255 : Int32))), (.int (p3 &&& (255 : Int32))), (.int (p2 &&& (255 : Int32))), (.int (p1 &&& (255 : Int32))), (.int (0 : Int32)), (.ref a253), (.ref a253)]) rfl ?_
      refine go_static K (k := 114) rfl (H.w 3 rfl) (H.w 4 rfl) (H.w 5 rfl) (H.w 6 rfl) (by decide) pd_20 (c_make0 (c0 := (p1 &&& (255 : Int32))) (c1 := (p2 &&& (255 : Int32))) (c2 := (p3 &&& (255 : Int32))) (c3 := (p4 &&& (255 : Int32))) H ) (argsL := [(.int (0 : Int32)), (.int (p1 &&& (255 : Int32))), (.int (p2 &&& (255 : Int32))), (.int (p3 &&& (255 : Int32))), (.int (p4 &&& (255 : Int32)))]) (rest := [(.ref a253), (.ref a253)]) rfl rfl rfl sub0 rfl ?_
      rintro _ h262 _ - ⟨a263, k264, rfl, E265, A266, g267⟩
      show Go G B M_law _ h262 (a253 :: []) 2 8 203 #[.val (.int p0), .val (.int p1), .val (.int p2), .val (.int p3), .val (.int p4), .val (.int (p1 &&& (255 : Int32))), .val (.int (p2 &&& (255 : Int32))), .val (.int (p3 &&& (255 : Int32))), .val (.int (p4 &&& (255 : Int32))), .val (.int (0 : Int32)), .val (.int (0 : Int32)), .unset, .unset, .unset, .unset] [(.ref a263), (.ref a253), (.ref a253)]
      have c268 := (A258.ext E265)
      have c269 := (F260.ext E265)
      have c270 := (F261.ext E265)
      refine go_special K (k := 115) rfl rfl (H.w 8 rfl) (H.w 9 rfl) (H.w 2 rfl) (H.w 10 rfl) (by decide) pd_19 (c_si (cs := []) H lat0 (Nat.le_of_ble_eq_true rfl) c268 c269 c270 g256 A266) (argsL := [(.ref a263)]) (rest := [(.ref a253)]) rfl rfl rfl (subS (List.mem_cons_self ..) sub0) rfl ?_
      rintro _ h271 _ - ⟨rfl, K272, S273⟩
      show Go G B M_law _ h271 (a253 :: []) 6 16 206 #[.val (.int p0), .val (.int p1), .val (.int p2), .val (.int p3), .val (.int p4), .val (.int (p1 &&& (255 : Int32))), .val (.int (p2 &&& (255 : Int32))), .val (.int (p3 &&& (255 : Int32))), .val (.int (p4 &&& (255 : Int32))), .val (.int (0 : Int32)), .val (.int (0 : Int32)), .unset, .unset, .unset, .unset] [(.ref a253)]
      refine go_run K 116 1 (pc' := 208) (Ls' := #[.val (.int p0), .val (.int p1), .val (.int p2), .val (.int p3), .val (.int p4), .val (.int (p1 &&& (255 : Int32))), .val (.int (p2 &&& (255 : Int32))), .val (.int (p3 &&& (255 : Int32))), .val (.int (p4 &&& (255 : Int32))), .val (.int (0 : Int32)), .val (.int (0 : Int32)), .val (.ref a253), .unset, .unset, .unset]) (st' := []) rfl ?_
      refine go_new K (k := 117) rfl (H.w 0 rfl) (H.w 1 rfl) (H.w 2 rfl) rfl rfl ?_
      intro h275 a274 e276 g277 E278 A279 D280
      have F281 : Fld G.Z h275 a274 "java/lang/String" "value" "[B" .null := D280 (Or.inr (H.w 20 rfl)) (ty := (.array .byte)) (by decide)
      have F282 : Fld G.Z h275 a274 "java/lang/String" "coder" "B" (.int (0 : Int32)) := D280 (Or.inr (H.w 21 rfl)) (ty := .byte) (by decide)
      refine go_run K 118 6 (pc' := 222) (st' := [(.int (p4 &&& (255 : Int32))), (.int (p3 &&& (255 : Int32))), (.int (p2 &&& (255 : Int32))), (.int (p1 &&& (255 : Int32))), (.int (0 : Int32)), (.ref a274), (.ref a274)]) rfl ?_
      refine go_static K (k := 124) rfl (H.w 3 rfl) (H.w 4 rfl) (H.w 5 rfl) (H.w 6 rfl) (by decide) pd_20 (c_make0 (c0 := (p1 &&& (255 : Int32))) (c1 := (p2 &&& (255 : Int32))) (c2 := (p3 &&& (255 : Int32))) (c3 := (p4 &&& (255 : Int32))) H ) (argsL := [(.int (0 : Int32)), (.int (p1 &&& (255 : Int32))), (.int (p2 &&& (255 : Int32))), (.int (p3 &&& (255 : Int32))), (.int (p4 &&& (255 : Int32)))]) (rest := [(.ref a274), (.ref a274)]) rfl rfl rfl sub0 rfl ?_
      rintro _ h283 _ - ⟨a284, k285, rfl, E286, A287, g288⟩
      show Go G B M_law _ h283 (a274 :: (a253 :: [])) 8 24 225 #[.val (.int p0), .val (.int p1), .val (.int p2), .val (.int p3), .val (.int p4), .val (.int (p1 &&& (255 : Int32))), .val (.int (p2 &&& (255 : Int32))), .val (.int (p3 &&& (255 : Int32))), .val (.int (p4 &&& (255 : Int32))), .val (.int (0 : Int32)), .val (.int (0 : Int32)), .val (.ref a253), .unset, .unset, .unset] [(.ref a284), (.ref a274), (.ref a274)]
      have c289 := (A279.ext E286)
      have c290 := (F281.ext E286)
      have c291 := (F282.ext E286)
      refine go_special K (k := 125) rfl rfl (H.w 8 rfl) (H.w 9 rfl) (H.w 2 rfl) (H.w 10 rfl) (by decide) pd_19 (c_si (cs := []) H lat0 (Nat.le_of_ble_eq_true rfl) c289 c290 c291 g277 A287) (argsL := [(.ref a284)]) (rest := [(.ref a274)]) rfl rfl rfl (subS (List.mem_cons_self ..) sub0) rfl ?_
      rintro _ h292 _ - ⟨rfl, K293, S294⟩
      show Go G B M_law _ h292 (a274 :: (a253 :: [])) 12 32 228 #[.val (.int p0), .val (.int p1), .val (.int p2), .val (.int p3), .val (.int p4), .val (.int (p1 &&& (255 : Int32))), .val (.int (p2 &&& (255 : Int32))), .val (.int (p3 &&& (255 : Int32))), .val (.int (p4 &&& (255 : Int32))), .val (.int (0 : Int32)), .val (.int (0 : Int32)), .val (.ref a253), .unset, .unset, .unset] [(.ref a274)]
      refine go_run K 126 2 (pc' := 232) (Ls' := #[.val (.int p0), .val (.int p1), .val (.int p2), .val (.int p3), .val (.int p4), .val (.int (p1 &&& (255 : Int32))), .val (.int (p2 &&& (255 : Int32))), .val (.int (p3 &&& (255 : Int32))), .val (.int (p4 &&& (255 : Int32))), .val (.int (0 : Int32)), .val (.int (0 : Int32)), .val (.ref a253), .val (.ref a274), .unset, .unset]) (st' := [(.ref a253)]) rfl ?_
      have X295 : Ext h271 h283 := (Ext.tr E278 E286)
      have X296 : Ext h271 h292 := (Ext.keepN X295 K293 (allS (Nat.le_trans (Nat.le_refl _) (Nat.le_of_eq e276.symm)) all0))
      have c297 := (S273.ext X296)
      refine go_static K (k := 128) rfl (H.w 26 rfl) (H.w 27 rfl) (H.w 28 rfl) (H.w 29 rfl) (by decide) pd_21 (c_unbN H lat0 (fun e => nomatch e) c297) (argsL := [(.ref a253)]) (rest := []) rfl rfl rfl sub0 rfl ?_
      rintro _ h298 _ - ⟨rfl, E299⟩
      show Go G B M_law _ h298 (a274 :: (a253 :: [])) 16 49 235 #[.val (.int p0), .val (.int p1), .val (.int p2), .val (.int p3), .val (.int p4), .val (.int (p1 &&& (255 : Int32))), .val (.int (p2 &&& (255 : Int32))), .val (.int (p3 &&& (255 : Int32))), .val (.int (p4 &&& (255 : Int32))), .val (.int (0 : Int32)), .val (.int (0 : Int32)), .val (.ref a253), .val (.ref a274), .unset, .unset] [(.ref a253)]
      refine go_run K 129 3 (pc' := 241) (Ls' := #[.val (.int p0), .val (.int p1), .val (.int p2), .val (.int p3), .val (.int p4), .val (.int (p1 &&& (255 : Int32))), .val (.int (p2 &&& (255 : Int32))), .val (.int (p3 &&& (255 : Int32))), .val (.int (p4 &&& (255 : Int32))), .val (.int (0 : Int32)), .val (.int (0 : Int32)), .val (.ref a253), .val (.ref a274), .val (.ref a253), .unset]) (st' := [(.ref a274), (.ref a253)]) rfl ?_
      have c300 := (c297.ext E299)
      have c301 := (S294.ext E299)
      refine go_virt0 K (k := 132) rfl (H.w 52 rfl) (H.w 55 rfl) (H.w 54 rfl) (H.w 2 rfl) (H.w 56 rfl) (by decide) pd_22 c300.exa (c_seq H lat0 lat0 c300 c301) (argsL := [(.ref a274)]) (rest := []) rfl rfl rfl sub0 rfl ?_
      rintro _ _ _ - ⟨r302, rfl, rfl, q303⟩
      show Go G B M_law _ h298 (a274 :: (a253 :: [])) 16 49 244 #[.val (.int p0), .val (.int p1), .val (.int p2), .val (.int p3), .val (.int p4), .val (.int (p1 &&& (255 : Int32))), .val (.int (p2 &&& (255 : Int32))), .val (.int (p3 &&& (255 : Int32))), .val (.int (p4 &&& (255 : Int32))), .val (.int (0 : Int32)), .val (.int (0 : Int32)), .val (.ref a253), .val (.ref a274), .val (.ref a253), .unset] [(.int r302)]
      refine go_ireturn K (k := 133) rfl rfl (by decide) (bool_n (Or.elim q303 (fun u => Or.inr u.1) (fun u => Or.inl u.1))) rfl rfl ?_
      intro Sf hSf
      rcases q303 with ⟨u1, -⟩ | ⟨-, u2⟩
      · rw [u1]
      · exact absurd rfl u2
    · rw [hn]
      refine go_run K 98 3 (pc' := 174) (Ls' := #[.val (.int p0), .val (.int p1), .val (.int p2), .val (.int p3), .val (.int p4), .val (.int (p1 &&& (255 : Int32))), .val (.int (p2 &&& (255 : Int32))), .val (.int (p3 &&& (255 : Int32))), .val (.int (p4 &&& (255 : Int32))), .val (.int (0 : Int32)), .val (.int (1 : Int32)), .unset, .unset, .unset, .unset]) (st' := [(.int (1 : Int32)), (.int (1 : Int32))]) rfl ?_
      refine go_icmplt K (k := 101) rfl (pc' := 186) (by decide) (fun q => absurd q (by decide)) (fun _ => ?_)
      refine go_run K 102 2 (pc' := 181) (st' := [(.int (91 : Int32)), (.int (p1 &&& (255 : Int32)))]) rfl ?_
      refine go_icmpne K (k := 104) rfl (pc' := 186) (by decide) (fun q304 => ?_) (fun q305 => ?_)
      · refine go_new K (k := 107) rfl (H.w 0 rfl) (H.w 1 rfl) (H.w 2 rfl) rfl rfl ?_
        intro h307 a306 e308 g309 E310 A311 D312
        have F313 : Fld G.Z h307 a306 "java/lang/String" "value" "[B" .null := D312 (Or.inr (H.w 20 rfl)) (ty := (.array .byte)) (by decide)
        have F314 : Fld G.Z h307 a306 "java/lang/String" "coder" "B" (.int (0 : Int32)) := D312 (Or.inr (H.w 21 rfl)) (ty := .byte) (by decide)
        refine go_run K 108 6 (pc' := 200) (st' := [(.int (p4 &&& (255 : Int32))), (.int (p3 &&& (255 : Int32))), (.int (p2 &&& (255 : Int32))), (.int (p1 &&& (255 : Int32))), (.int (1 : Int32)), (.ref a306), (.ref a306)]) rfl ?_
        refine go_static K (k := 114) rfl (H.w 3 rfl) (H.w 4 rfl) (H.w 5 rfl) (H.w 6 rfl) (by decide) pd_20 (c_make1 (c0 := (p1 &&& (255 : Int32))) (c1 := (p2 &&& (255 : Int32))) (c2 := (p3 &&& (255 : Int32))) (c3 := (p4 &&& (255 : Int32))) H (c8_lat p1)) (argsL := [(.int (1 : Int32)), (.int (p1 &&& (255 : Int32))), (.int (p2 &&& (255 : Int32))), (.int (p3 &&& (255 : Int32))), (.int (p4 &&& (255 : Int32)))]) (rest := [(.ref a306), (.ref a306)]) rfl rfl rfl sub0 rfl ?_
        rintro _ h315 _ - ⟨a316, k317, rfl, E318, A319, g320⟩
        show Go G B M_law _ h315 (a306 :: []) 2 8 203 #[.val (.int p0), .val (.int p1), .val (.int p2), .val (.int p3), .val (.int p4), .val (.int (p1 &&& (255 : Int32))), .val (.int (p2 &&& (255 : Int32))), .val (.int (p3 &&& (255 : Int32))), .val (.int (p4 &&& (255 : Int32))), .val (.int (0 : Int32)), .val (.int (1 : Int32)), .unset, .unset, .unset, .unset] [(.ref a316), (.ref a306), (.ref a306)]
        have c321 := (A311.ext E318)
        have c322 := (F313.ext E318)
        have c323 := (F314.ext E318)
        refine go_special K (k := 115) rfl rfl (H.w 8 rfl) (H.w 9 rfl) (H.w 2 rfl) (H.w 10 rfl) (by decide) pd_19 (c_si (cs := [(p1 &&& (255 : Int32))]) H (lat1 (c8_lat p1)) (Nat.le_of_ble_eq_true rfl) c321 c322 c323 g309 A319) (argsL := [(.ref a316)]) (rest := [(.ref a306)]) rfl rfl rfl (subS (List.mem_cons_self ..) sub0) rfl ?_
        rintro _ h324 _ - ⟨rfl, K325, S326⟩
        show Go G B M_law _ h324 (a306 :: []) 6 16 206 #[.val (.int p0), .val (.int p1), .val (.int p2), .val (.int p3), .val (.int p4), .val (.int (p1 &&& (255 : Int32))), .val (.int (p2 &&& (255 : Int32))), .val (.int (p3 &&& (255 : Int32))), .val (.int (p4 &&& (255 : Int32))), .val (.int (0 : Int32)), .val (.int (1 : Int32)), .unset, .unset, .unset, .unset] [(.ref a306)]
        refine go_run K 116 1 (pc' := 208) (Ls' := #[.val (.int p0), .val (.int p1), .val (.int p2), .val (.int p3), .val (.int p4), .val (.int (p1 &&& (255 : Int32))), .val (.int (p2 &&& (255 : Int32))), .val (.int (p3 &&& (255 : Int32))), .val (.int (p4 &&& (255 : Int32))), .val (.int (0 : Int32)), .val (.int (1 : Int32)), .val (.ref a306), .unset, .unset, .unset]) (st' := []) rfl ?_
        refine go_new K (k := 117) rfl (H.w 0 rfl) (H.w 1 rfl) (H.w 2 rfl) rfl rfl ?_
        intro h328 a327 e329 g330 E331 A332 D333
        have F334 : Fld G.Z h328 a327 "java/lang/String" "value" "[B" .null := D333 (Or.inr (H.w 20 rfl)) (ty := (.array .byte)) (by decide)
        have F335 : Fld G.Z h328 a327 "java/lang/String" "coder" "B" (.int (0 : Int32)) := D333 (Or.inr (H.w 21 rfl)) (ty := .byte) (by decide)
        refine go_run K 118 6 (pc' := 222) (st' := [(.int (p4 &&& (255 : Int32))), (.int (p3 &&& (255 : Int32))), (.int (p2 &&& (255 : Int32))), (.int (p1 &&& (255 : Int32))), (.int (1 : Int32)), (.ref a327), (.ref a327)]) rfl ?_
        refine go_static K (k := 124) rfl (H.w 3 rfl) (H.w 4 rfl) (H.w 5 rfl) (H.w 6 rfl) (by decide) pd_20 (c_make1 (c0 := (p1 &&& (255 : Int32))) (c1 := (p2 &&& (255 : Int32))) (c2 := (p3 &&& (255 : Int32))) (c3 := (p4 &&& (255 : Int32))) H (c8_lat p1)) (argsL := [(.int (1 : Int32)), (.int (p1 &&& (255 : Int32))), (.int (p2 &&& (255 : Int32))), (.int (p3 &&& (255 : Int32))), (.int (p4 &&& (255 : Int32)))]) (rest := [(.ref a327), (.ref a327)]) rfl rfl rfl sub0 rfl ?_
        rintro _ h336 _ - ⟨a337, k338, rfl, E339, A340, g341⟩
        show Go G B M_law _ h336 (a327 :: (a306 :: [])) 8 24 225 #[.val (.int p0), .val (.int p1), .val (.int p2), .val (.int p3), .val (.int p4), .val (.int (p1 &&& (255 : Int32))), .val (.int (p2 &&& (255 : Int32))), .val (.int (p3 &&& (255 : Int32))), .val (.int (p4 &&& (255 : Int32))), .val (.int (0 : Int32)), .val (.int (1 : Int32)), .val (.ref a306), .unset, .unset, .unset] [(.ref a337), (.ref a327), (.ref a327)]
        have c342 := (A332.ext E339)
        have c343 := (F334.ext E339)
        have c344 := (F335.ext E339)
        refine go_special K (k := 125) rfl rfl (H.w 8 rfl) (H.w 9 rfl) (H.w 2 rfl) (H.w 10 rfl) (by decide) pd_19 (c_si (cs := [(p1 &&& (255 : Int32))]) H (lat1 (c8_lat p1)) (Nat.le_of_ble_eq_true rfl) c342 c343 c344 g330 A340) (argsL := [(.ref a337)]) (rest := [(.ref a327)]) rfl rfl rfl (subS (List.mem_cons_self ..) sub0) rfl ?_
        rintro _ h345 _ - ⟨rfl, K346, S347⟩
        show Go G B M_law _ h345 (a327 :: (a306 :: [])) 12 32 228 #[.val (.int p0), .val (.int p1), .val (.int p2), .val (.int p3), .val (.int p4), .val (.int (p1 &&& (255 : Int32))), .val (.int (p2 &&& (255 : Int32))), .val (.int (p3 &&& (255 : Int32))), .val (.int (p4 &&& (255 : Int32))), .val (.int (0 : Int32)), .val (.int (1 : Int32)), .val (.ref a306), .unset, .unset, .unset] [(.ref a327)]
        refine go_run K 126 2 (pc' := 232) (Ls' := #[.val (.int p0), .val (.int p1), .val (.int p2), .val (.int p3), .val (.int p4), .val (.int (p1 &&& (255 : Int32))), .val (.int (p2 &&& (255 : Int32))), .val (.int (p3 &&& (255 : Int32))), .val (.int (p4 &&& (255 : Int32))), .val (.int (0 : Int32)), .val (.int (1 : Int32)), .val (.ref a306), .val (.ref a327), .unset, .unset]) (st' := [(.ref a306)]) rfl ?_
        have X348 : Ext h324 h336 := (Ext.tr E331 E339)
        have X349 : Ext h324 h345 := (Ext.keepN X348 K346 (allS (Nat.le_trans (Nat.le_refl _) (Nat.le_of_eq e329.symm)) all0))
        have c350 := (S326.ext X349)
        refine go_static K (k := 128) rfl (H.w 26 rfl) (H.w 27 rfl) (H.w 28 rfl) (H.w 29 rfl) (by decide) pd_21 (c_unbN H (lat1 (c8_lat p1)) (fun e => q304 (Option.some.inj e)) c350) (argsL := [(.ref a306)]) (rest := []) rfl rfl rfl sub0 rfl ?_
        rintro _ h351 _ - ⟨rfl, E352⟩
        show Go G B M_law _ h351 (a327 :: (a306 :: [])) 16 49 235 #[.val (.int p0), .val (.int p1), .val (.int p2), .val (.int p3), .val (.int p4), .val (.int (p1 &&& (255 : Int32))), .val (.int (p2 &&& (255 : Int32))), .val (.int (p3 &&& (255 : Int32))), .val (.int (p4 &&& (255 : Int32))), .val (.int (0 : Int32)), .val (.int (1 : Int32)), .val (.ref a306), .val (.ref a327), .unset, .unset] [(.ref a306)]
        refine go_run K 129 3 (pc' := 241) (Ls' := #[.val (.int p0), .val (.int p1), .val (.int p2), .val (.int p3), .val (.int p4), .val (.int (p1 &&& (255 : Int32))), .val (.int (p2 &&& (255 : Int32))), .val (.int (p3 &&& (255 : Int32))), .val (.int (p4 &&& (255 : Int32))), .val (.int (0 : Int32)), .val (.int (1 : Int32)), .val (.ref a306), .val (.ref a327), .val (.ref a306), .unset]) (st' := [(.ref a327), (.ref a306)]) rfl ?_
        have c353 := (c350.ext E352)
        have c354 := (S347.ext E352)
        refine go_virt0 K (k := 132) rfl (H.w 52 rfl) (H.w 55 rfl) (H.w 54 rfl) (H.w 2 rfl) (H.w 56 rfl) (by decide) pd_22 c353.exa (c_seq H (lat1 (c8_lat p1)) (lat1 (c8_lat p1)) c353 c354) (argsL := [(.ref a327)]) (rest := []) rfl rfl rfl sub0 rfl ?_
        rintro _ _ _ - ⟨r355, rfl, rfl, q356⟩
        show Go G B M_law _ h351 (a327 :: (a306 :: [])) 16 49 244 #[.val (.int p0), .val (.int p1), .val (.int p2), .val (.int p3), .val (.int p4), .val (.int (p1 &&& (255 : Int32))), .val (.int (p2 &&& (255 : Int32))), .val (.int (p3 &&& (255 : Int32))), .val (.int (p4 &&& (255 : Int32))), .val (.int (0 : Int32)), .val (.int (1 : Int32)), .val (.ref a306), .val (.ref a327), .val (.ref a306), .unset] [(.int r355)]
        refine go_ireturn K (k := 133) rfl rfl (by decide) (bool_n (Or.elim q356 (fun u => Or.inr u.1) (fun u => Or.inl u.1))) rfl rfl ?_
        intro Sf hSf
        rcases q356 with ⟨u1, -⟩ | ⟨-, u2⟩
        · rw [u1]
        · exact absurd rfl u2
      · refine go_run K 105 1 (pc' := 185) (st' := [(.int (1 : Int32))]) rfl ?_
        refine go_ireturn K (k := 106) rfl rfl (by decide) rfl rfl rfl ?_
        intro Sf hSf
        exact rfl
    · rw [hn]
      refine go_run K 98 3 (pc' := 174) (Ls' := #[.val (.int p0), .val (.int p1), .val (.int p2), .val (.int p3), .val (.int p4), .val (.int (p1 &&& (255 : Int32))), .val (.int (p2 &&& (255 : Int32))), .val (.int (p3 &&& (255 : Int32))), .val (.int (p4 &&& (255 : Int32))), .val (.int (0 : Int32)), .val (.int (2 : Int32)), .unset, .unset, .unset, .unset]) (st' := [(.int (1 : Int32)), (.int (2 : Int32))]) rfl ?_
      refine go_icmplt K (k := 101) rfl (pc' := 186) (by decide) (fun q => absurd q (by decide)) (fun _ => ?_)
      refine go_run K 102 2 (pc' := 181) (st' := [(.int (91 : Int32)), (.int (p1 &&& (255 : Int32)))]) rfl ?_
      refine go_icmpne K (k := 104) rfl (pc' := 186) (by decide) (fun q357 => ?_) (fun q358 => ?_)
      · refine go_new K (k := 107) rfl (H.w 0 rfl) (H.w 1 rfl) (H.w 2 rfl) rfl rfl ?_
        intro h360 a359 e361 g362 E363 A364 D365
        have F366 : Fld G.Z h360 a359 "java/lang/String" "value" "[B" .null := D365 (Or.inr (H.w 20 rfl)) (ty := (.array .byte)) (by decide)
        have F367 : Fld G.Z h360 a359 "java/lang/String" "coder" "B" (.int (0 : Int32)) := D365 (Or.inr (H.w 21 rfl)) (ty := .byte) (by decide)
        refine go_run K 108 6 (pc' := 200) (st' := [(.int (p4 &&& (255 : Int32))), (.int (p3 &&& (255 : Int32))), (.int (p2 &&& (255 : Int32))), (.int (p1 &&& (255 : Int32))), (.int (2 : Int32)), (.ref a359), (.ref a359)]) rfl ?_
        refine go_static K (k := 114) rfl (H.w 3 rfl) (H.w 4 rfl) (H.w 5 rfl) (H.w 6 rfl) (by decide) pd_20 (c_make2 (c0 := (p1 &&& (255 : Int32))) (c1 := (p2 &&& (255 : Int32))) (c2 := (p3 &&& (255 : Int32))) (c3 := (p4 &&& (255 : Int32))) H (c8_lat p1) (c8_lat p2)) (argsL := [(.int (2 : Int32)), (.int (p1 &&& (255 : Int32))), (.int (p2 &&& (255 : Int32))), (.int (p3 &&& (255 : Int32))), (.int (p4 &&& (255 : Int32)))]) (rest := [(.ref a359), (.ref a359)]) rfl rfl rfl sub0 rfl ?_
        rintro _ h368 _ - ⟨a369, k370, rfl, E371, A372, g373⟩
        show Go G B M_law _ h368 (a359 :: []) 2 8 203 #[.val (.int p0), .val (.int p1), .val (.int p2), .val (.int p3), .val (.int p4), .val (.int (p1 &&& (255 : Int32))), .val (.int (p2 &&& (255 : Int32))), .val (.int (p3 &&& (255 : Int32))), .val (.int (p4 &&& (255 : Int32))), .val (.int (0 : Int32)), .val (.int (2 : Int32)), .unset, .unset, .unset, .unset] [(.ref a369), (.ref a359), (.ref a359)]
        have c374 := (A364.ext E371)
        have c375 := (F366.ext E371)
        have c376 := (F367.ext E371)
        refine go_special K (k := 115) rfl rfl (H.w 8 rfl) (H.w 9 rfl) (H.w 2 rfl) (H.w 10 rfl) (by decide) pd_19 (c_si (cs := [(p1 &&& (255 : Int32)), (p2 &&& (255 : Int32))]) H (latC (c8_lat p1) (lat1 (c8_lat p2)) (Nat.le_of_ble_eq_true rfl)) (Nat.le_of_ble_eq_true rfl) c374 c375 c376 g362 A372) (argsL := [(.ref a369)]) (rest := [(.ref a359)]) rfl rfl rfl (subS (List.mem_cons_self ..) sub0) rfl ?_
        rintro _ h377 _ - ⟨rfl, K378, S379⟩
        show Go G B M_law _ h377 (a359 :: []) 6 16 206 #[.val (.int p0), .val (.int p1), .val (.int p2), .val (.int p3), .val (.int p4), .val (.int (p1 &&& (255 : Int32))), .val (.int (p2 &&& (255 : Int32))), .val (.int (p3 &&& (255 : Int32))), .val (.int (p4 &&& (255 : Int32))), .val (.int (0 : Int32)), .val (.int (2 : Int32)), .unset, .unset, .unset, .unset] [(.ref a359)]
        refine go_run K 116 1 (pc' := 208) (Ls' := #[.val (.int p0), .val (.int p1), .val (.int p2), .val (.int p3), .val (.int p4), .val (.int (p1 &&& (255 : Int32))), .val (.int (p2 &&& (255 : Int32))), .val (.int (p3 &&& (255 : Int32))), .val (.int (p4 &&& (255 : Int32))), .val (.int (0 : Int32)), .val (.int (2 : Int32)), .val (.ref a359), .unset, .unset, .unset]) (st' := []) rfl ?_
        refine go_new K (k := 117) rfl (H.w 0 rfl) (H.w 1 rfl) (H.w 2 rfl) rfl rfl ?_
        intro h381 a380 e382 g383 E384 A385 D386
        have F387 : Fld G.Z h381 a380 "java/lang/String" "value" "[B" .null := D386 (Or.inr (H.w 20 rfl)) (ty := (.array .byte)) (by decide)
        have F388 : Fld G.Z h381 a380 "java/lang/String" "coder" "B" (.int (0 : Int32)) := D386 (Or.inr (H.w 21 rfl)) (ty := .byte) (by decide)
        refine go_run K 118 6 (pc' := 222) (st' := [(.int (p4 &&& (255 : Int32))), (.int (p3 &&& (255 : Int32))), (.int (p2 &&& (255 : Int32))), (.int (p1 &&& (255 : Int32))), (.int (2 : Int32)), (.ref a380), (.ref a380)]) rfl ?_
        refine go_static K (k := 124) rfl (H.w 3 rfl) (H.w 4 rfl) (H.w 5 rfl) (H.w 6 rfl) (by decide) pd_20 (c_make2 (c0 := (p1 &&& (255 : Int32))) (c1 := (p2 &&& (255 : Int32))) (c2 := (p3 &&& (255 : Int32))) (c3 := (p4 &&& (255 : Int32))) H (c8_lat p1) (c8_lat p2)) (argsL := [(.int (2 : Int32)), (.int (p1 &&& (255 : Int32))), (.int (p2 &&& (255 : Int32))), (.int (p3 &&& (255 : Int32))), (.int (p4 &&& (255 : Int32)))]) (rest := [(.ref a380), (.ref a380)]) rfl rfl rfl sub0 rfl ?_
        rintro _ h389 _ - ⟨a390, k391, rfl, E392, A393, g394⟩
        show Go G B M_law _ h389 (a380 :: (a359 :: [])) 8 24 225 #[.val (.int p0), .val (.int p1), .val (.int p2), .val (.int p3), .val (.int p4), .val (.int (p1 &&& (255 : Int32))), .val (.int (p2 &&& (255 : Int32))), .val (.int (p3 &&& (255 : Int32))), .val (.int (p4 &&& (255 : Int32))), .val (.int (0 : Int32)), .val (.int (2 : Int32)), .val (.ref a359), .unset, .unset, .unset] [(.ref a390), (.ref a380), (.ref a380)]
        have c395 := (A385.ext E392)
        have c396 := (F387.ext E392)
        have c397 := (F388.ext E392)
        refine go_special K (k := 125) rfl rfl (H.w 8 rfl) (H.w 9 rfl) (H.w 2 rfl) (H.w 10 rfl) (by decide) pd_19 (c_si (cs := [(p1 &&& (255 : Int32)), (p2 &&& (255 : Int32))]) H (latC (c8_lat p1) (lat1 (c8_lat p2)) (Nat.le_of_ble_eq_true rfl)) (Nat.le_of_ble_eq_true rfl) c395 c396 c397 g383 A393) (argsL := [(.ref a390)]) (rest := [(.ref a380)]) rfl rfl rfl (subS (List.mem_cons_self ..) sub0) rfl ?_
        rintro _ h398 _ - ⟨rfl, K399, S400⟩
        show Go G B M_law _ h398 (a380 :: (a359 :: [])) 12 32 228 #[.val (.int p0), .val (.int p1), .val (.int p2), .val (.int p3), .val (.int p4), .val (.int (p1 &&& (255 : Int32))), .val (.int (p2 &&& (255 : Int32))), .val (.int (p3 &&& (255 : Int32))), .val (.int (p4 &&& (255 : Int32))), .val (.int (0 : Int32)), .val (.int (2 : Int32)), .val (.ref a359), .unset, .unset, .unset] [(.ref a380)]
        refine go_run K 126 2 (pc' := 232) (Ls' := #[.val (.int p0), .val (.int p1), .val (.int p2), .val (.int p3), .val (.int p4), .val (.int (p1 &&& (255 : Int32))), .val (.int (p2 &&& (255 : Int32))), .val (.int (p3 &&& (255 : Int32))), .val (.int (p4 &&& (255 : Int32))), .val (.int (0 : Int32)), .val (.int (2 : Int32)), .val (.ref a359), .val (.ref a380), .unset, .unset]) (st' := [(.ref a359)]) rfl ?_
        have X401 : Ext h377 h389 := (Ext.tr E384 E392)
        have X402 : Ext h377 h398 := (Ext.keepN X401 K399 (allS (Nat.le_trans (Nat.le_refl _) (Nat.le_of_eq e382.symm)) all0))
        have c403 := (S379.ext X402)
        refine go_static K (k := 128) rfl (H.w 26 rfl) (H.w 27 rfl) (H.w 28 rfl) (H.w 29 rfl) (by decide) pd_21 (c_unbN H (latC (c8_lat p1) (lat1 (c8_lat p2)) (Nat.le_of_ble_eq_true rfl)) (fun e => q357 (Option.some.inj e)) c403) (argsL := [(.ref a359)]) (rest := []) rfl rfl rfl sub0 rfl ?_
        rintro _ h404 _ - ⟨rfl, E405⟩
        show Go G B M_law _ h404 (a380 :: (a359 :: [])) 16 49 235 #[.val (.int p0), .val (.int p1), .val (.int p2), .val (.int p3), .val (.int p4), .val (.int (p1 &&& (255 : Int32))), .val (.int (p2 &&& (255 : Int32))), .val (.int (p3 &&& (255 : Int32))), .val (.int (p4 &&& (255 : Int32))), .val (.int (0 : Int32)), .val (.int (2 : Int32)), .val (.ref a359), .val (.ref a380), .unset, .unset] [(.ref a359)]
        refine go_run K 129 3 (pc' := 241) (Ls' := #[.val (.int p0), .val (.int p1), .val (.int p2), .val (.int p3), .val (.int p4), .val (.int (p1 &&& (255 : Int32))), .val (.int (p2 &&& (255 : Int32))), .val (.int (p3 &&& (255 : Int32))), .val (.int (p4 &&& (255 : Int32))), .val (.int (0 : Int32)), .val (.int (2 : Int32)), .val (.ref a359), .val (.ref a380), .val (.ref a359), .unset]) (st' := [(.ref a380), (.ref a359)]) rfl ?_
        have c406 := (c403.ext E405)
        have c407 := (S400.ext E405)
        refine go_virt0 K (k := 132) rfl (H.w 52 rfl) (H.w 55 rfl) (H.w 54 rfl) (H.w 2 rfl) (H.w 56 rfl) (by decide) pd_22 c406.exa (c_seq H (latC (c8_lat p1) (lat1 (c8_lat p2)) (Nat.le_of_ble_eq_true rfl)) (latC (c8_lat p1) (lat1 (c8_lat p2)) (Nat.le_of_ble_eq_true rfl)) c406 c407) (argsL := [(.ref a380)]) (rest := []) rfl rfl rfl sub0 rfl ?_
        rintro _ _ _ - ⟨r408, rfl, rfl, q409⟩
        show Go G B M_law _ h404 (a380 :: (a359 :: [])) 16 49 244 #[.val (.int p0), .val (.int p1), .val (.int p2), .val (.int p3), .val (.int p4), .val (.int (p1 &&& (255 : Int32))), .val (.int (p2 &&& (255 : Int32))), .val (.int (p3 &&& (255 : Int32))), .val (.int (p4 &&& (255 : Int32))), .val (.int (0 : Int32)), .val (.int (2 : Int32)), .val (.ref a359), .val (.ref a380), .val (.ref a359), .unset] [(.int r408)]
        refine go_ireturn K (k := 133) rfl rfl (by decide) (bool_n (Or.elim q409 (fun u => Or.inr u.1) (fun u => Or.inl u.1))) rfl rfl ?_
        intro Sf hSf
        rcases q409 with ⟨u1, -⟩ | ⟨-, u2⟩
        · rw [u1]
        · exact absurd rfl u2
      · refine go_run K 105 1 (pc' := 185) (st' := [(.int (1 : Int32))]) rfl ?_
        refine go_ireturn K (k := 106) rfl rfl (by decide) rfl rfl rfl ?_
        intro Sf hSf
        exact rfl
    · rw [hn]
      refine go_run K 98 3 (pc' := 174) (Ls' := #[.val (.int p0), .val (.int p1), .val (.int p2), .val (.int p3), .val (.int p4), .val (.int (p1 &&& (255 : Int32))), .val (.int (p2 &&& (255 : Int32))), .val (.int (p3 &&& (255 : Int32))), .val (.int (p4 &&& (255 : Int32))), .val (.int (0 : Int32)), .val (.int (3 : Int32)), .unset, .unset, .unset, .unset]) (st' := [(.int (1 : Int32)), (.int (3 : Int32))]) rfl ?_
      refine go_icmplt K (k := 101) rfl (pc' := 186) (by decide) (fun q => absurd q (by decide)) (fun _ => ?_)
      refine go_run K 102 2 (pc' := 181) (st' := [(.int (91 : Int32)), (.int (p1 &&& (255 : Int32)))]) rfl ?_
      refine go_icmpne K (k := 104) rfl (pc' := 186) (by decide) (fun q410 => ?_) (fun q411 => ?_)
      · refine go_new K (k := 107) rfl (H.w 0 rfl) (H.w 1 rfl) (H.w 2 rfl) rfl rfl ?_
        intro h413 a412 e414 g415 E416 A417 D418
        have F419 : Fld G.Z h413 a412 "java/lang/String" "value" "[B" .null := D418 (Or.inr (H.w 20 rfl)) (ty := (.array .byte)) (by decide)
        have F420 : Fld G.Z h413 a412 "java/lang/String" "coder" "B" (.int (0 : Int32)) := D418 (Or.inr (H.w 21 rfl)) (ty := .byte) (by decide)
        refine go_run K 108 6 (pc' := 200) (st' := [(.int (p4 &&& (255 : Int32))), (.int (p3 &&& (255 : Int32))), (.int (p2 &&& (255 : Int32))), (.int (p1 &&& (255 : Int32))), (.int (3 : Int32)), (.ref a412), (.ref a412)]) rfl ?_
        refine go_static K (k := 114) rfl (H.w 3 rfl) (H.w 4 rfl) (H.w 5 rfl) (H.w 6 rfl) (by decide) pd_20 (c_make3 (c0 := (p1 &&& (255 : Int32))) (c1 := (p2 &&& (255 : Int32))) (c2 := (p3 &&& (255 : Int32))) (c3 := (p4 &&& (255 : Int32))) H (c8_lat p1) (c8_lat p2) (c8_lat p3)) (argsL := [(.int (3 : Int32)), (.int (p1 &&& (255 : Int32))), (.int (p2 &&& (255 : Int32))), (.int (p3 &&& (255 : Int32))), (.int (p4 &&& (255 : Int32)))]) (rest := [(.ref a412), (.ref a412)]) rfl rfl rfl sub0 rfl ?_
        rintro _ h421 _ - ⟨a422, k423, rfl, E424, A425, g426⟩
        show Go G B M_law _ h421 (a412 :: []) 2 8 203 #[.val (.int p0), .val (.int p1), .val (.int p2), .val (.int p3), .val (.int p4), .val (.int (p1 &&& (255 : Int32))), .val (.int (p2 &&& (255 : Int32))), .val (.int (p3 &&& (255 : Int32))), .val (.int (p4 &&& (255 : Int32))), .val (.int (0 : Int32)), .val (.int (3 : Int32)), .unset, .unset, .unset, .unset] [(.ref a422), (.ref a412), (.ref a412)]
        have c427 := (A417.ext E424)
        have c428 := (F419.ext E424)
        have c429 := (F420.ext E424)
        refine go_special K (k := 115) rfl rfl (H.w 8 rfl) (H.w 9 rfl) (H.w 2 rfl) (H.w 10 rfl) (by decide) pd_19 (c_si (cs := [(p1 &&& (255 : Int32)), (p2 &&& (255 : Int32)), (p3 &&& (255 : Int32))]) H (latC (c8_lat p1) (latC (c8_lat p2) (lat1 (c8_lat p3)) (Nat.le_of_ble_eq_true rfl)) (Nat.le_of_ble_eq_true rfl)) (Nat.le_of_ble_eq_true rfl) c427 c428 c429 g415 A425) (argsL := [(.ref a422)]) (rest := [(.ref a412)]) rfl rfl rfl (subS (List.mem_cons_self ..) sub0) rfl ?_
        rintro _ h430 _ - ⟨rfl, K431, S432⟩
        show Go G B M_law _ h430 (a412 :: []) 6 16 206 #[.val (.int p0), .val (.int p1), .val (.int p2), .val (.int p3), .val (.int p4), .val (.int (p1 &&& (255 : Int32))), .val (.int (p2 &&& (255 : Int32))), .val (.int (p3 &&& (255 : Int32))), .val (.int (p4 &&& (255 : Int32))), .val (.int (0 : Int32)), .val (.int (3 : Int32)), .unset, .unset, .unset, .unset] [(.ref a412)]
        refine go_run K 116 1 (pc' := 208) (Ls' := #[.val (.int p0), .val (.int p1), .val (.int p2), .val (.int p3), .val (.int p4), .val (.int (p1 &&& (255 : Int32))), .val (.int (p2 &&& (255 : Int32))), .val (.int (p3 &&& (255 : Int32))), .val (.int (p4 &&& (255 : Int32))), .val (.int (0 : Int32)), .val (.int (3 : Int32)), .val (.ref a412), .unset, .unset, .unset]) (st' := []) rfl ?_
        refine go_new K (k := 117) rfl (H.w 0 rfl) (H.w 1 rfl) (H.w 2 rfl) rfl rfl ?_
        intro h434 a433 e435 g436 E437 A438 D439
        have F440 : Fld G.Z h434 a433 "java/lang/String" "value" "[B" .null := D439 (Or.inr (H.w 20 rfl)) (ty := (.array .byte)) (by decide)
        have F441 : Fld G.Z h434 a433 "java/lang/String" "coder" "B" (.int (0 : Int32)) := D439 (Or.inr (H.w 21 rfl)) (ty := .byte) (by decide)
        refine go_run K 118 6 (pc' := 222) (st' := [(.int (p4 &&& (255 : Int32))), (.int (p3 &&& (255 : Int32))), (.int (p2 &&& (255 : Int32))), (.int (p1 &&& (255 : Int32))), (.int (3 : Int32)), (.ref a433), (.ref a433)]) rfl ?_
        refine go_static K (k := 124) rfl (H.w 3 rfl) (H.w 4 rfl) (H.w 5 rfl) (H.w 6 rfl) (by decide) pd_20 (c_make3 (c0 := (p1 &&& (255 : Int32))) (c1 := (p2 &&& (255 : Int32))) (c2 := (p3 &&& (255 : Int32))) (c3 := (p4 &&& (255 : Int32))) H (c8_lat p1) (c8_lat p2) (c8_lat p3)) (argsL := [(.int (3 : Int32)), (.int (p1 &&& (255 : Int32))), (.int (p2 &&& (255 : Int32))), (.int (p3 &&& (255 : Int32))), (.int (p4 &&& (255 : Int32)))]) (rest := [(.ref a433), (.ref a433)]) rfl rfl rfl sub0 rfl ?_
        rintro _ h442 _ - ⟨a443, k444, rfl, E445, A446, g447⟩
        show Go G B M_law _ h442 (a433 :: (a412 :: [])) 8 24 225 #[.val (.int p0), .val (.int p1), .val (.int p2), .val (.int p3), .val (.int p4), .val (.int (p1 &&& (255 : Int32))), .val (.int (p2 &&& (255 : Int32))), .val (.int (p3 &&& (255 : Int32))), .val (.int (p4 &&& (255 : Int32))), .val (.int (0 : Int32)), .val (.int (3 : Int32)), .val (.ref a412), .unset, .unset, .unset] [(.ref a443), (.ref a433), (.ref a433)]
        have c448 := (A438.ext E445)
        have c449 := (F440.ext E445)
        have c450 := (F441.ext E445)
        refine go_special K (k := 125) rfl rfl (H.w 8 rfl) (H.w 9 rfl) (H.w 2 rfl) (H.w 10 rfl) (by decide) pd_19 (c_si (cs := [(p1 &&& (255 : Int32)), (p2 &&& (255 : Int32)), (p3 &&& (255 : Int32))]) H (latC (c8_lat p1) (latC (c8_lat p2) (lat1 (c8_lat p3)) (Nat.le_of_ble_eq_true rfl)) (Nat.le_of_ble_eq_true rfl)) (Nat.le_of_ble_eq_true rfl) c448 c449 c450 g436 A446) (argsL := [(.ref a443)]) (rest := [(.ref a433)]) rfl rfl rfl (subS (List.mem_cons_self ..) sub0) rfl ?_
        rintro _ h451 _ - ⟨rfl, K452, S453⟩
        show Go G B M_law _ h451 (a433 :: (a412 :: [])) 12 32 228 #[.val (.int p0), .val (.int p1), .val (.int p2), .val (.int p3), .val (.int p4), .val (.int (p1 &&& (255 : Int32))), .val (.int (p2 &&& (255 : Int32))), .val (.int (p3 &&& (255 : Int32))), .val (.int (p4 &&& (255 : Int32))), .val (.int (0 : Int32)), .val (.int (3 : Int32)), .val (.ref a412), .unset, .unset, .unset] [(.ref a433)]
        refine go_run K 126 2 (pc' := 232) (Ls' := #[.val (.int p0), .val (.int p1), .val (.int p2), .val (.int p3), .val (.int p4), .val (.int (p1 &&& (255 : Int32))), .val (.int (p2 &&& (255 : Int32))), .val (.int (p3 &&& (255 : Int32))), .val (.int (p4 &&& (255 : Int32))), .val (.int (0 : Int32)), .val (.int (3 : Int32)), .val (.ref a412), .val (.ref a433), .unset, .unset]) (st' := [(.ref a412)]) rfl ?_
        have X454 : Ext h430 h442 := (Ext.tr E437 E445)
        have X455 : Ext h430 h451 := (Ext.keepN X454 K452 (allS (Nat.le_trans (Nat.le_refl _) (Nat.le_of_eq e435.symm)) all0))
        have c456 := (S432.ext X455)
        refine go_static K (k := 128) rfl (H.w 26 rfl) (H.w 27 rfl) (H.w 28 rfl) (H.w 29 rfl) (by decide) pd_21 (c_unbN H (latC (c8_lat p1) (latC (c8_lat p2) (lat1 (c8_lat p3)) (Nat.le_of_ble_eq_true rfl)) (Nat.le_of_ble_eq_true rfl)) (fun e => q410 (Option.some.inj e)) c456) (argsL := [(.ref a412)]) (rest := []) rfl rfl rfl sub0 rfl ?_
        rintro _ h457 _ - ⟨rfl, E458⟩
        show Go G B M_law _ h457 (a433 :: (a412 :: [])) 16 49 235 #[.val (.int p0), .val (.int p1), .val (.int p2), .val (.int p3), .val (.int p4), .val (.int (p1 &&& (255 : Int32))), .val (.int (p2 &&& (255 : Int32))), .val (.int (p3 &&& (255 : Int32))), .val (.int (p4 &&& (255 : Int32))), .val (.int (0 : Int32)), .val (.int (3 : Int32)), .val (.ref a412), .val (.ref a433), .unset, .unset] [(.ref a412)]
        refine go_run K 129 3 (pc' := 241) (Ls' := #[.val (.int p0), .val (.int p1), .val (.int p2), .val (.int p3), .val (.int p4), .val (.int (p1 &&& (255 : Int32))), .val (.int (p2 &&& (255 : Int32))), .val (.int (p3 &&& (255 : Int32))), .val (.int (p4 &&& (255 : Int32))), .val (.int (0 : Int32)), .val (.int (3 : Int32)), .val (.ref a412), .val (.ref a433), .val (.ref a412), .unset]) (st' := [(.ref a433), (.ref a412)]) rfl ?_
        have c459 := (c456.ext E458)
        have c460 := (S453.ext E458)
        refine go_virt0 K (k := 132) rfl (H.w 52 rfl) (H.w 55 rfl) (H.w 54 rfl) (H.w 2 rfl) (H.w 56 rfl) (by decide) pd_22 c459.exa (c_seq H (latC (c8_lat p1) (latC (c8_lat p2) (lat1 (c8_lat p3)) (Nat.le_of_ble_eq_true rfl)) (Nat.le_of_ble_eq_true rfl)) (latC (c8_lat p1) (latC (c8_lat p2) (lat1 (c8_lat p3)) (Nat.le_of_ble_eq_true rfl)) (Nat.le_of_ble_eq_true rfl)) c459 c460) (argsL := [(.ref a433)]) (rest := []) rfl rfl rfl sub0 rfl ?_
        rintro _ _ _ - ⟨r461, rfl, rfl, q462⟩
        show Go G B M_law _ h457 (a433 :: (a412 :: [])) 16 49 244 #[.val (.int p0), .val (.int p1), .val (.int p2), .val (.int p3), .val (.int p4), .val (.int (p1 &&& (255 : Int32))), .val (.int (p2 &&& (255 : Int32))), .val (.int (p3 &&& (255 : Int32))), .val (.int (p4 &&& (255 : Int32))), .val (.int (0 : Int32)), .val (.int (3 : Int32)), .val (.ref a412), .val (.ref a433), .val (.ref a412), .unset] [(.int r461)]
        refine go_ireturn K (k := 133) rfl rfl (by decide) (bool_n (Or.elim q462 (fun u => Or.inr u.1) (fun u => Or.inl u.1))) rfl rfl ?_
        intro Sf hSf
        rcases q462 with ⟨u1, -⟩ | ⟨-, u2⟩
        · rw [u1]
        · exact absurd rfl u2
      · refine go_run K 105 1 (pc' := 185) (st' := [(.int (1 : Int32))]) rfl ?_
        refine go_ireturn K (k := 106) rfl rfl (by decide) rfl rfl rfl ?_
        intro Sf hSf
        exact rfl
    · rw [hn]
      refine go_run K 98 3 (pc' := 174) (Ls' := #[.val (.int p0), .val (.int p1), .val (.int p2), .val (.int p3), .val (.int p4), .val (.int (p1 &&& (255 : Int32))), .val (.int (p2 &&& (255 : Int32))), .val (.int (p3 &&& (255 : Int32))), .val (.int (p4 &&& (255 : Int32))), .val (.int (0 : Int32)), .val (.int (4 : Int32)), .unset, .unset, .unset, .unset]) (st' := [(.int (1 : Int32)), (.int (4 : Int32))]) rfl ?_
      refine go_icmplt K (k := 101) rfl (pc' := 186) (by decide) (fun q => absurd q (by decide)) (fun _ => ?_)
      refine go_run K 102 2 (pc' := 181) (st' := [(.int (91 : Int32)), (.int (p1 &&& (255 : Int32)))]) rfl ?_
      refine go_icmpne K (k := 104) rfl (pc' := 186) (by decide) (fun q463 => ?_) (fun q464 => ?_)
      · refine go_new K (k := 107) rfl (H.w 0 rfl) (H.w 1 rfl) (H.w 2 rfl) rfl rfl ?_
        intro h466 a465 e467 g468 E469 A470 D471
        have F472 : Fld G.Z h466 a465 "java/lang/String" "value" "[B" .null := D471 (Or.inr (H.w 20 rfl)) (ty := (.array .byte)) (by decide)
        have F473 : Fld G.Z h466 a465 "java/lang/String" "coder" "B" (.int (0 : Int32)) := D471 (Or.inr (H.w 21 rfl)) (ty := .byte) (by decide)
        refine go_run K 108 6 (pc' := 200) (st' := [(.int (p4 &&& (255 : Int32))), (.int (p3 &&& (255 : Int32))), (.int (p2 &&& (255 : Int32))), (.int (p1 &&& (255 : Int32))), (.int (4 : Int32)), (.ref a465), (.ref a465)]) rfl ?_
        refine go_static K (k := 114) rfl (H.w 3 rfl) (H.w 4 rfl) (H.w 5 rfl) (H.w 6 rfl) (by decide) pd_20 (c_make4 (c0 := (p1 &&& (255 : Int32))) (c1 := (p2 &&& (255 : Int32))) (c2 := (p3 &&& (255 : Int32))) (c3 := (p4 &&& (255 : Int32))) H (c8_lat p1) (c8_lat p2) (c8_lat p3) (c8_lat p4)) (argsL := [(.int (4 : Int32)), (.int (p1 &&& (255 : Int32))), (.int (p2 &&& (255 : Int32))), (.int (p3 &&& (255 : Int32))), (.int (p4 &&& (255 : Int32)))]) (rest := [(.ref a465), (.ref a465)]) rfl rfl rfl sub0 rfl ?_
        rintro _ h474 _ - ⟨a475, k476, rfl, E477, A478, g479⟩
        show Go G B M_law _ h474 (a465 :: []) 2 8 203 #[.val (.int p0), .val (.int p1), .val (.int p2), .val (.int p3), .val (.int p4), .val (.int (p1 &&& (255 : Int32))), .val (.int (p2 &&& (255 : Int32))), .val (.int (p3 &&& (255 : Int32))), .val (.int (p4 &&& (255 : Int32))), .val (.int (0 : Int32)), .val (.int (4 : Int32)), .unset, .unset, .unset, .unset] [(.ref a475), (.ref a465), (.ref a465)]
        have c480 := (A470.ext E477)
        have c481 := (F472.ext E477)
        have c482 := (F473.ext E477)
        refine go_special K (k := 115) rfl rfl (H.w 8 rfl) (H.w 9 rfl) (H.w 2 rfl) (H.w 10 rfl) (by decide) pd_19 (c_si (cs := [(p1 &&& (255 : Int32)), (p2 &&& (255 : Int32)), (p3 &&& (255 : Int32)), (p4 &&& (255 : Int32))]) H (latC (c8_lat p1) (latC (c8_lat p2) (latC (c8_lat p3) (lat1 (c8_lat p4)) (Nat.le_of_ble_eq_true rfl)) (Nat.le_of_ble_eq_true rfl)) (Nat.le_of_ble_eq_true rfl)) (Nat.le_of_ble_eq_true rfl) c480 c481 c482 g468 A478) (argsL := [(.ref a475)]) (rest := [(.ref a465)]) rfl rfl rfl (subS (List.mem_cons_self ..) sub0) rfl ?_
        rintro _ h483 _ - ⟨rfl, K484, S485⟩
        show Go G B M_law _ h483 (a465 :: []) 6 16 206 #[.val (.int p0), .val (.int p1), .val (.int p2), .val (.int p3), .val (.int p4), .val (.int (p1 &&& (255 : Int32))), .val (.int (p2 &&& (255 : Int32))), .val (.int (p3 &&& (255 : Int32))), .val (.int (p4 &&& (255 : Int32))), .val (.int (0 : Int32)), .val (.int (4 : Int32)), .unset, .unset, .unset, .unset] [(.ref a465)]
        refine go_run K 116 1 (pc' := 208) (Ls' := #[.val (.int p0), .val (.int p1), .val (.int p2), .val (.int p3), .val (.int p4), .val (.int (p1 &&& (255 : Int32))), .val (.int (p2 &&& (255 : Int32))), .val (.int (p3 &&& (255 : Int32))), .val (.int (p4 &&& (255 : Int32))), .val (.int (0 : Int32)), .val (.int (4 : Int32)), .val (.ref a465), .unset, .unset, .unset]) (st' := []) rfl ?_
        refine go_new K (k := 117) rfl (H.w 0 rfl) (H.w 1 rfl) (H.w 2 rfl) rfl rfl ?_
        intro h487 a486 e488 g489 E490 A491 D492
        have F493 : Fld G.Z h487 a486 "java/lang/String" "value" "[B" .null := D492 (Or.inr (H.w 20 rfl)) (ty := (.array .byte)) (by decide)
        have F494 : Fld G.Z h487 a486 "java/lang/String" "coder" "B" (.int (0 : Int32)) := D492 (Or.inr (H.w 21 rfl)) (ty := .byte) (by decide)
        refine go_run K 118 6 (pc' := 222) (st' := [(.int (p4 &&& (255 : Int32))), (.int (p3 &&& (255 : Int32))), (.int (p2 &&& (255 : Int32))), (.int (p1 &&& (255 : Int32))), (.int (4 : Int32)), (.ref a486), (.ref a486)]) rfl ?_
        refine go_static K (k := 124) rfl (H.w 3 rfl) (H.w 4 rfl) (H.w 5 rfl) (H.w 6 rfl) (by decide) pd_20 (c_make4 (c0 := (p1 &&& (255 : Int32))) (c1 := (p2 &&& (255 : Int32))) (c2 := (p3 &&& (255 : Int32))) (c3 := (p4 &&& (255 : Int32))) H (c8_lat p1) (c8_lat p2) (c8_lat p3) (c8_lat p4)) (argsL := [(.int (4 : Int32)), (.int (p1 &&& (255 : Int32))), (.int (p2 &&& (255 : Int32))), (.int (p3 &&& (255 : Int32))), (.int (p4 &&& (255 : Int32)))]) (rest := [(.ref a486), (.ref a486)]) rfl rfl rfl sub0 rfl ?_
        rintro _ h495 _ - ⟨a496, k497, rfl, E498, A499, g500⟩
        show Go G B M_law _ h495 (a486 :: (a465 :: [])) 8 24 225 #[.val (.int p0), .val (.int p1), .val (.int p2), .val (.int p3), .val (.int p4), .val (.int (p1 &&& (255 : Int32))), .val (.int (p2 &&& (255 : Int32))), .val (.int (p3 &&& (255 : Int32))), .val (.int (p4 &&& (255 : Int32))), .val (.int (0 : Int32)), .val (.int (4 : Int32)), .val (.ref a465), .unset, .unset, .unset] [(.ref a496), (.ref a486), (.ref a486)]
        have c501 := (A491.ext E498)
        have c502 := (F493.ext E498)
        have c503 := (F494.ext E498)
        refine go_special K (k := 125) rfl rfl (H.w 8 rfl) (H.w 9 rfl) (H.w 2 rfl) (H.w 10 rfl) (by decide) pd_19 (c_si (cs := [(p1 &&& (255 : Int32)), (p2 &&& (255 : Int32)), (p3 &&& (255 : Int32)), (p4 &&& (255 : Int32))]) H (latC (c8_lat p1) (latC (c8_lat p2) (latC (c8_lat p3) (lat1 (c8_lat p4)) (Nat.le_of_ble_eq_true rfl)) (Nat.le_of_ble_eq_true rfl)) (Nat.le_of_ble_eq_true rfl)) (Nat.le_of_ble_eq_true rfl) c501 c502 c503 g489 A499) (argsL := [(.ref a496)]) (rest := [(.ref a486)]) rfl rfl rfl (subS (List.mem_cons_self ..) sub0) rfl ?_
        rintro _ h504 _ - ⟨rfl, K505, S506⟩
        show Go G B M_law _ h504 (a486 :: (a465 :: [])) 12 32 228 #[.val (.int p0), .val (.int p1), .val (.int p2), .val (.int p3), .val (.int p4), .val (.int (p1 &&& (255 : Int32))), .val (.int (p2 &&& (255 : Int32))), .val (.int (p3 &&& (255 : Int32))), .val (.int (p4 &&& (255 : Int32))), .val (.int (0 : Int32)), .val (.int (4 : Int32)), .val (.ref a465), .unset, .unset, .unset] [(.ref a486)]
        refine go_run K 126 2 (pc' := 232) (Ls' := #[.val (.int p0), .val (.int p1), .val (.int p2), .val (.int p3), .val (.int p4), .val (.int (p1 &&& (255 : Int32))), .val (.int (p2 &&& (255 : Int32))), .val (.int (p3 &&& (255 : Int32))), .val (.int (p4 &&& (255 : Int32))), .val (.int (0 : Int32)), .val (.int (4 : Int32)), .val (.ref a465), .val (.ref a486), .unset, .unset]) (st' := [(.ref a465)]) rfl ?_
        have X507 : Ext h483 h495 := (Ext.tr E490 E498)
        have X508 : Ext h483 h504 := (Ext.keepN X507 K505 (allS (Nat.le_trans (Nat.le_refl _) (Nat.le_of_eq e488.symm)) all0))
        have c509 := (S485.ext X508)
        refine go_static K (k := 128) rfl (H.w 26 rfl) (H.w 27 rfl) (H.w 28 rfl) (H.w 29 rfl) (by decide) pd_21 (c_unbN H (latC (c8_lat p1) (latC (c8_lat p2) (latC (c8_lat p3) (lat1 (c8_lat p4)) (Nat.le_of_ble_eq_true rfl)) (Nat.le_of_ble_eq_true rfl)) (Nat.le_of_ble_eq_true rfl)) (fun e => q463 (Option.some.inj e)) c509) (argsL := [(.ref a465)]) (rest := []) rfl rfl rfl sub0 rfl ?_
        rintro _ h510 _ - ⟨rfl, E511⟩
        show Go G B M_law _ h510 (a486 :: (a465 :: [])) 16 49 235 #[.val (.int p0), .val (.int p1), .val (.int p2), .val (.int p3), .val (.int p4), .val (.int (p1 &&& (255 : Int32))), .val (.int (p2 &&& (255 : Int32))), .val (.int (p3 &&& (255 : Int32))), .val (.int (p4 &&& (255 : Int32))), .val (.int (0 : Int32)), .val (.int (4 : Int32)), .val (.ref a465), .val (.ref a486), .unset, .unset] [(.ref a465)]
        refine go_run K 129 3 (pc' := 241) (Ls' := #[.val (.int p0), .val (.int p1), .val (.int p2), .val (.int p3), .val (.int p4), .val (.int (p1 &&& (255 : Int32))), .val (.int (p2 &&& (255 : Int32))), .val (.int (p3 &&& (255 : Int32))), .val (.int (p4 &&& (255 : Int32))), .val (.int (0 : Int32)), .val (.int (4 : Int32)), .val (.ref a465), .val (.ref a486), .val (.ref a465), .unset]) (st' := [(.ref a486), (.ref a465)]) rfl ?_
        have c512 := (c509.ext E511)
        have c513 := (S506.ext E511)
        refine go_virt0 K (k := 132) rfl (H.w 52 rfl) (H.w 55 rfl) (H.w 54 rfl) (H.w 2 rfl) (H.w 56 rfl) (by decide) pd_22 c512.exa (c_seq H (latC (c8_lat p1) (latC (c8_lat p2) (latC (c8_lat p3) (lat1 (c8_lat p4)) (Nat.le_of_ble_eq_true rfl)) (Nat.le_of_ble_eq_true rfl)) (Nat.le_of_ble_eq_true rfl)) (latC (c8_lat p1) (latC (c8_lat p2) (latC (c8_lat p3) (lat1 (c8_lat p4)) (Nat.le_of_ble_eq_true rfl)) (Nat.le_of_ble_eq_true rfl)) (Nat.le_of_ble_eq_true rfl)) c512 c513) (argsL := [(.ref a486)]) (rest := []) rfl rfl rfl sub0 rfl ?_
        rintro _ _ _ - ⟨r514, rfl, rfl, q515⟩
        show Go G B M_law _ h510 (a486 :: (a465 :: [])) 16 49 244 #[.val (.int p0), .val (.int p1), .val (.int p2), .val (.int p3), .val (.int p4), .val (.int (p1 &&& (255 : Int32))), .val (.int (p2 &&& (255 : Int32))), .val (.int (p3 &&& (255 : Int32))), .val (.int (p4 &&& (255 : Int32))), .val (.int (0 : Int32)), .val (.int (4 : Int32)), .val (.ref a465), .val (.ref a486), .val (.ref a465), .unset] [(.int r514)]
        refine go_ireturn K (k := 133) rfl rfl (by decide) (bool_n (Or.elim q515 (fun u => Or.inr u.1) (fun u => Or.inl u.1))) rfl rfl ?_
        intro Sf hSf
        rcases q515 with ⟨u1, -⟩ | ⟨-, u2⟩
        · rw [u1]
        · exact absurd rfl u2
      · refine go_run K 105 1 (pc' := 185) (st' := [(.int (1 : Int32))]) rfl ?_
        refine go_ireturn K (k := 106) rfl rfl (by decide) rfl rfl rfl ?_
        intro Sf hSf
        exact rfl
  · refine go_run K 24 2 (pc' := 44) (st' := [(.int (1 : Int32))]) rfl ?_
    refine go_run K 27 2 (pc' := 48) (Ls' := #[.val (.int p0), .val (.int p1), .val (.int p2), .val (.int p3), .val (.int p4), .val (.int (p1 &&& (255 : Int32))), .val (.int (p2 &&& (255 : Int32))), .val (.int (p3 &&& (255 : Int32))), .val (.int (p4 &&& (255 : Int32))), .val (.int (1 : Int32)), .unset, .unset, .unset, .unset, .unset]) (st' := [(.int (1 : Int32))]) rfl ?_
    refine go_ifeq K (k := 29) rfl (pc' := 164) (by decide) (fun q => absurd q (by decide)) (fun _ => ?_)
    refine go_run K 30 4 (pc' := 55) (st' := [(.int (4 : Int32)), (.int (XT.ushr p0 (1 : Int32)))]) rfl ?_
    refine go_irem K (k := 34) rfl (by decide) ?_
    obtain hn | hn | hn | hn := rem4 p0
    · rw [hn]
      refine go_run K 35 4 (pc' := 62) (Ls' := #[.val (.int p0), .val (.int p1), .val (.int p2), .val (.int p3), .val (.int p4), .val (.int (p1 &&& (255 : Int32))), .val (.int (p2 &&& (255 : Int32))), .val (.int (p3 &&& (255 : Int32))), .val (.int (p4 &&& (255 : Int32))), .val (.int (1 : Int32)), .val (.int (0 : Int32)), .unset, .unset, .unset, .unset]) (st' := [(.int (2 : Int32))]) rfl ?_
      refine go_newarray K (k := 39) rfl (H.w 7 rfl) (by decide) (cap := 2) (by decide) rfl rfl rfl ?_
      intro h4 a3 k5 e6 g7 E8 A9
      have A9' : Arv G.Z h4 a3 k5 .char (2 : Int32) [(.int (0 : Int32)), (.int (0 : Int32))] (.int (0 : Int32)) := Arv.pad A9 (pad_rep [] (.int (0 : Int32)) 2)
      refine go_run K 40 4 (pc' := 71) (Ls' := #[.val (.int p0), .val (.int p1), .val (.int p2), .val (.int p3), .val (.int p4), .val (.int (p1 &&& (255 : Int32))), .val (.int (p2 &&& (255 : Int32))), .val (.int (p3 &&& (255 : Int32))), .val (.int (p4 &&& (255 : Int32))), .val (.int (1 : Int32)), .val (.int (0 : Int32)), .val (.ref a3), .unset, .unset, .unset]) (st' := [(.int (91 : Int32)), (.int (0 : Int32)), (.ref a3)]) rfl ?_
      refine go_castore K (k := 44) rfl A9' (i := 0) (by decide) rfl (Nat.le_of_ble_eq_true rfl) g7 ?_
      intro h10 W11 A12
      refine go_run K 45 1 (pc' := 74) (st' := [(.int (0 : Int32))]) rfl ?_
      refine go_ifle K (k := 46) rfl (pc' := 83) (by decide) (fun _ => ?_) (fun q => absurd q (by decide))
      refine go_run K 51 2 (pc' := 86) (st' := [(.int (1 : Int32)), (.int (0 : Int32))]) rfl ?_
      refine go_icmple K (k := 53) rfl (pc' := 95) (by decide) (fun _ => ?_) (fun q => absurd q (by decide))
      refine go_run K 58 2 (pc' := 98) (st' := [(.int (2 : Int32)), (.int (0 : Int32))]) rfl ?_
      refine go_icmple K (k := 60) rfl (pc' := 107) (by decide) (fun _ => ?_) (fun q => absurd q (by decide))
      refine go_run K 65 5 (pc' := 115) (st' := [(.int (93 : Int32)), (.int (1 : Int32)), (.ref a3)]) rfl ?_
      refine go_castore K (k := 70) rfl A12 (i := 1) (by decide) rfl (Nat.le_of_ble_eq_true rfl) g7 ?_
      intro h13 W14 A15
      have B16 : Arv G.Z h13 a3 k5 .char (2 : Int32) (([(91 : Int32), (93 : Int32)] : List Int32).map Value.int) (.int 0) := by
        have u := A15
        exact u
      refine go_new K (k := 71) rfl (H.w 0 rfl) (H.w 1 rfl) (H.w 2 rfl) rfl rfl ?_
      intro h18 a17 e19 g20 E21 A22 D23
      have F24 : Fld G.Z h18 a17 "java/lang/String" "value" "[B" .null := D23 (Or.inr (H.w 20 rfl)) (ty := (.array .byte)) (by decide)
      have F25 : Fld G.Z h18 a17 "java/lang/String" "coder" "B" (.int (0 : Int32)) := D23 (Or.inr (H.w 21 rfl)) (ty := .byte) (by decide)
      refine go_run K 72 2 (pc' := 122) (st' := [(.ref a3), (.ref a17), (.ref a17)]) rfl ?_
      have c26 := (B16.ext E21)
      refine go_special K (k := 74) rfl rfl (H.w 8 rfl) (H.w 9 rfl) (H.w 2 rfl) (H.w 10 rfl) (by decide) pd_19 (c_si (cs := [(91 : Int32), (93 : Int32)]) H (latC (by decide) (lat1 (by decide)) (Nat.le_of_ble_eq_true rfl)) (Nat.le_of_ble_eq_true rfl) A22 F24 F25 g20 c26) (argsL := [(.ref a3)]) (rest := [(.ref a17)]) rfl rfl rfl (subS (List.mem_cons_self ..) sub0) rfl ?_
      rintro _ h27 _ - ⟨rfl, K28, S29⟩
      show Go G B M_law _ h27 (a17 :: (a3 :: [])) 6 14 125 #[.val (.int p0), .val (.int p1), .val (.int p2), .val (.int p3), .val (.int p4), .val (.int (p1 &&& (255 : Int32))), .val (.int (p2 &&& (255 : Int32))), .val (.int (p3 &&& (255 : Int32))), .val (.int (p4 &&& (255 : Int32))), .val (.int (1 : Int32)), .val (.int (0 : Int32)), .val (.ref a3), .unset, .unset, .unset] [(.ref a17)]
      refine go_run K 75 1 (pc' := 127) (Ls' := #[.val (.int p0), .val (.int p1), .val (.int p2), .val (.int p3), .val (.int p4), .val (.int (p1 &&& (255 : Int32))), .val (.int (p2 &&& (255 : Int32))), .val (.int (p3 &&& (255 : Int32))), .val (.int (p4 &&& (255 : Int32))), .val (.int (1 : Int32)), .val (.int (0 : Int32)), .val (.ref a3), .val (.ref a17), .unset, .unset]) (st' := []) rfl ?_
      refine go_new K (k := 76) rfl (H.w 0 rfl) (H.w 1 rfl) (H.w 2 rfl) rfl rfl ?_
      intro h31 a30 e32 g33 E34 A35 D36
      have F37 : Fld G.Z h31 a30 "java/lang/String" "value" "[B" .null := D36 (Or.inr (H.w 20 rfl)) (ty := (.array .byte)) (by decide)
      have F38 : Fld G.Z h31 a30 "java/lang/String" "coder" "B" (.int (0 : Int32)) := D36 (Or.inr (H.w 21 rfl)) (ty := .byte) (by decide)
      refine go_run K 77 6 (pc' := 141) (st' := [(.int (p4 &&& (255 : Int32))), (.int (p3 &&& (255 : Int32))), (.int (p2 &&& (255 : Int32))), (.int (p1 &&& (255 : Int32))), (.int (0 : Int32)), (.ref a30), (.ref a30)]) rfl ?_
      refine go_static K (k := 83) rfl (H.w 3 rfl) (H.w 4 rfl) (H.w 5 rfl) (H.w 6 rfl) (by decide) pd_20 (c_make0 (c0 := (p1 &&& (255 : Int32))) (c1 := (p2 &&& (255 : Int32))) (c2 := (p3 &&& (255 : Int32))) (c3 := (p4 &&& (255 : Int32))) H ) (argsL := [(.int (0 : Int32)), (.int (p1 &&& (255 : Int32))), (.int (p2 &&& (255 : Int32))), (.int (p3 &&& (255 : Int32))), (.int (p4 &&& (255 : Int32)))]) (rest := [(.ref a30), (.ref a30)]) rfl rfl rfl sub0 rfl ?_
      rintro _ h39 _ - ⟨a40, k41, rfl, E42, A43, g44⟩
      show Go G B M_law _ h39 (a30 :: (a17 :: (a3 :: []))) 8 22 144 #[.val (.int p0), .val (.int p1), .val (.int p2), .val (.int p3), .val (.int p4), .val (.int (p1 &&& (255 : Int32))), .val (.int (p2 &&& (255 : Int32))), .val (.int (p3 &&& (255 : Int32))), .val (.int (p4 &&& (255 : Int32))), .val (.int (1 : Int32)), .val (.int (0 : Int32)), .val (.ref a3), .val (.ref a17), .unset, .unset] [(.ref a40), (.ref a30), (.ref a30)]
      have c45 := (A35.ext E42)
      have c46 := (F37.ext E42)
      have c47 := (F38.ext E42)
      refine go_special K (k := 84) rfl rfl (H.w 8 rfl) (H.w 9 rfl) (H.w 2 rfl) (H.w 10 rfl) (by decide) pd_19 (c_si (cs := []) H lat0 (Nat.le_of_ble_eq_true rfl) c45 c46 c47 g33 A43) (argsL := [(.ref a40)]) (rest := [(.ref a30)]) rfl rfl rfl (subS (List.mem_cons_self ..) sub0) rfl ?_
      rintro _ h48 _ - ⟨rfl, K49, S50⟩
      show Go G B M_law _ h48 (a30 :: (a17 :: (a3 :: []))) 12 30 147 #[.val (.int p0), .val (.int p1), .val (.int p2), .val (.int p3), .val (.int p4), .val (.int (p1 &&& (255 : Int32))), .val (.int (p2 &&& (255 : Int32))), .val (.int (p3 &&& (255 : Int32))), .val (.int (p4 &&& (255 : Int32))), .val (.int (1 : Int32)), .val (.int (0 : Int32)), .val (.ref a3), .val (.ref a17), .unset, .unset] [(.ref a30)]
      refine go_run K 85 2 (pc' := 151) (Ls' := #[.val (.int p0), .val (.int p1), .val (.int p2), .val (.int p3), .val (.int p4), .val (.int (p1 &&& (255 : Int32))), .val (.int (p2 &&& (255 : Int32))), .val (.int (p3 &&& (255 : Int32))), .val (.int (p4 &&& (255 : Int32))), .val (.int (1 : Int32)), .val (.int (0 : Int32)), .val (.ref a3), .val (.ref a17), .val (.ref a30), .unset]) (st' := [(.ref a17)]) rfl ?_
      have X51 : Ext h27 h39 := (Ext.tr E34 E42)
      have X52 : Ext h27 h48 := (Ext.keepN X51 K49 (allS (Nat.le_trans (Nat.le_refl _) (Nat.le_of_eq e32.symm)) all0))
      have c53 := (S29.ext X52)
      refine go_static K (k := 87) rfl (H.w 26 rfl) (H.w 27 rfl) (H.w 28 rfl) (H.w 29 rfl) (by decide) pd_21 (c_unb H (latC (by decide) (lat1 (by decide)) (Nat.le_of_ble_eq_true rfl)) (Nat.le_of_ble_eq_true rfl) (Nat.le_of_ble_eq_true rfl) hF c53) (argsL := [(.ref a17)]) (rest := []) rfl rfl rfl sub0 rfl ?_
      rintro _ h54 _ - ⟨a55, rfl, E56, S57⟩
      show Go G B M_law _ h54 (a30 :: (a17 :: (a3 :: []))) 16 47 154 #[.val (.int p0), .val (.int p1), .val (.int p2), .val (.int p3), .val (.int p4), .val (.int (p1 &&& (255 : Int32))), .val (.int (p2 &&& (255 : Int32))), .val (.int (p3 &&& (255 : Int32))), .val (.int (p4 &&& (255 : Int32))), .val (.int (1 : Int32)), .val (.int (0 : Int32)), .val (.ref a3), .val (.ref a17), .val (.ref a30), .unset] [(.ref a55)]
      refine go_run K 88 3 (pc' := 160) (Ls' := #[.val (.int p0), .val (.int p1), .val (.int p2), .val (.int p3), .val (.int p4), .val (.int (p1 &&& (255 : Int32))), .val (.int (p2 &&& (255 : Int32))), .val (.int (p3 &&& (255 : Int32))), .val (.int (p4 &&& (255 : Int32))), .val (.int (1 : Int32)), .val (.int (0 : Int32)), .val (.ref a3), .val (.ref a17), .val (.ref a30), .val (.ref a55)]) (st' := [(.ref a30), (.ref a55)]) rfl ?_
      have c58 := (S50.ext E56)
      refine go_virt0 K (k := 91) rfl (H.w 52 rfl) (H.w 55 rfl) (H.w 54 rfl) (H.w 2 rfl) (H.w 56 rfl) (by decide) pd_22 S57.exa (c_seq H lat0 lat0 S57 c58) (argsL := [(.ref a30)]) (rest := []) rfl rfl rfl sub0 rfl ?_
      rintro _ _ _ - ⟨r59, rfl, rfl, q60⟩
      show Go G B M_law _ h54 (a30 :: (a17 :: (a3 :: []))) 16 47 163 #[.val (.int p0), .val (.int p1), .val (.int p2), .val (.int p3), .val (.int p4), .val (.int (p1 &&& (255 : Int32))), .val (.int (p2 &&& (255 : Int32))), .val (.int (p3 &&& (255 : Int32))), .val (.int (p4 &&& (255 : Int32))), .val (.int (1 : Int32)), .val (.int (0 : Int32)), .val (.ref a3), .val (.ref a17), .val (.ref a30), .val (.ref a55)] [(.int r59)]
      refine go_ireturn K (k := 92) rfl rfl (by decide) (bool_n (Or.elim q60 (fun u => Or.inr u.1) (fun u => Or.inl u.1))) rfl rfl ?_
      intro Sf hSf
      rcases q60 with ⟨u1, -⟩ | ⟨-, u2⟩
      · rw [u1]
      · exact absurd rfl u2
    · rw [hn]
      refine go_run K 35 4 (pc' := 62) (Ls' := #[.val (.int p0), .val (.int p1), .val (.int p2), .val (.int p3), .val (.int p4), .val (.int (p1 &&& (255 : Int32))), .val (.int (p2 &&& (255 : Int32))), .val (.int (p3 &&& (255 : Int32))), .val (.int (p4 &&& (255 : Int32))), .val (.int (1 : Int32)), .val (.int (1 : Int32)), .unset, .unset, .unset, .unset]) (st' := [(.int (3 : Int32))]) rfl ?_
      refine go_newarray K (k := 39) rfl (H.w 7 rfl) (by decide) (cap := 3) (by decide) rfl rfl rfl ?_
      intro h62 a61 k63 e64 g65 E66 A67
      have A67' : Arv G.Z h62 a61 k63 .char (3 : Int32) [(.int (0 : Int32)), (.int (0 : Int32)), (.int (0 : Int32))] (.int (0 : Int32)) := Arv.pad A67 (pad_rep [] (.int (0 : Int32)) 3)
      refine go_run K 40 4 (pc' := 71) (Ls' := #[.val (.int p0), .val (.int p1), .val (.int p2), .val (.int p3), .val (.int p4), .val (.int (p1 &&& (255 : Int32))), .val (.int (p2 &&& (255 : Int32))), .val (.int (p3 &&& (255 : Int32))), .val (.int (p4 &&& (255 : Int32))), .val (.int (1 : Int32)), .val (.int (1 : Int32)), .val (.ref a61), .unset, .unset, .unset]) (st' := [(.int (91 : Int32)), (.int (0 : Int32)), (.ref a61)]) rfl ?_
      refine go_castore K (k := 44) rfl A67' (i := 0) (by decide) rfl (Nat.le_of_ble_eq_true rfl) g65 ?_
      intro h68 W69 A70
      refine go_run K 45 1 (pc' := 74) (st' := [(.int (1 : Int32))]) rfl ?_
      refine go_ifle K (k := 46) rfl (pc' := 83) (by decide) (fun q => absurd (by decide) q) (fun _ => ?_)
      refine go_run K 47 3 (pc' := 82) (st' := [(.int (p1 &&& (255 : Int32))), (.int (1 : Int32)), (.ref a61)]) rfl ?_
      refine go_castore K (k := 50) rfl A70 (i := 1) (by decide) rfl (Nat.le_of_ble_eq_true rfl) g65 ?_
      intro h71 W72 A73
      refine go_run K 51 2 (pc' := 86) (st' := [(.int (1 : Int32)), (.int (1 : Int32))]) rfl ?_
      refine go_icmple K (k := 53) rfl (pc' := 95) (by decide) (fun _ => ?_) (fun q => absurd q (by decide))
      refine go_run K 58 2 (pc' := 98) (st' := [(.int (2 : Int32)), (.int (1 : Int32))]) rfl ?_
      refine go_icmple K (k := 60) rfl (pc' := 107) (by decide) (fun _ => ?_) (fun q => absurd q (by decide))
      refine go_run K 65 5 (pc' := 115) (st' := [(.int (93 : Int32)), (.int (2 : Int32)), (.ref a61)]) rfl ?_
      refine go_castore K (k := 70) rfl A73 (i := 2) (by decide) rfl (Nat.le_of_ble_eq_true rfl) g65 ?_
      intro h74 W75 A76
      have B77 : Arv G.Z h74 a61 k63 .char (3 : Int32) (([(91 : Int32), (p1 &&& (255 : Int32)), (93 : Int32)] : List Int32).map Value.int) (.int 0) := by
        have u := A76
        rw [nar_c8 p1] at u
        exact u
      refine go_new K (k := 71) rfl (H.w 0 rfl) (H.w 1 rfl) (H.w 2 rfl) rfl rfl ?_
      intro h79 a78 e80 g81 E82 A83 D84
      have F85 : Fld G.Z h79 a78 "java/lang/String" "value" "[B" .null := D84 (Or.inr (H.w 20 rfl)) (ty := (.array .byte)) (by decide)
      have F86 : Fld G.Z h79 a78 "java/lang/String" "coder" "B" (.int (0 : Int32)) := D84 (Or.inr (H.w 21 rfl)) (ty := .byte) (by decide)
      refine go_run K 72 2 (pc' := 122) (st' := [(.ref a61), (.ref a78), (.ref a78)]) rfl ?_
      have c87 := (B77.ext E82)
      refine go_special K (k := 74) rfl rfl (H.w 8 rfl) (H.w 9 rfl) (H.w 2 rfl) (H.w 10 rfl) (by decide) pd_19 (c_si (cs := [(91 : Int32), (p1 &&& (255 : Int32)), (93 : Int32)]) H (latC (by decide) (latC (c8_lat p1) (lat1 (by decide)) (Nat.le_of_ble_eq_true rfl)) (Nat.le_of_ble_eq_true rfl)) (Nat.le_of_ble_eq_true rfl) A83 F85 F86 g81 c87) (argsL := [(.ref a61)]) (rest := [(.ref a78)]) rfl rfl rfl (subS (List.mem_cons_self ..) sub0) rfl ?_
      rintro _ h88 _ - ⟨rfl, K89, S90⟩
      show Go G B M_law _ h88 (a78 :: (a61 :: [])) 6 15 125 #[.val (.int p0), .val (.int p1), .val (.int p2), .val (.int p3), .val (.int p4), .val (.int (p1 &&& (255 : Int32))), .val (.int (p2 &&& (255 : Int32))), .val (.int (p3 &&& (255 : Int32))), .val (.int (p4 &&& (255 : Int32))), .val (.int (1 : Int32)), .val (.int (1 : Int32)), .val (.ref a61), .unset, .unset, .unset] [(.ref a78)]
      refine go_run K 75 1 (pc' := 127) (Ls' := #[.val (.int p0), .val (.int p1), .val (.int p2), .val (.int p3), .val (.int p4), .val (.int (p1 &&& (255 : Int32))), .val (.int (p2 &&& (255 : Int32))), .val (.int (p3 &&& (255 : Int32))), .val (.int (p4 &&& (255 : Int32))), .val (.int (1 : Int32)), .val (.int (1 : Int32)), .val (.ref a61), .val (.ref a78), .unset, .unset]) (st' := []) rfl ?_
      refine go_new K (k := 76) rfl (H.w 0 rfl) (H.w 1 rfl) (H.w 2 rfl) rfl rfl ?_
      intro h92 a91 e93 g94 E95 A96 D97
      have F98 : Fld G.Z h92 a91 "java/lang/String" "value" "[B" .null := D97 (Or.inr (H.w 20 rfl)) (ty := (.array .byte)) (by decide)
      have F99 : Fld G.Z h92 a91 "java/lang/String" "coder" "B" (.int (0 : Int32)) := D97 (Or.inr (H.w 21 rfl)) (ty := .byte) (by decide)
      refine go_run K 77 6 (pc' := 141) (st' := [(.int (p4 &&& (255 : Int32))), (.int (p3 &&& (255 : Int32))), (.int (p2 &&& (255 : Int32))), (.int (p1 &&& (255 : Int32))), (.int (1 : Int32)), (.ref a91), (.ref a91)]) rfl ?_
      refine go_static K (k := 83) rfl (H.w 3 rfl) (H.w 4 rfl) (H.w 5 rfl) (H.w 6 rfl) (by decide) pd_20 (c_make1 (c0 := (p1 &&& (255 : Int32))) (c1 := (p2 &&& (255 : Int32))) (c2 := (p3 &&& (255 : Int32))) (c3 := (p4 &&& (255 : Int32))) H (c8_lat p1)) (argsL := [(.int (1 : Int32)), (.int (p1 &&& (255 : Int32))), (.int (p2 &&& (255 : Int32))), (.int (p3 &&& (255 : Int32))), (.int (p4 &&& (255 : Int32)))]) (rest := [(.ref a91), (.ref a91)]) rfl rfl rfl sub0 rfl ?_
      rintro _ h100 _ - ⟨a101, k102, rfl, E103, A104, g105⟩
      show Go G B M_law _ h100 (a91 :: (a78 :: (a61 :: []))) 8 23 144 #[.val (.int p0), .val (.int p1), .val (.int p2), .val (.int p3), .val (.int p4), .val (.int (p1 &&& (255 : Int32))), .val (.int (p2 &&& (255 : Int32))), .val (.int (p3 &&& (255 : Int32))), .val (.int (p4 &&& (255 : Int32))), .val (.int (1 : Int32)), .val (.int (1 : Int32)), .val (.ref a61), .val (.ref a78), .unset, .unset] [(.ref a101), (.ref a91), (.ref a91)]
      have c106 := (A96.ext E103)
      have c107 := (F98.ext E103)
      have c108 := (F99.ext E103)
      refine go_special K (k := 84) rfl rfl (H.w 8 rfl) (H.w 9 rfl) (H.w 2 rfl) (H.w 10 rfl) (by decide) pd_19 (c_si (cs := [(p1 &&& (255 : Int32))]) H (lat1 (c8_lat p1)) (Nat.le_of_ble_eq_true rfl) c106 c107 c108 g94 A104) (argsL := [(.ref a101)]) (rest := [(.ref a91)]) rfl rfl rfl (subS (List.mem_cons_self ..) sub0) rfl ?_
      rintro _ h109 _ - ⟨rfl, K110, S111⟩
      show Go G B M_law _ h109 (a91 :: (a78 :: (a61 :: []))) 12 31 147 #[.val (.int p0), .val (.int p1), .val (.int p2), .val (.int p3), .val (.int p4), .val (.int (p1 &&& (255 : Int32))), .val (.int (p2 &&& (255 : Int32))), .val (.int (p3 &&& (255 : Int32))), .val (.int (p4 &&& (255 : Int32))), .val (.int (1 : Int32)), .val (.int (1 : Int32)), .val (.ref a61), .val (.ref a78), .unset, .unset] [(.ref a91)]
      refine go_run K 85 2 (pc' := 151) (Ls' := #[.val (.int p0), .val (.int p1), .val (.int p2), .val (.int p3), .val (.int p4), .val (.int (p1 &&& (255 : Int32))), .val (.int (p2 &&& (255 : Int32))), .val (.int (p3 &&& (255 : Int32))), .val (.int (p4 &&& (255 : Int32))), .val (.int (1 : Int32)), .val (.int (1 : Int32)), .val (.ref a61), .val (.ref a78), .val (.ref a91), .unset]) (st' := [(.ref a78)]) rfl ?_
      have X112 : Ext h88 h100 := (Ext.tr E95 E103)
      have X113 : Ext h88 h109 := (Ext.keepN X112 K110 (allS (Nat.le_trans (Nat.le_refl _) (Nat.le_of_eq e93.symm)) all0))
      have c114 := (S90.ext X113)
      refine go_static K (k := 87) rfl (H.w 26 rfl) (H.w 27 rfl) (H.w 28 rfl) (H.w 29 rfl) (by decide) pd_21 (c_unb H (latC (by decide) (latC (c8_lat p1) (lat1 (by decide)) (Nat.le_of_ble_eq_true rfl)) (Nat.le_of_ble_eq_true rfl)) (Nat.le_of_ble_eq_true rfl) (Nat.le_of_ble_eq_true rfl) hF c114) (argsL := [(.ref a78)]) (rest := []) rfl rfl rfl sub0 rfl ?_
      rintro _ h115 _ - ⟨a116, rfl, E117, S118⟩
      show Go G B M_law _ h115 (a91 :: (a78 :: (a61 :: []))) 16 48 154 #[.val (.int p0), .val (.int p1), .val (.int p2), .val (.int p3), .val (.int p4), .val (.int (p1 &&& (255 : Int32))), .val (.int (p2 &&& (255 : Int32))), .val (.int (p3 &&& (255 : Int32))), .val (.int (p4 &&& (255 : Int32))), .val (.int (1 : Int32)), .val (.int (1 : Int32)), .val (.ref a61), .val (.ref a78), .val (.ref a91), .unset] [(.ref a116)]
      refine go_run K 88 3 (pc' := 160) (Ls' := #[.val (.int p0), .val (.int p1), .val (.int p2), .val (.int p3), .val (.int p4), .val (.int (p1 &&& (255 : Int32))), .val (.int (p2 &&& (255 : Int32))), .val (.int (p3 &&& (255 : Int32))), .val (.int (p4 &&& (255 : Int32))), .val (.int (1 : Int32)), .val (.int (1 : Int32)), .val (.ref a61), .val (.ref a78), .val (.ref a91), .val (.ref a116)]) (st' := [(.ref a91), (.ref a116)]) rfl ?_
      have c119 := (S111.ext E117)
      refine go_virt0 K (k := 91) rfl (H.w 52 rfl) (H.w 55 rfl) (H.w 54 rfl) (H.w 2 rfl) (H.w 56 rfl) (by decide) pd_22 S118.exa (c_seq H (lat1 (c8_lat p1)) (lat1 (c8_lat p1)) S118 c119) (argsL := [(.ref a91)]) (rest := []) rfl rfl rfl sub0 rfl ?_
      rintro _ _ _ - ⟨r120, rfl, rfl, q121⟩
      show Go G B M_law _ h115 (a91 :: (a78 :: (a61 :: []))) 16 48 163 #[.val (.int p0), .val (.int p1), .val (.int p2), .val (.int p3), .val (.int p4), .val (.int (p1 &&& (255 : Int32))), .val (.int (p2 &&& (255 : Int32))), .val (.int (p3 &&& (255 : Int32))), .val (.int (p4 &&& (255 : Int32))), .val (.int (1 : Int32)), .val (.int (1 : Int32)), .val (.ref a61), .val (.ref a78), .val (.ref a91), .val (.ref a116)] [(.int r120)]
      refine go_ireturn K (k := 92) rfl rfl (by decide) (bool_n (Or.elim q121 (fun u => Or.inr u.1) (fun u => Or.inl u.1))) rfl rfl ?_
      intro Sf hSf
      rcases q121 with ⟨u1, -⟩ | ⟨-, u2⟩
      · rw [u1]
      · exact absurd rfl u2
    · rw [hn]
      refine go_run K 35 4 (pc' := 62) (Ls' := #[.val (.int p0), .val (.int p1), .val (.int p2), .val (.int p3), .val (.int p4), .val (.int (p1 &&& (255 : Int32))), .val (.int (p2 &&& (255 : Int32))), .val (.int (p3 &&& (255 : Int32))), .val (.int (p4 &&& (255 : Int32))), .val (.int (1 : Int32)), .val (.int (2 : Int32)), .unset, .unset, .unset, .unset]) (st' := [(.int (4 : Int32))]) rfl ?_
      refine go_newarray K (k := 39) rfl (H.w 7 rfl) (by decide) (cap := 4) (by decide) rfl rfl rfl ?_
      intro h123 a122 k124 e125 g126 E127 A128
      have A128' : Arv G.Z h123 a122 k124 .char (4 : Int32) [(.int (0 : Int32)), (.int (0 : Int32)), (.int (0 : Int32)), (.int (0 : Int32))] (.int (0 : Int32)) := Arv.pad A128 (pad_rep [] (.int (0 : Int32)) 4)
      refine go_run K 40 4 (pc' := 71) (Ls' := #[.val (.int p0), .val (.int p1), .val (.int p2), .val (.int p3), .val (.int p4), .val (.int (p1 &&& (255 : Int32))), .val (.int (p2 &&& (255 : Int32))), .val (.int (p3 &&& (255 : Int32))), .val (.int (p4 &&& (255 : Int32))), .val (.int (1 : Int32)), .val (.int (2 : Int32)), .val (.ref a122), .unset, .unset, .unset]) (st' := [(.int (91 : Int32)), (.int (0 : Int32)), (.ref a122)]) rfl ?_
      refine go_castore K (k := 44) rfl A128' (i := 0) (by decide) rfl (Nat.le_of_ble_eq_true rfl) g126 ?_
      intro h129 W130 A131
      refine go_run K 45 1 (pc' := 74) (st' := [(.int (2 : Int32))]) rfl ?_
      refine go_ifle K (k := 46) rfl (pc' := 83) (by decide) (fun q => absurd (by decide) q) (fun _ => ?_)
      refine go_run K 47 3 (pc' := 82) (st' := [(.int (p1 &&& (255 : Int32))), (.int (1 : Int32)), (.ref a122)]) rfl ?_
      refine go_castore K (k := 50) rfl A131 (i := 1) (by decide) rfl (Nat.le_of_ble_eq_true rfl) g126 ?_
      intro h132 W133 A134
      refine go_run K 51 2 (pc' := 86) (st' := [(.int (1 : Int32)), (.int (2 : Int32))]) rfl ?_
      refine go_icmple K (k := 53) rfl (pc' := 95) (by decide) (fun q => absurd (by decide) q) (fun _ => ?_)
      refine go_run K 54 3 (pc' := 94) (st' := [(.int (p2 &&& (255 : Int32))), (.int (2 : Int32)), (.ref a122)]) rfl ?_
      refine go_castore K (k := 57) rfl A134 (i := 2) (by decide) rfl (Nat.le_of_ble_eq_true rfl) g126 ?_
      intro h135 W136 A137
      refine go_run K 58 2 (pc' := 98) (st' := [(.int (2 : Int32)), (.int (2 : Int32))]) rfl ?_
      refine go_icmple K (k := 60) rfl (pc' := 107) (by decide) (fun _ => ?_) (fun q => absurd q (by decide))
      refine go_run K 65 5 (pc' := 115) (st' := [(.int (93 : Int32)), (.int (3 : Int32)), (.ref a122)]) rfl ?_
      refine go_castore K (k := 70) rfl A137 (i := 3) (by decide) rfl (Nat.le_of_ble_eq_true rfl) g126 ?_
      intro h138 W139 A140
      have B141 : Arv G.Z h138 a122 k124 .char (4 : Int32) (([(91 : Int32), (p1 &&& (255 : Int32)), (p2 &&& (255 : Int32)), (93 : Int32)] : List Int32).map Value.int) (.int 0) := by
        have u := A140
        rw [nar_c8 p1, nar_c8 p2] at u
        exact u
      refine go_new K (k := 71) rfl (H.w 0 rfl) (H.w 1 rfl) (H.w 2 rfl) rfl rfl ?_
      intro h143 a142 e144 g145 E146 A147 D148
      have F149 : Fld G.Z h143 a142 "java/lang/String" "value" "[B" .null := D148 (Or.inr (H.w 20 rfl)) (ty := (.array .byte)) (by decide)
      have F150 : Fld G.Z h143 a142 "java/lang/String" "coder" "B" (.int (0 : Int32)) := D148 (Or.inr (H.w 21 rfl)) (ty := .byte) (by decide)
      refine go_run K 72 2 (pc' := 122) (st' := [(.ref a122), (.ref a142), (.ref a142)]) rfl ?_
      have c151 := (B141.ext E146)
      refine go_special K (k := 74) rfl rfl (H.w 8 rfl) (H.w 9 rfl) (H.w 2 rfl) (H.w 10 rfl) (by decide) pd_19 (c_si (cs := [(91 : Int32), (p1 &&& (255 : Int32)), (p2 &&& (255 : Int32)), (93 : Int32)]) H (latC (by decide) (latC (c8_lat p1) (latC (c8_lat p2) (lat1 (by decide)) (Nat.le_of_ble_eq_true rfl)) (Nat.le_of_ble_eq_true rfl)) (Nat.le_of_ble_eq_true rfl)) (Nat.le_of_ble_eq_true rfl) A147 F149 F150 g145 c151) (argsL := [(.ref a122)]) (rest := [(.ref a142)]) rfl rfl rfl (subS (List.mem_cons_self ..) sub0) rfl ?_
      rintro _ h152 _ - ⟨rfl, K153, S154⟩
      show Go G B M_law _ h152 (a142 :: (a122 :: [])) 6 16 125 #[.val (.int p0), .val (.int p1), .val (.int p2), .val (.int p3), .val (.int p4), .val (.int (p1 &&& (255 : Int32))), .val (.int (p2 &&& (255 : Int32))), .val (.int (p3 &&& (255 : Int32))), .val (.int (p4 &&& (255 : Int32))), .val (.int (1 : Int32)), .val (.int (2 : Int32)), .val (.ref a122), .unset, .unset, .unset] [(.ref a142)]
      refine go_run K 75 1 (pc' := 127) (Ls' := #[.val (.int p0), .val (.int p1), .val (.int p2), .val (.int p3), .val (.int p4), .val (.int (p1 &&& (255 : Int32))), .val (.int (p2 &&& (255 : Int32))), .val (.int (p3 &&& (255 : Int32))), .val (.int (p4 &&& (255 : Int32))), .val (.int (1 : Int32)), .val (.int (2 : Int32)), .val (.ref a122), .val (.ref a142), .unset, .unset]) (st' := []) rfl ?_
      refine go_new K (k := 76) rfl (H.w 0 rfl) (H.w 1 rfl) (H.w 2 rfl) rfl rfl ?_
      intro h156 a155 e157 g158 E159 A160 D161
      have F162 : Fld G.Z h156 a155 "java/lang/String" "value" "[B" .null := D161 (Or.inr (H.w 20 rfl)) (ty := (.array .byte)) (by decide)
      have F163 : Fld G.Z h156 a155 "java/lang/String" "coder" "B" (.int (0 : Int32)) := D161 (Or.inr (H.w 21 rfl)) (ty := .byte) (by decide)
      refine go_run K 77 6 (pc' := 141) (st' := [(.int (p4 &&& (255 : Int32))), (.int (p3 &&& (255 : Int32))), (.int (p2 &&& (255 : Int32))), (.int (p1 &&& (255 : Int32))), (.int (2 : Int32)), (.ref a155), (.ref a155)]) rfl ?_
      refine go_static K (k := 83) rfl (H.w 3 rfl) (H.w 4 rfl) (H.w 5 rfl) (H.w 6 rfl) (by decide) pd_20 (c_make2 (c0 := (p1 &&& (255 : Int32))) (c1 := (p2 &&& (255 : Int32))) (c2 := (p3 &&& (255 : Int32))) (c3 := (p4 &&& (255 : Int32))) H (c8_lat p1) (c8_lat p2)) (argsL := [(.int (2 : Int32)), (.int (p1 &&& (255 : Int32))), (.int (p2 &&& (255 : Int32))), (.int (p3 &&& (255 : Int32))), (.int (p4 &&& (255 : Int32)))]) (rest := [(.ref a155), (.ref a155)]) rfl rfl rfl sub0 rfl ?_
      rintro _ h164 _ - ⟨a165, k166, rfl, E167, A168, g169⟩
      show Go G B M_law _ h164 (a155 :: (a142 :: (a122 :: []))) 8 24 144 #[.val (.int p0), .val (.int p1), .val (.int p2), .val (.int p3), .val (.int p4), .val (.int (p1 &&& (255 : Int32))), .val (.int (p2 &&& (255 : Int32))), .val (.int (p3 &&& (255 : Int32))), .val (.int (p4 &&& (255 : Int32))), .val (.int (1 : Int32)), .val (.int (2 : Int32)), .val (.ref a122), .val (.ref a142), .unset, .unset] [(.ref a165), (.ref a155), (.ref a155)]
      have c170 := (A160.ext E167)
      have c171 := (F162.ext E167)
      have c172 := (F163.ext E167)
      refine go_special K (k := 84) rfl rfl (H.w 8 rfl) (H.w 9 rfl) (H.w 2 rfl) (H.w 10 rfl) (by decide) pd_19 (c_si (cs := [(p1 &&& (255 : Int32)), (p2 &&& (255 : Int32))]) H (latC (c8_lat p1) (lat1 (c8_lat p2)) (Nat.le_of_ble_eq_true rfl)) (Nat.le_of_ble_eq_true rfl) c170 c171 c172 g158 A168) (argsL := [(.ref a165)]) (rest := [(.ref a155)]) rfl rfl rfl (subS (List.mem_cons_self ..) sub0) rfl ?_
      rintro _ h173 _ - ⟨rfl, K174, S175⟩
      show Go G B M_law _ h173 (a155 :: (a142 :: (a122 :: []))) 12 32 147 #[.val (.int p0), .val (.int p1), .val (.int p2), .val (.int p3), .val (.int p4), .val (.int (p1 &&& (255 : Int32))), .val (.int (p2 &&& (255 : Int32))), .val (.int (p3 &&& (255 : Int32))), .val (.int (p4 &&& (255 : Int32))), .val (.int (1 : Int32)), .val (.int (2 : Int32)), .val (.ref a122), .val (.ref a142), .unset, .unset] [(.ref a155)]
      refine go_run K 85 2 (pc' := 151) (Ls' := #[.val (.int p0), .val (.int p1), .val (.int p2), .val (.int p3), .val (.int p4), .val (.int (p1 &&& (255 : Int32))), .val (.int (p2 &&& (255 : Int32))), .val (.int (p3 &&& (255 : Int32))), .val (.int (p4 &&& (255 : Int32))), .val (.int (1 : Int32)), .val (.int (2 : Int32)), .val (.ref a122), .val (.ref a142), .val (.ref a155), .unset]) (st' := [(.ref a142)]) rfl ?_
      have X176 : Ext h152 h164 := (Ext.tr E159 E167)
      have X177 : Ext h152 h173 := (Ext.keepN X176 K174 (allS (Nat.le_trans (Nat.le_refl _) (Nat.le_of_eq e157.symm)) all0))
      have c178 := (S154.ext X177)
      refine go_static K (k := 87) rfl (H.w 26 rfl) (H.w 27 rfl) (H.w 28 rfl) (H.w 29 rfl) (by decide) pd_21 (c_unb H (latC (by decide) (latC (c8_lat p1) (latC (c8_lat p2) (lat1 (by decide)) (Nat.le_of_ble_eq_true rfl)) (Nat.le_of_ble_eq_true rfl)) (Nat.le_of_ble_eq_true rfl)) (Nat.le_of_ble_eq_true rfl) (Nat.le_of_ble_eq_true rfl) hF c178) (argsL := [(.ref a142)]) (rest := []) rfl rfl rfl sub0 rfl ?_
      rintro _ h179 _ - ⟨a180, rfl, E181, S182⟩
      show Go G B M_law _ h179 (a155 :: (a142 :: (a122 :: []))) 16 49 154 #[.val (.int p0), .val (.int p1), .val (.int p2), .val (.int p3), .val (.int p4), .val (.int (p1 &&& (255 : Int32))), .val (.int (p2 &&& (255 : Int32))), .val (.int (p3 &&& (255 : Int32))), .val (.int (p4 &&& (255 : Int32))), .val (.int (1 : Int32)), .val (.int (2 : Int32)), .val (.ref a122), .val (.ref a142), .val (.ref a155), .unset] [(.ref a180)]
      refine go_run K 88 3 (pc' := 160) (Ls' := #[.val (.int p0), .val (.int p1), .val (.int p2), .val (.int p3), .val (.int p4), .val (.int (p1 &&& (255 : Int32))), .val (.int (p2 &&& (255 : Int32))), .val (.int (p3 &&& (255 : Int32))), .val (.int (p4 &&& (255 : Int32))), .val (.int (1 : Int32)), .val (.int (2 : Int32)), .val (.ref a122), .val (.ref a142), .val (.ref a155), .val (.ref a180)]) (st' := [(.ref a155), (.ref a180)]) rfl ?_
      have c183 := (S175.ext E181)
      refine go_virt0 K (k := 91) rfl (H.w 52 rfl) (H.w 55 rfl) (H.w 54 rfl) (H.w 2 rfl) (H.w 56 rfl) (by decide) pd_22 S182.exa (c_seq H (latC (c8_lat p1) (lat1 (c8_lat p2)) (Nat.le_of_ble_eq_true rfl)) (latC (c8_lat p1) (lat1 (c8_lat p2)) (Nat.le_of_ble_eq_true rfl)) S182 c183) (argsL := [(.ref a155)]) (rest := []) rfl rfl rfl sub0 rfl ?_
      rintro _ _ _ - ⟨r184, rfl, rfl, q185⟩
      show Go G B M_law _ h179 (a155 :: (a142 :: (a122 :: []))) 16 49 163 #[.val (.int p0), .val (.int p1), .val (.int p2), .val (.int p3), .val (.int p4), .val (.int (p1 &&& (255 : Int32))), .val (.int (p2 &&& (255 : Int32))), .val (.int (p3 &&& (255 : Int32))), .val (.int (p4 &&& (255 : Int32))), .val (.int (1 : Int32)), .val (.int (2 : Int32)), .val (.ref a122), .val (.ref a142), .val (.ref a155), .val (.ref a180)] [(.int r184)]
      refine go_ireturn K (k := 92) rfl rfl (by decide) (bool_n (Or.elim q185 (fun u => Or.inr u.1) (fun u => Or.inl u.1))) rfl rfl ?_
      intro Sf hSf
      rcases q185 with ⟨u1, -⟩ | ⟨-, u2⟩
      · rw [u1]
      · exact absurd rfl u2
    · rw [hn]
      refine go_run K 35 4 (pc' := 62) (Ls' := #[.val (.int p0), .val (.int p1), .val (.int p2), .val (.int p3), .val (.int p4), .val (.int (p1 &&& (255 : Int32))), .val (.int (p2 &&& (255 : Int32))), .val (.int (p3 &&& (255 : Int32))), .val (.int (p4 &&& (255 : Int32))), .val (.int (1 : Int32)), .val (.int (3 : Int32)), .unset, .unset, .unset, .unset]) (st' := [(.int (5 : Int32))]) rfl ?_
      refine go_newarray K (k := 39) rfl (H.w 7 rfl) (by decide) (cap := 5) (by decide) rfl rfl rfl ?_
      intro h187 a186 k188 e189 g190 E191 A192
      have A192' : Arv G.Z h187 a186 k188 .char (5 : Int32) [(.int (0 : Int32)), (.int (0 : Int32)), (.int (0 : Int32)), (.int (0 : Int32)), (.int (0 : Int32))] (.int (0 : Int32)) := Arv.pad A192 (pad_rep [] (.int (0 : Int32)) 5)
      refine go_run K 40 4 (pc' := 71) (Ls' := #[.val (.int p0), .val (.int p1), .val (.int p2), .val (.int p3), .val (.int p4), .val (.int (p1 &&& (255 : Int32))), .val (.int (p2 &&& (255 : Int32))), .val (.int (p3 &&& (255 : Int32))), .val (.int (p4 &&& (255 : Int32))), .val (.int (1 : Int32)), .val (.int (3 : Int32)), .val (.ref a186), .unset, .unset, .unset]) (st' := [(.int (91 : Int32)), (.int (0 : Int32)), (.ref a186)]) rfl ?_
      refine go_castore K (k := 44) rfl A192' (i := 0) (by decide) rfl (Nat.le_of_ble_eq_true rfl) g190 ?_
      intro h193 W194 A195
      refine go_run K 45 1 (pc' := 74) (st' := [(.int (3 : Int32))]) rfl ?_
      refine go_ifle K (k := 46) rfl (pc' := 83) (by decide) (fun q => absurd (by decide) q) (fun _ => ?_)
      refine go_run K 47 3 (pc' := 82) (st' := [(.int (p1 &&& (255 : Int32))), (.int (1 : Int32)), (.ref a186)]) rfl ?_
      refine go_castore K (k := 50) rfl A195 (i := 1) (by decide) rfl (Nat.le_of_ble_eq_true rfl) g190 ?_
      intro h196 W197 A198
      refine go_run K 51 2 (pc' := 86) (st' := [(.int (1 : Int32)), (.int (3 : Int32))]) rfl ?_
      refine go_icmple K (k := 53) rfl (pc' := 95) (by decide) (fun q => absurd (by decide) q) (fun _ => ?_)
      refine go_run K 54 3 (pc' := 94) (st' := [(.int (p2 &&& (255 : Int32))), (.int (2 : Int32)), (.ref a186)]) rfl ?_
      refine go_castore K (k := 57) rfl A198 (i := 2) (by decide) rfl (Nat.le_of_ble_eq_true rfl) g190 ?_
      intro h199 W200 A201
      refine go_run K 58 2 (pc' := 98) (st' := [(.int (2 : Int32)), (.int (3 : Int32))]) rfl ?_
      refine go_icmple K (k := 60) rfl (pc' := 107) (by decide) (fun q => absurd (by decide) q) (fun _ => ?_)
      refine go_run K 61 3 (pc' := 106) (st' := [(.int (p3 &&& (255 : Int32))), (.int (3 : Int32)), (.ref a186)]) rfl ?_
      refine go_castore K (k := 64) rfl A201 (i := 3) (by decide) rfl (Nat.le_of_ble_eq_true rfl) g190 ?_
      intro h202 W203 A204
      refine go_run K 65 5 (pc' := 115) (st' := [(.int (93 : Int32)), (.int (4 : Int32)), (.ref a186)]) rfl ?_
      refine go_castore K (k := 70) rfl A204 (i := 4) (by decide) rfl (Nat.le_of_ble_eq_true rfl) g190 ?_
      intro h205 W206 A207
      have B208 : Arv G.Z h205 a186 k188 .char (5 : Int32) (([(91 : Int32), (p1 &&& (255 : Int32)), (p2 &&& (255 : Int32)), (p3 &&& (255 : Int32)), (93 : Int32)] : List Int32).map Value.int) (.int 0) := by
        have u := A207
        rw [nar_c8 p1, nar_c8 p2, nar_c8 p3] at u
        exact u
      refine go_new K (k := 71) rfl (H.w 0 rfl) (H.w 1 rfl) (H.w 2 rfl) rfl rfl ?_
      intro h210 a209 e211 g212 E213 A214 D215
      have F216 : Fld G.Z h210 a209 "java/lang/String" "value" "[B" .null := D215 (Or.inr (H.w 20 rfl)) (ty := (.array .byte)) (by decide)
      have F217 : Fld G.Z h210 a209 "java/lang/String" "coder" "B" (.int (0 : Int32)) := D215 (Or.inr (H.w 21 rfl)) (ty := .byte) (by decide)
      refine go_run K 72 2 (pc' := 122) (st' := [(.ref a186), (.ref a209), (.ref a209)]) rfl ?_
      have c218 := (B208.ext E213)
      refine go_special K (k := 74) rfl rfl (H.w 8 rfl) (H.w 9 rfl) (H.w 2 rfl) (H.w 10 rfl) (by decide) pd_19 (c_si (cs := [(91 : Int32), (p1 &&& (255 : Int32)), (p2 &&& (255 : Int32)), (p3 &&& (255 : Int32)), (93 : Int32)]) H (latC (by decide) (latC (c8_lat p1) (latC (c8_lat p2) (latC (c8_lat p3) (lat1 (by decide)) (Nat.le_of_ble_eq_true rfl)) (Nat.le_of_ble_eq_true rfl)) (Nat.le_of_ble_eq_true rfl)) (Nat.le_of_ble_eq_true rfl)) (Nat.le_of_ble_eq_true rfl) A214 F216 F217 g212 c218) (argsL := [(.ref a186)]) (rest := [(.ref a209)]) rfl rfl rfl (subS (List.mem_cons_self ..) sub0) rfl ?_
      rintro _ h219 _ - ⟨rfl, K220, S221⟩
      show Go G B M_law _ h219 (a209 :: (a186 :: [])) 6 17 125 #[.val (.int p0), .val (.int p1), .val (.int p2), .val (.int p3), .val (.int p4), .val (.int (p1 &&& (255 : Int32))), .val (.int (p2 &&& (255 : Int32))), .val (.int (p3 &&& (255 : Int32))), .val (.int (p4 &&& (255 : Int32))), .val (.int (1 : Int32)), .val (.int (3 : Int32)), .val (.ref a186), .unset, .unset, .unset] [(.ref a209)]
      refine go_run K 75 1 (pc' := 127) (Ls' := #[.val (.int p0), .val (.int p1), .val (.int p2), .val (.int p3), .val (.int p4), .val (.int (p1 &&& (255 : Int32))), .val (.int (p2 &&& (255 : Int32))), .val (.int (p3 &&& (255 : Int32))), .val (.int (p4 &&& (255 : Int32))), .val (.int (1 : Int32)), .val (.int (3 : Int32)), .val (.ref a186), .val (.ref a209), .unset, .unset]) (st' := []) rfl ?_
      refine go_new K (k := 76) rfl (H.w 0 rfl) (H.w 1 rfl) (H.w 2 rfl) rfl rfl ?_
      intro h223 a222 e224 g225 E226 A227 D228
      have F229 : Fld G.Z h223 a222 "java/lang/String" "value" "[B" .null := D228 (Or.inr (H.w 20 rfl)) (ty := (.array .byte)) (by decide)
      have F230 : Fld G.Z h223 a222 "java/lang/String" "coder" "B" (.int (0 : Int32)) := D228 (Or.inr (H.w 21 rfl)) (ty := .byte) (by decide)
      refine go_run K 77 6 (pc' := 141) (st' := [(.int (p4 &&& (255 : Int32))), (.int (p3 &&& (255 : Int32))), (.int (p2 &&& (255 : Int32))), (.int (p1 &&& (255 : Int32))), (.int (3 : Int32)), (.ref a222), (.ref a222)]) rfl ?_
      refine go_static K (k := 83) rfl (H.w 3 rfl) (H.w 4 rfl) (H.w 5 rfl) (H.w 6 rfl) (by decide) pd_20 (c_make3 (c0 := (p1 &&& (255 : Int32))) (c1 := (p2 &&& (255 : Int32))) (c2 := (p3 &&& (255 : Int32))) (c3 := (p4 &&& (255 : Int32))) H (c8_lat p1) (c8_lat p2) (c8_lat p3)) (argsL := [(.int (3 : Int32)), (.int (p1 &&& (255 : Int32))), (.int (p2 &&& (255 : Int32))), (.int (p3 &&& (255 : Int32))), (.int (p4 &&& (255 : Int32)))]) (rest := [(.ref a222), (.ref a222)]) rfl rfl rfl sub0 rfl ?_
      rintro _ h231 _ - ⟨a232, k233, rfl, E234, A235, g236⟩
      show Go G B M_law _ h231 (a222 :: (a209 :: (a186 :: []))) 8 25 144 #[.val (.int p0), .val (.int p1), .val (.int p2), .val (.int p3), .val (.int p4), .val (.int (p1 &&& (255 : Int32))), .val (.int (p2 &&& (255 : Int32))), .val (.int (p3 &&& (255 : Int32))), .val (.int (p4 &&& (255 : Int32))), .val (.int (1 : Int32)), .val (.int (3 : Int32)), .val (.ref a186), .val (.ref a209), .unset, .unset] [(.ref a232), (.ref a222), (.ref a222)]
      have c237 := (A227.ext E234)
      have c238 := (F229.ext E234)
      have c239 := (F230.ext E234)
      refine go_special K (k := 84) rfl rfl (H.w 8 rfl) (H.w 9 rfl) (H.w 2 rfl) (H.w 10 rfl) (by decide) pd_19 (c_si (cs := [(p1 &&& (255 : Int32)), (p2 &&& (255 : Int32)), (p3 &&& (255 : Int32))]) H (latC (c8_lat p1) (latC (c8_lat p2) (lat1 (c8_lat p3)) (Nat.le_of_ble_eq_true rfl)) (Nat.le_of_ble_eq_true rfl)) (Nat.le_of_ble_eq_true rfl) c237 c238 c239 g225 A235) (argsL := [(.ref a232)]) (rest := [(.ref a222)]) rfl rfl rfl (subS (List.mem_cons_self ..) sub0) rfl ?_
      rintro _ h240 _ - ⟨rfl, K241, S242⟩
      show Go G B M_law _ h240 (a222 :: (a209 :: (a186 :: []))) 12 33 147 #[.val (.int p0), .val (.int p1), .val (.int p2), .val (.int p3), .val (.int p4), .val (.int (p1 &&& (255 : Int32))), .val (.int (p2 &&& (255 : Int32))), .val (.int (p3 &&& (255 : Int32))), .val (.int (p4 &&& (255 : Int32))), .val (.int (1 : Int32)), .val (.int (3 : Int32)), .val (.ref a186), .val (.ref a209), .unset, .unset] [(.ref a222)]
      refine go_run K 85 2 (pc' := 151) (Ls' := #[.val (.int p0), .val (.int p1), .val (.int p2), .val (.int p3), .val (.int p4), .val (.int (p1 &&& (255 : Int32))), .val (.int (p2 &&& (255 : Int32))), .val (.int (p3 &&& (255 : Int32))), .val (.int (p4 &&& (255 : Int32))), .val (.int (1 : Int32)), .val (.int (3 : Int32)), .val (.ref a186), .val (.ref a209), .val (.ref a222), .unset]) (st' := [(.ref a209)]) rfl ?_
      have X243 : Ext h219 h231 := (Ext.tr E226 E234)
      have X244 : Ext h219 h240 := (Ext.keepN X243 K241 (allS (Nat.le_trans (Nat.le_refl _) (Nat.le_of_eq e224.symm)) all0))
      have c245 := (S221.ext X244)
      refine go_static K (k := 87) rfl (H.w 26 rfl) (H.w 27 rfl) (H.w 28 rfl) (H.w 29 rfl) (by decide) pd_21 (c_unb H (latC (by decide) (latC (c8_lat p1) (latC (c8_lat p2) (latC (c8_lat p3) (lat1 (by decide)) (Nat.le_of_ble_eq_true rfl)) (Nat.le_of_ble_eq_true rfl)) (Nat.le_of_ble_eq_true rfl)) (Nat.le_of_ble_eq_true rfl)) (Nat.le_of_ble_eq_true rfl) (Nat.le_of_ble_eq_true rfl) hF c245) (argsL := [(.ref a209)]) (rest := []) rfl rfl rfl sub0 rfl ?_
      rintro _ h246 _ - ⟨a247, rfl, E248, S249⟩
      show Go G B M_law _ h246 (a222 :: (a209 :: (a186 :: []))) 16 50 154 #[.val (.int p0), .val (.int p1), .val (.int p2), .val (.int p3), .val (.int p4), .val (.int (p1 &&& (255 : Int32))), .val (.int (p2 &&& (255 : Int32))), .val (.int (p3 &&& (255 : Int32))), .val (.int (p4 &&& (255 : Int32))), .val (.int (1 : Int32)), .val (.int (3 : Int32)), .val (.ref a186), .val (.ref a209), .val (.ref a222), .unset] [(.ref a247)]
      refine go_run K 88 3 (pc' := 160) (Ls' := #[.val (.int p0), .val (.int p1), .val (.int p2), .val (.int p3), .val (.int p4), .val (.int (p1 &&& (255 : Int32))), .val (.int (p2 &&& (255 : Int32))), .val (.int (p3 &&& (255 : Int32))), .val (.int (p4 &&& (255 : Int32))), .val (.int (1 : Int32)), .val (.int (3 : Int32)), .val (.ref a186), .val (.ref a209), .val (.ref a222), .val (.ref a247)]) (st' := [(.ref a222), (.ref a247)]) rfl ?_
      have c250 := (S242.ext E248)
      refine go_virt0 K (k := 91) rfl (H.w 52 rfl) (H.w 55 rfl) (H.w 54 rfl) (H.w 2 rfl) (H.w 56 rfl) (by decide) pd_22 S249.exa (c_seq H (latC (c8_lat p1) (latC (c8_lat p2) (lat1 (c8_lat p3)) (Nat.le_of_ble_eq_true rfl)) (Nat.le_of_ble_eq_true rfl)) (latC (c8_lat p1) (latC (c8_lat p2) (lat1 (c8_lat p3)) (Nat.le_of_ble_eq_true rfl)) (Nat.le_of_ble_eq_true rfl)) S249 c250) (argsL := [(.ref a222)]) (rest := []) rfl rfl rfl sub0 rfl ?_
      rintro _ _ _ - ⟨r251, rfl, rfl, q252⟩
      show Go G B M_law _ h246 (a222 :: (a209 :: (a186 :: []))) 16 50 163 #[.val (.int p0), .val (.int p1), .val (.int p2), .val (.int p3), .val (.int p4), .val (.int (p1 &&& (255 : Int32))), .val (.int (p2 &&& (255 : Int32))), .val (.int (p3 &&& (255 : Int32))), .val (.int (p4 &&& (255 : Int32))), .val (.int (1 : Int32)), .val (.int (3 : Int32)), .val (.ref a186), .val (.ref a209), .val (.ref a222), .val (.ref a247)] [(.int r251)]
      refine go_ireturn K (k := 92) rfl rfl (by decide) (bool_n (Or.elim q252 (fun u => Or.inr u.1) (fun u => Or.inl u.1))) rfl rfl ?_
      intro Sf hSf
      rcases q252 with ⟨u1, -⟩ | ⟨-, u2⟩
      · rw [u1]
      · exact absurd rfl u2
set_option maxRecDepth 65536 in
set_option maxHeartbeats 40000000 in
theorem comes_1 {Post : Tables → Env → Array Value → State → Outcome → State → Prop} (hpost : ∀ tb e args s v u, (limb_1_1.after args s (.returned v) u = true ∧ limb_1_2.after args s (.returned v) u = true ∧ True) → ReturnedEndW s (.returned v) u (Jvm.fieldLocs frame_1_writes args s ++ Jvm.arrayLocs frame_1_arrays args s ++ Jvm.staticLocs frame_1_statics s) 32 3264 → Post tb e args s (.returned v) u) :
    ArmFor flags0 classFile x code maxLocals ret World_1 tables_1 room_1 Calls_1 rest_1 Pre_1 Post := by
  intro l hfl _ _ p e ha hc hk s m args below hf hA hF happ hP
  obtain ⟨hcalls, hrest, hpre⟩ := hP
  obtain ⟨-, -, -, hnamed, -, -, -, hat⟩ := (Spec.applies_iff hf).mp happ
  obtain ⟨hg, hn⟩ := and_e (Cond.before_iff.mp (show (Jvm.Cond.and given_1 narrow_1).before args s = true from hpre))
  obtain ⟨hcnt, hz0⟩ := and_e hg
  obtain ⟨hi0, hz1⟩ := and_e hz0
  obtain ⟨hi1, hz2⟩ := and_e hz1
  obtain ⟨hi2, hz3⟩ := and_e hz2
  obtain ⟨hi3, hz4⟩ := and_e hz3
  have hi4 := hz4
  obtain ⟨w0, w1, w2, w3, w4, rfl⟩ : ∃ w0 w1 w2 w3 w4 : Value, args = #[w0, w1, w2, w3, w4] := by
    have hs : args.size = 5 := by simpa [Cond.value, given_1] using hcnt
    obtain ⟨L⟩ := args
    match L, hs with
    | [w0, w1, w2, w3, w4], _ => exact ⟨w0, w1, w2, w3, w4, rfl⟩
  have hw := fun d (hd : d ∈ tables_1) => atoms_spec (ws := Jvm.Cond.code x code maxLocals ret :: tables_1) hat d (List.mem_cons_of_mem _ hd)
  obtain ⟨hsets, hown0⟩ := atoms_of _ (rest_1_c_eq ▸ (show rest_1_c.before _ s = true from hrest))
  obtain ⟨i0, e0⟩ := is_v hi0
  obtain rfl : w0 = (.int i0) := Option.some.inj e0
  obtain ⟨i1, e1⟩ := is_v hi1
  obtain rfl : w1 = (.int i1) := Option.some.inj e1
  obtain ⟨i2, e2⟩ := is_v hi2
  obtain rfl : w2 = (.int i2) := Option.some.inj e2
  obtain ⟨i3, e3⟩ := is_v hi3
  obtain rfl : w3 = (.int i3) := Option.some.inj e3
  obtain ⟨i4, e4⟩ := is_v hi4
  obtain rfl : w4 = (.int i4) := Option.some.inj e4
  have nz := not_v (Cond.before_iff.mp (hsets _ (List.mem_of_getElem? (i := 2) rfl)))
  obtain ⟨cz, ecz⟩ := is_v (Cond.before_iff.mp (hsets _ (List.mem_of_getElem? (i := 1) rfl)))
  have Scz : Sta s s.heap "java/lang/String" "COMPACT_STRINGS" "Z" (.int cz) := Sta.start ecz (Or.inl (hsets _ (List.mem_of_getElem? (i := 0) rfl)))
  have hcz : ¬ (cz = (0 : Int32)) := gotF (Cond.eq_ints ecz (Term.int_eval (0))) nz
  have hEW : EW s #[(.int i0), (.int i1), (.int i2), (.int i3), (.int i4)] els := by
    exact (EW.cons (hw _ (List.mem_of_getElem? (i := 30) rfl)) (by decide) (EW.cons (hw _ (List.mem_of_getElem? (i := 18) rfl)) (by decide) (EW.cons (hw _ (List.mem_of_getElem? (i := 120) rfl)) (by decide) EW.nil)))
  have hCH : CHv s els s.vm s.heap := CHv.start hEW (fun p hp => hcalls.1 p hp) (hsets _ (List.mem_of_getElem? (i := 2) rfl)) (hw _ (List.mem_of_getElem? (i := 19) rfl)) (hw _ (List.mem_of_getElem? (i := 1) rfl))
  have H : Gl tables_1 els (l, s, #[(.int i0), (.int i1), (.int i2), (.int i3), (.int i4)], els) := ⟨hw, rfl, hEW, fun d hd => hw d ((by decide +kernel : ∀ d ∈ Bundle.stringAtoms, d ∈ tables_1) d hd), cz, Scz, hcz⟩
  obtain ⟨vf0, evf0, hvf0⟩ := isR_v (Cond.before_iff.mp (hsets _ (List.mem_of_getElem? (i := 8) rfl)))
  have hF0 : ∃ vf : Value, Sta s s.heap "jdk/internal/util/Preconditions" "SIOOBE_FORMATTER" "Ljava/util/function/BiFunction;" vf ∧ vf.isRef = true := ⟨vf0, Sta.start evf0 (Or.inl (hsets _ (List.mem_of_getElem? (i := 7) rfl))), hvf0⟩
  obtain ⟨n, o, k1, k2, k3, v, L, rfl, ⟨rfl, N, hext⟩, hC, hq⟩ := law_ok (G := (l, s, #[(.int i0), (.int i1), (.int i2), (.int i3), (.int i4)], els)) H hF0 p e ha hc hk s m _ below hf ((Spec.applies_iff_loose hf).mp happ).1 ⟨rfl, State.Warmed39.refl s, rfl, hCH, Ext.rf _, fun _ q => nomatch q⟩ trivial
  refine ⟨n, _, k1, k2, k3, hpost _ _ _ _ _ _ ⟨Cond.after_iff.mpr rfl, Cond.after_iff.mpr (eq_i res_at (Term.int_eval (1)) rfl), trivial⟩ ?_⟩
  obtain ⟨q1, q2, q3, q4⟩ := hq
  exact ⟨q1, q2, q3, (q4.sift fun y hy => Or.inr (N y hy)).mono (by decide) (by decide)⟩
theorem main_1_1 : Claimed_1_1 := comes_1 fun _ _ _ _ _ _ h hF => ⟨h.1, hF⟩
theorem main_1_2 : Claimed_1_2 := comes_1 fun _ _ _ _ _ _ h hF => ⟨h.2.1, hF⟩
end Jvm.Pilot.@@N@@
namespace Jvm.Pilot.@@N@@
open Jvm Jvm.ClassFile Sem Op Lib Jvm.Free Jvm.Stand Jvm.Pilot.@@N@@.Jvm.D
/-! MADE BY PROGRAM (witnessworld.py) out of the Statement's table words and the real class files: 23 classes; the members and pool entries that the words name. The judged class is class 1, her method 2. -/
namespace start1
open Jvm.ClassFile
def u (s : String) : CpInfo := .utf8 (stringToUtf16 s)
/-- a pool by its gaps: so many unusable entries, then the entry; so many at the end -/
def gap : Nat → List CpInfo → List CpInfo
  | 0, r => r
  | n + 1, r => .unusable :: gap n r
def poolList (es : List (Nat × CpInfo)) (last : Nat) : List CpInfo := es.foldr (fun e r => gap e.1 (e.2 :: r)) (gap last [])
def pool (es : List (Nat × CpInfo)) (last : Nat) : Array CpInfo := ⟨poolList es last⟩
def fileOf (pool : Array CpInfo) (this : Nat) (attrs : Array Attribute := #[]) (ms : Array MethodInfo := #[]) (fl : Nat := 33) (sup : Nat := 0) (ifs : Array Nat := #[]) (fds : Array FieldInfo := #[]) : ClassFile where
  minorVersion := 0
  majorVersion := 65
  constantPool := pool
  accessFlags := fl
  thisClass := this
  superClass := sup
  interfaces := ifs
  fields := fds
  methods := ms
  attributes := attrs
def plain (name : String) (sup : Option ClassId) : Class where
  name := name
  kind := .ordinary
  loader := none
  accessFlags := 33
  super := sup
  interfaces := #[]
  cf := none
  fields := #[]
  methods := #[]
  instanceTypes := #[]
  staticTypes := #[]
  resolved := #[]
  callSites := []
  init := .initialized
  statics := none
  mirror := none

def pool0 : Array CpInfo := pool [(5, u "<init>"), (0, u "()V"), (1, .class_ 10), (1, u "java/lang/Object")] 113

def k0c0 : Code := { maxStack := 0, maxLocals := 1, code := object_method_1_code, exceptionTable := #[], attributes := #[] }
def k0m0 : Method := { name := "<init>", desc := "()V", sig := { parameters := [], returnType := none }, accessFlags := 1, code := some k0c0 }
/-- java/lang/Object -/
def k0 : Class := { plain "java/lang/Object" none with
  accessFlags := 33
  interfaces := #[]
  cf := some (fileOf pool0 8 #[] #[{ accessFlags := 1, nameIndex := 5, descriptorIndex := 6, attributes := #[] }] 33 0 #[] #[])
  fields := #[]
  methods := #[k0m0]
  instanceTypes := #[]
  staticTypes := #[]
  resolved := Array.replicate 124 none
  statics := none }

def pool1 : Array CpInfo := pool [(2, .class_ 4), (1, u "java/lang/Object"), (0, u "<init>"), (0, u "()V"), (0, .class_ 8), (0, u "java/lang/String"), (0, .methodref 7 10), (0, .nameAndType 5 11), (0, u "([C)V"), (0, .methodref 13 14), (0, .class_ 15), (0, .nameAndType 16 17), (0, u "com/example/crosswarden/crosswarden/config/HostNamesUnbracketedPinLaw"), (0, u "make"), (0, u "(ICCCC)[C"), (0, .methodref 19 20), (0, .class_ 21), (0, .nameAndType 22 23), (0, u "com/example/crosswarden/crosswarden/config/HostNames"), (0, u "unbracketed"), (0, u "(Ljava/lang/String;)Ljava/lang/String;"), (0, .methodref 7 25), (0, .nameAndType 26 27), (0, u "equals"), (0, u "(Ljava/lang/Object;)Z"), (5, u "law"), (0, u "(IIIII)Z")] 2

def k1m0 : Method := { name := "<init>", desc := "()V", sig := { parameters := [], returnType := none }, accessFlags := 1, code := none }
def k1c1 : Code := { maxStack := 3, maxLocals := 6, code := method_2_code, exceptionTable := #[], attributes := #[] }
def k1m1 : Method := { name := "make", desc := "(ICCCC)[C", sig := { parameters := [.int, .char, .char, .char, .char], returnType := some (.array .char) }, accessFlags := 10, code := some k1c1 }
def k1c2 : Code := { maxStack := 7, maxLocals := 15, code := code, exceptionTable := #[], attributes := #[] }
def k1m2 : Method := { name := "law", desc := "(IIIII)Z", sig := { parameters := [.int, .int, .int, .int, .int], returnType := some .boolean }, accessFlags := 9, code := some k1c2 }
/-- com/example/crosswarden/crosswarden/config/HostNamesUnbracketedPinLaw -/
def k1 : Class := { plain "com/example/crosswarden/crosswarden/config/HostNamesUnbracketedPinLaw" (some 0) with
  accessFlags := 49
  interfaces := #[]
  cf := some (fileOf pool1 13 #[] #[{ accessFlags := 1, nameIndex := 5, descriptorIndex := 6, attributes := #[] }, { accessFlags := 10, nameIndex := 16, descriptorIndex := 17, attributes := #[] }, { accessFlags := 9, nameIndex := 33, descriptorIndex := 34, attributes := #[] }] 49 2 #[] #[])
  fields := #[]
  methods := #[k1m0, k1m1, k1m2]
  instanceTypes := #[]
  staticTypes := #[]
  resolved := Array.replicate 37 none
  statics := none }

def pool2 : Array CpInfo := pool [(1, .class_ 2), (0, u "java/io/Serializable"), (0, .class_ 4), (0, u "java/lang/Object")] 2

/-- java/io/Serializable -/
def k2 : Class := { plain "java/io/Serializable" (some 0) with
  accessFlags := 1537
  interfaces := #[]
  cf := some (fileOf pool2 1 #[] #[] 1537 3 #[] #[])
  fields := #[]
  methods := #[]
  instanceTypes := #[]
  staticTypes := #[]
  resolved := Array.replicate 7 none
  statics := none }

def pool3 : Array CpInfo := pool [(1, .class_ 2), (0, u "java/lang/Comparable"), (0, .class_ 4), (0, u "java/lang/Object")] 7

/-- java/lang/Comparable -/
def k3 : Class := { plain "java/lang/Comparable" (some 0) with
  accessFlags := 1537
  interfaces := #[]
  cf := some (fileOf pool3 1 #[] #[] 1537 3 #[] #[])
  fields := #[]
  methods := #[]
  instanceTypes := #[]
  staticTypes := #[]
  resolved := Array.replicate 12 none
  statics := none }

def pool4 : Array CpInfo := pool [(2, .class_ 4), (1, u "java/lang/CharSequence"), (42, .class_ 48), (0, u "java/lang/CharSequence$1CodePointIterator"), (10, .class_ 60), (0, u "java/lang/CharSequence$1CharIterator"), (5, .class_ 67), (0, u "java/lang/Object")] 63

/-- java/lang/CharSequence -/
def k4 : Class := { plain "java/lang/CharSequence" (some 0) with
  accessFlags := 1537
  interfaces := #[]
  cf := some (fileOf pool4 2 #[.nestMembers #[47, 59]] #[] 1537 66 #[] #[])
  fields := #[]
  methods := #[]
  instanceTypes := #[]
  staticTypes := #[]
  resolved := Array.replicate 131 none
  statics := none }

def pool5 : Array CpInfo := pool [(1, .class_ 2), (0, u "java/lang/constant/Constable"), (0, .class_ 4), (0, u "java/lang/Object")] 6

/-- java/lang/constant/Constable -/
def k5 : Class := { plain "java/lang/constant/Constable" (some 0) with
  accessFlags := 1537
  interfaces := #[]
  cf := some (fileOf pool5 1 #[] #[] 1537 3 #[] #[])
  fields := #[]
  methods := #[]
  instanceTypes := #[]
  staticTypes := #[]
  resolved := Array.replicate 11 none
  statics := none }

def pool6 : Array CpInfo := pool [(1, .class_ 2), (0, u "java/lang/constant/ConstantDesc"), (0, .class_ 4), (0, u "java/lang/Object")] 32

/-- java/lang/constant/ConstantDesc -/
def k6 : Class := { plain "java/lang/constant/ConstantDesc" (some 0) with
  accessFlags := 1537
  interfaces := #[]
  cf := some (fileOf pool6 1 #[] #[] 1537 3 #[] #[])
  fields := #[]
  methods := #[]
  instanceTypes := #[]
  staticTypes := #[]
  resolved := Array.replicate 37 none
  statics := none }

def pool7 : Array CpInfo := pool [(1, .methodref 2 3), (0, .class_ 4), (0, .nameAndType 5 6), (0, u "java/lang/Object"), (0, u "<init>"), (0, u "()V"), (0, .string 8), (0, u ""), (0, .fieldref 10 11), (0, .class_ 12), (0, .nameAndType 13 14), (0, u "java/lang/String"), (0, u "value"), (0, u "[B"), (0, .fieldref 10 16), (0, .nameAndType 17 18), (0, u "coder"), (0, u "B"), (2, u "hash"), (0, u "I"), (2, u "hashIsZero"), (0, u "Z"), (0, .methodref 10 28), (0, .nameAndType 5 29), (0, u "([CIILjava/lang/Void;)V"), (8, .fieldref 10 39), (0, .nameAndType 40 26), (0, u "COMPACT_STRINGS"), (1, .class_ 44), (1, u "java/lang/StringUTF16"), (0, u "compress"), (1, .methodref 42 48), (0, .nameAndType 49 50), (0, u "coderFromArrayLen"), (0, u "([BI)B"), (56, .class_ 109), (1, u "java/lang/StringLatin1"), (32, u "()Z"), (34, .methodref 42 178), (0, .nameAndType 45 179), (0, u "([CII)[B"), (31, u "([BB)V"), (122, u "()I"), (0, .methodref 10 336), (0, .nameAndType 17 337), (0, u "()B"), (38, u "([BI[BII)I"), (115, .methodref 10 493), (0, .nameAndType 494 142), (0, u "isLatin1"), (10, .methodref 10 506), (0, .nameAndType 507 334), (0, u "length"), (5, u "checkFromToIndex"), (7, .methodref 10 522), (0, .nameAndType 523 524), (0, u "checkBoundsBeginEnd"), (0, u "(III)V"), (16, .methodref 107 542), (0, .nameAndType 543 544), (0, u "equals"), (0, u "([B[B)Z"), (14, .class_ 561), (1, u "jdk/internal/util/ArraysSupport"), (0, u "mismatch"), (10, u "(Ljava/lang/Object;)Z"), (1, .class_ 576), (0, u "java/lang/CharSequence"), (22, u "CASE_INSENSITIVE_ORDER"), (0, u "Ljava/util/Comparator;"), (6, .methodref 559 608), (0, .nameAndType 562 376), (15, .methodref 10 625), (0, .nameAndType 626 627), (0, u "startsWith"), (0, u "(Ljava/lang/String;I)Z"), (55, u "substring"), (0, u "(II)Ljava/lang/String;"), (0, .methodref 107 686), (0, .nameAndType 687 688), (0, u "newString"), (0, u "([BII)Ljava/lang/String;"), (321, u "([C)V"), (42, .fieldref 1054 1055), (0, .class_ 1056), (0, .nameAndType 1057 1058), (0, u "jdk/internal/util/Preconditions"), (0, u "SIOOBE_FORMATTER"), (0, u "Ljava/util/function/BiFunction;"), (3, .methodref 1054 1063), (0, .nameAndType 513 1064), (0, u "(IIILjava/util/function/BiFunction;)I"), (36, u "serialPersistentFields"), (0, u "[Ljava/io/ObjectStreamField;"), (0, .class_ 1104), (0, u "java/lang/String$CaseInsensitiveComparator"), (1, .class_ 1107), (0, u "java/io/Serializable"), (0, .class_ 1109), (0, u "java/lang/Comparable"), (0, .class_ 1111), (0, u "java/lang/constant/Constable"), (0, .class_ 1113), (0, u "java/lang/constant/ConstantDesc"), (2, u "serialVersionUID"), (0, u "J"), (3, u "REPL"), (0, u "C"), (2, u "LATIN1"), (1, u "UTF16"), (129, u "(Ljava/lang/String;)Z")] 193

def k7m0 : Method := { name := "<init>", desc := "()V", sig := { parameters := [], returnType := none }, accessFlags := 1, code := none }
def k7c1 : Code := { maxStack := 5, maxLocals := 2, code := jdk_42_method_3_code, exceptionTable := #[], attributes := #[] }
def k7m1 : Method := { name := "<init>", desc := "([C)V", sig := { parameters := [(.array .char)], returnType := none }, accessFlags := 1, code := some k7c1 }
def k7c2 : Code := { maxStack := 2, maxLocals := 1, code := jdk_42_method_54_code, exceptionTable := #[], attributes := #[] }
def k7m2 : Method := { name := "length", desc := "()I", sig := { parameters := [], returnType := some .int }, accessFlags := 1, code := some k7c2 }
def k7c3 : Code := { maxStack := 2, maxLocals := 3, code := jdk_42_method_66_code, exceptionTable := #[], attributes := #[] }
def k7m3 : Method := { name := "equals", desc := "(Ljava/lang/Object;)Z", sig := { parameters := [(.object "java/lang/Object")], returnType := some .boolean }, accessFlags := 1, code := some k7c3 }
def k7c4 : Code := { maxStack := 5, maxLocals := 8, code := jdk_42_method_75_code, exceptionTable := #[], attributes := #[] }
def k7m4 : Method := { name := "startsWith", desc := "(Ljava/lang/String;I)Z", sig := { parameters := [(.object "java/lang/String"), .int], returnType := some .boolean }, accessFlags := 1, code := some k7c4 }
def k7c5 : Code := { maxStack := 3, maxLocals := 2, code := jdk_42_method_76_code, exceptionTable := #[], attributes := #[] }
def k7m5 : Method := { name := "startsWith", desc := "(Ljava/lang/String;)Z", sig := { parameters := [(.object "java/lang/String")], returnType := some .boolean }, accessFlags := 1, code := some k7c5 }
def k7c6 : Code := { maxStack := 3, maxLocals := 5, code := jdk_42_method_92_code, exceptionTable := #[], attributes := #[] }
def k7m6 : Method := { name := "substring", desc := "(II)Ljava/lang/String;", sig := { parameters := [.int, .int], returnType := some (.object "java/lang/String") }, accessFlags := 1, code := some k7c6 }
def k7c7 : Code := { maxStack := 4, maxLocals := 6, code := jdk_42_method_149_code, exceptionTable := #[], attributes := #[] }
def k7m7 : Method := { name := "<init>", desc := "([CIILjava/lang/Void;)V", sig := { parameters := [(.array .char), .int, .int, (.object "java/lang/Void")], returnType := none }, accessFlags := 2, code := some k7c7 }
def k7c8 : Code := { maxStack := 2, maxLocals := 3, code := jdk_42_method_151_code, exceptionTable := #[], attributes := #[] }
def k7m8 : Method := { name := "<init>", desc := "([BB)V", sig := { parameters := [(.array .byte), .byte], returnType := none }, accessFlags := 0, code := some k7c8 }
def k7c9 : Code := { maxStack := 1, maxLocals := 1, code := jdk_42_method_152_code, exceptionTable := #[], attributes := #[] }
def k7m9 : Method := { name := "coder", desc := "()B", sig := { parameters := [], returnType := some .byte }, accessFlags := 0, code := some k7c9 }
def k7c10 : Code := { maxStack := 1, maxLocals := 1, code := jdk_42_method_154_code, exceptionTable := #[], attributes := #[] }
def k7m10 : Method := { name := "isLatin1", desc := "()Z", sig := { parameters := [], returnType := some .boolean }, accessFlags := 0, code := some k7c10 }
def k7c11 : Code := { maxStack := 4, maxLocals := 3, code := jdk_42_method_158_code, exceptionTable := #[], attributes := #[] }
def k7m11 : Method := { name := "checkBoundsBeginEnd", desc := "(III)V", sig := { parameters := [.int, .int, .int], returnType := none }, accessFlags := 8, code := some k7c11 }
/-- java/lang/String -/
def k7 : Class := { plain "java/lang/String" (some 0) with
  accessFlags := 49
  interfaces := #[2, 3, 4, 5, 6]
  cf := some (fileOf pool7 10 #[.nestMembers #[1103]] #[{ accessFlags := 1, nameIndex := 5, descriptorIndex := 6, attributes := #[] }, { accessFlags := 1, nameIndex := 5, descriptorIndex := 1010, attributes := #[] }, { accessFlags := 1, nameIndex := 507, descriptorIndex := 334, attributes := #[] }, { accessFlags := 1, nameIndex := 543, descriptorIndex := 573, attributes := #[] }, { accessFlags := 1, nameIndex := 626, descriptorIndex := 627, attributes := #[] }, { accessFlags := 1, nameIndex := 626, descriptorIndex := 1257, attributes := #[] }, { accessFlags := 1, nameIndex := 683, descriptorIndex := 684, attributes := #[] }, { accessFlags := 2, nameIndex := 5, descriptorIndex := 29, attributes := #[] }, { accessFlags := 0, nameIndex := 5, descriptorIndex := 211, attributes := #[] }, { accessFlags := 0, nameIndex := 17, descriptorIndex := 337, attributes := #[] }, { accessFlags := 0, nameIndex := 494, descriptorIndex := 142, attributes := #[] }, { accessFlags := 8, nameIndex := 523, descriptorIndex := 524, attributes := #[] }] 49 2 #[1106, 1108, 575, 1110, 1112] #[{ accessFlags := 18, nameIndex := 13, descriptorIndex := 14, attributes := #[] }, { accessFlags := 18, nameIndex := 17, descriptorIndex := 18, attributes := #[] }, { accessFlags := 2, nameIndex := 21, descriptorIndex := 22, attributes := #[] }, { accessFlags := 2, nameIndex := 25, descriptorIndex := 26, attributes := #[] }, { accessFlags := 26, nameIndex := 1116, descriptorIndex := 1117, attributes := #[] }, { accessFlags := 24, nameIndex := 40, descriptorIndex := 26, attributes := #[] }, { accessFlags := 26, nameIndex := 1101, descriptorIndex := 1102, attributes := #[] }, { accessFlags := 26, nameIndex := 1121, descriptorIndex := 1122, attributes := #[] }, { accessFlags := 25, nameIndex := 599, descriptorIndex := 600, attributes := #[] }, { accessFlags := 24, nameIndex := 1125, descriptorIndex := 18, attributes := #[] }, { accessFlags := 24, nameIndex := 1127, descriptorIndex := 18, attributes := #[] }])
  fields := #[{ name := "value", type := (.array .byte), accessFlags := 18, slot := 0, constantValue := 0 }, { name := "coder", type := .byte, accessFlags := 18, slot := 1, constantValue := 0 }, { name := "hash", type := .int, accessFlags := 2, slot := 2, constantValue := 0 }, { name := "hashIsZero", type := .boolean, accessFlags := 2, slot := 3, constantValue := 0 }, { name := "serialVersionUID", type := .long, accessFlags := 26, slot := 0, constantValue := 0 }, { name := "COMPACT_STRINGS", type := .boolean, accessFlags := 24, slot := 1, constantValue := 0 }, { name := "serialPersistentFields", type := (.array (.object "java/io/ObjectStreamField")), accessFlags := 26, slot := 2, constantValue := 0 }, { name := "REPL", type := .char, accessFlags := 26, slot := 3, constantValue := 0 }, { name := "CASE_INSENSITIVE_ORDER", type := (.object "java/util/Comparator"), accessFlags := 25, slot := 4, constantValue := 0 }, { name := "LATIN1", type := .byte, accessFlags := 24, slot := 5, constantValue := 0 }, { name := "UTF16", type := .byte, accessFlags := 24, slot := 6, constantValue := 0 }]
  methods := #[k7m0, k7m1, k7m2, k7m3, k7m4, k7m5, k7m6, k7m7, k7m8, k7m9, k7m10, k7m11]
  instanceTypes := #[(.array .byte), .byte, .int, .boolean]
  staticTypes := #[.long, .boolean, (.array (.object "java/io/ObjectStreamField")), .char, (.object "java/util/Comparator"), .byte, .byte]
  resolved := Array.replicate 1451 none
  statics := some 0 }

def pool8 : Array CpInfo := pool [(2, .class_ 4), (1, u "java/lang/Object"), (0, u "<init>"), (0, u "()V"), (3, .class_ 12), (1, u "java/lang/String"), (5, u "(Ljava/lang/String;)Ljava/lang/String;"), (0, .string 20), (0, u "["), (0, .methodref 10 22), (0, .nameAndType 23 24), (0, u "startsWith"), (0, u "(Ljava/lang/String;)Z"), (0, .methodref 10 26), (0, .nameAndType 27 28), (0, u "length"), (0, u "()I"), (0, .methodref 10 30), (0, .nameAndType 31 32), (0, u "substring"), (0, u "(II)Ljava/lang/String;"), (9, .class_ 44), (1, u "com/example/crosswarden/crosswarden/config/HostNames"), (0, u "HOST_NAME"), (0, u "Ljava/util/regex/Pattern;"), (4, u "unbracketed")] 18

def k8m0 : Method := { name := "<init>", desc := "()V", sig := { parameters := [], returnType := none }, accessFlags := 2, code := none }
def k8c1 : Code := { maxStack := 4, maxLocals := 1, code := prog_3_method_3_code, exceptionTable := #[], attributes := #[] }
def k8m1 : Method := { name := "unbracketed", desc := "(Ljava/lang/String;)Ljava/lang/String;", sig := { parameters := [(.object "java/lang/String")], returnType := some (.object "java/lang/String") }, accessFlags := 8, code := some k8c1 }
/-- com/example/crosswarden/crosswarden/config/HostNames -/
def k8 : Class := { plain "com/example/crosswarden/crosswarden/config/HostNames" (some 0) with
  accessFlags := 48
  interfaces := #[]
  cf := some (fileOf pool8 42 #[] #[{ accessFlags := 2, nameIndex := 5, descriptorIndex := 6, attributes := #[] }, { accessFlags := 8, nameIndex := 51, descriptorIndex := 18, attributes := #[] }] 48 2 #[] #[{ accessFlags := 24, nameIndex := 45, descriptorIndex := 46, attributes := #[] }])
  fields := #[{ name := "HOST_NAME", type := (.object "java/util/regex/Pattern"), accessFlags := 24, slot := 0, constantValue := 0 }]
  methods := #[k8m0, k8m1]
  instanceTypes := #[]
  staticTypes := #[(.object "java/util/regex/Pattern")]
  resolved := Array.replicate 70 none
  statics := none }

def pool9 : Array CpInfo := pool [(1, .class_ 2), (0, u "java/lang/String"), (1, .class_ 6), (1, u "java/lang/Object"), (0, u "<init>"), (0, u "()V"), (5, .class_ 16), (1, u "java/lang/StringLatin1"), (95, .methodref 1 113), (0, .nameAndType 7 114), (0, u "([BB)V"), (6, u "$assertionsDisabled"), (0, u "Z"), (8, .class_ 133), (1, u "java/util/Arrays"), (17, .string 152), (0, u ""), (43, u "newString"), (0, u "([BII)Ljava/lang/String;"), (23, .class_ 223), (1, u "java/lang/StringLatin1$LinesSpliterator"), (8, .methodref 131 233), (0, .nameAndType 234 235), (0, u "copyOfRange"), (0, u "([BII)[B"), (45, u "equals"), (0, u "([B[B)Z"), (107, .class_ 391), (0, u "java/lang/StringLatin1$CharsSpliterator")] 3

def k9m0 : Method := { name := "<init>", desc := "()V", sig := { parameters := [], returnType := none }, accessFlags := 0, code := none }
def k9c1 : Code := { maxStack := 3, maxLocals := 3, code := jdk_43_method_13_code, exceptionTable := #[], attributes := #[] }
def k9m1 : Method := { name := "equals", desc := "([B[B)Z", sig := { parameters := [(.array .byte), (.array .byte)], returnType := some .boolean }, accessFlags := 9, code := some k9c1 }
def k9c2 : Code := { maxStack := 6, maxLocals := 3, code := jdk_43_method_47_code, exceptionTable := #[], attributes := #[] }
def k9m2 : Method := { name := "newString", desc := "([BII)Ljava/lang/String;", sig := { parameters := [(.array .byte), .int, .int], returnType := some (.object "java/lang/String") }, accessFlags := 9, code := some k9c2 }
/-- java/lang/StringLatin1 -/
def k9 : Class := { plain "java/lang/StringLatin1" (some 0) with
  accessFlags := 48
  interfaces := #[]
  cf := some (fileOf pool9 14 #[.nestMembers #[390, 221]] #[{ accessFlags := 0, nameIndex := 7, descriptorIndex := 8, attributes := #[] }, { accessFlags := 9, nameIndex := 281, descriptorIndex := 282, attributes := #[] }, { accessFlags := 9, nameIndex := 196, descriptorIndex := 197, attributes := #[] }] 48 4 #[] #[{ accessFlags := 4120, nameIndex := 121, descriptorIndex := 122, attributes := #[] }])
  fields := #[{ name := "$assertionsDisabled", type := .boolean, accessFlags := 4120, slot := 0, constantValue := 0 }]
  methods := #[k9m0, k9m1, k9m2]
  instanceTypes := #[]
  staticTypes := #[.boolean]
  resolved := Array.replicate 395 none
  statics := none }

def pool10 : Array CpInfo := pool [(6, .class_ 8), (1, u "java/lang/Object"), (0, u "<init>"), (0, u "()V"), (1, .class_ 14), (1, u "java/lang/StringUTF16"), (31, u "$assertionsDisabled"), (0, u "Z"), (13, u "HI_BYTE_SHIFT"), (0, u "I"), (2, u "LO_BYTE_SHIFT"), (49, .methodref 12 116), (0, .nameAndType 117 118), (0, u "compress"), (0, u "([CI[BII)I"), (3, u "([CII)[B"), (138, u "coderFromArrayLen"), (0, u "([BI)B"), (106, .class_ 371), (1, u "java/lang/StringUTF16$LinesSpliterator"), (58, u "MAX_LENGTH"), (196, .class_ 628), (0, u "java/lang/StringUTF16$CodePointsSpliterator"), (0, .class_ 630), (0, u "java/lang/StringUTF16$CharsSpliterator")] 4

def k10m0 : Method := { name := "<init>", desc := "()V", sig := { parameters := [], returnType := none }, accessFlags := 0, code := none }
def k10c1 : Code := { maxStack := 2, maxLocals := 2, code := jdk_52_method_15_code, exceptionTable := #[], attributes := #[] }
def k10m1 : Method := { name := "coderFromArrayLen", desc := "([BI)B", sig := { parameters := [(.array .byte), .int], returnType := some .byte }, accessFlags := 8, code := some k10c1 }
def k10c2 : Code := { maxStack := 5, maxLocals := 6, code := jdk_52_method_16_code, exceptionTable := #[], attributes := #[] }
def k10m2 : Method := { name := "compress", desc := "([CII)[B", sig := { parameters := [(.array .char), .int, .int], returnType := some (.array .byte) }, accessFlags := 9, code := some k10c2 }
def k10c3 : Code := { maxStack := 3, maxLocals := 7, code := jdk_52_method_21_code, exceptionTable := #[], attributes := #[] }
def k10m3 : Method := { name := "compress", desc := "([CI[BII)I", sig := { parameters := [(.array .char), .int, (.array .byte), .int, .int], returnType := some .int }, accessFlags := 9, code := some k10c3 }
/-- java/lang/StringUTF16 -/
def k10 : Class := { plain "java/lang/StringUTF16" (some 0) with
  accessFlags := 48
  interfaces := #[]
  cf := some (fileOf pool10 12 #[.nestMembers #[627, 629, 369]] #[{ accessFlags := 0, nameIndex := 9, descriptorIndex := 10, attributes := #[] }, { accessFlags := 8, nameIndex := 261, descriptorIndex := 262, attributes := #[] }, { accessFlags := 9, nameIndex := 117, descriptorIndex := 122, attributes := #[] }, { accessFlags := 9, nameIndex := 117, descriptorIndex := 118, attributes := #[] }] 48 6 #[] #[{ accessFlags := 26, nameIndex := 61, descriptorIndex := 62, attributes := #[] }, { accessFlags := 26, nameIndex := 65, descriptorIndex := 62, attributes := #[] }, { accessFlags := 24, nameIndex := 430, descriptorIndex := 62, attributes := #[] }, { accessFlags := 4120, nameIndex := 46, descriptorIndex := 47, attributes := #[] }])
  fields := #[{ name := "HI_BYTE_SHIFT", type := .int, accessFlags := 26, slot := 0, constantValue := 0 }, { name := "LO_BYTE_SHIFT", type := .int, accessFlags := 26, slot := 1, constantValue := 0 }, { name := "MAX_LENGTH", type := .int, accessFlags := 24, slot := 2, constantValue := 0 }, { name := "$assertionsDisabled", type := .boolean, accessFlags := 4120, slot := 3, constantValue := 0 }]
  methods := #[k10m0, k10m1, k10m2, k10m3]
  instanceTypes := #[]
  staticTypes := #[.int, .int, .int, .boolean]
  resolved := Array.replicate 635 none
  statics := none }

def pool11 : Array CpInfo := pool [(9, u "<init>"), (6, .class_ 18), (1, u "java/lang/Object"), (0, u "()V"), (1, .class_ 23), (1, u "jdk/internal/util/ArraysSupport"), (0, u "LOG2_ARRAY_LONG_INDEX_SCALE"), (0, u "I"), (2, u "U"), (0, u "Ljdk/internal/misc/Unsafe;"), (8, u "BIG_ENDIAN"), (0, u "Z"), (8, u "LOG2_BYTE_BIT_SIZE"), (4, u "LOG2_ARRAY_INT_INDEX_SCALE"), (54, u "JLA"), (0, u "Ljdk/internal/access/JavaLangAccess;"), (11, u "LOG2_ARRAY_BOOLEAN_INDEX_SCALE"), (9, u "LOG2_ARRAY_BYTE_INDEX_SCALE"), (5, u "LOG2_ARRAY_CHAR_INDEX_SCALE"), (5, u "LOG2_ARRAY_SHORT_INDEX_SCALE"), (5, u "mismatch"), (12, u "LOG2_ARRAY_FLOAT_INDEX_SCALE"), (24, u "LOG2_ARRAY_DOUBLE_INDEX_SCALE"), (89, u "T_BOOLEAN"), (2, u "T_CHAR"), (1, u "T_FLOAT"), (1, u "T_DOUBLE"), (1, u "T_BYTE"), (1, u "T_SHORT"), (1, u "T_INT"), (1, u "T_LONG"), (1, u "SOFT_MAX_ARRAY_LENGTH"), (42, u "([BI[BII)I")] 40

def k11m0 : Method := { name := "<init>", desc := "()V", sig := { parameters := [], returnType := none }, accessFlags := 2, code := none }
def k11c1 : Code := { maxStack := 8, maxLocals := 8, code := jdk_48_method_14_code, exceptionTable := #[], attributes := #[] }
def k11m1 : Method := { name := "mismatch", desc := "([BI[BII)I", sig := { parameters := [(.array .byte), .int, (.array .byte), .int, .int], returnType := some .int }, accessFlags := 9, code := some k11c1 }
/-- jdk/internal/util/ArraysSupport -/
def k11 : Class := { plain "jdk/internal/util/ArraysSupport" (some 0) with
  accessFlags := 33
  interfaces := #[]
  cf := some (fileOf pool11 21 #[] #[{ accessFlags := 2, nameIndex := 9, descriptorIndex := 19, attributes := #[] }, { accessFlags := 9, nameIndex := 149, descriptorIndex := 337, attributes := #[] }] 33 16 #[] #[{ accessFlags := 24, nameIndex := 28, descriptorIndex := 29, attributes := #[] }, { accessFlags := 26, nameIndex := 38, descriptorIndex := 39, attributes := #[] }, { accessFlags := 25, nameIndex := 121, descriptorIndex := 25, attributes := #[] }, { accessFlags := 25, nameIndex := 131, descriptorIndex := 25, attributes := #[] }, { accessFlags := 25, nameIndex := 137, descriptorIndex := 25, attributes := #[] }, { accessFlags := 25, nameIndex := 143, descriptorIndex := 25, attributes := #[] }, { accessFlags := 25, nameIndex := 53, descriptorIndex := 25, attributes := #[] }, { accessFlags := 25, nameIndex := 24, descriptorIndex := 25, attributes := #[] }, { accessFlags := 25, nameIndex := 162, descriptorIndex := 25, attributes := #[] }, { accessFlags := 25, nameIndex := 187, descriptorIndex := 25, attributes := #[] }, { accessFlags := 26, nameIndex := 48, descriptorIndex := 25, attributes := #[] }, { accessFlags := 25, nameIndex := 277, descriptorIndex := 25, attributes := #[] }, { accessFlags := 25, nameIndex := 280, descriptorIndex := 25, attributes := #[] }, { accessFlags := 25, nameIndex := 282, descriptorIndex := 25, attributes := #[] }, { accessFlags := 25, nameIndex := 284, descriptorIndex := 25, attributes := #[] }, { accessFlags := 25, nameIndex := 286, descriptorIndex := 25, attributes := #[] }, { accessFlags := 25, nameIndex := 288, descriptorIndex := 25, attributes := #[] }, { accessFlags := 25, nameIndex := 290, descriptorIndex := 25, attributes := #[] }, { accessFlags := 25, nameIndex := 292, descriptorIndex := 25, attributes := #[] }, { accessFlags := 26, nameIndex := 108, descriptorIndex := 109, attributes := #[] }, { accessFlags := 25, nameIndex := 294, descriptorIndex := 25, attributes := #[] }])
  fields := #[{ name := "U", type := (.object "jdk/internal/misc/Unsafe"), accessFlags := 24, slot := 0, constantValue := 0 }, { name := "BIG_ENDIAN", type := .boolean, accessFlags := 26, slot := 1, constantValue := 0 }, { name := "LOG2_ARRAY_BOOLEAN_INDEX_SCALE", type := .int, accessFlags := 25, slot := 2, constantValue := 0 }, { name := "LOG2_ARRAY_BYTE_INDEX_SCALE", type := .int, accessFlags := 25, slot := 3, constantValue := 0 }, { name := "LOG2_ARRAY_CHAR_INDEX_SCALE", type := .int, accessFlags := 25, slot := 4, constantValue := 0 }, { name := "LOG2_ARRAY_SHORT_INDEX_SCALE", type := .int, accessFlags := 25, slot := 5, constantValue := 0 }, { name := "LOG2_ARRAY_INT_INDEX_SCALE", type := .int, accessFlags := 25, slot := 6, constantValue := 0 }, { name := "LOG2_ARRAY_LONG_INDEX_SCALE", type := .int, accessFlags := 25, slot := 7, constantValue := 0 }, { name := "LOG2_ARRAY_FLOAT_INDEX_SCALE", type := .int, accessFlags := 25, slot := 8, constantValue := 0 }, { name := "LOG2_ARRAY_DOUBLE_INDEX_SCALE", type := .int, accessFlags := 25, slot := 9, constantValue := 0 }, { name := "LOG2_BYTE_BIT_SIZE", type := .int, accessFlags := 26, slot := 10, constantValue := 0 }, { name := "T_BOOLEAN", type := .int, accessFlags := 25, slot := 11, constantValue := 0 }, { name := "T_CHAR", type := .int, accessFlags := 25, slot := 12, constantValue := 0 }, { name := "T_FLOAT", type := .int, accessFlags := 25, slot := 13, constantValue := 0 }, { name := "T_DOUBLE", type := .int, accessFlags := 25, slot := 14, constantValue := 0 }, { name := "T_BYTE", type := .int, accessFlags := 25, slot := 15, constantValue := 0 }, { name := "T_SHORT", type := .int, accessFlags := 25, slot := 16, constantValue := 0 }, { name := "T_INT", type := .int, accessFlags := 25, slot := 17, constantValue := 0 }, { name := "T_LONG", type := .int, accessFlags := 25, slot := 18, constantValue := 0 }, { name := "JLA", type := (.object "jdk/internal/access/JavaLangAccess"), accessFlags := 26, slot := 19, constantValue := 0 }, { name := "SOFT_MAX_ARRAY_LENGTH", type := .int, accessFlags := 25, slot := 20, constantValue := 0 }]
  methods := #[k11m0, k11m1]
  instanceTypes := #[]
  staticTypes := #[(.object "jdk/internal/misc/Unsafe"), .boolean, .int, .int, .int, .int, .int, .int, .int, .int, .int, .int, .int, .int, .int, .int, .int, .int, .int, (.object "jdk/internal/access/JavaLangAccess"), .int]
  resolved := Array.replicate 378 none
  statics := none }

def pool12 : Array CpInfo := pool [(2, .class_ 4), (1, u "java/lang/Object"), (0, u "<init>"), (0, u "()V"), (17, .class_ 26), (1, u "jdk/internal/util/Preconditions"), (20, u "checkFromToIndex"), (7, .class_ 56), (0, u "jdk/internal/util/Preconditions$4"), (57, .class_ 115), (0, u "jdk/internal/util/Preconditions$1"), (7, u "SIOOBE_FORMATTER"), (0, u "Ljava/util/function/BiFunction;"), (0, .class_ 126), (0, u "jdk/internal/util/Preconditions$2"), (3, u "AIOOBE_FORMATTER"), (0, .class_ 132), (0, u "jdk/internal/util/Preconditions$3"), (3, u "IOOBE_FORMATTER"), (46, u "(IIILjava/util/function/BiFunction;)I")] 10

def k12m0 : Method := { name := "<init>", desc := "()V", sig := { parameters := [], returnType := none }, accessFlags := 1, code := none }
def k12c1 : Code := { maxStack := 4, maxLocals := 4, code := jdk_41_method_12_code, exceptionTable := #[], attributes := #[] }
def k12m1 : Method := { name := "checkFromToIndex", desc := "(IIILjava/util/function/BiFunction;)I", sig := { parameters := [.int, .int, .int, (.object "java/util/function/BiFunction")], returnType := some .int }, accessFlags := 9, code := some k12c1 }
/-- jdk/internal/util/Preconditions -/
def k12 : Class := { plain "jdk/internal/util/Preconditions" (some 0) with
  accessFlags := 33
  interfaces := #[]
  cf := some (fileOf pool12 24 #[.nestMembers #[55, 131, 125, 114]] #[{ accessFlags := 1, nameIndex := 5, descriptorIndex := 6, attributes := #[] }, { accessFlags := 9, nameIndex := 47, descriptorIndex := 183, attributes := #[] }] 33 2 #[] #[{ accessFlags := 25, nameIndex := 123, descriptorIndex := 124, attributes := #[] }, { accessFlags := 25, nameIndex := 130, descriptorIndex := 124, attributes := #[] }, { accessFlags := 25, nameIndex := 136, descriptorIndex := 124, attributes := #[] }])
  fields := #[{ name := "SIOOBE_FORMATTER", type := (.object "java/util/function/BiFunction"), accessFlags := 25, slot := 0, constantValue := 0 }, { name := "AIOOBE_FORMATTER", type := (.object "java/util/function/BiFunction"), accessFlags := 25, slot := 1, constantValue := 0 }, { name := "IOOBE_FORMATTER", type := (.object "java/util/function/BiFunction"), accessFlags := 25, slot := 2, constantValue := 0 }]
  methods := #[k12m0, k12m1]
  instanceTypes := #[]
  staticTypes := #[(.object "java/util/function/BiFunction"), (.object "java/util/function/BiFunction"), (.object "java/util/function/BiFunction")]
  resolved := Array.replicate 194 none
  statics := some 1 }

def pool13 : Array CpInfo := pool [(2, .class_ 4), (1, u "java/lang/Object"), (0, u "<init>"), (0, u "()V"), (7, .class_ 16), (1, u "java/util/Arrays"), (57, .class_ 76), (1, u "java/util/Arrays$NaturalOrder"), (36, .class_ 115), (1, u "java/util/Arrays$LegacyMergeSort"), (1, u "Z"), (21, u "copyOfRange"), (10, .methodref 151 152), (0, .class_ 153), (0, .nameAndType 154 155), (0, u "java/lang/System"), (0, u "arraycopy"), (0, u "(Ljava/lang/Object;ILjava/lang/Object;II)V"), (148, .methodref 305 306), (0, .class_ 307), (0, .nameAndType 308 309), (0, u "java/lang/Math"), (0, u "min"), (0, u "(II)I"), (29, .methodref 14 340), (0, .nameAndType 341 342), (0, u "copyOfRangeByte"), (0, u "([BII)[B"), (0, .methodref 14 344), (0, .nameAndType 345 346), (0, u "checkLength"), (0, u "(II)V"), (28, .class_ 376), (0, u "java/util/Arrays$ArrayList"), (68, u "$assertionsDisabled"), (269, u "MIN_ARRAY_SORT_GRAN"), (0, u "I"), (2, u "INSERTIONSORT_THRESHOLD"), (255, .class_ 976), (0, u "java/util/Arrays$ArrayItr")] 52

def k13m0 : Method := { name := "<init>", desc := "()V", sig := { parameters := [], returnType := none }, accessFlags := 2, code := none }
def k13c1 : Code := { maxStack := 4, maxLocals := 2, code := jdk_65_method_131_code, exceptionTable := #[], attributes := #[] }
def k13m1 : Method := { name := "checkLength", desc := "(II)V", sig := { parameters := [.int, .int], returnType := none }, accessFlags := 10, code := some k13c1 }
def k13c2 : Code := { maxStack := 3, maxLocals := 3, code := jdk_65_method_132_code, exceptionTable := #[], attributes := #[] }
def k13m2 : Method := { name := "copyOfRange", desc := "([BII)[B", sig := { parameters := [(.array .byte), .int, .int], returnType := some (.array .byte) }, accessFlags := 9, code := some k13c2 }
def k13c3 : Code := { maxStack := 6, maxLocals := 5, code := jdk_65_method_133_code, exceptionTable := #[], attributes := #[] }
def k13m3 : Method := { name := "copyOfRangeByte", desc := "([BII)[B", sig := { parameters := [(.array .byte), .int, .int], returnType := some (.array .byte) }, accessFlags := 10, code := some k13c3 }
/-- java/util/Arrays -/
def k13 : Class := { plain "java/util/Arrays" (some 0) with
  accessFlags := 49
  interfaces := #[]
  cf := some (fileOf pool13 14 #[.nestMembers #[975, 375, 113, 74]] #[{ accessFlags := 2, nameIndex := 5, descriptorIndex := 6, attributes := #[] }, { accessFlags := 10, nameIndex := 345, descriptorIndex := 346, attributes := #[] }, { accessFlags := 9, nameIndex := 139, descriptorIndex := 342, attributes := #[] }, { accessFlags := 10, nameIndex := 341, descriptorIndex := 342, attributes := #[] }] 49 2 #[] #[{ accessFlags := 26, nameIndex := 715, descriptorIndex := 716, attributes := #[] }, { accessFlags := 26, nameIndex := 719, descriptorIndex := 716, attributes := #[] }, { accessFlags := 4120, nameIndex := 445, descriptorIndex := 117, attributes := #[] }])
  fields := #[{ name := "MIN_ARRAY_SORT_GRAN", type := .int, accessFlags := 26, slot := 0, constantValue := 0 }, { name := "INSERTIONSORT_THRESHOLD", type := .int, accessFlags := 26, slot := 1, constantValue := 0 }, { name := "$assertionsDisabled", type := .boolean, accessFlags := 4120, slot := 2, constantValue := 0 }]
  methods := #[k13m0, k13m1, k13m2, k13m3]
  instanceTypes := #[]
  staticTypes := #[.int, .int, .boolean]
  resolved := Array.replicate 1029 none
  statics := none }

def pool14 : Array CpInfo := pool [(1, .class_ 2), (0, u "java/lang/Math"), (1, .class_ 6), (1, u "java/lang/Object"), (0, u "<init>"), (0, u "()V"), (89, .class_ 100), (1, u "java/lang/Math$RandomNumberGeneratorHolder"), (71, u "negativeZeroFloatBits"), (0, u "J"), (2, u "negativeZeroDoubleBits"), (24, u "min"), (43, u "$assertionsDisabled"), (0, u "Z"), (88, u "(II)I"), (2, u "twoToTheDoubleScaleDown"), (0, u "D"), (4, u "twoToTheDoubleScaleUp"), (9, u "E"), (3, u "PI"), (2, u "TAU"), (2, u "DEGREES_TO_RADIANS"), (0, u "RADIANS_TO_DEGREES")] 94

def k14m0 : Method := { name := "<init>", desc := "()V", sig := { parameters := [], returnType := none }, accessFlags := 2, code := none }
def k14c1 : Code := { maxStack := 2, maxLocals := 2, code := jdk_29_method_69_code, exceptionTable := #[], attributes := #[] }
def k14m1 : Method := { name := "min", desc := "(II)I", sig := { parameters := [.int, .int], returnType := some .int }, accessFlags := 9, code := some k14c1 }
/-- java/lang/Math -/
def k14 : Class := { plain "java/lang/Math" (some 0) with
  accessFlags := 49
  interfaces := #[]
  cf := some (fileOf pool14 1 #[.nestMembers #[98]] #[{ accessFlags := 2, nameIndex := 7, descriptorIndex := 8, attributes := #[] }, { accessFlags := 9, nameIndex := 201, descriptorIndex := 335, attributes := #[] }] 49 4 #[] #[{ accessFlags := 25, nameIndex := 354, descriptorIndex := 339, attributes := #[] }, { accessFlags := 25, nameIndex := 358, descriptorIndex := 339, attributes := #[] }, { accessFlags := 25, nameIndex := 361, descriptorIndex := 339, attributes := #[] }, { accessFlags := 26, nameIndex := 364, descriptorIndex := 339, attributes := #[] }, { accessFlags := 26, nameIndex := 365, descriptorIndex := 339, attributes := #[] }, { accessFlags := 26, nameIndex := 172, descriptorIndex := 173, attributes := #[] }, { accessFlags := 26, nameIndex := 176, descriptorIndex := 173, attributes := #[] }, { accessFlags := 8, nameIndex := 344, descriptorIndex := 339, attributes := #[] }, { accessFlags := 8, nameIndex := 338, descriptorIndex := 339, attributes := #[] }, { accessFlags := 4120, nameIndex := 245, descriptorIndex := 246, attributes := #[] }])
  fields := #[{ name := "E", type := .double, accessFlags := 25, slot := 0, constantValue := 0 }, { name := "PI", type := .double, accessFlags := 25, slot := 1, constantValue := 0 }, { name := "TAU", type := .double, accessFlags := 25, slot := 2, constantValue := 0 }, { name := "DEGREES_TO_RADIANS", type := .double, accessFlags := 26, slot := 3, constantValue := 0 }, { name := "RADIANS_TO_DEGREES", type := .double, accessFlags := 26, slot := 4, constantValue := 0 }, { name := "negativeZeroFloatBits", type := .long, accessFlags := 26, slot := 5, constantValue := 0 }, { name := "negativeZeroDoubleBits", type := .long, accessFlags := 26, slot := 6, constantValue := 0 }, { name := "twoToTheDoubleScaleUp", type := .double, accessFlags := 8, slot := 7, constantValue := 0 }, { name := "twoToTheDoubleScaleDown", type := .double, accessFlags := 8, slot := 8, constantValue := 0 }, { name := "$assertionsDisabled", type := .boolean, accessFlags := 4120, slot := 9, constantValue := 0 }]
  methods := #[k14m0, k14m1]
  instanceTypes := #[]
  staticTypes := #[.double, .double, .double, .double, .double, .long, .long, .double, .double, .boolean]
  resolved := Array.replicate 460 none
  statics := none }

def pool15 : Array CpInfo := pool [(2, .class_ 4), (1, u "java/lang/Object"), (0, u "<init>"), (0, u "()V"), (1, .class_ 10), (1, u "java/lang/System"), (0, u "allowSecurityManager"), (0, u "I"), (16, u "cons"), (0, u "Ljava/io/Console;"), (77, .class_ 110), (1, u "java/lang/System$CallersHolder"), (43, u "initialErrStream"), (0, u "Ljava/io/PrintStream;"), (19, u "security"), (0, u "Ljava/lang/SecurityManager;"), (31, .class_ 209), (0, u "java/lang/System$1"), (7, u "props"), (0, u "Ljava/util/Properties;"), (2, u "lineSeparator"), (0, u "Ljava/lang/String;"), (96, .class_ 321), (1, u "java/lang/System$LoggerFinder"), (5, .class_ 328), (0, u "java/lang/System$Logger"), (67, u "err"), (2, u "out"), (91, u "notSupportedJnuEncoding"), (15, u "in"), (17, u "initialIn"), (0, u "Ljava/io/InputStream;"), (35, u "bootLayer"), (0, u "Ljava/lang/ModuleLayer;"), (99, .class_ 664), (0, u "java/lang/System$2"), (9, u "NEVER"), (2, u "MAYBE"), (49, u "arraycopy"), (0, u "(Ljava/lang/Object;ILjava/lang/Object;II)V"), (72, .class_ 802), (0, u "java/lang/System$Logger$Level")] 31

def k15m0 : Method := { name := "<init>", desc := "()V", sig := { parameters := [], returnType := none }, accessFlags := 2, code := none }
def k15m1 : Method := { name := "arraycopy", desc := "(Ljava/lang/Object;ILjava/lang/Object;II)V", sig := { parameters := [(.object "java/lang/Object"), .int, (.object "java/lang/Object"), .int, .int], returnType := none }, accessFlags := 265, code := none }
/-- java/lang/System -/
def k15 : Class := { plain "java/lang/System" (some 0) with
  accessFlags := 49
  interfaces := #[]
  cf := some (fileOf pool15 8 #[.nestMembers #[319, 327, 801, 108, 663, 208]] #[{ accessFlags := 2, nameIndex := 5, descriptorIndex := 6, attributes := #[] }, { accessFlags := 265, nameIndex := 727, descriptorIndex := 728, attributes := #[] }] 49 2 #[] #[{ accessFlags := 25, nameIndex := 507, descriptorIndex := 526, attributes := #[] }, { accessFlags := 25, nameIndex := 399, descriptorIndex := 155, attributes := #[] }, { accessFlags := 25, nameIndex := 396, descriptorIndex := 155, attributes := #[] }, { accessFlags := 10, nameIndex := 525, descriptorIndex := 526, attributes := #[] }, { accessFlags := 26, nameIndex := 674, descriptorIndex := 12, attributes := #[] }, { accessFlags := 26, nameIndex := 677, descriptorIndex := 12, attributes := #[] }, { accessFlags := 10, nameIndex := 11, descriptorIndex := 12, attributes := #[] }, { accessFlags := 74, nameIndex := 175, descriptorIndex := 176, attributes := #[] }, { accessFlags := 10, nameIndex := 491, descriptorIndex := 222, attributes := #[] }, { accessFlags := 74, nameIndex := 29, descriptorIndex := 30, attributes := #[] }, { accessFlags := 74, nameIndex := 154, descriptorIndex := 155, attributes := #[] }, { accessFlags := 10, nameIndex := 217, descriptorIndex := 218, attributes := #[] }, { accessFlags := 10, nameIndex := 221, descriptorIndex := 222, attributes := #[] }, { accessFlags := 8, nameIndex := 562, descriptorIndex := 563, attributes := #[] }])
  fields := #[{ name := "in", type := (.object "java/io/InputStream"), accessFlags := 25, slot := 0, constantValue := 0 }, { name := "out", type := (.object "java/io/PrintStream"), accessFlags := 25, slot := 1, constantValue := 0 }, { name := "err", type := (.object "java/io/PrintStream"), accessFlags := 25, slot := 2, constantValue := 0 }, { name := "initialIn", type := (.object "java/io/InputStream"), accessFlags := 10, slot := 3, constantValue := 0 }, { name := "NEVER", type := .int, accessFlags := 26, slot := 4, constantValue := 0 }, { name := "MAYBE", type := .int, accessFlags := 26, slot := 5, constantValue := 0 }, { name := "allowSecurityManager", type := .int, accessFlags := 10, slot := 6, constantValue := 0 }, { name := "security", type := (.object "java/lang/SecurityManager"), accessFlags := 74, slot := 7, constantValue := 0 }, { name := "notSupportedJnuEncoding", type := (.object "java/lang/String"), accessFlags := 10, slot := 8, constantValue := 0 }, { name := "cons", type := (.object "java/io/Console"), accessFlags := 74, slot := 9, constantValue := 0 }, { name := "initialErrStream", type := (.object "java/io/PrintStream"), accessFlags := 74, slot := 10, constantValue := 0 }, { name := "props", type := (.object "java/util/Properties"), accessFlags := 10, slot := 11, constantValue := 0 }, { name := "lineSeparator", type := (.object "java/lang/String"), accessFlags := 10, slot := 12, constantValue := 0 }, { name := "bootLayer", type := (.object "java/lang/ModuleLayer"), accessFlags := 8, slot := 13, constantValue := 0 }]
  methods := #[k15m0, k15m1]
  instanceTypes := #[]
  staticTypes := #[(.object "java/io/InputStream"), (.object "java/io/PrintStream"), (.object "java/io/PrintStream"), (.object "java/io/InputStream"), .int, .int, .int, (.object "java/lang/SecurityManager"), (.object "java/lang/String"), (.object "java/io/Console"), (.object "java/io/PrintStream"), (.object "java/util/Properties"), (.object "java/lang/String"), (.object "java/lang/ModuleLayer")]
  resolved := Array.replicate 834 none
  statics := none }

def pool16 : Array CpInfo := pool [(1, u "java/lang/Cloneable"), (0, .class_ 1), (0, u "java/lang/Object"), (0, .class_ 3)] 3

/-- java/lang/Cloneable -/
def k16 : Class := { plain "java/lang/Cloneable" (some 0) with
  accessFlags := 1537
  interfaces := #[]
  cf := some (fileOf pool16 2 #[] #[] 1537 4 #[] #[])
  fields := #[]
  methods := #[]
  instanceTypes := #[]
  staticTypes := #[]
  resolved := Array.replicate 8 none
  statics := none }

/-- the primitive byte -/
def k17 : Class := { plain "byte" none with kind := .primitive 'B', accessFlags := 0x411 }
/-- [B -/
def k18 : Class := { plain "[B" (some 0) with kind := .array 17 .byte, interfaces := #[16, 2], accessFlags := 1041 }

/-- the primitive char -/
def k19 : Class := { plain "char" none with kind := .primitive 'C', accessFlags := 0x411 }
/-- [C -/
def k20 : Class := { plain "[C" (some 0) with kind := .array 19 .char, interfaces := #[16, 2], accessFlags := 1041 }

/-- the primitive int -/
def k21 : Class := { plain "int" none with kind := .primitive 'I', accessFlags := 0x411 }
/-- [I -/
def k22 : Class := { plain "[I" (some 0) with kind := .array 21 .int, interfaces := #[16, 2], accessFlags := 1041 }

def heap : Heap := #[{ cls := 7, slots := #[.long 0, .int 1, .null, .int 0, .null, .int 0, .int 0], vm := .statics 7 },
  { cls := 12, slots := #[.null, .null, .null], vm := .statics 12 }]
def classes : Array Class := #[k0, k1, k2, k3, k4, k5, k6, k7, k8, k9, k10, k11, k12, k13, k14, k15, k16, k17, k18, k19, k20, k21, k22]
def interned : List (Array UInt16 × Addr) := []
def slotsUsed : Nat := 10
def theMethod : MethodId := ⟨1, 2⟩
def args0 : Array Value := #[.int 5, .int 5, .int 5, .int 5, .int 5]
def aboutOver (below : List Frame) : State where
  vm := { classes := classes, interned := interned.toArray }
  heap := heap
  slotsUsed := slotsUsed
  threads := #[{ frames := .invoking theMethod args0 :: below }]
def below0 : List Frame := [.native { method := ⟨0, 0⟩, args := #[] }]
def about1 : State := aboutOver below0
def p0 : Program := .bare "" "" ""
def e0 : Env := launch0.env 0 0 0
theorem w_frames : about1.frames = Frame.invoking theMethod args0 :: below0 := rfl
set_option maxRecDepth 65536 in
theorem w_args : argsFit about1.vm theMethod args0 = true := by decide +kernel
set_option maxRecDepth 65536 in
theorem w_heap : heapFits about1 = true := by decide +kernel
set_option maxRecDepth 65536 in
theorem w_runnable : about1.curStatus? = some .runnable := by decide +kernel
set_option maxRecDepth 65536 in
theorem w_alone : about1.alone = true := by decide +kernel
set_option maxRecDepth 65536 in
theorem w_named : about1.methodNamed? x = some theMethod := by decide +kernel
set_option maxRecDepth 65536 in
theorem w_hears : about1.hears theMethod below0 = true := by decide +kernel
set_option maxRecDepth 65536 in
theorem w_ripe : about1.ripe theMethod args0 below0 = true := by decide +kernel
theorem w_running : about1.status = .running := rfl
set_option maxRecDepth 65536 in
theorem w_room : about1.hasRoom e0.platform room_1 = true :=
  launch0.hasRoom_least _ room_1 (by decide +kernel) (by decide +kernel) (by decide +kernel) (by decide +kernel) (by decide +kernel) (by decide +kernel)
theorem allAtoms_all (ts : List Jvm.Cond) (a : Array Jvm.Value) (st : Jvm.State) : (allAtoms ts).before a st = ts.all (fun c => c.before a st) := by
  induction ts with
  | nil => rfl
  | cons c t ih =>
    show (Jvm.Cond.and c (allAtoms t)).before a st = _
    rw [Jvm.Cond.before_and, ih, List.all_cons]
def words1 : List Jvm.Cond := Jvm.Cond.code x code maxLocals ret :: tables_1
/-- a 'code' word, met by the world's own term for the bytes: nothing is compared byte by byte -/
theorem code_word {y : MethodName} {bytes : ByteArray} {mx : Nat} {rt : Option FieldType} {a : Array Value} {s : State} {m : MethodId} {meth : Method} {c : Code} (h1 : s.methodNamed? y = some m) (h2 : s.vm.method? m = some meth) (h3 : meth.code = some c) (h4 : c.code = bytes)
    (h5 : (c.maxLocals == mx && c.exceptionTable.isEmpty && decide (c.maxStack ≤ mostOperands) && decide (meth.sig.returnType = rt) && !meth.locks && decide (parseMethodDescriptor y.desc = some meth.sig)) = true) : (Jvm.Cond.code y bytes mx rt).before a s = true := by
  simp only [Bool.and_eq_true, beq_iff_eq, Bool.not_eq_true', decide_eq_true_eq] at h5
  obtain ⟨⟨⟨⟨⟨g1, g2⟩, g3⟩, g4⟩, g5⟩, g6⟩ := h5
  simp [Cond.before, Cond.holds, Cond.value, h1, h2, h3, h4, g1, g2, g3, g4, g5, g6]
def isCode : Jvm.Cond → Bool
  | .code _ _ _ _ => true
  | _ => false
theorem all_split {L : List Jvm.Cond} {P : Jvm.Cond → Bool} (h1 : L.all (fun c => isCode c || P c) = true) (h2 : ∀ c ∈ L.filter isCode, P c = true) : L.all P = true := by
  refine List.all_eq_true.mpr fun c hc => ?_
  have h := List.all_eq_true.mp h1 c hc
  rcases Bool.eq_false_or_eq_true (isCode c) with hi | hi
  · exact h2 c (List.mem_filter.mpr ⟨hc, hi⟩)
  · simpa [hi] using h
set_option maxRecDepth 65536 in
theorem w_c0 : (Jvm.Cond.code x code maxLocals ret).before args0 about1 = true := code_word (m := ⟨1, 2⟩) (meth := k1m2) (c := k1c2) (by decide +kernel) rfl rfl rfl (by decide +kernel)
set_option maxRecDepth 65536 in
theorem w_c1 : (Jvm.Cond.code ({ cls := "com/example/crosswarden/crosswarden/config/HostNamesUnbracketedPinLaw", name := "make", desc := "(ICCCC)[C" } : Jvm.MethodName) method_2_code (6 : Nat) (Option.some (Jvm.ClassFile.FieldType.array Jvm.ClassFile.FieldType.char))).before args0 about1 = true := code_word (m := ⟨1, 1⟩) (meth := k1m1) (c := k1c1) (by decide +kernel) rfl rfl rfl (by decide +kernel)
set_option maxRecDepth 65536 in
theorem w_c2 : (Jvm.Cond.code ({ cls := "java/lang/String", name := "<init>", desc := "([C)V" } : Jvm.MethodName) jdk_42_method_3_code (2 : Nat) (Option.none : Option Jvm.ClassFile.FieldType)).before args0 about1 = true := code_word (m := ⟨7, 1⟩) (meth := k7m1) (c := k7c1) (by decide +kernel) rfl rfl rfl (by decide +kernel)
set_option maxRecDepth 65536 in
theorem w_c3 : (Jvm.Cond.code ({ cls := "java/lang/String", name := "<init>", desc := "([CIILjava/lang/Void;)V" } : Jvm.MethodName) jdk_42_method_149_code (6 : Nat) (Option.none : Option Jvm.ClassFile.FieldType)).before args0 about1 = true := code_word (m := ⟨7, 7⟩) (meth := k7m7) (c := k7c7) (by decide +kernel) rfl rfl rfl (by decide +kernel)
set_option maxRecDepth 65536 in
theorem w_c4 : (Jvm.Cond.code ({ cls := "java/lang/Object", name := "<init>", desc := "()V" } : Jvm.MethodName) object_method_1_code (1 : Nat) (Option.none : Option Jvm.ClassFile.FieldType)).before args0 about1 = true := code_word (m := ⟨0, 0⟩) (meth := k0m0) (c := k0c0) (by decide +kernel) rfl rfl rfl (by decide +kernel)
set_option maxRecDepth 65536 in
theorem w_c5 : (Jvm.Cond.code ({ cls := "com/example/crosswarden/crosswarden/config/HostNames", name := "unbracketed", desc := "(Ljava/lang/String;)Ljava/lang/String;" } : Jvm.MethodName) prog_3_method_3_code (1 : Nat) (Option.some (Jvm.ClassFile.FieldType.object "java/lang/String"))).before args0 about1 = true := code_word (m := ⟨8, 1⟩) (meth := k8m1) (c := k8c1) (by decide +kernel) rfl rfl rfl (by decide +kernel)
set_option maxRecDepth 65536 in
theorem w_c6 : (Jvm.Cond.code ({ cls := "java/lang/String", name := "startsWith", desc := "(Ljava/lang/String;)Z" } : Jvm.MethodName) jdk_42_method_76_code (2 : Nat) (Option.some Jvm.ClassFile.FieldType.boolean)).before args0 about1 = true := code_word (m := ⟨7, 5⟩) (meth := k7m5) (c := k7c5) (by decide +kernel) rfl rfl rfl (by decide +kernel)
set_option maxRecDepth 65536 in
theorem w_c7 : (Jvm.Cond.code ({ cls := "java/lang/String", name := "startsWith", desc := "(Ljava/lang/String;I)Z" } : Jvm.MethodName) jdk_42_method_75_code (8 : Nat) (Option.some Jvm.ClassFile.FieldType.boolean)).before args0 about1 = true := code_word (m := ⟨7, 4⟩) (meth := k7m4) (c := k7c4) (by decide +kernel) rfl rfl rfl (by decide +kernel)
set_option maxRecDepth 65536 in
theorem w_c8 : (Jvm.Cond.code ({ cls := "java/lang/String", name := "length", desc := "()I" } : Jvm.MethodName) jdk_42_method_54_code (1 : Nat) (Option.some Jvm.ClassFile.FieldType.int)).before args0 about1 = true := code_word (m := ⟨7, 2⟩) (meth := k7m2) (c := k7c2) (by decide +kernel) rfl rfl rfl (by decide +kernel)
set_option maxRecDepth 65536 in
theorem w_c9 : (Jvm.Cond.code ({ cls := "java/lang/String", name := "coder", desc := "()B" } : Jvm.MethodName) jdk_42_method_152_code (1 : Nat) (Option.some Jvm.ClassFile.FieldType.byte)).before args0 about1 = true := code_word (m := ⟨7, 9⟩) (meth := k7m9) (c := k7c9) (by decide +kernel) rfl rfl rfl (by decide +kernel)
set_option maxRecDepth 65536 in
theorem w_c10 : (Jvm.Cond.code ({ cls := "java/lang/String", name := "equals", desc := "(Ljava/lang/Object;)Z" } : Jvm.MethodName) jdk_42_method_66_code (3 : Nat) (Option.some Jvm.ClassFile.FieldType.boolean)).before args0 about1 = true := code_word (m := ⟨7, 3⟩) (meth := k7m3) (c := k7c3) (by decide +kernel) rfl rfl rfl (by decide +kernel)
set_option maxRecDepth 65536 in
theorem w_c11 : (Jvm.Cond.code ({ cls := "java/lang/StringLatin1", name := "equals", desc := "([B[B)Z" } : Jvm.MethodName) jdk_43_method_13_code (3 : Nat) (Option.some Jvm.ClassFile.FieldType.boolean)).before args0 about1 = true := code_word (m := ⟨9, 1⟩) (meth := k9m1) (c := k9c1) (by decide +kernel) rfl rfl rfl (by decide +kernel)
set_option maxRecDepth 65536 in
theorem w_c12 : (Jvm.Cond.code ({ cls := "java/lang/StringUTF16", name := "compress", desc := "([CII)[B" } : Jvm.MethodName) jdk_52_method_16_code (6 : Nat) (Option.some (Jvm.ClassFile.FieldType.array Jvm.ClassFile.FieldType.byte))).before args0 about1 = true := code_word (m := ⟨10, 2⟩) (meth := k10m2) (c := k10c2) (by decide +kernel) rfl rfl rfl (by decide +kernel)
set_option maxRecDepth 65536 in
theorem w_c13 : (Jvm.Cond.code ({ cls := "java/lang/StringUTF16", name := "compress", desc := "([CI[BII)I" } : Jvm.MethodName) jdk_52_method_21_code (7 : Nat) (Option.some Jvm.ClassFile.FieldType.int)).before args0 about1 = true := code_word (m := ⟨10, 3⟩) (meth := k10m3) (c := k10c3) (by decide +kernel) rfl rfl rfl (by decide +kernel)
set_option maxRecDepth 65536 in
theorem w_c14 : (Jvm.Cond.code ({ cls := "java/lang/StringUTF16", name := "coderFromArrayLen", desc := "([BI)B" } : Jvm.MethodName) jdk_52_method_15_code (2 : Nat) (Option.some Jvm.ClassFile.FieldType.byte)).before args0 about1 = true := code_word (m := ⟨10, 1⟩) (meth := k10m1) (c := k10c1) (by decide +kernel) rfl rfl rfl (by decide +kernel)
set_option maxRecDepth 65536 in
theorem w_c15 : (Jvm.Cond.code ({ cls := "jdk/internal/util/ArraysSupport", name := "mismatch", desc := "([BI[BII)I" } : Jvm.MethodName) jdk_48_method_14_code (8 : Nat) (Option.some Jvm.ClassFile.FieldType.int)).before args0 about1 = true := code_word (m := ⟨11, 1⟩) (meth := k11m1) (c := k11c1) (by decide +kernel) rfl rfl rfl (by decide +kernel)
set_option maxRecDepth 65536 in
theorem w_c16 : (Jvm.Cond.code ({ cls := "java/lang/String", name := "substring", desc := "(II)Ljava/lang/String;" } : Jvm.MethodName) jdk_42_method_92_code (5 : Nat) (Option.some (Jvm.ClassFile.FieldType.object "java/lang/String"))).before args0 about1 = true := code_word (m := ⟨7, 6⟩) (meth := k7m6) (c := k7c6) (by decide +kernel) rfl rfl rfl (by decide +kernel)
set_option maxRecDepth 65536 in
theorem w_c17 : (Jvm.Cond.code ({ cls := "java/lang/String", name := "checkBoundsBeginEnd", desc := "(III)V" } : Jvm.MethodName) jdk_42_method_158_code (3 : Nat) (Option.none : Option Jvm.ClassFile.FieldType)).before args0 about1 = true := code_word (m := ⟨7, 11⟩) (meth := k7m11) (c := k7c11) (by decide +kernel) rfl rfl rfl (by decide +kernel)
set_option maxRecDepth 65536 in
theorem w_c18 : (Jvm.Cond.code ({ cls := "jdk/internal/util/Preconditions", name := "checkFromToIndex", desc := "(IIILjava/util/function/BiFunction;)I" } : Jvm.MethodName) jdk_41_method_12_code (4 : Nat) (Option.some Jvm.ClassFile.FieldType.int)).before args0 about1 = true := code_word (m := ⟨12, 1⟩) (meth := k12m1) (c := k12c1) (by decide +kernel) rfl rfl rfl (by decide +kernel)
set_option maxRecDepth 65536 in
theorem w_c19 : (Jvm.Cond.code ({ cls := "java/lang/String", name := "isLatin1", desc := "()Z" } : Jvm.MethodName) jdk_42_method_154_code (1 : Nat) (Option.some Jvm.ClassFile.FieldType.boolean)).before args0 about1 = true := code_word (m := ⟨7, 10⟩) (meth := k7m10) (c := k7c10) (by decide +kernel) rfl rfl rfl (by decide +kernel)
set_option maxRecDepth 65536 in
theorem w_c20 : (Jvm.Cond.code ({ cls := "java/lang/StringLatin1", name := "newString", desc := "([BII)Ljava/lang/String;" } : Jvm.MethodName) jdk_43_method_47_code (3 : Nat) (Option.some (Jvm.ClassFile.FieldType.object "java/lang/String"))).before args0 about1 = true := code_word (m := ⟨9, 2⟩) (meth := k9m2) (c := k9c2) (by decide +kernel) rfl rfl rfl (by decide +kernel)
set_option maxRecDepth 65536 in
theorem w_c21 : (Jvm.Cond.code ({ cls := "java/util/Arrays", name := "copyOfRange", desc := "([BII)[B" } : Jvm.MethodName) jdk_65_method_132_code (3 : Nat) (Option.some (Jvm.ClassFile.FieldType.array Jvm.ClassFile.FieldType.byte))).before args0 about1 = true := code_word (m := ⟨13, 2⟩) (meth := k13m2) (c := k13c2) (by decide +kernel) rfl rfl rfl (by decide +kernel)
set_option maxRecDepth 65536 in
theorem w_c22 : (Jvm.Cond.code ({ cls := "java/util/Arrays", name := "copyOfRangeByte", desc := "([BII)[B" } : Jvm.MethodName) jdk_65_method_133_code (5 : Nat) (Option.some (Jvm.ClassFile.FieldType.array Jvm.ClassFile.FieldType.byte))).before args0 about1 = true := code_word (m := ⟨13, 3⟩) (meth := k13m3) (c := k13c3) (by decide +kernel) rfl rfl rfl (by decide +kernel)
set_option maxRecDepth 65536 in
theorem w_c23 : (Jvm.Cond.code ({ cls := "java/util/Arrays", name := "checkLength", desc := "(II)V" } : Jvm.MethodName) jdk_65_method_131_code (2 : Nat) (Option.none : Option Jvm.ClassFile.FieldType)).before args0 about1 = true := code_word (m := ⟨13, 1⟩) (meth := k13m1) (c := k13c1) (by decide +kernel) rfl rfl rfl (by decide +kernel)
set_option maxRecDepth 65536 in
theorem w_c24 : (Jvm.Cond.code ({ cls := "java/lang/Math", name := "min", desc := "(II)I" } : Jvm.MethodName) jdk_29_method_69_code (2 : Nat) (Option.some Jvm.ClassFile.FieldType.int)).before args0 about1 = true := code_word (m := ⟨14, 1⟩) (meth := k14m1) (c := k14c1) (by decide +kernel) rfl rfl rfl (by decide +kernel)
set_option maxRecDepth 65536 in
theorem w_c25 : (Jvm.Cond.code ({ cls := "java/lang/String", name := "<init>", desc := "([BB)V" } : Jvm.MethodName) jdk_42_method_151_code (3 : Nat) (Option.none : Option Jvm.ClassFile.FieldType)).before args0 about1 = true := code_word (m := ⟨7, 8⟩) (meth := k7m8) (c := k7c8) (by decide +kernel) rfl rfl rfl (by decide +kernel)
def codes1 : List Jvm.Cond := [Jvm.Cond.code x code maxLocals ret, Jvm.Cond.code ({ cls := "com/example/crosswarden/crosswarden/config/HostNamesUnbracketedPinLaw", name := "make", desc := "(ICCCC)[C" } : Jvm.MethodName) method_2_code (6 : Nat) (Option.some (Jvm.ClassFile.FieldType.array Jvm.ClassFile.FieldType.char)), Jvm.Cond.code ({ cls := "java/lang/String", name := "<init>", desc := "([C)V" } : Jvm.MethodName) jdk_42_method_3_code (2 : Nat) (Option.none : Option Jvm.ClassFile.FieldType), Jvm.Cond.code ({ cls := "java/lang/String", name := "<init>", desc := "([CIILjava/lang/Void;)V" } : Jvm.MethodName) jdk_42_method_149_code (6 : Nat) (Option.none : Option Jvm.ClassFile.FieldType), Jvm.Cond.code ({ cls := "java/lang/Object", name := "<init>", desc := "()V" } : Jvm.MethodName) object_method_1_code (1 : Nat) (Option.none : Option Jvm.ClassFile.FieldType), Jvm.Cond.code ({ cls := "com/example/crosswarden/crosswarden/config/HostNames", name := "unbracketed", desc := "(Ljava/lang/String;)Ljava/lang/String;" } : Jvm.MethodName) prog_3_method_3_code (1 : Nat) (Option.some (Jvm.ClassFile.FieldType.object "java/lang/String")), Jvm.Cond.code ({ cls := "java/lang/String", name := "startsWith", desc := "(Ljava/lang/String;)Z" } : Jvm.MethodName) jdk_42_method_76_code (2 : Nat) (Option.some Jvm.ClassFile.FieldType.boolean), Jvm.Cond.code ({ cls := "java/lang/String", name := "startsWith", desc := "(Ljava/lang/String;I)Z" } : Jvm.MethodName) jdk_42_method_75_code (8 : Nat) (Option.some Jvm.ClassFile.FieldType.boolean), Jvm.Cond.code ({ cls := "java/lang/String", name := "length", desc := "()I" } : Jvm.MethodName) jdk_42_method_54_code (1 : Nat) (Option.some Jvm.ClassFile.FieldType.int), Jvm.Cond.code ({ cls := "java/lang/String", name := "coder", desc := "()B" } : Jvm.MethodName) jdk_42_method_152_code (1 : Nat) (Option.some Jvm.ClassFile.FieldType.byte), Jvm.Cond.code ({ cls := "java/lang/String", name := "equals", desc := "(Ljava/lang/Object;)Z" } : Jvm.MethodName) jdk_42_method_66_code (3 : Nat) (Option.some Jvm.ClassFile.FieldType.boolean), Jvm.Cond.code ({ cls := "java/lang/StringLatin1", name := "equals", desc := "([B[B)Z" } : Jvm.MethodName) jdk_43_method_13_code (3 : Nat) (Option.some Jvm.ClassFile.FieldType.boolean), Jvm.Cond.code ({ cls := "java/lang/StringUTF16", name := "compress", desc := "([CII)[B" } : Jvm.MethodName) jdk_52_method_16_code (6 : Nat) (Option.some (Jvm.ClassFile.FieldType.array Jvm.ClassFile.FieldType.byte)), Jvm.Cond.code ({ cls := "java/lang/StringUTF16", name := "compress", desc := "([CI[BII)I" } : Jvm.MethodName) jdk_52_method_21_code (7 : Nat) (Option.some Jvm.ClassFile.FieldType.int), Jvm.Cond.code ({ cls := "java/lang/StringUTF16", name := "coderFromArrayLen", desc := "([BI)B" } : Jvm.MethodName) jdk_52_method_15_code (2 : Nat) (Option.some Jvm.ClassFile.FieldType.byte), Jvm.Cond.code ({ cls := "jdk/internal/util/ArraysSupport", name := "mismatch", desc := "([BI[BII)I" } : Jvm.MethodName) jdk_48_method_14_code (8 : Nat) (Option.some Jvm.ClassFile.FieldType.int), Jvm.Cond.code ({ cls := "java/lang/String", name := "substring", desc := "(II)Ljava/lang/String;" } : Jvm.MethodName) jdk_42_method_92_code (5 : Nat) (Option.some (Jvm.ClassFile.FieldType.object "java/lang/String")), Jvm.Cond.code ({ cls := "java/lang/String", name := "checkBoundsBeginEnd", desc := "(III)V" } : Jvm.MethodName) jdk_42_method_158_code (3 : Nat) (Option.none : Option Jvm.ClassFile.FieldType), Jvm.Cond.code ({ cls := "jdk/internal/util/Preconditions", name := "checkFromToIndex", desc := "(IIILjava/util/function/BiFunction;)I" } : Jvm.MethodName) jdk_41_method_12_code (4 : Nat) (Option.some Jvm.ClassFile.FieldType.int), Jvm.Cond.code ({ cls := "java/lang/String", name := "isLatin1", desc := "()Z" } : Jvm.MethodName) jdk_42_method_154_code (1 : Nat) (Option.some Jvm.ClassFile.FieldType.boolean), Jvm.Cond.code ({ cls := "java/lang/StringLatin1", name := "newString", desc := "([BII)Ljava/lang/String;" } : Jvm.MethodName) jdk_43_method_47_code (3 : Nat) (Option.some (Jvm.ClassFile.FieldType.object "java/lang/String")), Jvm.Cond.code ({ cls := "java/util/Arrays", name := "copyOfRange", desc := "([BII)[B" } : Jvm.MethodName) jdk_65_method_132_code (3 : Nat) (Option.some (Jvm.ClassFile.FieldType.array Jvm.ClassFile.FieldType.byte)), Jvm.Cond.code ({ cls := "java/util/Arrays", name := "copyOfRangeByte", desc := "([BII)[B" } : Jvm.MethodName) jdk_65_method_133_code (5 : Nat) (Option.some (Jvm.ClassFile.FieldType.array Jvm.ClassFile.FieldType.byte)), Jvm.Cond.code ({ cls := "java/util/Arrays", name := "checkLength", desc := "(II)V" } : Jvm.MethodName) jdk_65_method_131_code (2 : Nat) (Option.none : Option Jvm.ClassFile.FieldType), Jvm.Cond.code ({ cls := "java/lang/Math", name := "min", desc := "(II)I" } : Jvm.MethodName) jdk_29_method_69_code (2 : Nat) (Option.some Jvm.ClassFile.FieldType.int), Jvm.Cond.code ({ cls := "java/lang/String", name := "<init>", desc := "([BB)V" } : Jvm.MethodName) jdk_42_method_151_code (3 : Nat) (Option.none : Option Jvm.ClassFile.FieldType)]
set_option maxRecDepth 65536 in
theorem codes_eq : words1.filter isCode = codes1 := rfl
theorem w_codes : ∀ c ∈ words1.filter isCode, c.before args0 about1 = true := by
  rw [codes_eq]
  intro c hc
  simp only [codes1, List.mem_cons, List.not_mem_nil, or_false] at hc
  rcases hc with rfl | rfl | rfl | rfl | rfl | rfl | rfl | rfl | rfl | rfl | rfl | rfl | rfl | rfl | rfl | rfl | rfl | rfl | rfl | rfl | rfl | rfl | rfl | rfl | rfl | rfl
  · exact w_c0
  · exact w_c1
  · exact w_c2
  · exact w_c3
  · exact w_c4
  · exact w_c5
  · exact w_c6
  · exact w_c7
  · exact w_c8
  · exact w_c9
  · exact w_c10
  · exact w_c11
  · exact w_c12
  · exact w_c13
  · exact w_c14
  · exact w_c15
  · exact w_c16
  · exact w_c17
  · exact w_c18
  · exact w_c19
  · exact w_c20
  · exact w_c21
  · exact w_c22
  · exact w_c23
  · exact w_c24
  · exact w_c25
set_option maxRecDepth 65536 in
theorem w_t1 : (words1.take 24).all (fun c => isCode c || c.before args0 about1) = true := by decide +kernel
set_option maxRecDepth 65536 in
theorem w_t2 : ((words1.drop 24).take 24).all (fun c => isCode c || c.before args0 about1) = true := by decide +kernel
set_option maxRecDepth 65536 in
theorem w_t3 : (((words1.drop 24).drop 24).take 24).all (fun c => isCode c || c.before args0 about1) = true := by decide +kernel
set_option maxRecDepth 65536 in
theorem w_t4 : ((((words1.drop 24).drop 24).drop 24).take 24).all (fun c => isCode c || c.before args0 about1) = true := by decide +kernel
set_option maxRecDepth 65536 in
theorem w_t5 : (((((words1.drop 24).drop 24).drop 24).drop 24).take 24).all (fun c => isCode c || c.before args0 about1) = true := by decide +kernel
set_option maxRecDepth 65536 in
theorem w_t6 : (((((words1.drop 24).drop 24).drop 24).drop 24).drop 24).all (fun c => isCode c || c.before args0 about1) = true := by decide +kernel
theorem w_tables : (allAtoms (Jvm.Cond.code x code maxLocals ret :: tables_1)).before args0 about1 = true := by
  rw [allAtoms_all]
  show words1.all (fun c => c.before args0 about1) = true
  refine all_split ?_ w_codes
  rw [← List.take_append_drop 24 words1, List.all_append, w_t1, ← List.take_append_drop 24 (words1.drop 24), List.all_append, w_t2, ← List.take_append_drop 24 ((words1.drop 24).drop 24), List.all_append, w_t3, ← List.take_append_drop 24 (((words1.drop 24).drop 24).drop 24), List.all_append, w_t4, ← List.take_append_drop 24 ((((words1.drop 24).drop 24).drop 24).drop 24), List.all_append, w_t5, w_t6]
  rfl
set_option maxRecDepth 65536 in
theorem w_rest : rest_1_c.before args0 about1 = true := by decide +kernel
set_option maxRecDepth 65536 in
theorem w_case : (Jvm.Cond.and given_1 narrow_1).before args0 about1 = true := by decide +kernel
set_option maxRecDepth 65536 in
theorem w_consts : constsHeld consts_1 about1 := Jvm.Lit.constsHeldB_iff.mp (by decide +kernel)
theorem w_applies : (headSpec (Jvm.Cond.code x code maxLocals ret :: tables_1) room_1).applies x e0.platform about1 = true :=
  (Spec.applies_iff w_frames).mpr ⟨w_running, w_runnable, w_alone, w_named, w_hears, w_ripe, w_room, w_tables⟩
theorem atStart : AtStart classFile x code maxLocals ret World_1 tables_1 room_1 Calls_1 rest_1 Pre_1 launch0 p0 e0 about1 theMethod args0 below0 :=
  ⟨lists_1, trivial, launch0.admits_env _ _ _, launch0.least_env, fairChoices_fair.cas, fairChoices_fair.clock, w_frames, w_args, w_heap, w_applies, ⟨w_consts, trivial⟩, w_rest, w_case⟩
end start1
theorem witness_1 : WitnessClaimed_1 := ⟨start1.p0, start1.e0, start1.about1, start1.theMethod, start1.args0, start1.below0, start1.atStart⟩
end Jvm.Pilot.@@N@@
