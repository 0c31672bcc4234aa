import JvmDerived
import JvmDerived.Pilot.@@N@@Statement
import JvmDerived.Pilot.@@N@@Code
set_option linter.unusedVariables false
set_option linter.unusedSimpArgs false
namespace Jvm.OwnW
open Sem ClassFile Op Lib Bundle Jvm.Stand Jvm.Free Jvm.LawKit Jvm.RoadKit
/-! OwnW: a walk as one goal. Go: 'from every state of the walk that stands over this heap, with this frame, the method comes to its end with Q'. Each step is one lemma; tables, written places, rebased starts and booked constants ride inside. -/
abbrev Gb : Type := Launch × State × Array Value × List (String × Nat)
abbrev Gb.l (G : Gb) : Launch := G.1
abbrev Gb.Z (G : Gb) : State := G.2.1
abbrev Gb.a0 (G : Gb) : Array Value := G.2.2.1
abbrev Gb.EL (G : Gb) : List (String × Nat) := G.2.2.2
abbrev Cx : Type := (Program × Env × State × MethodId) × (Array Value × List Frame × Method × Code)
abbrev Cx.p (B : Cx) : Program := B.1.1
abbrev Cx.e (B : Cx) : Env := B.1.2.1
abbrev Cx.s (B : Cx) : State := B.1.2.2.1
abbrev Cx.m (B : Cx) : MethodId := B.1.2.2.2
abbrev Cx.as (B : Cx) : Array Value := B.2.1
abbrev Cx.bl (B : Cx) : List Frame := B.2.2.1
abbrev Cx.mt (B : Cx) : Method := B.2.2.2.1
abbrev Cx.c (B : Cx) : Code := B.2.2.2.2
abbrev Mt : Type := (String × String × Room) × (List (Nat × Instr × Nat) × Nat × Option FieldType)
abbrev Mt.own (M : Mt) : String := M.1.1
abbrev Mt.nm (M : Mt) : String := M.1.2.1
abbrev Mt.R (M : Mt) : Room := M.1.2.2
abbrev Mt.P (M : Mt) : List (Nat × Instr × Nat) := M.2.1
abbrev Mt.maxL (M : Mt) : Nat := M.2.2.1
abbrev Mt.ret (M : Mt) : Option FieldType := M.2.2.2
abbrev Wd (G : Gb) (d : Jvm.Cond) : Prop := d.before G.a0 G.Z = true
def Wo (G : Gb) (B : Cx) (own : String) (R : Room) (h : Heap) (sf : List Addr) (cells slots : Nat) (T : State) (vm0 : Vm) (k0 : Nat) (locs : List Loc) : Prop :=
  Stand B.p G.l B.e R (B.s.setVm vm0) B.m B.as B.bl B.mt B.c T locs cells slots ∧ T.heap = h ∧ B.s.Since vm0 k0 ∧ k0 ≤ h.size ∧
  G.Z.Warmed39 vm0 ∧ vm0.findClass own = some B.m.cls ∧ Fr G.Z.heap.size locs ∧ Ext G.Z.heap h ∧ CHr G.Z G.EL B.s.vm B.s.heap vm0 h ∧
  ∀ x ∈ sf, Safe G.Z G.EL vm0 h x ∧ x < h.size
def Fin (G : Gb) (B : Cx) (R : Room) (Q : Option Value → Heap → (Addr → Prop) → Prop) (u : State) : Prop :=
  ∃ (t : State) (v : Option Value) (L : List Loc), Steps B.p.tables B.e B.bl u t ∧ t.status = .running ∧ Ended t B.bl (.returned v) ∧ Q v t.heap (fun x => Safe G.Z G.EL t.vm t.heap x ∧ x < t.heap.size) ∧ Fr G.Z.heap.size L ∧ Ext G.Z.heap t.heap ∧
    CHr G.Z G.EL B.s.vm B.s.heap t.vm t.heap ∧ ReturnedEndW B.s (.returned v) t L R.cells R.slots
def Go (G : Gb) (B : Cx) (M : Mt) (Q : Option Value → Heap → (Addr → Prop) → Prop) (h : Heap) (sf : List Addr) (cells slots pc : Nat) (Ls : Array Slot) (st : List Value) : Prop :=
  ∀ T vm0 k0 locs, Wo G B M.own M.R h sf cells slots T vm0 k0 locs → Fin G B M.R Q (T.setTop (mkF B.m pc Ls st))
def Kd (G : Gb) (B : Cx) (M : Mt) : Prop :=
  B.p.tables.exec = Jvm.exec ∧ (∀ q ∈ M.P, decode B.c.code q.1 = .ok q.2) ∧ B.c.maxLocals = M.maxL ∧ B.mt.sig.returnType = M.ret ∧ B.mt.locks = false ∧ B.mt.name = M.nm ∧ EW G.Z G.a0 G.EL
/-- a contract: from these arguments over this heap it returns, and Q holds of what is returned and of the heap behind -/
def Ctr (G : Gb) (ws : List Jvm.Cond) (y : MethodName) (bytes : ByteArray) (maxL : Nat) (ret : Option FieldType) (rm : Room) (as' : Array Value) (h : Heap) (sf : List Addr) (Q : Option Value → Heap → (Addr → Prop) → Prop) : Prop :=
  MetFree G.l y (head1 (Jvm.Cond.code y bytes maxL ret :: ws) rm)
    (fun a U => a = as' ∧ G.Z.Warmed39 U.vm ∧ U.heap = h ∧ CHv G.Z G.EL U.vm h ∧ Ext G.Z.heap h ∧ ∀ x ∈ sf, Safe G.Z G.EL U.vm h x ∧ x < h.size) (fun _ _ _ _ _ => True)
    (fun _ U o U' => ∃ v L, o = .returned v ∧ (Q v U'.heap (fun x => Safe G.Z G.EL U'.vm U'.heap x ∧ x < U'.heap.size) ∧ Fr G.Z.heap.size L ∧ Ext G.Z.heap U'.heap) ∧ CHr G.Z G.EL U.vm U.heap U'.vm U'.heap ∧ ReturnedEndW U o U' L rm.cells rm.slots)
section Base
variable {G : Gb} {B : Cx} {M : Mt} {R : Room} {Q : Option Value → Heap → (Addr → Prop) → Prop} {h : Heap} {sf : List Addr} {cells slots pc : Nat} {Ls : Array Slot} {st : List Value}
theorem Fin.pre {u u' : State} (f : Fin G B R Q u') (k : ∀ target, Steps B.p.tables B.e B.bl u' target → Steps B.p.tables B.e B.bl u target) : Fin G B R Q u := by
  obtain ⟨t, v, L, s, r⟩ := f
  exact ⟨t, v, L, k _ s, r⟩
theorem ef_ok {m : MethodId} {as' : Array Value} {n : Nat} {Ls : Array Slot} (q : argsToLocals as' n = Ls) : entryFrame m as' n = mkF m 0 Ls [] := by
  subst q
  rfl
theorem Kd.dec (K : Kd G B M) {k : Nat} {i : Instr} {len : Nat} (hd : M.P[k]? = some (pc, i, len)) : decode B.c.code pc = .ok (i, len) := K.2.1 (pc, i, len) (List.mem_of_getElem? hd)
/-! ### plain steps -/
def intAt (Ls : Array Slot) (k : Nat) : Option Int32 := match Ls[k]? with | some (.val (.int v)) => some v | _ => none
def longAt (Ls : Array Slot) (k : Nat) : Option Int64 := match Ls[k]? with | some (.val (.long v)) => some v | _ => none
def refAt (Ls : Array Slot) (k : Nat) : Option Value := match Ls[k]? with | some (.val (.ref a)) => some (.ref a) | some (.val .null) => some .null | _ => none
theorem intAt_ok {k : Nat} {v : Int32} (q : intAt Ls k = some v) : Ls[k]? = some (.val (.int v)) := by
  unfold intAt at q; split at q
  · rename_i u; cases q; exact u
  · cases q
theorem longAt_ok {k : Nat} {v : Int64} (q : longAt Ls k = some v) : Ls[k]? = some (.val (.long v)) := by
  unfold longAt at q; split at q
  · rename_i u; cases q; exact u
  · cases q
theorem refAt_ok {k : Nat} {v : Value} (q : refAt Ls k = some v) : Ls[k]? = some (.val v) ∧ v.isRef = true := by
  unfold refAt at q; split at q
  · rename_i u; cases q; exact ⟨u, rfl⟩
  · rename_i u; cases q; exact ⟨u, rfl⟩
  · cases q
def sem1 (i : Instr) (n pc : Nat) (Ls : Array Slot) (st : List Value) : Option (Nat × Array Slot × List Value) :=
  match i, n, st with
  | .aconst_null, 1, st => some (pc + 1, Ls, .null :: st)
  | .iconst z, 1, st => some (pc + 1, Ls, .int (Int32.ofInt z) :: st)
  | .bipush z, 2, st => some (pc + 2, Ls, .int (Int8.ofInt z).toInt32 :: st)
  | .sipush z, 3, st => some (pc + 3, Ls, .int (Int16.ofInt z).toInt32 :: st)
  | .iload k, 2, st => (intAt Ls k).map fun v => (pc + 2, Ls, .int v :: st)
  | .iload_n k, 1, st => (intAt Ls k.val).map fun v => (pc + 1, Ls, .int v :: st)
  | .lload k, 2, st => (longAt Ls k).map fun v => (pc + 2, Ls, .long v :: st)
  | .lload_n k, 1, st => (longAt Ls k.val).map fun v => (pc + 1, Ls, .long v :: st)
  | .aload k, 2, st => (refAt Ls k).map fun v => (pc + 2, Ls, v :: st)
  | .aload_n k, 1, st => (refAt Ls k.val).map fun v => (pc + 1, Ls, v :: st)
  | .istore k, 2, .int x :: st => (storeLocals Ls k (.int x)).map fun l => (pc + 2, l, st)
  | .istore_n k, 1, .int x :: st => (storeLocals Ls k.val (.int x)).map fun l => (pc + 1, l, st)
  | .astore k, 2, .ref x :: st => (storeLocals Ls k (.ref x)).map fun l => (pc + 2, l, st)
  | .astore k, 2, .null :: st => (storeLocals Ls k .null).map fun l => (pc + 2, l, st)
  | .astore_n k, 1, .ref x :: st => (storeLocals Ls k.val (.ref x)).map fun l => (pc + 1, l, st)
  | .astore_n k, 1, .null :: st => (storeLocals Ls k.val .null).map fun l => (pc + 1, l, st)
  | .pop, 1, x :: st => if x.category = 1 then some (pc + 1, Ls, st) else none
  | .dup, 1, x :: st => if x.category = 1 then some (pc + 1, Ls, x :: x :: st) else none
  | .dup_x1, 1, x :: y :: st => if x.category = 1 then (if y.category = 1 then some (pc + 1, Ls, x :: y :: x :: st) else none) else none
  | .iadd, 1, .int y :: .int x :: st => some (pc + 1, Ls, .int (x + y) :: st)
  | .isub, 1, .int y :: .int x :: st => some (pc + 1, Ls, .int (x - y) :: st)
  | .imul, 1, .int y :: .int x :: st => some (pc + 1, Ls, .int (x * y) :: st)
  | .iand, 1, .int y :: .int x :: st => some (pc + 1, Ls, .int (x &&& y) :: st)
  | .ior, 1, .int y :: .int x :: st => some (pc + 1, Ls, .int (x ||| y) :: st)
  | .ixor, 1, .int y :: .int x :: st => some (pc + 1, Ls, .int (x ^^^ y) :: st)
  | .ishl, 1, .int y :: .int x :: st => some (pc + 1, Ls, .int (x <<< (y &&& 31)) :: st)
  | .ishr, 1, .int y :: .int x :: st => some (pc + 1, Ls, .int (x >>> (y &&& 31)) :: st)
  | .iushr, 1, .int y :: .int x :: st => some (pc + 1, Ls, .int (XT.ushr x y) :: st)
  | .lushr, 1, .int y :: .long x :: st => some (pc + 1, Ls, .long (XT.ushrL x y) :: st)
  | .i2l, 1, .int x :: st => some (pc + 1, Ls, .long x.toInt64 :: st)
  | .l2i, 1, .long x :: st => some (pc + 1, Ls, .int x.toInt32 :: st)
  | .i2b, 1, .int x :: st => some (pc + 1, Ls, .int x.toInt8.toInt32 :: st)
  | .i2c, 1, .int x :: st => some (pc + 1, Ls, .int x.toUInt32.toUInt16.toUInt32.toInt32 :: st)
  | .lcmp, 1, .long y :: .long x :: st => some (pc + 1, Ls, .int (XT.cmpL x y) :: st)
  | .iinc k z, 3, st => (intAt Ls k).bind fun x => (storeLocals Ls k (.int (x + Int32.ofInt z))).map fun l => (pc + 3, l, st)
  | .goto o, 3, st => if 0 ≤ (pc : Int) + o then some (((pc : Int) + o).toNat, Ls, st) else none
  | _, _, _ => none
theorem sem1_ok {tb : Tables} [Ours tb] {e : Env} {below : List Frame} {T target : State} {m : MethodId} {c : Code} (h : At T m c below) (hx : tb.exec = Jvm.exec) {i : Instr} {n : Nat} {f : Nat × Array Slot × List Value}
    (hd : decode c.code pc = .ok (i, n)) (hs : sem1 i n pc Ls st = some f) (hr : Steps tb e below (T.setTop (mkF m f.1 f.2.1 f.2.2)) target) : Steps tb e below (T.setTop (mkF m pc Ls st)) target := by
  unfold sem1 at hs
  split at hs
  · cases hs; exact XS.aconstNull h hx rfl hd hr
  · cases hs; exact XS.iconst h hx rfl hd hr
  · cases hs; exact XS.bipush h hx rfl hd hr
  · cases hs; exact XS.sipush h hx rfl hd hr
  · obtain ⟨v, q, rfl⟩ := Option.map_eq_some_iff.mp hs; exact XS.iload h hx rfl hd (intAt_ok q) hr
  · obtain ⟨v, q, rfl⟩ := Option.map_eq_some_iff.mp hs; exact XS.iloadN h hx rfl hd (intAt_ok q) hr
  · obtain ⟨v, q, rfl⟩ := Option.map_eq_some_iff.mp hs; exact XT.lload h hx rfl hd (longAt_ok q) hr
  · obtain ⟨v, q, rfl⟩ := Option.map_eq_some_iff.mp hs; exact XT.lloadN h hx rfl hd (longAt_ok q) hr
  · obtain ⟨v, q, rfl⟩ := Option.map_eq_some_iff.mp hs; exact XS.aload h hx rfl hd (refAt_ok q).1 (refAt_ok q).2 hr
  · obtain ⟨v, q, rfl⟩ := Option.map_eq_some_iff.mp hs; exact XS.aloadN h hx rfl hd (refAt_ok q).1 (refAt_ok q).2 hr
  · obtain ⟨v, q, rfl⟩ := Option.map_eq_some_iff.mp hs; exact XS.istore h hx rfl hd rfl q hr
  · obtain ⟨v, q, rfl⟩ := Option.map_eq_some_iff.mp hs; exact XS.istoreN h hx rfl hd rfl q hr
  · obtain ⟨v, q, rfl⟩ := Option.map_eq_some_iff.mp hs; exact XS.astore h hx rfl hd rfl rfl q hr
  · obtain ⟨v, q, rfl⟩ := Option.map_eq_some_iff.mp hs; exact XS.astore h hx rfl hd rfl rfl q hr
  · obtain ⟨v, q, rfl⟩ := Option.map_eq_some_iff.mp hs; exact XS.astoreN h hx rfl hd rfl rfl q hr
  · obtain ⟨v, q, rfl⟩ := Option.map_eq_some_iff.mp hs; exact XS.astoreN h hx rfl hd rfl rfl q hr
  · split at hs
    · rename_i q; cases hs; exact XT.pop h hx rfl hd rfl q hr
    · cases hs
  · split at hs
    · rename_i q; cases hs; exact XS.dup h hx rfl hd rfl q hr
    · cases hs
  · split at hs
    · rename_i q
      split at hs
      · rename_i q'; cases hs; exact XT.dupX1 h hx rfl hd rfl q q' hr
      · cases hs
    · cases hs
  · cases hs; exact XS.iadd h hx rfl hd rfl hr
  · cases hs; exact XS.isub h hx rfl hd rfl hr
  · cases hs; exact XS.imul h hx rfl hd rfl hr
  · cases hs; exact XS.iand h hx rfl hd rfl hr
  · cases hs; exact XT.ior h hx rfl hd rfl hr
  · cases hs; exact XT.ixor h hx rfl hd rfl hr
  · cases hs; exact XT.ishl h hx rfl hd rfl hr
  · cases hs; exact XT.ishr h hx rfl hd rfl hr
  · cases hs; exact XT.iushr h hx rfl hd rfl hr
  · cases hs; exact XT.lushr h hx rfl hd rfl hr
  · cases hs; exact XT.i2l h hx rfl hd rfl hr
  · cases hs; exact XT.l2i h hx rfl hd rfl hr
  · cases hs; exact XT.i2b h hx rfl hd rfl hr
  · cases hs; exact XT.i2c h hx rfl hd rfl hr
  · cases hs; exact XT.lcmp h hx rfl hd rfl hr
  · obtain ⟨x, q, hs⟩ := Option.bind_eq_some_iff.mp hs
    obtain ⟨v, q', rfl⟩ := Option.map_eq_some_iff.mp hs; exact XS.iinc h hx rfl hd (intAt_ok q) q' hr
  · split at hs
    · rename_i q; cases hs; exact XS.goto h hx rfl (pc0 := pc) rfl hd q rfl hr
    · cases hs
  · cases hs
def runs : Nat → List (Nat × Instr × Nat) → Nat × Array Slot × List Value → Option (Nat × Array Slot × List Value)
  | 0, _, f => some f
  | _ + 1, [], _ => none
  | n + 1, q :: P, f => if q.1 = f.1 then (sem1 q.2.1 q.2.2 f.1 f.2.1 f.2.2).bind fun f' => runs n P f' else none
theorem runs_ok {tb : Tables} [Ours tb] {e : Env} {below : List Frame} {T target : State} {m : MethodId} {c : Code} (h : At T m c below) (hx : tb.exec = Jvm.exec) : ∀ (n : Nat) (P : List (Nat × Instr × Nat)) (f f' : Nat × Array Slot × List Value),
    (∀ q ∈ P, decode c.code q.1 = .ok q.2) → runs n P f = some f' → Steps tb e below (T.setTop (mkF m f'.1 f'.2.1 f'.2.2)) target → Steps tb e below (T.setTop (mkF m f.1 f.2.1 f.2.2)) target
  | 0, _, f, f', _, hs, hr => by cases hs; exact hr
  | _ + 1, [], _, _, _, hs, _ => by cases hs
  | n + 1, q :: P, f, f', hP, hs, hr => by
    simp only [runs] at hs
    split at hs
    · rename_i u
      obtain ⟨g, q1, q2⟩ := Option.bind_eq_some_iff.mp hs
      exact sem1_ok h hx (by rw [← u]; exact hP q (List.mem_cons_self ..)) q1 (runs_ok h hx n P g f' (fun z hz => hP z (List.mem_cons_of_mem _ hz)) q2 hr)
    · cases hs
theorem go_run (K : Kd G B M) (k n : Nat) {pc' : Nat} {Ls' : Array Slot} {st' : List Value} (hr : runs n (M.P.drop k) (pc, Ls, st) = some (pc', Ls', st')) (g : Go G B M Q h sf cells slots pc' Ls' st') : Go G B M Q h sf cells slots pc Ls st := by
  intro T vm0 k0 locs W
  exact (g T vm0 k0 locs W).pre fun target q => runs_ok W.1.here K.1 n _ (pc, Ls, st) (pc', Ls', st') (fun z hz => K.2.1 z (List.mem_of_mem_drop hz)) hr q
/-! ### branches -/
theorem go_if2 (K : Kd G B M) {k : Nat} {cd : ClassFile.Cond} {o : Int} {x : Int32} (hd : M.P[k]? = some (pc, .ifCond cd o, 3)) {pc' : Nat} (ho : 0 ≤ (pc : Int) + o ∧ ((pc : Int) + o).toNat = pc') {A : Prop} [Decidable A] (hA : A → ifCond.holds cd x = true) (hN : ¬ A → ifCond.holds cd x = false)
    (gT : A → Go G B M Q h sf cells slots pc' Ls st) (gF : ¬ A → Go G B M Q h sf cells slots (pc + 3) Ls st) : Go G B M Q h sf cells slots pc Ls (.int x :: st) := by
  intro T vm0 k0 locs W
  by_cases a : A
  · exact (gT a T vm0 k0 locs W).pre fun target hr => XS.ifYes W.1.here K.1 rfl (pc0 := pc) (pc' := pc') rfl (K.dec hd) rfl (hA a) ho.1 ho.2 hr
  · exact (gF a T vm0 k0 locs W).pre fun target hr => XS.ifNo W.1.here K.1 rfl (K.dec hd) rfl (hN a) hr
theorem go_icmp2 (K : Kd G B M) {k : Nat} {cd : ClassFile.Cond} {o : Int} {x y : Int32} (hd : M.P[k]? = some (pc, .if_icmp cd o, 3)) {pc' : Nat} (ho : 0 ≤ (pc : Int) + o ∧ ((pc : Int) + o).toNat = pc') {A : Prop} [Decidable A] (hA : A → if_icmp.holds cd x y = true) (hN : ¬ A → if_icmp.holds cd x y = false)
    (gT : A → Go G B M Q h sf cells slots pc' Ls st) (gF : ¬ A → Go G B M Q h sf cells slots (pc + 3) Ls st) : Go G B M Q h sf cells slots pc Ls (.int y :: .int x :: st) := by
  intro T vm0 k0 locs W
  by_cases a : A
  · exact (gT a T vm0 k0 locs W).pre fun target hr => XS.icmpYes W.1.here K.1 rfl (pc0 := pc) (pc' := pc') rfl (K.dec hd) rfl (hA a) ho.1 ho.2 hr
  · exact (gF a T vm0 k0 locs W).pre fun target hr => XS.icmpNo W.1.here K.1 rfl (K.dec hd) rfl (hN a) hr
theorem go_ifeq (K : Kd G B M) {k : Nat} {o : Int} {x : Int32} (hd : M.P[k]? = some (pc, .ifCond .eq o, 3)) {pc' : Nat} (ho : 0 ≤ (pc : Int) + o ∧ ((pc : Int) + o).toNat = pc') (gT : x = 0 → Go G B M Q h sf cells slots pc' Ls st) (gF : ¬ x = 0 → Go G B M Q h sf cells slots (pc + 3) Ls st) : Go G B M Q h sf cells slots pc Ls (.int x :: st) :=
  go_if2 K hd ho (fun q => by rw [if0]; exact (teq q).1) (fun q => by rw [if0]; exact (feq q).1) gT gF
theorem go_ifne (K : Kd G B M) {k : Nat} {o : Int} {x : Int32} (hd : M.P[k]? = some (pc, .ifCond .ne o, 3)) {pc' : Nat} (ho : 0 ≤ (pc : Int) + o ∧ ((pc : Int) + o).toNat = pc') (gT : ¬ x = 0 → Go G B M Q h sf cells slots pc' Ls st) (gF : x = 0 → Go G B M Q h sf cells slots (pc + 3) Ls st) : Go G B M Q h sf cells slots pc Ls (.int x :: st) :=
  go_if2 K hd ho (A := ¬ x = 0) (fun q => by rw [if0]; exact (feq q).2) (fun q => by rw [if0]; exact (teq (Decidable.not_not.mp q)).2) gT (fun q => gF (Decidable.not_not.mp q))
theorem go_iflt (K : Kd G B M) {k : Nat} {o : Int} {x : Int32} (hd : M.P[k]? = some (pc, .ifCond .lt o, 3)) {pc' : Nat} (ho : 0 ≤ (pc : Int) + o ∧ ((pc : Int) + o).toNat = pc') (gT : x < 0 → Go G B M Q h sf cells slots pc' Ls st) (gF : ¬ x < 0 → Go G B M Q h sf cells slots (pc + 3) Ls st) : Go G B M Q h sf cells slots pc Ls (.int x :: st) :=
  go_if2 K hd ho (fun q => by rw [if0]; exact (tlt q).1) (fun q => by rw [if0]; exact (flt q).1) gT gF
theorem go_ifge (K : Kd G B M) {k : Nat} {o : Int} {x : Int32} (hd : M.P[k]? = some (pc, .ifCond .ge o, 3)) {pc' : Nat} (ho : 0 ≤ (pc : Int) + o ∧ ((pc : Int) + o).toNat = pc') (gT : ¬ x < 0 → Go G B M Q h sf cells slots pc' Ls st) (gF : x < 0 → Go G B M Q h sf cells slots (pc + 3) Ls st) : Go G B M Q h sf cells slots pc Ls (.int x :: st) :=
  go_if2 K hd ho (A := ¬ x < 0) (fun q => by rw [if0]; exact (flt q).2.1) (fun q => by rw [if0]; exact (tlt (Decidable.not_not.mp q)).2.1) gT (fun q => gF (Decidable.not_not.mp q))
theorem go_ifgt (K : Kd G B M) {k : Nat} {o : Int} {x : Int32} (hd : M.P[k]? = some (pc, .ifCond .gt o, 3)) {pc' : Nat} (ho : 0 ≤ (pc : Int) + o ∧ ((pc : Int) + o).toNat = pc') (gT : 0 < x → Go G B M Q h sf cells slots pc' Ls st) (gF : ¬ 0 < x → Go G B M Q h sf cells slots (pc + 3) Ls st) : Go G B M Q h sf cells slots pc Ls (.int x :: st) :=
  go_if2 K hd ho (fun q => by rw [if0]; exact (tlt q).2.2.1) (fun q => by rw [if0]; exact (flt q).2.2.1) gT gF
theorem go_ifle (K : Kd G B M) {k : Nat} {o : Int} {x : Int32} (hd : M.P[k]? = some (pc, .ifCond .le o, 3)) {pc' : Nat} (ho : 0 ≤ (pc : Int) + o ∧ ((pc : Int) + o).toNat = pc') (gT : ¬ 0 < x → Go G B M Q h sf cells slots pc' Ls st) (gF : 0 < x → Go G B M Q h sf cells slots (pc + 3) Ls st) : Go G B M Q h sf cells slots pc Ls (.int x :: st) :=
  go_if2 K hd ho (A := ¬ 0 < x) (fun q => by rw [if0]; exact (flt q).2.2.2) (fun q => by rw [if0]; exact (tlt (Decidable.not_not.mp q)).2.2.2) gT (fun q => gF (Decidable.not_not.mp q))
theorem go_icmpeq (K : Kd G B M) {k : Nat} {o : Int} {x y : Int32} (hd : M.P[k]? = some (pc, .if_icmp .eq o, 3)) {pc' : Nat} (ho : 0 ≤ (pc : Int) + o ∧ ((pc : Int) + o).toNat = pc') (gT : x = y → Go G B M Q h sf cells slots pc' Ls st) (gF : ¬ x = y → Go G B M Q h sf cells slots (pc + 3) Ls st) : Go G B M Q h sf cells slots pc Ls (.int y :: .int x :: st) :=
  go_icmp2 K hd ho (fun q => (teq q).1) (fun q => (feq q).1) gT gF
theorem go_icmpne (K : Kd G B M) {k : Nat} {o : Int} {x y : Int32} (hd : M.P[k]? = some (pc, .if_icmp .ne o, 3)) {pc' : Nat} (ho : 0 ≤ (pc : Int) + o ∧ ((pc : Int) + o).toNat = pc') (gT : ¬ x = y → Go G B M Q h sf cells slots pc' Ls st) (gF : x = y → Go G B M Q h sf cells slots (pc + 3) Ls st) : Go G B M Q h sf cells slots pc Ls (.int y :: .int x :: st) :=
  go_icmp2 K hd ho (A := ¬ x = y) (fun q => (feq q).2) (fun q => (teq (Decidable.not_not.mp q)).2) gT (fun q => gF (Decidable.not_not.mp q))
theorem go_icmplt (K : Kd G B M) {k : Nat} {o : Int} {x y : Int32} (hd : M.P[k]? = some (pc, .if_icmp .lt o, 3)) {pc' : Nat} (ho : 0 ≤ (pc : Int) + o ∧ ((pc : Int) + o).toNat = pc') (gT : x < y → Go G B M Q h sf cells slots pc' Ls st) (gF : ¬ x < y → Go G B M Q h sf cells slots (pc + 3) Ls st) : Go G B M Q h sf cells slots pc Ls (.int y :: .int x :: st) :=
  go_icmp2 K hd ho (fun q => (tlt q).1) (fun q => (flt q).1) gT gF
theorem go_icmpge (K : Kd G B M) {k : Nat} {o : Int} {x y : Int32} (hd : M.P[k]? = some (pc, .if_icmp .ge o, 3)) {pc' : Nat} (ho : 0 ≤ (pc : Int) + o ∧ ((pc : Int) + o).toNat = pc') (gT : ¬ x < y → Go G B M Q h sf cells slots pc' Ls st) (gF : x < y → Go G B M Q h sf cells slots (pc + 3) Ls st) : Go G B M Q h sf cells slots pc Ls (.int y :: .int x :: st) :=
  go_icmp2 K hd ho (A := ¬ x < y) (fun q => (flt q).2.1) (fun q => (tlt (Decidable.not_not.mp q)).2.1) gT (fun q => gF (Decidable.not_not.mp q))
theorem go_icmpgt (K : Kd G B M) {k : Nat} {o : Int} {x y : Int32} (hd : M.P[k]? = some (pc, .if_icmp .gt o, 3)) {pc' : Nat} (ho : 0 ≤ (pc : Int) + o ∧ ((pc : Int) + o).toNat = pc') (gT : y < x → Go G B M Q h sf cells slots pc' Ls st) (gF : ¬ y < x → Go G B M Q h sf cells slots (pc + 3) Ls st) : Go G B M Q h sf cells slots pc Ls (.int y :: .int x :: st) :=
  go_icmp2 K hd ho (fun q => (tlt q).2.2.1) (fun q => (flt q).2.2.1) gT gF
theorem go_icmple (K : Kd G B M) {k : Nat} {o : Int} {x y : Int32} (hd : M.P[k]? = some (pc, .if_icmp .le o, 3)) {pc' : Nat} (ho : 0 ≤ (pc : Int) + o ∧ ((pc : Int) + o).toNat = pc') (gT : ¬ y < x → Go G B M Q h sf cells slots pc' Ls st) (gF : y < x → Go G B M Q h sf cells slots (pc + 3) Ls st) : Go G B M Q h sf cells slots pc Ls (.int y :: .int x :: st) :=
  go_icmp2 K hd ho (A := ¬ y < x) (fun q => (flt q).2.2.2) (fun q => (tlt (Decidable.not_not.mp q)).2.2.2) gT (fun q => gF (Decidable.not_not.mp q))
theorem go_ifnullY (K : Kd G B M) {k : Nat} {o : Int} (hd : M.P[k]? = some (pc, .ifnull o, 3)) {pc' : Nat} (ho : 0 ≤ (pc : Int) + o ∧ ((pc : Int) + o).toNat = pc') (g : Go G B M Q h sf cells slots pc' Ls st) : Go G B M Q h sf cells slots pc Ls (.null :: st) := by
  intro T vm0 k0 locs W
  exact (g T vm0 k0 locs W).pre fun target hr => XS.ifnullYes W.1.here K.1 rfl (pc0 := pc) (pc' := pc') rfl (K.dec hd) rfl ho.1 ho.2 hr
theorem go_ifnullN (K : Kd G B M) {k : Nat} {o : Int} {a : Addr} (hd : M.P[k]? = some (pc, .ifnull o, 3)) (g : Go G B M Q h sf cells slots (pc + 3) Ls st) : Go G B M Q h sf cells slots pc Ls (.ref a :: st) := by
  intro T vm0 k0 locs W
  exact (g T vm0 k0 locs W).pre fun target hr => XS.ifnullNo W.1.here K.1 rfl (K.dec hd) rfl hr
theorem go_ifnonY (K : Kd G B M) {k : Nat} {o : Int} {a : Addr} (hd : M.P[k]? = some (pc, .ifnonnull o, 3)) {pc' : Nat} (ho : 0 ≤ (pc : Int) + o ∧ ((pc : Int) + o).toNat = pc') (g : Go G B M Q h sf cells slots pc' Ls st) : Go G B M Q h sf cells slots pc Ls (.ref a :: st) := by
  intro T vm0 k0 locs W
  exact (g T vm0 k0 locs W).pre fun target hr => XT.ifnonnullYes W.1.here K.1 rfl (pc0 := pc) (pc' := pc') rfl (K.dec hd) rfl ho.1 ho.2 hr
theorem go_ifnonN (K : Kd G B M) {k : Nat} {o : Int} (hd : M.P[k]? = some (pc, .ifnonnull o, 3)) (g : Go G B M Q h sf cells slots (pc + 3) Ls st) : Go G B M Q h sf cells slots pc Ls (.null :: st) := by
  intro T vm0 k0 locs W
  exact (g T vm0 k0 locs W).pre fun target hr => XT.ifnonnullNo W.1.here K.1 rfl (K.dec hd) rfl hr
theorem go_acmp (K : Kd G B M) {k : Nat} {cd : ACond} {o : Int} {x y : Value} (hd : M.P[k]? = some (pc, .if_acmp cd o, 3)) (h1 : x.isRef = true) (h2 : y.isRef = true) {same : Bool} (hq : decide (x = y) = same) {pc' : Nat} (ho : 0 ≤ (pc : Int) + o) (hp : pc' = if acV cd same = true then ((pc : Int) + o).toNat else pc + 3)
    (g : Go G B M Q h sf cells slots pc' Ls st) : Go G B M Q h sf cells slots pc Ls (y :: x :: st) := by
  intro T vm0 k0 locs W
  exact (g T vm0 k0 locs W).pre fun target hr => RoadKit.acmp W.1 K.1 rfl h1 h2 (pc0 := pc) rfl (K.dec hd) rfl hq ho hp hr
theorem go_irem (K : Kd G B M) {k : Nat} {x y : Int32} (hd : M.P[k]? = some (pc, .irem, 1)) (hy : y ≠ 0) (g : Go G B M Q h sf cells slots (pc + 1) Ls (.int (x % y) :: st)) : Go G B M Q h sf cells slots pc Ls (.int y :: .int x :: st) := by
  intro T vm0 k0 locs W
  exact (g T vm0 k0 locs W).pre fun target hr => iremM W.1 K.1 rfl (K.dec hd) rfl hy hr
/-! ### the end -/
theorem go_leave (K : Kd G B M) {v : Option Value} (hv : M.ret = none → v = none) (q : ∀ Sf : Addr → Prop, (∀ x ∈ sf, Sf x) → Q v h Sf)
    (rt : ∀ (T : State) (vm0 : Vm) (locs : List Loc) (fs : List Frame), Stand B.p G.l B.e M.R (B.s.setVm vm0) B.m B.as B.bl B.mt B.c T locs cells slots →
      (∀ (f : JFrame) (acts : List Action), f.method = B.m → f.locked = none → f.entered = [] → (doReturn B.e (T.setTop f) acts v).1 = T.setFrames fs) → Steps B.p.tables B.e B.bl (T.setTop (mkF B.m pc Ls st)) (T.setFrames fs))
    (hc : cells ≤ M.R.cells) (hs : slots ≤ M.R.slots) : Go G B M Q h sf cells slots pc Ls st := by
  intro T vm0 k0 locs W
  obtain ⟨X, eT, hS, hk, hZ, hown, hF, hE, hC, hs0⟩ := W
  obtain ⟨fs, hr, hrun, hend, hW⟩ := X.leaveW hS (by rw [eT]; exact hk) (v := v) (fun z => hv (by rw [← K.2.2.2.1]; exact z)) K.2.2.2.2.1
  obtain ⟨w1, w2, w3, w4⟩ := hW
  have A := CHv.at X hZ K.2.2.2.2.2.2 hC.1
  refine ⟨_, v, locs, rt T vm0 locs fs X hr, hrun, hend, ?_, hF, ?_, ?_, w1, w2, w3, w4.mono hc hs⟩
  · show Q v T.heap (fun x => Safe G.Z G.EL T.vm T.heap x ∧ x < T.heap.size)
    rw [eT]
    exact q _ fun x hx => ⟨A.safe (hs0 x hx).2 (hs0 x hx).1, (hs0 x hx).2⟩
  · show Ext G.Z.heap T.heap
    rw [eT]; exact hE
  · show CHr G.Z G.EL B.s.vm B.s.heap T.vm T.heap
    rw [eT]; exact hC.trans A
theorem go_return (K : Kd G B M) {k : Nat} (hd : M.P[k]? = some (pc, .return_, 1)) (hr : M.ret = none) (hc : Nat.ble cells M.R.cells = true) (hs : Nat.ble slots M.R.slots = true) (q : ∀ Sf : Addr → Prop, (∀ x ∈ sf, Sf x) → Q none h Sf) : Go G B M Q h sf cells slots pc Ls [] :=
  go_leave K (fun _ => rfl) q (fun T vm0 locs fs X hl => X.returnOut K.1 (K.2.2.2.1.trans hr) (K.dec hd) hl) (Nat.le_of_ble_eq_true hc) (Nat.le_of_ble_eq_true hs)
theorem go_ret (K : Kd G B M) {k : Nat} {i : Instr} {t : FieldType} {w : Value} (hd : M.P[k]? = some (pc, i, 1)) (hr : M.ret = some t) (hn : narrow t w = w)
    (hi : (i = .ireturn ∧ (t = .int ∨ t = .boolean ∨ t = .byte ∨ t = .char ∨ t = .short) ∧ ∃ z, w = .int z) ∨ (i = .lreturn ∧ t = .long ∧ ∃ z, w = .long z) ∨ (i = .dreturn ∧ t = .double ∧ ∃ z, w = .double z) ∨ (i = .freturn ∧ t = .float ∧ ∃ z, w = .float z) ∨ (i = .areturn ∧ t.isReference = true ∧ w.isRef = true))
    (hc : Nat.ble cells M.R.cells = true) (hs : Nat.ble slots M.R.slots = true) (q : ∀ Sf : Addr → Prop, (∀ x ∈ sf, Sf x) → Q (some w) h Sf) : Go G B M Q h sf cells slots pc Ls (w :: st) :=
  go_leave K (fun z => by rw [hr] at z; cases z) q (fun T vm0 locs fs X hl => retOut X K.1 (K.2.2.2.1.trans hr) hn hi (K.dec hd) hl) (Nat.le_of_ble_eq_true hc) (Nat.le_of_ble_eq_true hs)
theorem go_ireturn (K : Kd G B M) {k : Nat} {t : FieldType} {z : Int32} (hd : M.P[k]? = some (pc, .ireturn, 1)) (hr : M.ret = some t) (ht : t = .int ∨ t = .boolean ∨ t = .byte ∨ t = .char ∨ t = .short) (hn : narrow t (.int z) = .int z) (hc : Nat.ble cells M.R.cells = true) (hs : Nat.ble slots M.R.slots = true) (q : ∀ Sf : Addr → Prop, (∀ x ∈ sf, Sf x) → Q (some (.int z)) h Sf) : Go G B M Q h sf cells slots pc Ls (.int z :: st) :=
  go_ret K hd hr hn (Or.inl ⟨rfl, ht, z, rfl⟩) hc hs q
theorem go_areturn (K : Kd G B M) {k : Nat} {t : FieldType} {w : Value} (hd : M.P[k]? = some (pc, .areturn, 1)) (hr : M.ret = some t) (ht : t.isReference = true) (hw : w.isRef = true) (hn : narrow t w = w) (hc : Nat.ble cells M.R.cells = true) (hs : Nat.ble slots M.R.slots = true) (q : ∀ Sf : Addr → Prop, (∀ x ∈ sf, Sf x) → Q (some w) h Sf) : Go G B M Q h sf cells slots pc Ls (w :: st) :=
  go_ret K hd hr hn (Or.inr (Or.inr (Or.inr (Or.inr ⟨rfl, ht, hw⟩)))) hc hs q
theorem go_lreturn (K : Kd G B M) {k : Nat} {z : Int64} (hd : M.P[k]? = some (pc, .lreturn, 1)) (hr : M.ret = some .long) (hc : Nat.ble cells M.R.cells = true) (hs : Nat.ble slots M.R.slots = true) (q : ∀ Sf : Addr → Prop, (∀ x ∈ sf, Sf x) → Q (some (.long z)) h Sf) : Go G B M Q h sf cells slots pc Ls (.long z :: st) :=
  go_ret K hd hr rfl (Or.inr (Or.inl ⟨rfl, rfl, z, rfl⟩)) hc hs q
end Base
end Jvm.OwnW
namespace Jvm.OwnW
open Sem ClassFile Op Lib Bundle Jvm.Stand Jvm.Free Jvm.LawKit Jvm.RoadKit
section Heap
variable {G : Gb} {B : Cx} {M : Mt} {R : Room} {Q : Option Value → Heap → (Addr → Prop) → Prop} {h : Heap} {sf : List Addr} {cells slots pc : Nat} {Ls : Array Slot} {st : List Value}
theorem go_getfield (K : Kd G B M) {k ix : Nat} {R0 O n d host : String} {a : Addr} {v : Value} (hd : M.P[k]? = some (pc, .getfield ix, 3)) (w : Wd G (.fieldLink M.own ix R0 n d) ∨ Wd G (.fieldLinkNest M.own ix R0 n d host)) (via : Via G.Z R0 O n d) (F : Fld G.Z h a O n d v)
    (g : Go G B M Q h sf cells slots (pc + 3) Ls (v :: st)) : Go G B M Q h sf cells slots pc Ls (.ref a :: st) := by
  intro T vm0 k0 locs W
  obtain ⟨X, eT, hS, hk, hZ, hown, hF, hE, hC, hs⟩ := W
  obtain ⟨T', X', e', st'⟩ := RoadKit.getF X K.1 hZ hown w via eT F (g := mkF B.m pc Ls (.ref a :: st)) rfl rfl (K.dec hd)
  exact (g T' vm0 k0 locs ⟨X', e', hS, hk, hZ, hown, hF, hE, hC, hs⟩).pre st'
theorem go_getstatic (K : Kd G B M) {k ix : Nat} {R0 O n d host : String} {v : Value} (hd : M.P[k]? = some (pc, .getstatic ix, 3)) (w : Wd G (.fieldLink M.own ix R0 n d) ∨ Wd G (.fieldLinkNest M.own ix R0 n d host)) (via : Via G.Z R0 O n d) (F : Sta G.Z G.Z.heap O n d v)
    (g : Go G B M Q h sf cells slots (pc + 3) Ls (v :: st)) : Go G B M Q h sf cells slots pc Ls st := by
  intro T vm0 k0 locs W
  obtain ⟨X, eT, hS, hk, hZ, hown, hF, hE, hC, hs⟩ := W
  obtain ⟨T', X', e', st'⟩ := getS2 X K.1 hZ hown w via eT (F.ext hE) (g := mkF B.m pc Ls st) rfl (K.dec hd)
  exact (g T' vm0 k0 locs ⟨X', e', hS, hk, hZ, hown, hF, hE, hC, hs⟩).pre st'
theorem go_new (K : Kd G B M) {k ix n : Nat} {C : String} (hd : M.P[k]? = some (pc, .new ix, 3)) (w : Wd G (.classLink M.own ix C)) (wi : Wd G (.instantiable C n)) (wz : Wd G (.initialized C)) (hc : Nat.ble (cells + 1) M.R.cells = true) (hl : Nat.ble (slots + n) M.R.slots = true)
    (g : ∀ (h' : Heap) (a : Addr), a = h.size → G.Z.heap.size ≤ a → Ext h h' → Exa G.Z h' a C → (∀ {O nm d : String} {ty : FieldType}, Laid G.Z G.a0 C O nm d → parseFieldDescriptor d = some ty → Fld G.Z h' a O nm d (defaultValue ty)) → Go G B M Q h' (a :: sf) (cells + 1) (slots + n) (pc + 3) Ls (.ref a :: st)) : Go G B M Q h sf cells slots pc Ls st := by
  intro T vm0 k0 locs W
  obtain ⟨X, eT, hS, hk, hZ, hown, hF, hE, hC, hs⟩ := W
  obtain ⟨T', h', X', e', E', A', D', -, st'⟩ := newO X K.1 hZ hown w wi wz eT (g := mkF B.m pc Ls st) rfl (K.dec hd) (Nat.le_of_ble_eq_true hc) (Nat.le_of_ble_eq_true hl)
  refine (g h' h.size rfl hE.1 E' A' D' T' vm0 k0 locs ⟨X', e', hS, Nat.le_trans hk E'.1, hZ, hown, hF, ⟨Nat.le_trans hE.1 E'.1, fun x c q => E'.2 x c (hE.2 x c q)⟩, hC.trans (CHr.ext E' hC.1), fun x hx => ?_⟩).pre st'
  rcases List.mem_cons.mp hx with rfl | hx
  · exact ⟨Safe.ext E' hC.1 (Safe.new (Nat.le_refl _)), A'.lt⟩
  · exact ⟨Safe.ext E' hC.1 (hs x hx).1, Nat.lt_of_lt_of_le (hs x hx).2 E'.1⟩
theorem go_wr (K : Kd G B M) {a : Addr} {sl pc' : Nat} {v : Value} {st' : List Value} (ha : G.Z.heap.size ≤ a) (hsf : a ∈ sf ∨ ∀ vm0 : Vm, G.Z.vm.Alike vm0 → Safe G.Z G.EL vm0 h a)
    (law : ∀ (T : State) (vm0 : Vm) (locs : List Loc), Stand B.p G.l B.e M.R (B.s.setVm vm0) B.m B.as B.bl B.mt B.c T locs cells slots → T.heap = h → G.Z.Warmed39 vm0 → vm0.findClass M.own = some B.m.cls →
      ∃ (T' : State) (h' : Heap), Stand B.p G.l B.e M.R (B.s.setVm vm0) B.m B.as B.bl B.mt B.c T' (locs ++ [⟨a, sl⟩]) cells slots ∧ T'.heap = h' ∧ Wr h h' a sl v ∧ ∀ target, Steps B.p.tables B.e B.bl (T'.setTop (mkF B.m pc' Ls st')) target → Steps B.p.tables B.e B.bl (T.setTop (mkF B.m pc Ls st)) target)
    (g : ∀ h' : Heap, Wr h h' a sl v → Go G B M Q h' sf cells slots pc' Ls st') : Go G B M Q h sf cells slots pc Ls st := by
  intro T vm0 k0 locs W
  obtain ⟨X, eT, hS, hk, hZ, hown, hF, hE, hC, hs⟩ := W
  obtain ⟨T', h', X', e', W', st''⟩ := law T vm0 locs X eT hZ hown
  have S : Safe G.Z G.EL vm0 h a := hsf.elim (fun q => (hs a q).1) (fun q => q vm0 hZ.alike)
  exact (g h' W' T' vm0 k0 _ ⟨X', e', hS, by rw [W'.size]; exact hk, hZ, hown, Fr.snoc X' hF ha, (Old.wr (n0 := G.Z.heap.size) ⟨rfl, hE⟩ W' ha).2, hC.trans (CHr.wr W' S hC.1), fun x hx => ⟨Safe.wr W' S hC.1 (hs x hx).1, by rw [W'.size]; exact (hs x hx).2⟩⟩).pre st''
theorem go_putfield (K : Kd G B M) {k ix kk : Nat} {R0 O n d host C : String} {ty : FieldType} {a : Addr} {v old : Value} (hd : M.P[k]? = some (pc, .putfield ix, 3)) (w : Wd G (.fieldLink M.own ix R0 n d) ∨ Wd G (.fieldLinkNest M.own ix R0 n d host)) (via : Via G.Z R0 O n d) (F : Fld G.Z h a O n d old) (E : Exa G.Z h a C)
    (L : Wd G (.lays C O n d) ∨ (Wd G (.laysFinal C O n d) ∧ M.own = O ∧ M.nm = "<init>")) (wi : Wd G (.instantiable C kk)) (hty : parseFieldDescriptor d = some ty) (hn : narrow ty v = v) (hf : fits ty v = true) (ha : G.Z.heap.size ≤ a) (hsf : a ∈ sf ∨ (C ≠ "java/lang/String" ∧ C ≠ "[B"))
    (g : ∀ h' : Heap, Wr h h' a (RoadKit.slotOf G.Z O n d) v → Go G B M Q h' sf cells slots (pc + 3) Ls st) : Go G B M Q h sf cells slots pc Ls (v :: .ref a :: st) :=
  go_wr K ha (hsf.imp id fun q vm0 hal => Safe.exa hal E q.1 q.2) (fun T vm0 locs X eT hZ hown => RoadKit.putF X K.1 hZ hown w via eT F E (L.imp id fun q => ⟨q.1, q.2.1, K.2.2.2.2.2.1.trans q.2.2⟩) wi hty hn hf (g := mkF B.m pc Ls (v :: .ref a :: st)) rfl rfl (K.dec hd)) g
theorem go_newarray (K : Kd G B M) {k cap : Nat} {aty : ArrayType} {n : Int32} (hd : M.P[k]? = some (pc, .newarray aty, 2)) (w : Wd G (.arrayClass (newarray.typeOf aty))) (hn : ¬ n < 0) (hcap : n.toNatClampNeg ≤ cap) (hb : Nat.ble (cap * 8) 536870912 = true) (hc : Nat.ble (cells + 1) M.R.cells = true) (hl : Nat.ble (slots + cap) M.R.slots = true)
    (g : ∀ (h' : Heap) (a : Addr) (kA : ClassId), a = h.size → G.Z.heap.size ≤ a → Ext h h' → Arv G.Z h' a kA (newarray.typeOf aty) n [] (defaultValue (newarray.typeOf aty)) → Go G B M Q h' (a :: sf) (cells + 1) (slots + cap) (pc + 2) Ls (.ref a :: st)) : Go G B M Q h sf cells slots pc Ls (.int n :: st) := by
  intro T vm0 k0 locs W
  obtain ⟨X, eT, hS, hk, hZ, hown, hF, hE, hC, hs⟩ := W
  obtain ⟨T', h', cA, X', e', E', A', st'⟩ := newP X K.1 hZ w eT (g := mkF B.m pc Ls (.int n :: st)) rfl (K.dec hd) rfl hn hcap (Nat.le_of_ble_eq_true hb) (Nat.le_of_ble_eq_true hc) (Nat.le_of_ble_eq_true hl)
  refine (g h' h.size cA rfl hE.1 E' (Arv.new A' hn) T' vm0 k0 locs ⟨X', e', hS, Nat.le_trans hk E'.1, hZ, hown, hF, ⟨Nat.le_trans hE.1 E'.1, fun x c q => E'.2 x c (hE.2 x c q)⟩, hC.trans (CHr.ext E' hC.1), fun x hx => ?_⟩).pre st'
  rcases List.mem_cons.mp hx with rfl | hx
  · exact ⟨Safe.ext E' hC.1 (Safe.new (Nat.le_refl _)), A'.lt⟩
  · exact ⟨Safe.ext E' hC.1 (hs x hx).1, Nat.lt_of_lt_of_le (hs x hx).2 E'.1⟩
theorem go_castore (K : Kd G B M) {k i : Nat} {a : Addr} {kA : ClassId} {z j x : Int32} {vs : List Value} {dv : Value} (hd : M.P[k]? = some (pc, .castore, 1)) (A : Arv G.Z h a kA .char z vs dv) (hj : ¬ j < 0 ∧ j < z) (hi : j.toNatClampNeg = i) (hl : i < vs.length) (ha : G.Z.heap.size ≤ a)
    (g : ∀ h' : Heap, Wr h h' a j.toNatClampNeg (.int (nar .char x)) → Arv G.Z h' a kA .char z (vs.set i (.int (nar .char x))) dv → Go G B M Q h' sf cells slots (pc + 1) Ls st) : Go G B M Q h sf cells slots pc Ls (.int x :: .int j :: .ref a :: st) := by
  obtain ⟨c, A1, q1, S, q3, H, Gf⟩ := A
  exact go_wr K ha (Or.inr fun vm0 hal => Safe.arr hal A1 (by decide)) (fun T vm0 locs X eT hZ hown => stC X K.1 hZ eT A1 (inb_of S hj) (g := mkF B.m pc Ls (.int x :: .int j :: .ref a :: st)) rfl rfl (K.dec hd)) fun h' W => g h' W (Arv.set A1 q1 S q3 H Gf (fits_nar_char _) W i hi hl)
theorem go_bastore (K : Kd G B M) {k i : Nat} {a : Addr} {kA : ClassId} {z j x : Int32} {vs : List Value} {dv : Value} (hd : M.P[k]? = some (pc, .bastore, 1)) (A : Arv G.Z h a kA .byte z vs dv) (hj : ¬ j < 0 ∧ j < z) (hi : j.toNatClampNeg = i) (hl : i < vs.length) (ha : G.Z.heap.size ≤ a) (hsf : a ∈ sf)
    (g : ∀ h' : Heap, Wr h h' a j.toNatClampNeg (.int (nar .byte x)) → Arv G.Z h' a kA .byte z (vs.set i (.int (nar .byte x))) dv → Go G B M Q h' sf cells slots (pc + 1) Ls st) : Go G B M Q h sf cells slots pc Ls (.int x :: .int j :: .ref a :: st) := by
  obtain ⟨c, A1, q1, S, q3, H, Gf⟩ := A
  exact go_wr K ha (Or.inl hsf) (fun T vm0 locs X eT hZ hown => stB X K.1 hZ eT A1 (inb_of S hj) (g := mkF B.m pc Ls (.int x :: .int j :: .ref a :: st)) rfl rfl (K.dec hd)) fun h' W => g h' W (Arv.set A1 q1 S q3 H Gf (fits_nar_byte _) W i hi hl)
theorem go_iastore (K : Kd G B M) {k i : Nat} {a : Addr} {kA : ClassId} {z j x : Int32} {vs : List Value} {dv : Value} (hd : M.P[k]? = some (pc, .iastore, 1)) (A : Arv G.Z h a kA .int z vs dv) (hj : ¬ j < 0 ∧ j < z) (hi : j.toNatClampNeg = i) (hl : i < vs.length) (ha : G.Z.heap.size ≤ a)
    (g : ∀ h' : Heap, Wr h h' a j.toNatClampNeg (.int x) → Arv G.Z h' a kA .int z (vs.set i (.int x)) dv → Go G B M Q h' sf cells slots (pc + 1) Ls st) : Go G B M Q h sf cells slots pc Ls (.int x :: .int j :: .ref a :: st) := by
  obtain ⟨c, A1, q1, S, q3, H, Gf⟩ := A
  exact go_wr K ha (Or.inr fun vm0 hal => Safe.arr hal A1 (by decide)) (fun T vm0 locs X eT hZ hown => stI X K.1 hZ eT A1 (inb_of S hj) (g := mkF B.m pc Ls (.int x :: .int j :: .ref a :: st)) rfl rfl (K.dec hd)) fun h' W => g h' W (Arv.set A1 q1 S q3 H Gf rfl W i hi hl)
theorem go_caload (K : Kd G B M) {k : Nat} {a : Addr} {kA : ClassId} {z j : Int32} {vs : List Value} {v dv : Value} (hd : M.P[k]? = some (pc, .caload, 1)) (A : Arv G.Z h a kA .char z vs dv) (hj : ¬ j < 0 ∧ j < z) (hv : vs.getD j.toNatClampNeg dv = v)
    (g : Go G B M Q h sf cells slots (pc + 1) Ls (v :: st)) : Go G B M Q h sf cells slots pc Ls (.int j :: .ref a :: st) := by
  intro T vm0 k0 locs W
  obtain ⟨c, A1, q1, S, q3, H, Gf⟩ := A
  have X := W.1
  exact (g T vm0 k0 locs W).pre fun target hr => X.caload K.1 (j := j) (v := v) (by rw [W.2.1]; exact A1.1) (State.isArrayOf_alike W.2.2.2.2.1.alike A1.2.1) A1.2.2 (inb_of S hj) (H.at (inb_of S hj) hv) (g := mkF B.m pc Ls (.int j :: .ref a :: st)) rfl rfl (K.dec hd) _ hr
theorem go_baload (K : Kd G B M) {k : Nat} {a : Addr} {kA : ClassId} {z j : Int32} {vs : List Value} {v dv : Value} (hd : M.P[k]? = some (pc, .baload, 1)) (A : Arv G.Z h a kA .byte z vs dv) (hj : ¬ j < 0 ∧ j < z) (hv : vs.getD j.toNatClampNeg dv = v)
    (g : Go G B M Q h sf cells slots (pc + 1) Ls (v :: st)) : Go G B M Q h sf cells slots pc Ls (.int j :: .ref a :: st) := by
  intro T vm0 k0 locs W
  obtain ⟨c, A1, q1, S, q3, H, Gf⟩ := A
  have X := W.1
  exact (g T vm0 k0 locs W).pre fun target hr => X.baloadBytes K.1 (j := j) (v := v) (by rw [W.2.1]; exact A1.1) (State.isArrayOf_alike W.2.2.2.2.1.alike A1.2.1) A1.2.2 (inb_of S hj) (H.at (inb_of S hj) hv) (g := mkF B.m pc Ls (.int j :: .ref a :: st)) rfl rfl (K.dec hd) _ hr
theorem go_iaload (K : Kd G B M) {k : Nat} {a : Addr} {kA : ClassId} {z j : Int32} {vs : List Value} {v dv : Value} (hd : M.P[k]? = some (pc, .iaload, 1)) (A : Arv G.Z h a kA .int z vs dv) (hj : ¬ j < 0 ∧ j < z) (hv : vs.getD j.toNatClampNeg dv = v)
    (g : Go G B M Q h sf cells slots (pc + 1) Ls (v :: st)) : Go G B M Q h sf cells slots pc Ls (.int j :: .ref a :: st) := by
  intro T vm0 k0 locs W
  obtain ⟨c, A1, q1, S, q3, H, Gf⟩ := A
  have X := W.1
  exact (g T vm0 k0 locs W).pre fun target hr => X.iaload K.1 (j := j) (v := v) (by rw [W.2.1]; exact A1.1) (State.isArrayOf_alike W.2.2.2.2.1.alike A1.2.1) A1.2.2 (inb_of S hj) (H.at (inb_of S hj) hv) (g := mkF B.m pc Ls (.int j :: .ref a :: st)) rfl rfl (K.dec hd) _ hr
theorem go_aaload (K : Kd G B M) {k : Nat} {a : Addr} {kA : ClassId} {ty : FieldType} {z j : Int32} {vs : List Value} {v dv : Value} (hd : M.P[k]? = some (pc, .aaload, 1)) (A : Arv G.Z h a kA ty z vs dv) (hty : ty.isReference = true) (hj : ¬ j < 0 ∧ j < z) (hv : vs.getD j.toNatClampNeg dv = v)
    (g : Go G B M Q h sf cells slots (pc + 1) Ls (v :: st)) : Go G B M Q h sf cells slots pc Ls (.int j :: .ref a :: st) := by
  intro T vm0 k0 locs W
  obtain ⟨c, A1, q1, S, q3, H, Gf⟩ := A
  have X := W.1
  exact (g T vm0 k0 locs W).pre fun target hr => X.aaload K.1 (j := j) (v := v) (by rw [W.2.1]; exact A1.1) (State.isArrayOf_alike W.2.2.2.2.1.alike A1.2.1) hty A1.2.2 (inb_of S hj) (H.at (inb_of S hj) hv) (g := mkF B.m pc Ls (.int j :: .ref a :: st)) rfl rfl (K.dec hd) _ hr
theorem go_arraylength (K : Kd G B M) {k : Nat} {a : Addr} {kA : ClassId} {ty : FieldType} {z : Int32} {vs : List Value} {dv : Value} (hd : M.P[k]? = some (pc, .arraylength, 1)) (A : Arv G.Z h a kA ty z vs dv)
    (g : Go G B M Q h sf cells slots (pc + 1) Ls (.int z :: st)) : Go G B M Q h sf cells slots pc Ls (.ref a :: st) := by
  intro T vm0 k0 locs W
  obtain ⟨c, A1, q1, S, q3, H, Gf⟩ := A
  have X := W.1
  exact (g T vm0 k0 locs W).pre fun target hr => X.arraylength K.1 (by rw [W.2.1]; exact A1.1) (State.isArrayOf_alike W.2.2.2.2.1.alike A1.2.1) (g := mkF B.m pc Ls (.ref a :: st)) rfl rfl (K.dec hd) _ (by rw [len_of S q3]; exact hr)
theorem go_cast (K : Kd G B M) {k ix : Nat} {C : String} {a : Addr} (hd : M.P[k]? = some (pc, .checkcast ix, 3)) (w : Wd G (.classLink M.own ix C)) (F : Ins G.Z h a C true)
    (g : Go G B M Q h sf cells slots (pc + 3) Ls (.ref a :: st)) : Go G B M Q h sf cells slots pc Ls (.ref a :: st) := by
  intro T vm0 k0 locs W
  obtain ⟨X, eT, hS, hk, hZ, hown, hF, hE, hC, hs⟩ := W
  obtain ⟨T', X', e', st'⟩ := castY X K.1 hZ hown w eT F (g := mkF B.m pc Ls (.ref a :: st)) rfl rfl (K.dec hd)
  exact (g T' vm0 k0 locs ⟨X', e', hS, hk, hZ, hown, hF, hE, hC, hs⟩).pre st'
theorem go_instY (K : Kd G B M) {k ix : Nat} {C : String} {a : Addr} (hd : M.P[k]? = some (pc, .instanceof ix, 3)) (w : Wd G (.classLink M.own ix C)) (F : Ins G.Z h a C true)
    (g : Go G B M Q h sf cells slots (pc + 3) Ls (.int 1 :: st)) : Go G B M Q h sf cells slots pc Ls (.ref a :: st) := by
  intro T vm0 k0 locs W
  obtain ⟨X, eT, hS, hk, hZ, hown, hF, hE, hC, hs⟩ := W
  obtain ⟨T', X', e', st'⟩ := instY X K.1 hZ hown w eT F (g := mkF B.m pc Ls (.ref a :: st)) rfl rfl (K.dec hd)
  exact (g T' vm0 k0 locs ⟨X', e', hS, hk, hZ, hown, hF, hE, hC, hs⟩).pre st'
theorem go_instN (K : Kd G B M) {k ix : Nat} {C D : String} {a : Addr} (hd : M.P[k]? = some (pc, .instanceof ix, 3)) (w : Wd G (.classLink M.own ix C)) (E : Exa G.Z h a D) (F : ∃ c t, G.Z.vm.findClass D = some c ∧ G.Z.vm.findClass C = some t ∧ G.Z.vm.assignable c t = false)
    (g : Go G B M Q h sf cells slots (pc + 3) Ls (.int 0 :: st)) : Go G B M Q h sf cells slots pc Ls (.ref a :: st) := by
  intro T vm0 k0 locs W
  obtain ⟨X, eT, hS, hk, hZ, hown, hF, hE, hC, hs⟩ := W
  obtain ⟨T', X', e', st'⟩ := instNo X K.1 hZ hown w eT E F (g := mkF B.m pc Ls (.ref a :: st)) rfl rfl (K.dec hd)
  exact (g T' vm0 k0 locs ⟨X', e', hS, hk, hZ, hown, hF, hE, hC, hs⟩).pre st'
theorem go_inst0 (K : Kd G B M) {k ix : Nat} (hd : M.P[k]? = some (pc, .instanceof ix, 3)) (g : Go G B M Q h sf cells slots (pc + 3) Ls (.int 0 :: st)) : Go G B M Q h sf cells slots pc Ls (.null :: st) := by
  intro T vm0 k0 locs W
  exact (g T vm0 k0 locs W).pre fun target hr => W.1.instanceofNull K.1 (g := mkF B.m pc Ls (.null :: st)) rfl rfl (K.dec hd) target hr
theorem go_init0 (K : Kd G B M) {k ix : Nat} {a : Addr} (hd : M.P[k]? = some (pc, .invokespecial ix, 3)) (w1 : Wd G (.methodLink M.own ix Lib.objectInit)) (w2 : Wd G (.instanceMethod Lib.objectInit)) (w3 : Wd G (.code Lib.objectInit ⟨#[0xb1]⟩ 1 none)) (hsz : Ls.size = M.maxL)
    (hf : Nat.ble 1 M.R.frames = true) (hl : Nat.ble ((st.map fun v => v.category).sum + 12) M.R.locals = true) (g : Go G B M Q h sf cells slots (pc + 3) Ls st) : Go G B M Q h sf cells slots pc Ls (.ref a :: st) := by
  intro T vm0 k0 locs W
  obtain ⟨X, eT, hS, hk, hZ, hown, hF, hE, hC, hs⟩ := W
  obtain ⟨T', X', e', st'⟩ := initO X K.1 hZ hown w1 w2 w3 eT (g := mkF B.m pc Ls (.ref a :: st)) rfl (hsz.trans K.2.2.1.symm) rfl (K.dec hd) (Nat.le_of_ble_eq_true hf) (W := (st.map fun v => v.category).sum) (by show 2 * 0 + _ ≤ _; omega) (Nat.le_of_ble_eq_true hl)
  exact (g T' vm0 k0 locs ⟨X', e', hS, hk, hZ, hown, hF, hE, hC, hs⟩).pre st'
theorem go_ldcI (K : Kd G B M) {k ix : Nat} {v : Int32} (hd : M.P[k]? = some (pc, .ldc ix, 2)) (w : Wd G (.constant M.own ix v)) (g : Go G B M Q h sf cells slots (pc + 2) Ls (.int v :: st)) : Go G B M Q h sf cells slots pc Ls st := by
  intro T vm0 k0 locs W
  obtain ⟨X, eT, hS, hk, hZ, hown, hF, hE, hC, hs⟩ := id W
  exact (g T vm0 k0 locs W).pre (X.ldcInt K.1 hown (mv hZ w) (g := mkF B.m pc Ls st) rfl (K.dec hd))
/-- 'ldc' of a String constant, of which nothing is asked -/
theorem go_ldc (K : Kd G B M) {k ix n : Nat} {text : String} (hd : M.P[k]? = some (pc, .ldc ix, 2)) (w : Wd G (.stringLink M.own ix text)) (wS : ∀ d ∈ Bundle.stringAtoms, Wd G d) (hn : Nat.ble (4 * text.toList.length) n = true) (hb : Nat.ble n 536870912 = true) (hc : Nat.ble (cells + 2) M.R.cells = true) (hl : Nat.ble (slots + (n + 4)) M.R.slots = true)
    (g : ∀ (h' : Heap) (a : Addr), Ext h h' → Go G B M Q h' sf (cells + 2) (slots + (n + 4)) (pc + 2) Ls (.ref a :: st)) : Go G B M Q h sf cells slots pc Ls st := by
  intro T vm0 k0 locs W
  obtain ⟨X, eT, hS, hk, hZ, hown, hF, hE, hC, hs⟩ := W
  obtain ⟨a, T', h', k1, X', e', E', hS', hk', hZ', hown', hC', -, st'⟩ := ldcOH X K.1 hZ hown w wS eT hS hk K.2.2.2.2.2.2 hC.1 (g := mkF B.m pc Ls st) rfl (K.dec hd) (Nat.le_of_ble_eq_true hn) (Nat.le_of_ble_eq_true hb) (Nat.le_of_ble_eq_true hc) (Nat.le_of_ble_eq_true hl)
  exact (g h' a E' T' T'.vm k1 locs ⟨X', e', hS', hk', hZ', hown', hF, ⟨Nat.le_trans hE.1 E'.1, fun x c q => E'.2 x c (hE.2 x c q)⟩, hC.trans hC', fun x hx => ⟨hC'.safe (hs x hx).2 (hs x hx).1, Nat.lt_of_lt_of_le (hs x hx).2 E'.1⟩⟩).pre st'
/-- 'ldc' of a String constant whose text is known -/
theorem go_ldcS (K : Kd G B M) {k ix n : Nat} {text : String} (hd : M.P[k]? = some (pc, .ldc ix, 2)) (w : Wd G (.stringLink M.own ix text)) (wS : ∀ d ∈ Bundle.stringAtoms, Wd G d) (hmem : (M.own, ix) ∈ G.EL)
    {vs : List Value} {z : Int32} (ht : (∀ c ∈ text.toList, c.toNat < 256) ∧ text.toList.map (fun c => Value.int (Jvm.Lit.byteI c.toNat.toUInt16)) = vs) (hz : ¬ z < 0) (hzl : z.toNatClampNeg = vs.length)
    (hn : Nat.ble (4 * text.toList.length) n = true) (hb : Nat.ble n 536870912 = true) (hc : Nat.ble (cells + 2) M.R.cells = true) (hl : Nat.ble (slots + (n + 4)) M.R.slots = true)
    (g : ∀ (h' : Heap) (a b : Addr) (kb : ClassId), Ext h h' → Exa G.Z h' a "java/lang/String" → Fld G.Z h' a "java/lang/String" "coder" "B" (.int 0) → Fld G.Z h' a "java/lang/String" "value" "[B" (.ref b) → Arv G.Z h' b kb .byte z vs (.int 0) → (∀ x ∈ sf, x ≠ a ∧ x ≠ b) →
      Go G B M Q h' sf (cells + 2) (slots + (n + 4)) (pc + 2) Ls (.ref a :: st)) : Go G B M Q h sf cells slots pc Ls st := by
  intro T vm0 k0 locs W
  obtain ⟨X, eT, hS, hk, hZ, hown, hF, hE, hC, hs⟩ := W
  obtain ⟨a, T', h', k1, b, kb, X', e', E', hS', hk', hZ', hown', A1, A2, A3, A4, -, -, hC', -, hne, st'⟩ := ldcCH X K.1 hZ hown w wS eT hS hk K.2.2.2.2.2.2 hmem hC.1 ht hz hzl (g := mkF B.m pc Ls st) rfl (K.dec hd) (Nat.le_of_ble_eq_true hn) (Nat.le_of_ble_eq_true hb) (Nat.le_of_ble_eq_true hc) (Nat.le_of_ble_eq_true hl)
  have hsf : ∀ x ∈ sf, Safe G.Z G.EL T'.vm h' x ∧ x < h'.size := fun x hx => ⟨hC'.safe (hs x hx).2 (hs x hx).1, Nat.lt_of_lt_of_le (hs x hx).2 E'.1⟩
  exact (g h' a b kb E' A1 A2 A3 A4 (fun x hx => hne x (hsf x hx).1) T' T'.vm k1 locs ⟨X', e', hS', hk', hZ', hown', hF, ⟨Nat.le_trans hE.1 E'.1, fun x c q => E'.2 x c (hE.2 x c q)⟩, hC.trans hC', hsf⟩).pre st'
end Heap
/-! ### contracts and calls -/
section Calls
variable {G : Gb} {B : Cx} {M : Mt} {R : Room} {Q : Option Value → Heap → (Addr → Prop) → Prop} {h : Heap} {sf : List Addr} {cells slots pc : Nat} {Ls : Array Slot} {st : List Value}
theorem ctr_of (M : Mt) {ws : List Jvm.Cond} {y : MethodName} {bytes : ByteArray} {as' : Array Value} (ho : M.own = y.cls) (hnm : M.nm = y.name) (pf : plainFor y = true) (hP : ∀ q ∈ M.P, decode bytes q.1 = .ok q.2) (hEL : EW G.Z G.a0 G.EL) {Ls : Array Slot} (ef : ∀ m, entryFrame m as' M.maxL = mkF m 0 Ls [])
    (H : ∀ B : Cx, Kd G B M → Ext G.Z.heap h → Go G B M Q h sf 0 0 0 Ls []) : Ctr G ws y bytes M.maxL M.ret M.R as' h sf Q := by
  refine MetFree.of_bodySF pf hisR ?_
  intro p e s m args below meth c s₁ Bd hml hP' hK
  obtain ⟨rfl, hZ, hh, hCH, hE, hs⟩ := hP'
  have hK : Kd G ((p, e, s, m), (args, below, meth, c)) M := ⟨Bd.exec, fun q hq => by show decode c.code q.1 = _; rw [Bd.bytes]; exact hP q hq, hml, Bd.returns, Bd.notSynchronized, (name_of_methodNamed Bd.named Bd.method).1.trans hnm.symm, hEL⟩
  have X0 : Stand p G.l e M.R s m args below meth c s₁ [] 0 0 := Stand.of_body Bd
  have X1 : Stand p G.l e M.R (s.setVm s.vm) m args below meth c s₁ [] 0 0 := X0
  have e0 : s₁.heap = h := by rw [← hh, Bd.state]; rfl
  have hown : s.vm.findClass M.own = some m.cls := by rw [ho]; exact findClass_of_methodNamed Bd.named
  have hb : CHr G.Z G.EL s.vm s.heap s.vm h := by rw [hh]; exact CHr.refl hCH
  obtain ⟨t, v, L, k1, k2, k3, k4, k5, k6, k7, k8⟩ := H ((p, e, s, m), (args, below, meth, c)) hK hE s₁ s.vm 0 [] ⟨X1, e0, (State.WarmedH.refl s).since 0, Nat.zero_le _, hZ, hown, Fr.nil _, hE, hb, hs⟩
  refine ⟨t, .returned v, ?_, k2, k3, v, L, rfl, ⟨k4, k5, k6⟩, k7, k8⟩
  rw [ef m]
  exact k1
theorem backG {y : MethodName} {bytes : ByteArray} {maxL : Nat} {ret : Option FieldType} {rm : Room} {len W : Nat} {as' : Array Value} {Qc : Option Value → Heap → (Addr → Prop) → Prop} {sf' : List Addr} {p : Program} {e : Env} {below : List Frame} {s : State} {args : Array Value} {vm0 : Vm}
    (C : Ctr G [] y bytes maxL ret rm as' h sf' Qc) (hZ : G.Z.Warmed39 vm0) (wc : Wd G (.code y bytes maxL ret)) (wz : Wd G (.initialized y.cls)) (hf : rm.frames + 1 ≤ R.frames) (hl : W + (maxL + 11) + rm.locals ≤ R.locals) (hEL : EW G.Z G.a0 G.EL) (H : CHv G.Z G.EL vm0 h) (hE : Ext G.Z.heap h) (hs : ∀ x ∈ sf', Safe G.Z G.EL vm0 h x ∧ x < h.size) :
    BackS G.l R p e below (s.setVm vm0) args y len W (fun A a => a = as' ∧ A.U.heap = h ∧ A.cells + rm.cells ≤ R.cells ∧ A.slots + rm.slots ≤ R.slots)
      (fun A _ v B => ∃ L, (Qc v B.U.heap (fun x => Safe G.Z G.EL B.U.vm B.U.heap x ∧ x < B.U.heap.size) ∧ Fr G.Z.heap.size L ∧ Ext G.Z.heap B.U.heap) ∧ B.locs = A.locs ++ L ∧ B.cells = A.cells + rm.cells ∧ B.slots = A.slots + rm.slots ∧ CHr G.Z G.EL vm0 h B.U.vm B.U.heap) := by
  refine BackS.of_freeW (bytes := bytes) (maxL := maxL) (ret := ret) (E := fun _ first o t L k n => k = rm.cells ∧ n = rm.slots ∧ (∃ v, o = .returned v ∧ Qc v t.heap (fun x => Safe G.Z G.EL t.vm t.heap x ∧ x < t.heap.size) ∧ Fr G.Z.heap.size L ∧ Ext G.Z.heap t.heap) ∧ CHr G.Z G.EL first.vm first.heap t.vm t.heap) C hf hl ?_ ?_ ?_ ?_ ?_
  · intro m meth c A a Y hp
    have hU : G.Z.Warmed39 A.U.vm := wtrans (s := s.setVm vm0) hZ Y.warmed
    refine ⟨?_, mv hU wc, mv hU wz, hp.2.2.1, hp.2.2.2⟩
    show (Jvm.Cond.and _ .tt).before a A.U = true
    rw [Cond.before_and, mv hU wc]; rfl
  · intro m meth c A a g mk Y hp
    have A1 := CHv.at Y hZ hEL H
    exact ⟨hp.1, wtrans (s := s.setVm vm0) hZ Y.warmed, hp.2.1, A1.1, hE, fun x hx => ⟨A1.safe (hs x hx).2 (hs x hx).1, (hs x hx).2⟩⟩
  · intros; trivial
  · intro _ _ _ _ q
    obtain ⟨v, L, h1, h2, h3, h4⟩ := q
    exact ⟨L, _, _, h4, rfl, rfl, ⟨v, h1, h2⟩, h3⟩
  · intro m meth c A a g mk v t L k n Y hp _ _ q
    obtain ⟨e1, e2, ⟨v', e3, e4⟩, e5⟩ := q
    cases e3; subst e1 e2
    refine ⟨L, e4, rfl, rfl, rfl, (CHv.at Y hZ hEL H).trans ?_⟩
    rw [← hp.2.1]; exact e5
/-- the room that a call asks of its maker -/
def rok (R : Room) (rest : List Value) (maxL : Nat) (rm : Room) (cells slots : Nat) : Bool :=
  Nat.ble (rm.frames + 1) R.frames && (Nat.ble ((rest.map fun v => v.category).sum + (maxL + 11) + rm.locals) R.locals && (Nat.ble (cells + rm.cells) R.cells && Nat.ble (slots + rm.slots) R.slots))
theorem rok_ok {rest : List Value} {maxL : Nat} {rm : Room} (q : rok R rest maxL rm cells slots = true) : rm.frames + 1 ≤ R.frames ∧ (rest.map fun v => v.category).sum + (maxL + 11) + rm.locals ≤ R.locals ∧ cells + rm.cells ≤ R.cells ∧ slots + rm.slots ≤ R.slots := by
  simp only [rok, Bool.and_eq_true] at q
  exact ⟨Nat.le_of_ble_eq_true q.1, Nat.le_of_ble_eq_true q.2.1, Nat.le_of_ble_eq_true q.2.2.1, Nat.le_of_ble_eq_true q.2.2.2⟩
/-- behind any call: the walk goes on -/
theorem call_on {rm : Room} {Qc : Option Value → Heap → (Addr → Prop) → Prop} {pc' : Nat} {rest : List Value} {T : State} {vm0 : Vm} {k0 : Nat} {locs : List Loc} (W : Wo G B M.own M.R h sf cells slots T vm0 k0 locs)
    (call : ∃ (v : Option Value) (vm₁ : Vm) (A : Pt), (B.s.setVm vm0).WarmedH vm₁ ∧ Stand B.p G.l B.e M.R ((B.s.setVm vm0).setVm A.U.vm) B.m B.as B.bl B.mt B.c A.U A.locs A.cells A.slots ∧ (B.s.setVm vm0).Since A.U.vm A.U.heap.size ∧ T.heap.size ≤ A.U.heap.size ∧
      (∃ L, (Qc v A.U.heap (fun x => Safe G.Z G.EL A.U.vm A.U.heap x ∧ x < A.U.heap.size) ∧ Fr G.Z.heap.size L ∧ Ext G.Z.heap A.U.heap) ∧ A.locs = locs ++ L ∧ A.cells = cells + rm.cells ∧ A.slots = slots + rm.slots ∧ CHr G.Z G.EL vm0 h A.U.vm A.U.heap) ∧
      Steps B.p.tables B.e B.bl (T.setTop (mkF B.m pc Ls st)) (A.U.setTop (mkF B.m pc' Ls (v.toList ++ rest))))
    (g : ∀ (v : Option Value) (h' : Heap) (Sf : Addr → Prop), h.size ≤ h'.size → Qc v h' Sf → ∃ nw : List Addr, (∀ x ∈ nw, Sf x) ∧ Go G B M Q h' (nw ++ sf) (cells + rm.cells) (slots + rm.slots) pc' Ls (v.toList ++ rest)) : Fin G B M.R Q (T.setTop (mkF B.m pc Ls st)) := by
  obtain ⟨X, eT, hS, hk, hZ, hown, hF, hE, hC, hs⟩ := W
  obtain ⟨v, vm₁, ⟨U, L0, c0, n0⟩, -, X', hS', hgr, ⟨L, ⟨hq, hfr, hext⟩, e1, e2, e3, hC'⟩, stp⟩ := call
  dsimp only [Pt.U, Pt.locs, Pt.cells, Pt.slots] at X' hS' hgr hq hfr hext e1 e2 e3 hC' stp
  subst e1 e2 e3
  rw [eT] at hgr
  obtain ⟨nw, n1, n2⟩ := g v U.heap _ hgr hq
  refine (n2 U U.vm U.heap.size _ ⟨X', rfl, hS.trans hS' (Nat.le_trans hk hgr), Nat.le_refl _, State.Warmed39.trans (t := B.s.setVm vm0) hZ hS'.1, (hS'.1.alike.findClass _ _).trans hown, hF.app hfr, hext, hC.trans hC', fun x hx => ?_⟩).pre fun target hr => stp.trans hr
  rcases List.mem_append.mp hx with hx | hx
  · exact n1 x hx
  · exact ⟨hC'.safe (hs x hx).2 (hs x hx).1, Nat.lt_of_lt_of_le (hs x hx).2 hgr⟩
theorem go_staticN (K : Kd G B M) {k ix : Nat} {y : MethodName} {bytes : ByteArray} {maxL : Nat} {ret : Option FieldType} {rm : Room} {argsL rest : List Value} {ps : List FieldType} {rt : Option FieldType} {sf' : List Addr} {Qc : Option Value → Heap → (Addr → Prop) → Prop} (hd : M.P[k]? = some (pc, .invokestatic ix, 3))
    (w1 : Wd G (.methodLink M.own ix y)) (w2 : Wd G (.static y)) (w3 : Wd G (.initialized y.cls)) (w4 : Wd G (.code y bytes maxL ret)) (hy : y.cls ≠ "java/lang/invoke/MethodHandle" ∧ y.cls ≠ "java/lang/invoke/VarHandle") (pd : parseMethodDescriptor y.desc = some ⟨ps, rt⟩)
    (C : Ctr G [] y bytes maxL ret rm argsL.toArray h sf' Qc) (hst : st = argsL.reverse ++ rest) (hlen : argsL.length = ps.length) (hsz : Ls.size = M.maxL) (hsub : ∀ x ∈ sf', x ∈ sf) (hrm : rok M.R rest maxL rm cells slots = true)
    (g : ∀ (v : Option Value) (h' : Heap) (Sf : Addr → Prop), h.size ≤ h'.size → Qc v h' Sf → ∃ nw : List Addr, (∀ x ∈ nw, Sf x) ∧ Go G B M Q h' (nw ++ sf) (cells + rm.cells) (slots + rm.slots) (pc + 3) Ls (v.toList ++ rest)) : Go G B M Q h sf cells slots pc Ls st := by
  intro T vm0 k0 locs W
  obtain ⟨r1, r2, r3, r4⟩ := rok_ok hrm
  obtain ⟨X, eT, hS, hk, hZ, hown, hF, hE, hC, hs⟩ := id W
  subst hst
  exact call_on W (callSS X K.1 hown (mv hZ w1) (mv hZ w2) (mv hZ w3) (mv hZ w4) hy (backG (W := (rest.map fun v => v.category).sum) C hZ w4 w3 r1 r2 K.2.2.2.2.2.2 hC.1 hE (fun x hx => hs x (hsub x hx))) (g := mkF B.m pc Ls (argsL.reverse ++ rest)) rfl (hsz.trans K.2.2.1.symm) (argsL := argsL) (rest := rest) (lenOf pd hlen) rfl (by show 2 * 0 + _ ≤ _; omega) (K.dec hd) (fun vm₁ _ => ⟨rfl, eT, r3, r4⟩)) g
theorem go_static (K : Kd G B M) {k ix : Nat} {y : MethodName} {bytes : ByteArray} {maxL : Nat} {ret : Option FieldType} {rm : Room} {argsL rest : List Value} {ps : List FieldType} {rt : Option FieldType} {sf' : List Addr} {Qc : Option Value → Heap → (Addr → Prop) → Prop} (hd : M.P[k]? = some (pc, .invokestatic ix, 3))
    (w1 : Wd G (.methodLink M.own ix y)) (w2 : Wd G (.static y)) (w3 : Wd G (.initialized y.cls)) (w4 : Wd G (.code y bytes maxL ret)) (hy : y.cls ≠ "java/lang/invoke/MethodHandle" ∧ y.cls ≠ "java/lang/invoke/VarHandle") (pd : parseMethodDescriptor y.desc = some ⟨ps, rt⟩)
    (C : Ctr G [] y bytes maxL ret rm argsL.toArray h sf' Qc) (hst : st = argsL.reverse ++ rest) (hlen : argsL.length = ps.length) (hsz : Ls.size = M.maxL) (hsub : ∀ x ∈ sf', x ∈ sf) (hrm : rok M.R rest maxL rm cells slots = true)
    (g : ∀ (v : Option Value) (h' : Heap) (Sf : Addr → Prop), h.size ≤ h'.size → Qc v h' Sf → Go G B M Q h' sf (cells + rm.cells) (slots + rm.slots) (pc + 3) Ls (v.toList ++ rest)) : Go G B M Q h sf cells slots pc Ls st :=
  go_staticN K hd w1 w2 w3 w4 hy pd C hst hlen hsz hsub hrm fun v h' Sf z q => ⟨[], (fun _ u => nomatch u), g v h' Sf z q⟩
theorem go_specialN (K : Kd G B M) {k ix : Nat} {y : MethodName} {bytes : ByteArray} {maxL : Nat} {rm : Room} {a : Addr} {argsL rest : List Value} {ps : List FieldType} {rt : Option FieldType} {sf' : List Addr} {Qc : Option Value → Heap → (Addr → Prop) → Prop} (hd : M.P[k]? = some (pc, .invokespecial ix, 3)) (hy1 : y.name = "<init>")
    (w1 : Wd G (.methodLink M.own ix y)) (w2 : Wd G (.instanceMethod y)) (w3 : Wd G (.initialized y.cls)) (w4 : Wd G (.code y bytes maxL none)) (hy : y.cls ≠ "java/lang/invoke/MethodHandle" ∧ y.cls ≠ "java/lang/invoke/VarHandle") (pd : parseMethodDescriptor y.desc = some ⟨ps, rt⟩)
    (C : Ctr G [] y bytes maxL none rm (.ref a :: argsL).toArray h sf' Qc) (hst : st = argsL.reverse ++ .ref a :: rest) (hlen : argsL.length = ps.length) (hsz : Ls.size = M.maxL) (hsub : ∀ x ∈ sf', x ∈ sf) (hrm : rok M.R rest maxL rm cells slots = true)
    (g : ∀ (v : Option Value) (h' : Heap) (Sf : Addr → Prop), h.size ≤ h'.size → Qc v h' Sf → ∃ nw : List Addr, (∀ x ∈ nw, Sf x) ∧ Go G B M Q h' (nw ++ sf) (cells + rm.cells) (slots + rm.slots) (pc + 3) Ls (v.toList ++ rest)) : Go G B M Q h sf cells slots pc Ls st := by
  intro T vm0 k0 locs W
  obtain ⟨r1, r2, r3, r4⟩ := rok_ok hrm
  obtain ⟨X, eT, hS, hk, hZ, hown, hF, hE, hC, hs⟩ := id W
  subst hst
  exact call_on W (X.specialBackS K.1 hy1 hown (mv hZ w1) (mv hZ w2) (mv hZ w4) hy (backG (W := (rest.map fun v => v.category).sum) C hZ w4 w3 r1 r2 K.2.2.2.2.2.2 hC.1 hE (fun x hx => hs x (hsub x hx))) (g := mkF B.m pc Ls (argsL.reverse ++ .ref a :: rest)) rfl (hsz.trans K.2.2.1.symm) (Steps.refl _) (a := a) (argsL := argsL) (rest := rest) (lenOf pd hlen) rfl (by show 2 * 0 + _ ≤ _; omega) (K.dec hd) (fun vm₁ _ => ⟨rfl, eT, r3, r4⟩)) g
theorem go_special (K : Kd G B M) {k ix : Nat} {y : MethodName} {bytes : ByteArray} {maxL : Nat} {rm : Room} {a : Addr} {argsL rest : List Value} {ps : List FieldType} {rt : Option FieldType} {sf' : List Addr} {Qc : Option Value → Heap → (Addr → Prop) → Prop} (hd : M.P[k]? = some (pc, .invokespecial ix, 3)) (hy1 : y.name = "<init>")
    (w1 : Wd G (.methodLink M.own ix y)) (w2 : Wd G (.instanceMethod y)) (w3 : Wd G (.initialized y.cls)) (w4 : Wd G (.code y bytes maxL none)) (hy : y.cls ≠ "java/lang/invoke/MethodHandle" ∧ y.cls ≠ "java/lang/invoke/VarHandle") (pd : parseMethodDescriptor y.desc = some ⟨ps, rt⟩)
    (C : Ctr G [] y bytes maxL none rm (.ref a :: argsL).toArray h sf' Qc) (hst : st = argsL.reverse ++ .ref a :: rest) (hlen : argsL.length = ps.length) (hsz : Ls.size = M.maxL) (hsub : ∀ x ∈ sf', x ∈ sf) (hrm : rok M.R rest maxL rm cells slots = true)
    (g : ∀ (v : Option Value) (h' : Heap) (Sf : Addr → Prop), h.size ≤ h'.size → Qc v h' Sf → Go G B M Q h' sf (cells + rm.cells) (slots + rm.slots) (pc + 3) Ls (v.toList ++ rest)) : Go G B M Q h sf cells slots pc Ls st :=
  go_specialN K hd hy1 w1 w2 w3 w4 hy pd C hst hlen hsz hsub hrm fun v h' Sf z q => ⟨[], (fun _ u => nomatch u), g v h' Sf z q⟩
theorem go_virtualN (K : Kd G B M) {k ix : Nat} {y z : MethodName} {bytes : ByteArray} {maxL : Nat} {ret : Option FieldType} {rm : Room} {C : String} {a : Addr} {argsL rest : List Value} {ps : List FieldType} {rt : Option FieldType} {sf' : List Addr} {Qc : Option Value → Heap → (Addr → Prop) → Prop} (hd : M.P[k]? = some (pc, .invokevirtual ix, 3))
    (w1 : Wd G (.methodLink M.own ix y)) (w2 : Wd G (.declares y)) (w3 : Wd G (.selects C y z)) (w4 : Wd G (.instanceMethod z)) (w5 : Wd G (.initialized z.cls)) (w6 : Wd G (.code z bytes maxL ret)) (hy : y.cls ≠ "java/lang/invoke/MethodHandle" ∧ y.cls ≠ "java/lang/invoke/VarHandle") (pd : parseMethodDescriptor y.desc = some ⟨ps, rt⟩) (E : Exa G.Z h a C)
    (nf : ∀ vm0 : Vm, G.Z.Warmed39 vm0 → NotFace (B.s.setVm vm0) y)
    (Ct : Ctr G [] z bytes maxL ret rm (.ref a :: argsL).toArray h sf' Qc) (hst : st = argsL.reverse ++ .ref a :: rest) (hlen : argsL.length = ps.length) (hsz : Ls.size = M.maxL) (hsub : ∀ x ∈ sf', x ∈ sf) (hrm : rok M.R rest maxL rm cells slots = true)
    (g : ∀ (v : Option Value) (h' : Heap) (Sf : Addr → Prop), h.size ≤ h'.size → Qc v h' Sf → ∃ nw : List Addr, (∀ x ∈ nw, Sf x) ∧ Go G B M Q h' (nw ++ sf) (cells + rm.cells) (slots + rm.slots) (pc + 3) Ls (v.toList ++ rest)) : Go G B M Q h sf cells slots pc Ls st := by
  intro T vm0 k0 locs W
  obtain ⟨r1, r2, r3, r4⟩ := rok_ok hrm
  obtain ⟨X, eT, hS, hk, hZ, hown, hF, hE, hC, hs⟩ := id W
  obtain ⟨cB, kB, i1, i2, i3⟩ := isOf (s := B.s.setVm vm0) hZ eT E
  subst hst
  exact call_on W (X.virtualBackS K.1 hown (mv hZ w1) (mv hZ w2) (nf vm0 hZ) (mv hZ w3) (mv hZ w4) hy (backG (W := (rest.map fun v => v.category).sum) Ct hZ w6 w5 r1 r2 K.2.2.2.2.2.2 hC.1 hE (fun x hx => hs x (hsub x hx))) i1 i3 (g := mkF B.m pc Ls (argsL.reverse ++ .ref a :: rest)) rfl (hsz.trans K.2.2.1.symm) (Steps.refl _) (argsL := argsL) (rest := rest) (lenOf pd hlen) rfl (by show 2 * 0 + _ ≤ _; omega) (K.dec hd) (fun vm₁ _ => ⟨rfl, eT, r3, r4⟩)) g
theorem go_virtual (K : Kd G B M) {k ix : Nat} {y z : MethodName} {bytes : ByteArray} {maxL : Nat} {ret : Option FieldType} {rm : Room} {C : String} {a : Addr} {argsL rest : List Value} {ps : List FieldType} {rt : Option FieldType} {sf' : List Addr} {Qc : Option Value → Heap → (Addr → Prop) → Prop} (hd : M.P[k]? = some (pc, .invokevirtual ix, 3))
    (w1 : Wd G (.methodLink M.own ix y)) (w2 : Wd G (.declares y)) (w3 : Wd G (.selects C y z)) (w4 : Wd G (.instanceMethod z)) (w5 : Wd G (.initialized z.cls)) (w6 : Wd G (.code z bytes maxL ret)) (hy : y.cls ≠ "java/lang/invoke/MethodHandle" ∧ y.cls ≠ "java/lang/invoke/VarHandle") (pd : parseMethodDescriptor y.desc = some ⟨ps, rt⟩) (E : Exa G.Z h a C)
    (nf : ∀ vm0 : Vm, G.Z.Warmed39 vm0 → NotFace (B.s.setVm vm0) y)
    (Ct : Ctr G [] z bytes maxL ret rm (.ref a :: argsL).toArray h sf' Qc) (hst : st = argsL.reverse ++ .ref a :: rest) (hlen : argsL.length = ps.length) (hsz : Ls.size = M.maxL) (hsub : ∀ x ∈ sf', x ∈ sf) (hrm : rok M.R rest maxL rm cells slots = true)
    (g : ∀ (v : Option Value) (h' : Heap) (Sf : Addr → Prop), h.size ≤ h'.size → Qc v h' Sf → Go G B M Q h' sf (cells + rm.cells) (slots + rm.slots) (pc + 3) Ls (v.toList ++ rest)) : Go G B M Q h sf cells slots pc Ls st :=
  go_virtualN K hd w1 w2 w3 w4 w5 w6 hy pd E nf Ct hst hlen hsz hsub hrm fun v h' Sf z q => ⟨[], (fun _ u => nomatch u), g v h' Sf z q⟩
end Calls
end Jvm.OwnW
namespace Jvm.OwnW
open Sem ClassFile Op Lib Bundle Jvm.Stand Jvm.Free Jvm.LawKit Jvm.RoadKit
section Small
variable {G : Gb} {B : Cx} {M : Mt} {Q : Option Value → Heap → (Addr → Prop) → Prop} {h h0 h1 h2 : Heap} {sf : List Addr} {cells slots pc : Nat} {Ls : Array Slot} {st : List Value} {a b : Addr}
theorem Ext.rf (h : Heap) : Ext h h := ⟨Nat.le_refl _, fun _ _ q => q⟩
theorem Ext.tr (E : Ext h0 h1) (F : Ext h1 h2) : Ext h0 h2 := ⟨Nat.le_trans E.1 F.1, fun x c q => F.2 x c (E.2 x c q)⟩
theorem Ext.keepN {ws : List Addr} (E : Ext h0 h1) (K : Keep h1 h2 ws) (q : ∀ x ∈ ws, h0.size ≤ x) : Ext h0 h2 :=
  ⟨Nat.le_trans E.1 K.1, fun x c r => K.2.1 x c (E.2 x c r) fun z => absurd (Array.getElem?_eq_some_iff.mp r).1 (Nat.not_lt.mpr (q x z))⟩
theorem Ext.wrN {sl : Nat} {v : Value} (E : Ext h0 h1) (W : Wr h1 h2 a sl v) (q : h0.size ≤ a) : Ext h0 h2 := Ext.keepN E (Keep.of_wr W) (allS q all0)
theorem Ext.keep0 {ws : List Addr} (E : Ext h0 h1) : Keep h0 h1 ws := (Keep.refl h0 ws).ext E
theorem sub0 : ∀ x ∈ ([] : List Addr), x ∈ sf := fun _ q => nomatch q
theorem subS {L : List Addr} (m : a ∈ sf) (r : ∀ x ∈ L, x ∈ sf) : ∀ x ∈ a :: L, x ∈ sf := fun x q => (List.mem_cons.mp q).elim (fun u => u ▸ m) (r x)
theorem nfS {C : String} {y : MethodName} {s : State} (w : Wd G (.selects C y y)) : ∀ vm0 : Vm, G.Z.Warmed39 vm0 → NotFace (s.setVm vm0) y := fun vm0 hZ => notFace_of_selects (args := #[]) (mv (s := s.setVm vm0) hZ w)
/-- the sheet's words, the constants whose text is asked, what the String laws ask -/
def Gl (ts : List Jvm.Cond) (el : List (String × Nat)) (G : Gb) : Prop := (∀ d ∈ ts, Wd G d) ∧ G.EL = el ∧ EW G.Z G.a0 G.EL ∧ (∀ d ∈ Bundle.stringAtoms, Wd G d) ∧ ∃ z : Int32, Sta G.Z G.Z.heap "java/lang/String" "COMPACT_STRINGS" "Z" (.int z) ∧ ¬ z = 0
variable {ts : List Jvm.Cond} {es : List (String × Nat)}
theorem Gl.w (H : Gl ts es G) {d : Jvm.Cond} (k : Nat) (q : ts[k]? = some d) : Wd G d := H.1 d (List.mem_of_getElem? q)
theorem Gl.el (H : Gl ts es G) : EW G.Z G.a0 G.EL := H.2.2.1
theorem Gl.ws (H : Gl ts es G) : ∀ d ∈ Bundle.stringAtoms, Wd G d := H.2.2.2.1
theorem Gl.cs (H : Gl ts es G) : ∃ z : Int32, Sta G.Z G.Z.heap "java/lang/String" "COMPACT_STRINGS" "Z" (.int z) ∧ ¬ z = 0 := H.2.2.2.2
theorem Gl.mem (H : Gl ts es G) {p : String × Nat} (q : p ∈ es) : p ∈ G.EL := H.2.1 ▸ q
/-! ### Strings -/
def by8 (cs : List Int32) : List Value := cs.map fun c => Value.int c.toInt8.toInt32
def Lat (cs : List Int32) : Prop := cs.length ≤ 4000 ∧ ∀ c ∈ cs, ¬ c < 0 ∧ ¬ (255 : Int32) < c
def Str (G : Gb) (h : Heap) (a : Addr) (cs : List Int32) : Prop := ∃ (t : Addr) (kb : ClassId), Exa G.Z h a "java/lang/String" ∧ Fld G.Z h a "java/lang/String" "coder" "B" (.int 0) ∧ Fld G.Z h a "java/lang/String" "value" "[B" (.ref t) ∧ Arv G.Z h t kb .byte cs.length.toInt32 (by8 cs) (.int 0)
variable {cs ds : List Int32}
theorem Str.exa (S : Str G h a cs) : Exa G.Z h a "java/lang/String" := by obtain ⟨t, kb, h1, -⟩ := S; exact h1
theorem Str.lt (S : Str G h a cs) : a < h.size := S.exa.lt
theorem Str.ext (S : Str G h a cs) (E : Ext h h1) : Str G h1 a cs := by
  obtain ⟨t, kb, e1, e2, e3, e4⟩ := S
  exact ⟨t, kb, Exa.ext E e1, Fld.ext E e2, Fld.ext E e3, e4.ext E⟩
theorem by8_len : (by8 cs).length = cs.length := by simp [by8]
theorem len_nn {n : Nat} (q : n < 2 ^ 31) : ¬ n.toInt32 < 0 := by
  rw [Int32.lt_iff_toInt_lt, len_toInt q]; have : (0 : Int32).toInt = 0 := rfl
  omega
theorem len_nat {n : Nat} (q : n < 2 ^ 31) : n.toInt32.toNatClampNeg = n := by
  simp only [Int32.toNatClampNeg, len_toInt q]; rfl
theorem len_lt {i n : Nat} (hn : n < 2 ^ 31) (q : i < n) : i.toInt32 < n.toInt32 := by
  rw [Int32.lt_iff_toInt_lt, len_toInt hn, len_toInt (Nat.lt_trans q hn)]; omega
theorem len_nlt {i n : Nat} (hi : i < 2 ^ 31) (q : n ≤ i) : ¬ i.toInt32 < n.toInt32 := by
  rw [Int32.lt_iff_toInt_lt, len_toInt hi, len_toInt (Nat.lt_of_le_of_lt q hi)]; omega
theorem len_succ (i : Nat) : i.toInt32 + Int32.ofInt 1 = (i + 1).toInt32 := by
  rw [show Int32.ofInt 1 = (1 : Nat).toInt32 from rfl]
  exact (Int32.ofNat_add i 1).symm
theorem lat_lt (q : Lat cs) : cs.length < 2 ^ 31 := Nat.lt_of_le_of_lt q.1 (by decide)
/-- 'ldc' of a constant whose text is asked, as a Str -/
theorem go_ldcT (K : Kd G B M) {k ix n : Nat} {text : String} (hd : M.P[k]? = some (pc, .ldc ix, 2)) (w : Wd G (.stringLink M.own ix text)) (wS : ∀ d ∈ Bundle.stringAtoms, Wd G d) (hmem : (M.own, ix) ∈ G.EL)
    (ht : (∀ c ∈ text.toList, c.toNat < 256) ∧ text.toList.map (fun c => Value.int (Jvm.Lit.byteI c.toNat.toUInt16)) = by8 cs) (hz : cs.length < 2 ^ 31)
    (hn : Nat.ble (4 * text.toList.length) n = true) (hb : Nat.ble n 536870912 = true) (hc : Nat.ble (cells + 2) M.R.cells = true) (hl : Nat.ble (slots + (n + 4)) M.R.slots = true)
    (g : ∀ (h' : Heap) (a : Addr), Ext h h' → Str G h' a cs → Go G B M Q h' sf (cells + 2) (slots + (n + 4)) (pc + 2) Ls (.ref a :: st)) : Go G B M Q h sf cells slots pc Ls st :=
  go_ldcS K hd w wS hmem ht (len_nn hz) (by rw [len_nat hz, by8_len]) hn hb hc hl fun h' a b kb E1 e1 e2 e3 e4 _ => g h' a E1 ⟨b, kb, e1, e2, e3, e4⟩
theorem c8_lat (x : Int32) : ¬ (x &&& 255) < 0 ∧ ¬ (255 : Int32) < (x &&& 255) := by
  have q := c_and x 255 (by decide)
  simp only [Int32.lt_iff_toInt_lt]
  have e1 : (255 : Int32).toInt = 255 := by decide
  have e0 : (0 : Int32).toInt = 0 := by decide
  rw [e1] at q ⊢; rw [e0]; omega
theorem nar_c8 (x : Int32) : nar .char (x &&& 255) = x &&& 255 := i2c_mask x
theorem nar_i2c8 (x : Int32) : nar .char (x &&& 255).toUInt32.toUInt16.toUInt32.toInt32 = x &&& 255 := by rw [i2c_mask]; exact i2c_mask x
theorem i8_idem (x : Int32) : x.toInt8.toInt32.toInt8.toInt32 = x.toInt8.toInt32 := by rw [Int8.toInt8_toInt32]
theorem Arv.ty_ne {k1 k2 : ClassId} {t1 t2 : FieldType} {z1 z2 : Int32} {v1 v2 : List Value} {d1 d2 : Value} (A : Arv G.Z h a k1 t1 z1 v1 d1) (A' : Arv G.Z h b k2 t2 z2 v2 d2) (q : t1 ≠ t2) : a ≠ b := fun e => by
  subst e
  obtain ⟨c1, ⟨x1, ⟨-, kk, y1, p1, z1⟩, -⟩, -⟩ := A
  obtain ⟨c2, ⟨x2, ⟨-, kk', y2, p2, z2⟩, -⟩, -⟩ := A'
  cases x1.symm.trans x2
  cases y1.symm.trans y2
  have := z1.symm.trans z2
  injection this with _ e
  exact q e
end Small
end Jvm.OwnW
namespace Jvm.OwnW
open Sem ClassFile Op Lib Bundle Jvm.Stand Jvm.Free Jvm.LawKit Jvm.RoadKit
section Small2
variable {G : Gb} {h h1 : Heap} {a b : Addr} {cs ds : List Int32}
theorem Str.wrO {C : String} {n sl : Nat} {v : Value} (S : Str G h b cs) (E : Exa G.Z h a C) (hC : C ≠ "java/lang/String") (wi : Wd G (.instantiable C n)) (W : Wr h h1 a sl v) : Str G h1 b cs := by
  obtain ⟨t, kb, e1, e2, e3, e4⟩ := S
  have n1 : b ≠ a := fun q => (Exa.ne E e1 hC) q.symm
  have n2 : t ≠ a := (Exa.neArv E e4 wi).symm
  exact ⟨t, kb, Exa.wr W e1, Fld.other W e2 (Or.inl n1), Fld.other W e3 (Or.inl n1), e4.other W n2⟩
theorem get_map {i : Nat} (q : i < cs.length) : (cs.map Value.int).getD i (.int 0) = .int cs[i] := by
  simp [List.getD_eq_getElem?_getD, q]
theorem get_by8 {i : Nat} (q : i < cs.length) : (by8 cs).getD i (.int 0) = .int cs[i].toInt8.toInt32 := by
  simp [by8, List.getD_eq_getElem?_getD, q]
theorem set_by8 {i k : Nat} (q : i < cs.length) : (by8 (cs.take i) ++ List.replicate (k + 1) (Value.int 0)).set i (.int (nar .byte cs[i].toInt8.toInt32)) = by8 (cs.take (i + 1)) ++ List.replicate k (Value.int 0) := by
  have e : nar .byte cs[i].toInt8.toInt32 = cs[i].toInt8.toInt32 := i8_idem _
  have l : (by8 (cs.take i)).length = i := by rw [by8_len, List.length_take]; omega
  rw [e, List.set_append_right _ _ (Nat.le_of_eq l), l, Nat.sub_self, List.replicate_succ, List.set_cons_zero, List.take_succ_eq_append_getElem q]
  show _ = List.map _ (cs.take i ++ [cs[i]]) ++ _
  rw [List.map_append, List.append_assoc]
  rfl
theorem len_zero {n : Nat} (hn : n < 2 ^ 31) (q : n.toInt32 = 0) : n = 0 := by
  have e := congrArg Int32.toInt q
  rw [len_toInt hn] at e
  have : (0 : Int32).toInt = 0 := rfl
  omega
theorem len_inj {n m : Nat} (hn : n < 2 ^ 31) (hm : m < 2 ^ 31) (q : n.toInt32 = m.toInt32) : n = m := by
  have e := congrArg Int32.toInt q
  rw [len_toInt hn, len_toInt hm] at e
  omega
/-- the low byte, as signed, tells a char of 0 to 255 -/
theorem i8_inj {x y : Int32} (hx : ¬ x < 0 ∧ ¬ (255 : Int32) < x) (hy : ¬ y < 0 ∧ ¬ (255 : Int32) < y) (q : x.toInt8.toInt32 = y.toInt8.toInt32) : x = y := by
  have e := congrArg Int32.toInt q
  have a1 := c_i2b x
  have a2 := c_i2b y
  simp only [Int32.lt_iff_toInt_lt] at hx hy
  have e0 : (0 : Int32).toInt = 0 := by decide
  have e1 : (255 : Int32).toInt = 255 := by decide
  rw [e0, e1] at hx hy
  apply Int32.toInt_inj.mp
  omega
theorem by8_inj : ∀ {cs ds : List Int32}, (∀ c ∈ cs, ¬ c < 0 ∧ ¬ (255 : Int32) < c) → (∀ c ∈ ds, ¬ c < 0 ∧ ¬ (255 : Int32) < c) → by8 cs = by8 ds → cs = ds
  | [], [], _, _, _ => rfl
  | [], _ :: _, _, _, q => by cases q
  | _ :: _, [], _, _, q => by cases q
  | c :: cs, d :: ds, h1, h2, q => by
    simp only [by8, List.map_cons, List.cons.injEq, Value.int.injEq] at q
    rw [i8_inj (h1 c (List.mem_cons_self ..)) (h2 d (List.mem_cons_self ..)) q.1, by8_inj (fun x hx => h1 x (List.mem_cons_of_mem _ hx)) (fun x hx => h2 x (List.mem_cons_of_mem _ hx)) q.2]
/-- one String, one text -/
theorem Str.inj (hl : Lat cs) (hl' : Lat ds) (S : Str G h a cs) (S' : Str G h a ds) : cs = ds := by
  obtain ⟨t, kb, -, -, e3, c, A, -, z1, -, H, -⟩ := S
  obtain ⟨t', kb', -, -, f3, c', A', -, z2, -, H', -⟩ := S'
  have et : t = t' := by
    by_cases u : (Value.ref t) = .ref t'
    · exact Value.ref.inj u
    · exact absurd rfl (Fld.ne e3 f3 u)
  subst et
  cases A.1.symm.trans A'.1
  have n1 := lat_lt hl
  have n2 := lat_lt hl'
  rw [len_nat n1] at z1
  rw [len_nat n2] at z2
  refine by8_inj hl.2 hl'.2 (List.ext_getElem (by rw [by8_len, by8_len]; omega) fun i q1 q2 => ?_)
  have u1 := H i (by rw [by8_len] at q1; omega)
  have u2 := H' i (by rw [by8_len] at q1; omega)
  have := Option.some.inj (u1.symm.trans u2)
  rw [List.getD_eq_getElem?_getD, List.getD_eq_getElem?_getD, List.getElem?_eq_getElem q1, List.getElem?_eq_getElem q2] at this
  exact this
end Small2
end Jvm.OwnW
namespace Jvm.OwnW
open Sem ClassFile Op Lib Bundle Jvm.Stand Jvm.Free Jvm.LawKit Jvm.RoadKit
theorem bool_n {b : Int32} (q : b = 0 ∨ b = 1) : narrow .boolean (.int b) = .int b := by rcases q with rfl | rfl <;> rfl
theorem bool_f {b : Int32} (q : b = 0 ∨ b = 1) : fits .boolean (.int b) = true := by rcases q with rfl | rfl <;> rfl
theorem lat1 {x : Int32} (q : ¬ x < 0 ∧ ¬ (255 : Int32) < x) : Lat [x] := ⟨(by simp), fun c hc => by cases List.mem_singleton.mp hc; exact q⟩
theorem lat0 : Lat [] := ⟨(by decide), fun c hc => nomatch hc⟩
theorem latC {x : Int32} {cs : List Int32} (q : ¬ x < 0 ∧ ¬ (255 : Int32) < x) (l : Lat cs) (hn : cs.length + 1 ≤ 4000) : Lat (x :: cs) := ⟨hn, fun c hc => by
  rcases List.mem_cons.mp hc with rfl | hc
  · exact q
  · exact l.2 c hc⟩
end Jvm.OwnW
namespace Jvm.OwnW
open Sem ClassFile Op Lib Bundle Jvm.Stand Jvm.Free Jvm.LawKit Jvm.RoadKit
theorem shr0 (x : Int32) : x >>> ((0 : Int32) &&& 31) = x := by
  have e := c_ishr x 0 0 (by decide)
  apply Int32.toInt_inj.mp
  rw [e]; simp
theorem c8_id {c : Int32} (q : ¬ c < 0 ∧ ¬ (255 : Int32) < c) : c &&& 255 = c := by
  apply Int32.toInt_inj.mp
  rw [c_mask c 255 8 (by decide) (by decide)]
  simp only [Int32.lt_iff_toInt_lt] at q
  have e0 : (0 : Int32).toInt = 0 := by decide
  have e1 : (255 : Int32).toInt = 255 := by decide
  rw [e0, e1] at q
  have : ((2 ^ 8 : Nat) : Int) = 256 := by decide
  rw [this]; omega
theorem nar_id {c : Int32} (q : ¬ c < 0 ∧ ¬ (255 : Int32) < c) : nar .char c = c := by
  have e := nar_c8 c
  rw [c8_id q] at e
  exact e
theorem char_n {c : Int32} (q : ¬ c < 0 ∧ ¬ (255 : Int32) < c) : narrow .char (.int c) = .int c := congrArg Value.int (nar_id q)
theorem b8_char {c : Int32} (q : ¬ c < 0 ∧ ¬ (255 : Int32) < c) : (c.toInt8.toInt32 &&& (255 : Int32)).toUInt32.toUInt16.toUInt32.toInt32 = c := by
  rw [i2c_mask]
  apply Int32.toInt_inj.mp
  rw [c_mask _ 255 8 (by decide) (by decide)]
  have a1 := c_i2b c
  simp only [Int32.lt_iff_toInt_lt] at q
  have e0 : (0 : Int32).toInt = 0 := by decide
  have e1 : (255 : Int32).toInt = 255 := by decide
  rw [e0, e1] at q
  have : ((2 ^ 8 : Nat) : Int) = 256 := by decide
  rw [this]; omega
end Jvm.OwnW
namespace Jvm.OwnW
open Sem ClassFile Op Lib Bundle Jvm.Stand Jvm.Free Jvm.LawKit Jvm.RoadKit
theorem Str.keepO {G : Gb} {h h1 : Heap} {a b : Addr} {cs : List Int32} {C : String} {n : Nat} (S : Str G h b cs) (E : Exa G.Z h a C) (hC : C ≠ "java/lang/String") (wi : Wd G (.instantiable C n)) (K : Keep h h1 [a]) : Str G h1 b cs := by
  obtain ⟨t, kb, e1, e2, e3, e4⟩ := S
  have n1 : b ≠ a := fun q => (Exa.ne E e1 hC) q.symm
  have n2 : t ≠ a := (Exa.neArv E e4 wi).symm
  exact ⟨t, kb, e1.keep K, e2.keep K (ninS n1 nin0), e3.keep K (ninS n1 nin0), e4.keep K (ninS n2 nin0)⟩
end Jvm.OwnW
namespace Jvm.OwnW
theorem cmpL_self (x : Int64) : Jvm.Free.XT.cmpL x x = 0 := by simp [Jvm.Free.XT.cmpL]
end Jvm.OwnW
namespace Jvm.OwnW
open Sem ClassFile Op Lib Bundle Jvm.Stand Jvm.Free Jvm.LawKit Jvm.RoadKit
theorem rem3 (x : Int32) : (x &&& 3) % 3 = 0 ∨ (x &&& 3) % 3 = 1 ∨ (x &&& 3) % 3 = 2 := by
  have a := c_and x 3 (by decide)
  have b := (c_irem (x &&& 3) 3 3 (by decide)).1 a.1
  have e0 : (0 : Int32).toInt = 0 := by decide
  have e1 : (1 : Int32).toInt = 1 := by decide
  have e2 : (2 : Int32).toInt = 2 := by decide
  rcases (by omega : (x &&& 3).toInt % 3 = 0 ∨ (x &&& 3).toInt % 3 = 1 ∨ (x &&& 3).toInt % 3 = 2) with q | q | q
  · exact Or.inl (Int32.toInt_inj.mp (by rw [b, q, e0]))
  · exact Or.inr (Or.inl (Int32.toInt_inj.mp (by rw [b, q, e1])))
  · exact Or.inr (Or.inr (Int32.toInt_inj.mp (by rw [b, q, e2])))
theorem tok_fin {r kk s : Int32} {A B C : Prop} (sp : (r = 1 ∧ A ∧ B) ∨ (r = 0 ∧ ¬ (A ∧ B))) (hk : (kk = 1 ∧ C) ∨ (kk = 0 ∧ ¬ C)) (hs : (s = 1 ∧ B) ∨ (s = 0 ∧ ¬ B)) (hc : A ↔ C) : r = if kk = 0 then 0 else if s = 0 then 0 else 1 := by
  rcases hk with ⟨rfl, c⟩ | ⟨rfl, c⟩
  · rcases hs with ⟨rfl, b⟩ | ⟨rfl, b⟩
    · rcases sp with ⟨u, -⟩ | ⟨-, u⟩
      · rw [u]; simp
      · exact absurd ⟨hc.mpr c, b⟩ u
    · rcases sp with ⟨-, -, u⟩ | ⟨u, -⟩
      · exact absurd u b
      · rw [u]; simp
  · rcases sp with ⟨-, u, -⟩ | ⟨u, -⟩
    · exact absurd (hc.mp u) c
    · rw [u]; simp
/-- the text that a maker of Strings of up to two chars makes -/
def Mk2 (n c0 c1 : Int32) (cs : List Int32) : Prop := (n = 0 ∧ cs = []) ∨ (¬ n = 0 ∧ n = 1 ∧ cs = [c0]) ∨ (¬ n = 0 ∧ ¬ n = 1 ∧ cs = [c0, c1])
theorem Mk2.zero {c0 c1 : Int32} {cs : List Int32} (q : Mk2 0 c0 c1 cs) : cs = [] := by rcases q with ⟨-, q⟩ | ⟨q, -⟩ | ⟨q, -⟩ <;> first | exact q | exact absurd rfl q
theorem Mk2.one {c0 c1 : Int32} {cs : List Int32} (q : Mk2 1 c0 c1 cs) : cs = [c0] := by rcases q with ⟨q, -⟩ | ⟨-, -, q⟩ | ⟨-, q, -⟩ <;> first | exact q | exact absurd rfl q | exact absurd q (by decide)
theorem Mk2.two {c0 c1 : Int32} {cs : List Int32} (q : Mk2 2 c0 c1 cs) : cs = [c0, c1] := by rcases q with ⟨q, -⟩ | ⟨-, q, -⟩ | ⟨-, -, q⟩ <;> first | exact q | exact absurd q (by decide)
/-- two such texts -/
theorem Mk2.same {n m c0 c1 d0 d1 : Int32} {cs ds : List Int32} (hn : n = 0 ∨ n = 1 ∨ n = 2) (hm : m = 0 ∨ m = 1 ∨ m = 2) (q : Mk2 n c0 c1 cs) (r : Mk2 m d0 d1 ds) : cs = ds ↔ (n = m ∧ (n < 1 ∨ c0 = d0) ∧ (n < 2 ∨ c1 = d1)) := by
  rcases hn with rfl | rfl | rfl <;> rcases hm with rfl | rfl | rfl <;> (first | rw [q.zero] | rw [q.one] | rw [q.two]) <;> (first | rw [r.zero] | rw [r.one] | rw [r.two]) <;> simp
end Jvm.OwnW
namespace Jvm.OwnW
open Sem ClassFile Op Lib Bundle Jvm.Stand Jvm.Free Jvm.LawKit Jvm.RoadKit
theorem nar_ii {c : Int32} (q : ¬ c < 0 ∧ ¬ (255 : Int32) < c) : nar .char c.toUInt32.toUInt16.toUInt32.toInt32 = c := by
  have e : c.toUInt32.toUInt16.toUInt32.toInt32 = c := nar_id q
  rw [e]; exact nar_id q
theorem x8_lat (x y : Int32) : ¬ ((x &&& 255) ^^^ (y &&& 255)) < 0 ∧ ¬ (255 : Int32) < ((x &&& 255) ^^^ (y &&& 255)) := by
  have e : (x &&& 255) ^^^ (y &&& 255) = (x ^^^ y) &&& 255 := by
    apply Int32.toBitVec_inj.mp
    simp only [Int32.toBitVec_xor, Int32.toBitVec_and]
    apply BitVec.eq_of_getLsbD_eq
    intro i hi
    simp only [BitVec.getLsbD_and, BitVec.getLsbD_xor]
    cases x.toBitVec.getLsbD i <;> cases y.toBitVec.getLsbD i <;> cases (255 : Int32).toBitVec.getLsbD i <;> rfl
  rw [e]; exact c8_lat _
/-- a class under Object alone can't be cast to another one that is no interface -/
theorem noCast {G : Gb} {C O K : String} {n : Nat} (w : Wd G (.superclass C O)) (w0 : Wd G (.noSuperclass O)) (wi : Wd G (.instantiable K n)) (h1 : C ≠ K) (h2 : O ≠ K) : ∃ c t, G.Z.vm.findClass C = some c ∧ G.Z.vm.findClass K = some t ∧ G.Z.vm.assignable c t = false := by
  obtain ⟨c, hc⟩ := found_sup w
  obtain ⟨p, k, kp, a1, a2, a3, a4, a5, -, a7⟩ := Cond.superclass_spec hc w
  obtain ⟨o, ko, b1, b2, b3, -, -⟩ := Cond.noSuperclass_spec w0
  cases b1.symm.trans a1
  obtain ⟨t, kt, c1, c2, c3, c4, c5, -⟩ := Cond.instantiable_spec wi
  have n1 := ids_ne hc c1 h1
  have n2 := ids_ne b1 c1 h2
  have c4' := (Bool.or_eq_false_iff.mp c4).1
  refine ⟨c, t, hc, c1, ?_⟩
  show G.Z.vm.assignableAux (255 + 1) c t = false
  simp [Vm.assignableAux, n1, a2, c2, a5, c3, c4', Vm.isSubclass, Vm.isSubclassAux, a4]
  generalize G.Z.vm.classes.size = f
  cases f <;> simp [Vm.isSubclassAux, n2, b2, b3]
end Jvm.OwnW
namespace Jvm.OwnW
open Jvm.RoadKit
theorem fld_apart {args : Array Value} {s : State} {t u : Term} {C n d : String} {a b : Addr} {i j : Value} (e1 : t.eval args s none [] s = some (.ref a)) (e2 : u.eval args s none [] s = some (.ref b)) (f1 : (Term.field t C n d).eval args s none [] s = some i) (f2 : (Term.field u C n d).eval args s none [] s = some j) (q : i ≠ j) : a ≠ b := fun e => by
  subst e
  rw [fld_at e1] at f1
  rw [fld_at e2] at f2
  exact q (Option.some.inj (f1.symm.trans f2))
end Jvm.OwnW
namespace Jvm.OwnW
open Sem ClassFile Op Lib Bundle Jvm.Stand Jvm.Free Jvm.LawKit Jvm.RoadKit
section More
variable {G : Gb} {B : Cx} {M : Mt} {R : Room} {Q : Option Value → Heap → (Addr → Prop) → Prop} {h : Heap} {sf : List Addr} {cells slots pc : Nat} {Ls : Array Slot} {st : List Value}
theorem sameM {y z : MethodName} {C : String} (wd : Wd G (.declares y)) (ws : Wd G (.selects C z z)) (hc : y.cls = z.cls) (hy : y.cls ≠ "java/lang/invoke/MethodHandle" ∧ y.cls ≠ "java/lang/invoke/VarHandle") : Wd G (.sameMethod y.cls y.cls y.name y.desc) := by
  obtain ⟨r0, r, hn, -⟩ := Cond.declares_spec wd
  obtain ⟨c2, r2, m2, q1, q2, q3, q4, kP, hkP, hkPi⟩ := Cond.selects_spec ws
  have e1 := findClass_of_methodNamed hn
  have e2 := findClass_of_methodNamed q3
  rw [← hc] at e2
  have e3 : m2.cls = r0.cls := Option.some.inj (e2.symm.trans e1)
  have e4 := State.methodFound?_of_named hn hy
  have e5 : G.Z.methodNamed? ⟨y.cls, y.name, y.desc⟩ = some r0 := hn
  rw [e3] at hkP
  show (Jvm.Cond.sameMethod y.cls y.cls y.name y.desc).before G.a0 G.Z = true
  simp [Cond.before, Cond.holds, Cond.value, e1, e4, e5, hkP, hkPi]
/-- a method's class is no interface, told by another method of it -/
theorem nfO {C : String} {y z : MethodName} {s : State} (w : Wd G (.selects C z z)) (hc : y.cls = z.cls) : ∀ vm0 : Vm, G.Z.Warmed39 vm0 → NotFace (s.setVm vm0) y := fun vm0 hZ r0 h0 => by
  obtain ⟨c2, r2, m2, q1, q2, q3, q4, kP, hkP, hkPi⟩ := Cond.selects_spec (mv (s := s.setVm vm0) (args := #[]) hZ w)
  have e1 := findClass_of_methodNamed h0
  have e2 := findClass_of_methodNamed q3
  rw [hc] at e1
  have e3 : m2.cls = r0.cls := Option.some.inj (e2.symm.trans e1)
  exact ⟨kP, by rw [← e3]; exact hkP, hkPi⟩
theorem go_superN (K : Kd G B M) {k ix : Nat} {y : MethodName} {bytes : ByteArray} {maxL : Nat} {ret : Option FieldType} {rm : Room} {C : String} {a : Addr} {argsL rest : List Value} {ps : List FieldType} {rt : Option FieldType} {sf' : List Addr} {Qc : Option Value → Heap → (Addr → Prop) → Prop} (hd : M.P[k]? = some (pc, .invokespecial ix, 3))
    (w1 : Wd G (.methodLink M.own ix y)) (w2 : Wd G (.sameMethod y.cls y.cls y.name y.desc)) (w3 : Wd G (.instanceMethod y)) (w4 : Wd G (.superclass M.own y.cls)) (w5 : Wd G (.initialized y.cls)) (w6 : Wd G (.code y bytes maxL ret)) (hn : y.name ≠ "<init>") (pd : parseMethodDescriptor y.desc = some ⟨ps, rt⟩) (E : Exa G.Z h a C)
    (Ct : Ctr G [] y bytes maxL ret rm (.ref a :: argsL).toArray h sf' Qc) (hst : st = argsL.reverse ++ .ref a :: rest) (hlen : argsL.length = ps.length) (hsz : Ls.size = M.maxL) (hsub : ∀ x ∈ sf', x ∈ sf) (hrm : rok M.R rest maxL rm cells slots = true)
    (g : ∀ (v : Option Value) (h' : Heap) (Sf : Addr → Prop), h.size ≤ h'.size → Qc v h' Sf → ∃ nw : List Addr, (∀ x ∈ nw, Sf x) ∧ Go G B M Q h' (nw ++ sf) (cells + rm.cells) (slots + rm.slots) (pc + 3) Ls (v.toList ++ rest)) : Go G B M Q h sf cells slots pc Ls st := by
  intro T vm0 k0 locs W
  obtain ⟨r1, r2, r3, r4⟩ := rok_ok hrm
  obtain ⟨X, eT, hS, hk, hZ, hown, hF, hE, hC, hs⟩ := id W
  subst hst
  exact call_on W (superBackS X K.1 hZ hown w1 w2 w3 w4 hn (backG (W := (rest.map fun v => v.category).sum) Ct hZ w6 w5 r1 r2 K.2.2.2.2.2.2 hC.1 hE (fun x hx => hs x (hsub x hx))) eT (Ins.self E) (g := mkF B.m pc Ls (argsL.reverse ++ .ref a :: rest)) rfl (hsz.trans K.2.2.1.symm) w6 (argsL := argsL) (rest := rest) (lenOf pd hlen) rfl (by show 2 * 0 + _ ≤ _; omega) (K.dec hd) (fun vm₁ _ => ⟨rfl, eT, r3, r4⟩)) g
theorem go_super (K : Kd G B M) {k ix : Nat} {y : MethodName} {bytes : ByteArray} {maxL : Nat} {ret : Option FieldType} {rm : Room} {C : String} {a : Addr} {argsL rest : List Value} {ps : List FieldType} {rt : Option FieldType} {sf' : List Addr} {Qc : Option Value → Heap → (Addr → Prop) → Prop} (hd : M.P[k]? = some (pc, .invokespecial ix, 3))
    (w1 : Wd G (.methodLink M.own ix y)) (w2 : Wd G (.sameMethod y.cls y.cls y.name y.desc)) (w3 : Wd G (.instanceMethod y)) (w4 : Wd G (.superclass M.own y.cls)) (w5 : Wd G (.initialized y.cls)) (w6 : Wd G (.code y bytes maxL ret)) (hn : y.name ≠ "<init>") (pd : parseMethodDescriptor y.desc = some ⟨ps, rt⟩) (E : Exa G.Z h a C)
    (Ct : Ctr G [] y bytes maxL ret rm (.ref a :: argsL).toArray h sf' Qc) (hst : st = argsL.reverse ++ .ref a :: rest) (hlen : argsL.length = ps.length) (hsz : Ls.size = M.maxL) (hsub : ∀ x ∈ sf', x ∈ sf) (hrm : rok M.R rest maxL rm cells slots = true)
    (g : ∀ (v : Option Value) (h' : Heap) (Sf : Addr → Prop), h.size ≤ h'.size → Qc v h' Sf → Go G B M Q h' sf (cells + rm.cells) (slots + rm.slots) (pc + 3) Ls (v.toList ++ rest)) : Go G B M Q h sf cells slots pc Ls st :=
  go_superN K hd w1 w2 w3 w4 w5 w6 hn pd E Ct hst hlen hsz hsub hrm fun v h' Sf z q => ⟨[], (fun _ u => nomatch u), g v h' Sf z q⟩
/-- invokevirtual of a method that the receiver's class takes as it stands, the entry's own class declaring it: private ones too -/
theorem go_virt0N (K : Kd G B M) {k ix : Nat} {y : MethodName} {bytes : ByteArray} {maxL : Nat} {ret : Option FieldType} {rm : Room} {C : String} {a : Addr} {argsL rest : List Value} {ps : List FieldType} {rt : Option FieldType} {sf' : List Addr} {Qc : Option Value → Heap → (Addr → Prop) → Prop} (hd : M.P[k]? = some (pc, .invokevirtual ix, 3))
    (w1 : Wd G (.methodLink M.own ix y)) (w3 : Wd G (.selects C y y)) (w4 : Wd G (.instanceMethod y)) (w5 : Wd G (.initialized y.cls)) (w6 : Wd G (.code y bytes maxL ret)) (hy : y.cls ≠ "java/lang/invoke/MethodHandle" ∧ y.cls ≠ "java/lang/invoke/VarHandle") (pd : parseMethodDescriptor y.desc = some ⟨ps, rt⟩) (E : Exa G.Z h a C)
    (Ct : Ctr G [] y bytes maxL ret rm (.ref a :: argsL).toArray h sf' Qc) (hst : st = argsL.reverse ++ .ref a :: rest) (hlen : argsL.length = ps.length) (hsz : Ls.size = M.maxL) (hsub : ∀ x ∈ sf', x ∈ sf) (hrm : rok M.R rest maxL rm cells slots = true)
    (g : ∀ (v : Option Value) (h' : Heap) (Sf : Addr → Prop), h.size ≤ h'.size → Qc v h' Sf → ∃ nw : List Addr, (∀ x ∈ nw, Sf x) ∧ Go G B M Q h' (nw ++ sf) (cells + rm.cells) (slots + rm.slots) (pc + 3) Ls (v.toList ++ rest)) : Go G B M Q h sf cells slots pc Ls st := by
  intro T vm0 k0 locs W
  obtain ⟨r1, r2, r3, r4⟩ := rok_ok hrm
  obtain ⟨X, eT, hS, hk, hZ, hown, hF, hE, hC, hs⟩ := id W
  obtain ⟨cB, kB, i1, i2, cellB, i3, i4, i5⟩ := isOf (s := B.s.setVm vm0) hZ eT E
  subst hst
  have v3 : (Jvm.Cond.selects C y y).before B.as (B.s.setVm vm0) = true := mv hZ w3
  have v4 : (Jvm.Cond.instanceMethod y).before B.as (B.s.setVm vm0) = true := mv hZ w4
  have v6 : (Jvm.Cond.code y bytes maxL ret).before B.as (B.s.setVm vm0) = true := mv hZ w6
  obtain ⟨mk, methM, hnamed, hmethM, hstM, habM⟩ := Cond.instanceMethod_spec v4
  obtain ⟨methM', cM, hmethM', -, -, -, -, -, -, hsigM⟩ := Cond.code_spec hnamed v6
  cases hmethM.symm.trans hmethM'
  obtain ⟨c2, r2', m2, q1, q2, q3, q4, kP, hkP, hkPi⟩ := Cond.selects_spec v3
  cases i1.symm.trans q1
  cases (State.methodFound?_of_named hnamed hy).symm.trans q2
  cases hnamed.symm.trans q3
  have hselP : selectMethod B.e.platform (B.s.setVm vm0).vm cellB.cls mk = .method mk := by rw [Launch.admits_selectMethod X.admits, i4]; exact q4
  have hlen' : ∀ sig, parseMethodDescriptor y.desc = some sig → argsL.length = sig.parameters.length := lenOf pd hlen
  have hK := backG (R := M.R) (p := B.p) (e := B.e) (below := B.bl) (s := B.s) (args := B.as) (len := 3) (W := (rest.map fun v => v.category).sum) Ct hZ w6 w5 r1 r2 K.2.2.2.2.2.2 hC.1 hE (fun x hx => hs x (hsub x hx))
  refine call_on W ?_ g
  obtain ⟨vm₁, X₁, hstep₁⟩ := X.invokevirtual K.1 hown (mv hZ w1) hnamed hmethM hstM hkP hkPi hy (a := a) (cell := cellB) i3 (fun z u => by rw [u] at i5; cases i5) hselP hmethM habM hkP hkPi (g := mkF B.m pc Ls (argsL.reverse ++ .ref a :: rest)) rfl (argsL := argsL) (rest := rest) (hlen' _ hsigM) rfl (K.dec hd)
  obtain ⟨v, A, X', hS', hgr, hpost, hsteps⟩ := hK B.m B.mt B.c ⟨T.setVm vm₁, locs, cells, slots⟩ { mkF B.m pc Ls (argsL.reverse ++ .ref a :: rest) with stack := rest } (.invokevirtual ix) mk (.ref a :: argsL).toArray X₁ rfl (hsz.trans K.2.2.1.symm) (K.dec hd) (by show 2 * 0 + (rest.map fun v => v.category).sum ≤ _; omega) (X₁.named hnamed) ⟨rfl, eT, r3, r4⟩
  exact ⟨v, vm₁, A, X₁.warmed, X', hS', hgr, hpost, (hstep₁ _ fun acts => by rw [doInvoke_state]; exact Steps.refl _).trans hsteps⟩
theorem go_virt0 (K : Kd G B M) {k ix : Nat} {y : MethodName} {bytes : ByteArray} {maxL : Nat} {ret : Option FieldType} {rm : Room} {C : String} {a : Addr} {argsL rest : List Value} {ps : List FieldType} {rt : Option FieldType} {sf' : List Addr} {Qc : Option Value → Heap → (Addr → Prop) → Prop} (hd : M.P[k]? = some (pc, .invokevirtual ix, 3))
    (w1 : Wd G (.methodLink M.own ix y)) (w3 : Wd G (.selects C y y)) (w4 : Wd G (.instanceMethod y)) (w5 : Wd G (.initialized y.cls)) (w6 : Wd G (.code y bytes maxL ret)) (hy : y.cls ≠ "java/lang/invoke/MethodHandle" ∧ y.cls ≠ "java/lang/invoke/VarHandle") (pd : parseMethodDescriptor y.desc = some ⟨ps, rt⟩) (E : Exa G.Z h a C)
    (Ct : Ctr G [] y bytes maxL ret rm (.ref a :: argsL).toArray h sf' Qc) (hst : st = argsL.reverse ++ .ref a :: rest) (hlen : argsL.length = ps.length) (hsz : Ls.size = M.maxL) (hsub : ∀ x ∈ sf', x ∈ sf) (hrm : rok M.R rest maxL rm cells slots = true)
    (g : ∀ (v : Option Value) (h' : Heap) (Sf : Addr → Prop), h.size ≤ h'.size → Qc v h' Sf → Go G B M Q h' sf (cells + rm.cells) (slots + rm.slots) (pc + 3) Ls (v.toList ++ rest)) : Go G B M Q h sf cells slots pc Ls st :=
  go_virt0N K hd w1 w3 w4 w5 w6 hy pd E Ct hst hlen hsz hsub hrm fun v h' Sf z q => ⟨[], (fun _ u => nomatch u), g v h' Sf z q⟩
/-- System.arraycopy between arrays of one primitive kind -/
theorem go_arraycopy (K : Kd G B M) {k ix : Nat} {a b : Addr} {kA kB : ClassId} {ty : FieldType} {z z' sp dp nn : Int32} {vs vd us : List Value} {dv dd : Value} (hd : M.P[k]? = some (pc, .invokestatic ix, 3))
    (w1 : Wd G (.methodLink M.own ix Jvm.Stand.acN)) (w2 : Wd G (.native Jvm.Stand.acN)) (w3 : Wd G (.static Jvm.Stand.acN)) (w4 : Wd G (.initialized "java/lang/System")) (A : Arv G.Z h a kA ty z vs dv) (A' : Arv G.Z h b kB ty z' vd dd) (hp : refKind ty = false)
    (h1 : ¬ sp < 0) (h2 : ¬ dp < 0) (h3 : ¬ nn < 0) (h4 : sp.toNatClampNeg + nn.toNatClampNeg ≤ z.toNatClampNeg) (h5 : dp.toNatClampNeg + nn.toNatClampNeg ≤ z'.toNatClampNeg)
    (hus : us = (List.range nn.toNatClampNeg).map fun i => vs.getD (sp.toNatClampNeg + i) dv) (hl : dp.toNatClampNeg + nn.toNatClampNeg ≤ vd.length) (ge : G.Z.heap.size ≤ b) (hsf : b ∈ sf ∨ ty ≠ .byte) (hsz : Ls.size = M.maxL)
    (hf : Nat.ble 1 M.R.frames = true) (hlo : Nat.ble ((st.map fun v => v.category).sum + (nativeFrameWords "java/lang/System" "arraycopy" 5 + 11)) M.R.locals = true)
    (g : ∀ h' : Heap, Keep h h' [b] → Arv G.Z h' b kB ty z' (vd.take dp.toNatClampNeg ++ us ++ vd.drop (dp.toNatClampNeg + nn.toNatClampNeg)) dd → Go G B M Q h' sf cells slots (pc + 3) Ls st) : Go G B M Q h sf cells slots pc Ls (.int nn :: .int dp :: .ref b :: .int sp :: .ref a :: st) := by
  intro T vm0 k0 locs W
  obtain ⟨X, eT, hS, hk, hZ, hown, hF, hE, hC, hs⟩ := W
  have S : Safe G.Z G.EL vm0 h b := hsf.elim (fun q => (hs b q).1) (fun q => Safe.arv hZ.alike A' q)
  obtain ⟨T', h', L, X', e', N', K', A2, st'⟩ := cpA X K.1 hZ hown w1 w2 w3 w4 eT A A' (Or.inl ⟨rfl, hp⟩) h1 h2 h3 h4 h5 hus hl hF ge (g := mkF B.m pc Ls (.int nn :: .int dp :: .ref b :: .int sp :: .ref a :: st)) rfl (hsz.trans K.2.2.1.symm) rfl (K.dec hd) (Nat.le_of_ble_eq_true hf) (W := (st.map fun v => v.category).sum) (by show 2 * 0 + _ ≤ _; omega) (Nat.le_of_ble_eq_true hlo)
  have sa : ∀ x ∈ [b], Safe G.Z G.EL vm0 h x := allS S all0
  exact (g h' K' A2 T' vm0 k0 L ⟨X', e', hS, Nat.le_trans hk K'.1, hZ, hown, N', (Old.keep (n0 := G.Z.heap.size) ⟨rfl, hE⟩ K' (allS ge all0)).2, hC.trans (CHr.keep K' sa hC.1), fun x hx => ⟨Safe.keep K' sa hC.1 (hs x hx).1, Nat.lt_of_lt_of_le (hs x hx).2 K'.1⟩⟩).pre st'
end More
end Jvm.OwnW
namespace Jvm.OwnW
open Sem ClassFile Op Lib Bundle Jvm.Stand Jvm.Free Jvm.LawKit Jvm.RoadKit
section Bld
variable {G : Gb} {h h1 : Heap} {a t : Addr} {kb : ClassId} {cs ds : List Int32} {m : Nat}
/-- a StringBuilder a over the byte[] t of m bytes, holding the chars cs -/
def Sb (G : Gb) (h : Heap) (a t : Addr) (kb : ClassId) (cs : List Int32) (m : Nat) : Prop :=
  Exa G.Z h a "java/lang/StringBuilder" ∧ Fld G.Z h a "java/lang/AbstractStringBuilder" "value" "[B" (.ref t) ∧ Fld G.Z h a "java/lang/AbstractStringBuilder" "coder" "B" (.int 0) ∧
  Fld G.Z h a "java/lang/AbstractStringBuilder" "count" "I" (.int cs.length.toInt32) ∧ Arv G.Z h t kb .byte m.toInt32 (by8 cs ++ List.replicate (m - cs.length) (.int 0)) (.int 0) ∧ cs.length ≤ m ∧ m < 2 ^ 31
theorem Sb.ext (S : Sb G h a t kb cs m) (E : Ext h h1) : Sb G h1 a t kb cs m := by
  obtain ⟨e1, e2, e3, e4, e5, e6⟩ := S
  exact ⟨Exa.ext E e1, Fld.ext E e2, Fld.ext E e3, Fld.ext E e4, e5.ext E, e6⟩
theorem Sb.exa (S : Sb G h a t kb cs m) : Exa G.Z h a "java/lang/StringBuilder" := S.1
theorem Str.keep2 {C : String} {n : Nat} {b : Addr} (S : Str G h b cs) (E : Exa G.Z h a C) (hC : C ≠ "java/lang/String") (wi : Wd G (.instantiable C n)) (ws : Wd G (.instantiable "java/lang/String" 4)) (A : Arv G.Z h t kb .byte m.toInt32 ((by8 ds) ++ List.replicate (m - ds.length) (.int 0)) (.int 0)) (hne : ∀ u, Fld G.Z h b "java/lang/String" "value" "[B" (.ref u) → u ≠ t) (K : Keep h h1 [a, t]) : Str G h1 b cs := by
  obtain ⟨u, ku, e1, e2, e3, e4⟩ := S
  have n1 : b ≠ a := fun q => (Exa.ne E e1 hC) q.symm
  have n2 : u ≠ a := (Exa.neArv E e4 wi).symm
  have n3 : b ≠ t := Exa.neArv e1 A ws
  have n4 : u ≠ t := hne u e3
  exact ⟨u, ku, e1.keep K, e2.keep K (ninS n1 (ninS n3 nin0)), e3.keep K (ninS n1 (ninS n3 nin0)), e4.keep K (ninS n2 (ninS n4 nin0))⟩
theorem shl0 (x : Int32) : x <<< ((0 : Int32) &&& 31) = x := by
  rw [shlm (m := 1) (by decide)]; simp
theorem add_len (n k : Nat) : n.toInt32 + k.toInt32 = (n + k).toInt32 := (Int32.ofNat_add n k).symm
theorem sub_len {n k : Nat} (q : k ≤ n) : n.toInt32 - k.toInt32 = (n - k).toInt32 := by
  have e := add_len (n - k) k
  rw [Nat.sub_add_cancel q] at e
  rw [← e, Int32.add_sub_cancel]
theorem le_len {n k : Nat} (hk : k < 2 ^ 31) (q : n ≤ k) : ¬ 0 < n.toInt32 - k.toInt32 := by
  have h1 := len_toInt (Nat.lt_of_le_of_lt q hk)
  have h2 := len_toInt hk
  have h3 := c_isub n.toInt32 k.toInt32
  have h4 := rng32 (n.toInt32 - k.toInt32)
  rw [h1, h2] at h3
  rw [Int32.lt_iff_toInt_lt]
  have e0 : (0 : Int32).toInt = 0 := rfl
  rw [e0]; omega
theorem len_ge {p q : Nat} (hp : p < 2 ^ 31) (hq : q < 2 ^ 31) (h : q ≤ p) (u : ¬ q.toInt32 < p.toInt32) : p.toInt32 = q.toInt32 := by
  rcases Nat.lt_or_ge q p with v | v
  · exact absurd (len_lt hp v) u
  · rw [Nat.le_antisymm v h]
theorem map_range {vs : List Value} {d : Value} {i n : Nat} (q : i + n ≤ vs.length) : (List.range n).map (fun k => vs.getD (i + k) d) = (vs.drop i).take n := by
  apply List.ext_getElem
  · simp; omega
  · intro j p1 p2
    have hj : i + j < vs.length := by simp at p1; omega
    simp [List.getD_eq_getElem?_getD, hj]
theorem by8_app : by8 (cs ++ ds) = by8 cs ++ by8 ds := by simp [by8]
theorem by8_take {n : Nat} : by8 (cs.take n) = (by8 cs).take n := by simp [by8, List.map_take]
theorem by8_drop {n : Nat} : by8 (cs.drop n) = (by8 cs).drop n := by simp [by8, List.map_drop]
/-- the chars ds put behind cs -/
theorem sb_put (q : cs.length + ds.length ≤ m) : (by8 cs ++ List.replicate (m - cs.length) (Value.int 0)).take cs.length ++ by8 ds ++ (by8 cs ++ List.replicate (m - cs.length) (Value.int 0)).drop (cs.length + ds.length) = by8 (cs ++ ds) ++ List.replicate (m - (cs ++ ds).length) (Value.int 0) := by
  have l : (by8 cs).length = cs.length := by8_len
  rw [List.take_append_of_le_length (by omega), List.take_of_length_le (by omega), List.drop_append, List.drop_of_length_le (by omega), List.nil_append, l, by8_app, List.length_append]
  congr 1
  rw [List.drop_replicate]
  congr 1
  omega
end Bld
end Jvm.OwnW
namespace Jvm.OwnW
open Sem ClassFile Op Lib Bundle Jvm.Stand Jvm.Free Jvm.LawKit Jvm.RoadKit
section More
variable {G : Gb} {B : Cx} {M : Mt} {Q : Option Value → Heap → (Addr → Prop) → Prop} {h : Heap} {sf : List Addr} {cells slots pc : Nat} {Ls : Array Slot} {st : List Value}
/-- 'getfield' over an entry that is resolved -/
theorem go_getfieldR (K : Kd G B M) {k ix : Nat} {O n d : String} {a : Addr} {v : Value} (hd : M.P[k]? = some (pc, .getfield ix, 3)) (w : Wd G (.fieldRef M.own ix O n d)) (F : Fld G.Z h a O n d v)
    (g : Go G B M Q h sf cells slots (pc + 3) Ls (v :: st)) : Go G B M Q h sf cells slots pc Ls (.ref a :: st) := by
  intro T vm0 k0 locs W
  obtain ⟨X, eT, hS, hk, hZ, hown, hF, hE, hC, hs⟩ := W
  have hW : G.Z.Warmed39 T.vm := wtrans hZ X.warmed
  have w' := Cond.fieldRef_warmed39 hW w
  have hcur : T.vm.findClass M.own = some B.m.cls := by
    rw [X.warmed.alike.findClass]; exact hown
  obtain ⟨c, k1, i, f, hi, hr⟩ := Cond.fieldRef_spec (cur := B.m.cls) (s := G.Z.setVm T.vm) hcur w'
  obtain ⟨cell, cf, k2, i2, f2, h1, h2, h3, h4, -, -, h7⟩ := F
  obtain ⟨k', hi', -⟩ := State.fieldFound?_setVm (s := G.Z) hW.alike h2
  cases hi.symm.trans hi'
  refine (g T vm0 k0 locs ⟨X, eT, hS, hk, hZ, hown, hF, hE, hC, hs⟩).pre (fun target hrest => ?_)
  have hd' := K.dec hd
  jvm_step X.here [K.1, hd', getfield.wp_ready (e := B.e) (s := T) (f := mkF B.m pc Ls (.ref a :: st)) X.here.top hr h3 rfl (show T.heap[a]? = some cell by rw [eT]; exact h1) h4 h7]
  exact hrest
/-- invokeinterface; the entry's own interface declares the method -/
theorem go_interfaceN (K : Kd G B M) {k ix cnt : Nat} {xi y : MethodName} {bytes : ByteArray} {maxL : Nat} {ret : Option FieldType} {rm : Room} {C : String} {a : Addr} {argsL rest : List Value} {ps : List FieldType} {rt : Option FieldType} {sf' : List Addr} {Qc : Option Value → Heap → (Addr → Prop) → Prop} (hd : M.P[k]? = some (pc, .invokeinterface ix cnt, 5))
    (w1 : Wd G (.methodLink M.own ix xi)) (w2 : Wd G (.declares xi)) (w3 : Wd G (.interfaceMethod xi.cls xi.cls xi.name xi.desc)) (w4 : Wd G (.selects C xi y)) (w5 : Wd G (.instanceMethod y)) (w6 : Wd G (.publicMethod y)) (w7 : Wd G (.unhidden C xi.name xi.desc)) (w8 : Wd G (.castable C xi.cls)) (w9 : Wd G (.initialized y.cls)) (w10 : Wd G (.code y bytes maxL ret)) (hfa : ((Jvm.Cond.interfaceMethod xi.cls xi.cls xi.name xi.desc).onTables && (Jvm.Cond.interfaceMethod xi.cls xi.cls xi.name xi.desc).keepsFace) = true)
    (hy : xi.cls ≠ "java/lang/invoke/MethodHandle" ∧ xi.cls ≠ "java/lang/invoke/VarHandle") (pd : parseMethodDescriptor xi.desc = some ⟨ps, rt⟩) (E : Exa G.Z h a C)
    (Ct : Ctr G [] y bytes maxL ret rm (.ref a :: argsL).toArray h sf' Qc) (hst : st = argsL.reverse ++ .ref a :: rest) (hlen : argsL.length = ps.length) (hsz : Ls.size = M.maxL) (hsub : ∀ x ∈ sf', x ∈ sf) (hrm : rok M.R rest maxL rm cells slots = true)
    (g : ∀ (v : Option Value) (h' : Heap) (Sf : Addr → Prop), h.size ≤ h'.size → Qc v h' Sf → ∃ nw : List Addr, (∀ x ∈ nw, Sf x) ∧ Go G B M Q h' (nw ++ sf) (cells + rm.cells) (slots + rm.slots) (pc + 5) Ls (v.toList ++ rest)) : Go G B M Q h sf cells slots pc Ls st := by
  intro T vm0 k0 locs W
  obtain ⟨r1, r2, r3, r4⟩ := rok_ok hrm
  obtain ⟨X, eT, hS, hk, hZ, hown, hF, hE, hC, hs⟩ := id W
  obtain ⟨cB, kB, i1, i2, i3⟩ := isOf (s := B.s.setVm vm0) hZ eT E
  subst hst
  exact call_on W (X.interfaceBackS K.1 hown (mv hZ w1) (mv hZ w2) (mv hZ w3 hfa) (mv hZ w4) (mv hZ w5) (mv hZ w6) (mv hZ w7) (mv hZ w8) hy (backG (W := (rest.map fun v => v.category).sum) Ct hZ w10 w9 r1 r2 K.2.2.2.2.2.2 hC.1 hE (fun x hx => hs x (hsub x hx))) i1 i2 i3 (g := mkF B.m pc Ls (argsL.reverse ++ .ref a :: rest)) rfl (hsz.trans K.2.2.1.symm) (Steps.refl _) (argsL := argsL) (rest := rest) (lenOf pd hlen) rfl (by show 2 * 0 + _ ≤ _; omega) (K.dec hd) (fun vm₁ _ => ⟨rfl, eT, r3, r4⟩)) g
theorem go_interface (K : Kd G B M) {k ix cnt : Nat} {xi y : MethodName} {bytes : ByteArray} {maxL : Nat} {ret : Option FieldType} {rm : Room} {C : String} {a : Addr} {argsL rest : List Value} {ps : List FieldType} {rt : Option FieldType} {sf' : List Addr} {Qc : Option Value → Heap → (Addr → Prop) → Prop} (hd : M.P[k]? = some (pc, .invokeinterface ix cnt, 5))
    (w1 : Wd G (.methodLink M.own ix xi)) (w2 : Wd G (.declares xi)) (w3 : Wd G (.interfaceMethod xi.cls xi.cls xi.name xi.desc)) (w4 : Wd G (.selects C xi y)) (w5 : Wd G (.instanceMethod y)) (w6 : Wd G (.publicMethod y)) (w7 : Wd G (.unhidden C xi.name xi.desc)) (w8 : Wd G (.castable C xi.cls)) (w9 : Wd G (.initialized y.cls)) (w10 : Wd G (.code y bytes maxL ret)) (hfa : ((Jvm.Cond.interfaceMethod xi.cls xi.cls xi.name xi.desc).onTables && (Jvm.Cond.interfaceMethod xi.cls xi.cls xi.name xi.desc).keepsFace) = true)
    (hy : xi.cls ≠ "java/lang/invoke/MethodHandle" ∧ xi.cls ≠ "java/lang/invoke/VarHandle") (pd : parseMethodDescriptor xi.desc = some ⟨ps, rt⟩) (E : Exa G.Z h a C)
    (Ct : Ctr G [] y bytes maxL ret rm (.ref a :: argsL).toArray h sf' Qc) (hst : st = argsL.reverse ++ .ref a :: rest) (hlen : argsL.length = ps.length) (hsz : Ls.size = M.maxL) (hsub : ∀ x ∈ sf', x ∈ sf) (hrm : rok M.R rest maxL rm cells slots = true)
    (g : ∀ (v : Option Value) (h' : Heap) (Sf : Addr → Prop), h.size ≤ h'.size → Qc v h' Sf → Go G B M Q h' sf (cells + rm.cells) (slots + rm.slots) (pc + 5) Ls (v.toList ++ rest)) : Go G B M Q h sf cells slots pc Ls st :=
  go_interfaceN K hd w1 w2 w3 w4 w5 w6 w7 w8 w9 w10 hfa hy pd E Ct hst hlen hsz hsub hrm fun v h' Sf z q => ⟨[], (fun _ u => nomatch u), g v h' Sf z q⟩
end More
theorem lt_len {i n : Nat} (hn : n < 2 ^ 31) (hi : i < 2 ^ 31) (q : i.toInt32 < n.toInt32) : i < n := by
  rcases Nat.lt_or_ge i n with u | u
  · exact u
  · exact absurd q (len_nlt hi u)
theorem lat_app {cs ds : List Int32} (p : Lat cs) (q : Lat ds) (hn : cs.length + ds.length ≤ 4000) : Lat (cs ++ ds) :=
  ⟨by rw [List.length_append]; exact hn, fun c hc => (List.mem_append.mp hc).elim (p.2 c) (q.2 c)⟩
theorem out_len (n k : Nat) : (n + (k + 1)).toInt32 = n.toInt32 + 1 + k.toInt32 := by
  rw [show n.toInt32 + 1 = (n + 1).toInt32 from add_len n 1, add_len]
  congr 1
  omega
theorem and3 (x : Int32) : x &&& 3 = 0 ∨ x &&& 3 = 1 ∨ x &&& 3 = 2 ∨ x &&& 3 = 3 := by
  have q := c_and x 3 (by decide)
  have h1 := rng32 (x &&& 3)
  have e3 : (3 : Int32).toInt = 3 := by decide
  rw [e3] at q
  have h2 : (x &&& 3).toInt = 0 ∨ (x &&& 3).toInt = 1 ∨ (x &&& 3).toInt = 2 ∨ (x &&& 3).toInt = 3 := by omega
  rcases h2 with u | u | u | u
  · exact Or.inl (Int32.toInt_inj.mp (u.trans (by decide)))
  · exact Or.inr (Or.inl (Int32.toInt_inj.mp (u.trans (by decide))))
  · exact Or.inr (Or.inr (Or.inl (Int32.toInt_inj.mp (u.trans (by decide)))))
  · exact Or.inr (Or.inr (Or.inr (Int32.toInt_inj.mp (u.trans (by decide)))))
end Jvm.OwnW
namespace Jvm.OwnW
open Sem ClassFile Op Lib Bundle Jvm.Stand Jvm.Free Jvm.LawKit Jvm.RoadKit
theorem len_small {s : State} {args : Array Value} {t : Term} {x : Addr} {cl : Cell} {v : Value} (ht : t.eval args s none [] s = some (.ref x)) (ha : s.arrayAt? x = some cl) (hl : (Term.length t).eval args s none [] s = some v) : cl.slots.size < 2 ^ 31 :=
  Decidable.byContradiction fun nq => by simp [Term.eval, ht, ha, nq] at hl
/-- a String that stands in the heap at the start, as a sheet's words say it -/
theorem str_start {G : Gb} {args : Array Value} {t : Term} {a : Addr} {cs : List Int32} (hf : Fit G.Z) (ev : t.eval args G.Z none [] G.Z = some (.ref a)) (hx : (Cond.exactly t "java/lang/String").value args G.Z none G.Z [] = some true)
    (hA : (Cond.arrayOf (.field t "java/lang/String" "value" "[B") .byte).value args G.Z none G.Z [] = some true) (hl : (Term.length (.field t "java/lang/String" "value" "[B")).eval args G.Z none [] G.Z = some (.int cs.length.toInt32))
    (hc : (Term.field t "java/lang/String" "coder" "B").eval args G.Z none [] G.Z = some (.int 0)) (hm : cs.length < 2 ^ 31)
    (he : ∀ (x : Addr) (cl : Cell), (Term.field t "java/lang/String" "value" "[B").eval args G.Z none [] G.Z = some (.ref x) → G.Z.heap[x]? = some cl → HasL cl 0 (by8 cs)) : Str G G.Z.heap a cs := by
  obtain ⟨x, ex⟩ := arr_v hA
  obtain ⟨cl, A⟩ := Arr.start ex hA
  have ha : G.Z.arrayAt? x = some cl := Arr.fin (Vm.Alike.refl _) A
  have q : cl.slots.size < 2 ^ 31 := Decidable.byContradiction fun nq => nq (len_small ex ha hl)
  have e : cl.slots.size.toInt32 = cs.length.toInt32 := by
    have u := (len_f ex ha q).symm.trans hl
    exact Value.int.inj (Option.some.inj u)
  refine ⟨x, cl.cls, Exa.start ev hx, Fld.start (by rw [← fld_at ev]; exact hc), Fld.start (by rw [← fld_at ev]; exact ex), Arv.start hf A q e (len_nn hm) (by rw [len_nat hm, by8_len]) (he x cl ex A.1)⟩
end Jvm.OwnW
namespace Jvm.OwnW
open Sem ClassFile Op Lib Bundle Jvm.Stand Jvm.Free Jvm.LawKit Jvm.RoadKit
theorem ushr1_nn (x : Int32) : 0 ≤ (XT.ushr x 1).toInt := by
  have q : (XT.ushr x 1).toInt = _ := c_iushr x 1 1 (by decide) (by decide)
  rw [q]
  exact Int.ediv_nonneg (Int.emod_nonneg _ (by decide)) (by decide)
theorem i32_eq {x : Int32} (k : Int32) (q : x.toInt = k.toInt) : x = k := Int32.toInt_inj.mp q
theorem rem4 (x : Int32) : XT.ushr x 1 % 4 = 0 ∨ XT.ushr x 1 % 4 = 1 ∨ XT.ushr x 1 % 4 = 2 ∨ XT.ushr x 1 % 4 = 3 := by
  have b := (c_irem (XT.ushr x 1) 4 4 (by decide)).1 (ushr1_nn x)
  rcases (by omega : (XT.ushr x 1).toInt % 4 = 0 ∨ (XT.ushr x 1).toInt % 4 = 1 ∨ (XT.ushr x 1).toInt % 4 = 2 ∨ (XT.ushr x 1).toInt % 4 = 3) with q | q | q | q
  · exact Or.inl (i32_eq 0 (b.trans q))
  · exact Or.inr (Or.inl (i32_eq 1 (b.trans q)))
  · exact Or.inr (Or.inr (Or.inl (i32_eq 2 (b.trans q))))
  · exact Or.inr (Or.inr (Or.inr (i32_eq 3 (b.trans q))))
theorem rem5 (x : Int32) : XT.ushr x 1 % 5 = 0 ∨ XT.ushr x 1 % 5 = 1 ∨ XT.ushr x 1 % 5 = 2 ∨ XT.ushr x 1 % 5 = 3 ∨ XT.ushr x 1 % 5 = 4 := by
  have b := (c_irem (XT.ushr x 1) 5 5 (by decide)).1 (ushr1_nn x)
  rcases (by omega : (XT.ushr x 1).toInt % 5 = 0 ∨ (XT.ushr x 1).toInt % 5 = 1 ∨ (XT.ushr x 1).toInt % 5 = 2 ∨ (XT.ushr x 1).toInt % 5 = 3 ∨ (XT.ushr x 1).toInt % 5 = 4) with q | q | q | q | q
  · exact Or.inl (i32_eq 0 (b.trans q))
  · exact Or.inr (Or.inl (i32_eq 1 (b.trans q)))
  · exact Or.inr (Or.inr (Or.inl (i32_eq 2 (b.trans q))))
  · exact Or.inr (Or.inr (Or.inr (Or.inl (i32_eq 3 (b.trans q)))))
  · exact Or.inr (Or.inr (Or.inr (Or.inr (i32_eq 4 (b.trans q)))))
end Jvm.OwnW
namespace Jvm.OwnW
open Sem ClassFile Op Lib Bundle Jvm.Stand Jvm.Free Jvm.LawKit Jvm.RoadKit
theorem url_len {us fs : List Int32} : (us ++ (35 : Int32) :: fs).length.toInt32 - fs.length.toInt32 - (1 : Int32) = us.length.toInt32 := by
  rw [sub_len (n := (us ++ (35 : Int32) :: fs).length) (k := fs.length) (by simp only [List.length_append, List.length_cons]; omega)]
  rw [show ((us ++ (35 : Int32) :: fs).length - fs.length).toInt32 - (1 : Int32) = ((us ++ (35 : Int32) :: fs).length - fs.length - 1).toInt32 from sub_len (k := 1) (by simp only [List.length_append, List.length_cons]; omega)]
  congr 1
  simp only [List.length_append, List.length_cons]
  omega
end Jvm.OwnW
namespace Jvm.OwnW
open Sem ClassFile Op Lib Bundle Jvm.Stand Jvm.Free Jvm.LawKit Jvm.RoadKit
section Cl
variable {G : Gb} {B : Cx} {M : Mt} {Q : Option Value → Heap → (Addr → Prop) → Prop} {h : Heap} {sf : List Addr} {cells slots pc : Nat} {Ls : Array Slot} {st : List Value}
theorem go_cast0 (K : Kd G B M) {k ix : Nat} (hd : M.P[k]? = some (pc, .checkcast ix, 3)) (g : Go G B M Q h sf cells slots (pc + 3) Ls (.null :: st)) : Go G B M Q h sf cells slots pc Ls (.null :: st) := by
  intro T vm0 k0 locs W
  exact (g T vm0 k0 locs W).pre fun target hr => W.1.checkcastNull K.1 (g := mkF B.m pc Ls (.null :: st)) rfl rfl (K.dec hd) target hr
/-- clone() of an array -/
theorem go_clone (K : Kd G B M) {k ix cap : Nat} {ad : String} {a : Addr} {kA : ClassId} {ty : FieldType} {z : Int32} {vs : List Value} {dv : Value} (hd : M.P[k]? = some (pc, .invokevirtual ix, 3))
    (w1 : Wd G (.methodLink M.own ix ⟨ad, "clone", "()Ljava/lang/Object;"⟩)) (w2 : Wd G (.sameMethod ad "java/lang/Object" "clone" "()Ljava/lang/Object;")) (w3 : Wd G (.native ⟨"java/lang/Object", "clone", "()Ljava/lang/Object;"⟩)) (w4 : Wd G (.instanceMethod ⟨"java/lang/Object", "clone", "()Ljava/lang/Object;"⟩))
    (w5 : Wd G (.selects ad ⟨ad, "clone", "()Ljava/lang/Object;"⟩ ⟨"java/lang/Object", "clone", "()Ljava/lang/Object;"⟩)) (w6 : Wd G (.castable ad "java/lang/Cloneable")) (A : Arv G.Z h a kA ty z vs dv) (E : Exa G.Z h a ad) (hsz : Ls.size = M.maxL)
    (hf : Nat.ble 1 M.R.frames = true) (hlo : Nat.ble ((st.map fun v => v.category).sum + 14) M.R.locals = true) (hcap : z.toNatClampNeg ≤ cap) (hc : Nat.ble (cells + 1) M.R.cells = true) (hl : Nat.ble (slots + cap) M.R.slots = true)
    (g : ∀ (h' : Heap) (b : Addr), b = h.size → G.Z.heap.size ≤ b → Ext h h' → Arv G.Z h' b kA ty z vs dv → Exa G.Z h' b ad → Go G B M Q h' (b :: sf) (cells + 1) (slots + cap) (pc + 3) Ls (.ref b :: st)) : Go G B M Q h sf cells slots pc Ls (.ref a :: st) := by
  intro T vm0 k0 locs W
  obtain ⟨X, eT, hS, hk, hZ, hown, hF, hE, hC, hs⟩ := W
  obtain ⟨cl, A1, q1, S, q3, H, Gf⟩ := A
  have FC : FitC G.Z cl := fitC_of A1 fun i hi v hv => by rw [H i hi] at hv; cases hv; exact Gf i hi
  obtain ⟨T', h', X', e', E', A2, E2, st'⟩ := cloneA X K.1 hZ hown w1 w2 w3 w4 w5 w6 eT A1 E FC (g := mkF B.m pc Ls (.ref a :: st)) rfl (hsz.trans K.2.2.1.symm) rfl (K.dec hd) (Nat.le_of_ble_eq_true hf) (W := (st.map fun v => v.category).sum) (by show 2 * 0 + _ ≤ _; omega) (Nat.le_of_ble_eq_true hlo) (by rw [S]; exact hcap) (Nat.le_of_ble_eq_true hc) (Nat.le_of_ble_eq_true hl)
  refine (g h' h.size rfl hE.1 E' ⟨cloneOf cl, A2, q1, S, q3, H, Gf⟩ E2 T' vm0 k0 locs ⟨X', e', hS, Nat.le_trans hk E'.1, hZ, hown, hF, ⟨Nat.le_trans hE.1 E'.1, fun x c q => E'.2 x c (hE.2 x c q)⟩, hC.trans (CHr.ext E' hC.1), fun x hx => ?_⟩).pre st'
  rcases List.mem_cons.mp hx with rfl | hx
  · exact ⟨Safe.ext E' hC.1 (Safe.new (Nat.le_refl _)), A2.lt⟩
  · exact ⟨Safe.ext E' hC.1 (hs x hx).1, Nat.lt_of_lt_of_le (hs x hx).2 E'.1⟩
/-- a char[] of n chars below 256, whichever -/
def Cz (G : Gb) (h : Heap) (a : Addr) (kA : ClassId) (n : Nat) : Prop := ∃ xs : List Int32, xs.length = n ∧ (∀ c ∈ xs, ¬ c < 0 ∧ ¬ (255 : Int32) < c) ∧ Arv G.Z h a kA .char n.toInt32 (xs.map Value.int) (.int 0)
theorem Cz.ext {h' : Heap} {a : Addr} {kA : ClassId} {n : Nat} (C : Cz G h a kA n) (E : Ext h h') : Cz G h' a kA n := by
  obtain ⟨xs, l, r, A⟩ := C
  exact ⟨xs, l, r, A.ext E⟩
theorem go_castoreZ (K : Kd G B M) {k n : Nat} {a : Addr} {kA : ClassId} {j x : Int32} (hd : M.P[k]? = some (pc, .castore, 1)) (A : Cz G h a kA n) (hj : ¬ j < 0 ∧ j < n.toInt32) (hn : n < 2 ^ 31) (ha : G.Z.heap.size ≤ a) (hx : ¬ x < 0 ∧ ¬ (255 : Int32) < x)
    (g : ∀ h' : Heap, Wr h h' a j.toNatClampNeg (.int (nar .char x)) → Cz G h' a kA n → Go G B M Q h' sf cells slots (pc + 1) Ls st) : Go G B M Q h sf cells slots pc Ls (.int x :: .int j :: .ref a :: st) := by
  obtain ⟨xs, l, r, A⟩ := A
  have hjn : j.toNatClampNeg < n := by
    have h1 := Int32.lt_iff_toInt_lt.mp hj.2
    have h2 : ¬ j.toInt < 0 := fun q => hj.1 (Int32.lt_iff_toInt_lt.mpr q)
    rw [len_toInt hn] at h1
    simp only [Int32.toNatClampNeg]
    omega
  refine go_castore K hd A hj rfl (by rw [List.length_map, l]; exact hjn) ha fun h' W A' => g h' W ⟨xs.set j.toNatClampNeg x, by rw [List.length_set, l], fun c hc => ?_, ?_⟩
  · rcases List.mem_or_eq_of_mem_set hc with hc | rfl
    · exact r c hc
    · exact hx
  · rw [nar_id hx] at A'
    rw [List.map_set]
    exact A'
end Cl
end Jvm.OwnW
namespace Jvm.OwnW
theorem len8 {xs : List Int32} (q : xs.length = 8) : ∃ x0 x1 x2 x3 x4 x5 x6 x7, xs = [x0, x1, x2, x3, x4, x5, x6, x7] := by
  match xs, q with
  | [x0, x1, x2, x3, x4, x5, x6, x7], _ => exact ⟨x0, x1, x2, x3, x4, x5, x6, x7, rfl⟩
/-- the role that a label names -/
def lbl (W D P : List Int32) (b0 b1 b2 : Addr) (cs : List Int32) : Value := if cs = W then .ref b0 else if cs = D then .ref b1 else if cs = P then .ref b2 else .null
theorem lbl0 {W D P cs : List Int32} {b0 b1 b2 : Addr} (q : cs = W) : lbl W D P b0 b1 b2 cs = .ref b0 := if_pos q
theorem lbl1 {W D P cs : List Int32} {b0 b1 b2 : Addr} (n : ¬ cs = W) (q : cs = D) : lbl W D P b0 b1 b2 cs = .ref b1 := (if_neg n).trans (if_pos q)
theorem lbl2 {W D P cs : List Int32} {b0 b1 b2 : Addr} (n : ¬ cs = W) (n1 : ¬ cs = D) (q : cs = P) : lbl W D P b0 b1 b2 cs = .ref b2 := (if_neg n).trans ((if_neg n1).trans (if_pos q))
theorem lbl3 {W D P cs : List Int32} {b0 b1 b2 : Addr} (n : ¬ cs = W) (n1 : ¬ cs = D) (n2 : ¬ cs = P) : lbl W D P b0 b1 b2 cs = .null := (if_neg n).trans ((if_neg n1).trans (if_neg n2))
end Jvm.OwnW
namespace Jvm.OwnW
open Sem ClassFile Op Lib Bundle Jvm.Stand Jvm.Free Jvm.LawKit Jvm.RoadKit
theorem mod_in {x : Int32} {n : Nat} (h1 : 1 ≤ n) (h6 : n ≤ 6) : ¬ (x &&& 2147483647) % n.toInt32 < 0 ∧ (x &&& 2147483647) % n.toInt32 < (8 : Nat).toInt32 := by
  have a := (c_and x 2147483647 (by decide)).1
  have e : n.toInt32.toInt = n := len_toInt (by omega)
  have b := (c_irem (x &&& 2147483647) n.toInt32 n e).1 a
  have e8 : ((8 : Nat).toInt32).toInt = 8 := by decide
  have e0 : (0 : Int32).toInt = 0 := by decide
  simp only [Int32.lt_iff_toInt_lt, b, e8, e0]
  have p1 := Int.emod_nonneg (x &&& 2147483647).toInt (show (n : Int) ≠ 0 by omega)
  have p2 := Int.emod_lt_of_pos (x &&& 2147483647).toInt (show (0 : Int) < n by omega)
  omega
theorem eqv_r {Z : State} {args : Array Value} {X F : Term} {b : Addr} (hF : F.eval args Z none [] Z = some (.ref b)) (h : (Cond.eq X F).value args Z none Z [] = some true) : X.eval args Z none [] Z = some (.ref b) := by
  simp only [Cond.value, hF] at h
  cases hx : X.eval args Z none [] Z with
  | none => simp [hx] at h
  | some x => cases x <;> simp [hx] at h ⊢ <;> exact h
theorem arr3_start {G : Gb} {args : Array Value} {t : Term} {a : Addr} {ty : FieldType} {v0 v1 v2 : Value} (hf : Fit G.Z) (ev : t.eval args G.Z none [] G.Z = some (.ref a)) (hA : (Cond.arrayOf t ty).value args G.Z none G.Z [] = some true) (hl : (Term.length t).eval args G.Z none [] G.Z = some (.int 3))
    (e0 : (Term.elem t (.int 0)).eval args G.Z none [] G.Z = some v0) (e1 : (Term.elem t (.int 1)).eval args G.Z none [] G.Z = some v1) (e2 : (Term.elem t (.int 2)).eval args G.Z none [] G.Z = some v2) : ∃ k, Arv G.Z G.Z.heap a k ty (3 : Int32) [v0, v1, v2] .null := by
  obtain ⟨cl, A⟩ := Arr.start ev hA
  have ha : G.Z.arrayAt? a = some cl := Arr.fin (Vm.Alike.refl _) A
  have q : cl.slots.size < 2 ^ 31 := Decidable.byContradiction fun nq => by simp [Term.eval, ev, ha, nq] at hl
  have e : cl.slots.size.toInt32 = 3 := Value.int.inj (Option.some.inj ((len_f ev ha q).symm.trans hl))
  exact ⟨cl.cls, Arv.start hf A q e (by decide) rfl ⟨(elem_in e0 ev (Term.int_eval 0) A.1).2, (elem_in e1 ev (Term.int_eval 1) A.1).2, (elem_in e2 ev (Term.int_eval 2) A.1).2, trivial⟩⟩
end Jvm.OwnW
namespace Jvm.OwnW
open Sem ClassFile Op Lib Bundle Jvm.Stand Jvm.Free Jvm.LawKit Jvm.RoadKit
section Gr
variable {G : Gb} {B : Cx} {M : Mt} {Q : Option Value → Heap → (Addr → Prop) → Prop} {h h1 : Heap} {sf : List Addr} {cells slots pc : Nat} {Ls : Array Slot} {st : List Value} {a t : Addr} {kb : ClassId} {cs ds : List Int32} {m : Nat}
/-- 'newarray', the array's class known by its name too -/
theorem go_newarrayE (K : Kd G B M) {k cap : Nat} {aty : ArrayType} {n : Int32} {ad : String} (hd : M.P[k]? = some (pc, .newarray aty, 2)) (w : Wd G (.arrayClass (newarray.typeOf aty))) (had : "[" ++ (newarray.typeOf aty).toString = ad) (hn : ¬ n < 0) (hcap : n.toNatClampNeg ≤ cap) (hb : Nat.ble (cap * 8) 536870912 = true) (hc : Nat.ble (cells + 1) M.R.cells = true) (hl : Nat.ble (slots + cap) M.R.slots = true)
    (g : ∀ (h' : Heap) (a : Addr) (kA : ClassId), a = h.size → G.Z.heap.size ≤ a → Ext h h' → Arv G.Z h' a kA (newarray.typeOf aty) n [] (defaultValue (newarray.typeOf aty)) → Exa G.Z h' a ad → Go G B M Q h' (a :: sf) (cells + 1) (slots + cap) (pc + 2) Ls (.ref a :: st)) : Go G B M Q h sf cells slots pc Ls (.int n :: st) := by
  intro T vm0 k0 locs W
  obtain ⟨X, eT, hS, hk, hZ, hown, hF, hE, hC, hs⟩ := W
  obtain ⟨T', h', cA, X', e', E', A', E2, st'⟩ := newPE X K.1 hZ w eT (g := mkF B.m pc Ls (.int n :: st)) rfl (K.dec hd) rfl hn hcap (Nat.le_of_ble_eq_true hb) (Nat.le_of_ble_eq_true hc) (Nat.le_of_ble_eq_true hl) had
  refine (g h' h.size cA rfl hE.1 E' (Arv.new A' hn) E2 T' vm0 k0 locs ⟨X', e', hS, Nat.le_trans hk E'.1, hZ, hown, hF, ⟨Nat.le_trans hE.1 E'.1, fun x c q => E'.2 x c (hE.2 x c q)⟩, hC.trans (CHr.ext E' hC.1), fun x hx => ?_⟩).pre st'
  rcases List.mem_cons.mp hx with rfl | hx
  · exact ⟨Safe.ext E' hC.1 (Safe.new (Nat.le_refl _)), A'.lt⟩
  · exact ⟨Safe.ext E' hC.1 (hs x hx).1, Nat.lt_of_lt_of_le (hs x hx).2 E'.1⟩
/-- a builder whose array is a byte[] by its class's name -/
def Sx (G : Gb) (h : Heap) (a t : Addr) (kb : ClassId) (cs : List Int32) (m : Nat) : Prop := Sb G h a t kb cs m ∧ Exa G.Z h t "[B"
theorem Sx.ext (S : Sx G h a t kb cs m) (E : Ext h h1) : Sx G h1 a t kb cs m := ⟨S.1.ext E, Exa.ext E S.2⟩
theorem Sx.exa (S : Sx G h a t kb cs m) : Exa G.Z h a "java/lang/StringBuilder" := S.1.1
end Gr
/-- the bytes behind the grown array's first part -/
theorem grow_list {cs : List Int32} (q : cs.length ≤ 16) : (List.replicate 34 (Value.int 0)).take 0 ++ (by8 cs ++ List.replicate (16 - cs.length) (Value.int 0)) ++ (List.replicate 34 (Value.int 0)).drop (0 + 16) = by8 cs ++ List.replicate (34 - cs.length) (Value.int 0) := by
  rw [List.take_zero, List.nil_append, List.append_assoc, List.drop_replicate, List.replicate_append_replicate]
  congr 2
  omega
end Jvm.OwnW
namespace Jvm.OwnW
theorem i32_anti {x y : Int32} (p : ¬ x < y) (q : ¬ y < x) : x = y := by
  rw [Int32.lt_iff_toInt_lt] at p q
  exact Int32.toInt_inj.mp (by omega)
theorem gt_len {n k : Nat} (hn : n < 2 ^ 31) (q : k < n) : 0 < n.toInt32 - k.toInt32 := by
  rw [sub_len (Nat.le_of_lt q)]
  exact len_lt (i := 0) (by omega) (by omega)
theorem hm34 {m : Nat} (q : m = 16 ∨ m = 34) : m ≤ 34 := by omega
end Jvm.OwnW
namespace Jvm.OwnW
open Sem ClassFile Op Lib Bundle Jvm.Stand Jvm.Free Jvm.LawKit Jvm.RoadKit
section Ne
variable {G : Gb} {B : Cx} {M : Mt} {Q : Option Value → Heap → (Addr → Prop) → Prop} {h : Heap} {sf : List Addr} {cells slots pc : Nat} {Ls : Array Slot} {st : List Value}
theorem mvM {Z s : State} {a0 args : Array Value} {own host : String} {y : MethodName} {index : Nat} (hZ : Z.Warmed39 s.vm) (w : (Cond.methodLinkNest own index y host).before a0 Z = true) : (Cond.methodLinkNest own index y host).before args s = true := (Cond.methodLinkNest_wide hZ w :)
/-- invokestatic of a nest-mate's method -/
theorem go_staticM (K : Kd G B M) {k ix : Nat} {y : MethodName} {host : String} {bytes : ByteArray} {maxL : Nat} {ret : Option FieldType} {rm : Room} {argsL rest : List Value} {ps : List FieldType} {rt : Option FieldType} {sf' : List Addr} {Qc : Option Value → Heap → (Addr → Prop) → Prop} (hd : M.P[k]? = some (pc, .invokestatic ix, 3))
    (w1 : Wd G (.methodLinkNest M.own ix y host)) (w2 : Wd G (.static y)) (w3 : Wd G (.initialized y.cls)) (w4 : Wd G (.code y bytes maxL ret)) (hy : y.cls ≠ "java/lang/invoke/MethodHandle" ∧ y.cls ≠ "java/lang/invoke/VarHandle") (pd : parseMethodDescriptor y.desc = some ⟨ps, rt⟩)
    (C : Ctr G [] y bytes maxL ret rm argsL.toArray h sf' Qc) (hst : st = argsL.reverse ++ rest) (hlen : argsL.length = ps.length) (hsz : Ls.size = M.maxL) (hsub : ∀ x ∈ sf', x ∈ sf) (hrm : rok M.R rest maxL rm cells slots = true)
    (g : ∀ (v : Option Value) (h' : Heap) (Sf : Addr → Prop), h.size ≤ h'.size → Qc v h' Sf → Go G B M Q h' sf (cells + rm.cells) (slots + rm.slots) (pc + 3) Ls (v.toList ++ rest)) : Go G B M Q h sf cells slots pc Ls st := by
  intro T vm0 k0 locs W
  obtain ⟨r1, r2, r3, r4⟩ := rok_ok hrm
  obtain ⟨X, eT, hS, hk, hZ, hown, hF, hE, hC, hs⟩ := id W
  subst hst
  exact call_on W (callSNS X K.1 hown (mvM hZ w1) (mv hZ w2) (mv hZ w3) (mv hZ w4) hy (backG (W := (rest.map fun v => v.category).sum) C hZ w4 w3 r1 r2 K.2.2.2.2.2.2 hC.1 hE (fun x hx => hs x (hsub x hx))) (g := mkF B.m pc Ls (argsL.reverse ++ rest)) rfl (hsz.trans K.2.2.1.symm) (argsL := argsL) (rest := rest) (lenOf pd hlen) rfl (by show 2 * 0 + _ ≤ _; omega) (K.dec hd) (fun vm₁ _ => ⟨rfl, eT, r3, r4⟩)) (fun v h' Sf z q => ⟨[], (fun _ u => nomatch u), g v h' Sf z q⟩)
end Ne
/-- what CType.declaring gives -/
def dec (xs ds : List Int32) : List Int32 := if ds = [] then xs else xs ++ (32 : Int32) :: ds
end Jvm.OwnW
namespace Jvm.OwnW
theorem go_mono {G : Gb} {B : Cx} {M : Mt} {Q : Option Value → Heap → (Addr → Prop) → Prop} {h : Heap} {sf : List Addr} {cells slots cells' slots' pc : Nat} {Ls : Array Slot} {st : List Value} (g : Go G B M Q h sf cells' slots' pc Ls st) (hc : cells ≤ cells') (hn : slots ≤ slots') : Go G B M Q h sf cells slots pc Ls st := by
  intro T vm0 k0 locs W
  obtain ⟨X, r⟩ := W
  exact g T vm0 k0 locs ⟨X.mono hc hn, r⟩
/-- the int on the stack's top, said otherwise -/
theorem go_top {G : Gb} {B : Cx} {M : Mt} {Q : Option Value → Heap → (Addr → Prop) → Prop} {h : Heap} {sf : List Addr} {cells slots pc : Nat} {Ls : Array Slot} {st : List Value} {x y : Int32} (e : x = y) (g : Go G B M Q h sf cells slots pc Ls (.int y :: st)) : Go G B M Q h sf cells slots pc Ls (.int x :: st) := by
  rw [e]; exact g
end Jvm.OwnW

namespace Jvm.Pilot.@@N@@
open Jvm Jvm.ClassFile Sem Op Lib Jvm.Free Jvm.Stand Jvm.LawKit Jvm.RoadKit Bundle Jvm.OwnW Jvm.Pilot.@@N@@.Jvm.D
abbrev els : List (String × Nat) := consts_1
theorem pd_0 : parseMethodDescriptor "([CI[BII)I" = some ⟨[(.array .char), .int, (.array .byte), .int, .int], (some .int)⟩ := by decide +kernel
theorem pd_1 : parseMethodDescriptor "([CII)[B" = some ⟨[(.array .char), .int, .int], (some (.array .byte))⟩ := by decide +kernel
theorem pd_2 : parseMethodDescriptor "([BI)B" = some ⟨[(.array .byte), .int], (some .byte)⟩ := by decide +kernel
theorem pd_3 : parseMethodDescriptor "([CIILjava/lang/Void;)V" = some ⟨[(.array .char), .int, .int, (.object "java/lang/Void")], none⟩ := by decide +kernel
theorem pd_4 : parseMethodDescriptor "()B" = some ⟨[], (some .byte)⟩ := by decide +kernel
theorem pd_5 : parseMethodDescriptor "(II)V" = some ⟨[.int, .int], none⟩ := by decide +kernel
theorem pd_6 : parseMethodDescriptor "(II)I" = some ⟨[.int, .int], (some .int)⟩ := by decide +kernel
theorem pd_7 : parseMethodDescriptor "([BII)[B" = some ⟨[(.array .byte), .int, .int], (some (.array .byte))⟩ := by decide +kernel
theorem pd_8 : parseMethodDescriptor "(III)I" = some ⟨[.int, .int, .int], (some .int)⟩ := by decide +kernel
theorem pd_9 : parseMethodDescriptor "(I)I" = some ⟨[.int], (some .int)⟩ := by decide +kernel
theorem pd_10 : parseMethodDescriptor "([BI)[B" = some ⟨[(.array .byte), .int], (some (.array .byte))⟩ := by decide +kernel
theorem pd_11 : parseMethodDescriptor "(Ljava/lang/String;)V" = some ⟨[(.object "java/lang/String")], none⟩ := by decide +kernel
theorem pd_12 : parseMethodDescriptor "([BIB)V" = some ⟨[(.array .byte), .int, .byte], none⟩ := by decide +kernel
theorem pd_13 : parseMethodDescriptor "()I" = some ⟨[], (some .int)⟩ := by decide +kernel
theorem pd_14 : parseMethodDescriptor "(I)V" = some ⟨[.int], none⟩ := by decide +kernel
theorem pd_15 : parseMethodDescriptor "(ILjava/lang/String;)V" = some ⟨[.int, (.object "java/lang/String")], none⟩ := by decide +kernel
theorem pd_16 : parseMethodDescriptor "(Ljava/lang/String;)Ljava/lang/AbstractStringBuilder;" = some ⟨[(.object "java/lang/String")], (some (.object "java/lang/AbstractStringBuilder"))⟩ := by decide +kernel
theorem pd_17 : parseMethodDescriptor "()[B" = some ⟨[], (some (.array .byte))⟩ := by decide +kernel
theorem pd_18 : parseMethodDescriptor "()Z" = some ⟨[], (some .boolean)⟩ := by decide +kernel
theorem pd_19 : parseMethodDescriptor "(Ljava/lang/AbstractStringBuilder;Ljava/lang/Void;)V" = some ⟨[(.object "java/lang/AbstractStringBuilder"), (.object "java/lang/Void")], none⟩ := by decide +kernel
theorem pd_20 : parseMethodDescriptor "(Ljava/lang/StringBuilder;)V" = some ⟨[(.object "java/lang/StringBuilder")], none⟩ := by decide +kernel
theorem pd_21 : parseMethodDescriptor "(IILjava/util/function/BiFunction;)I" = some ⟨[.int, .int, (.object "java/util/function/BiFunction")], (some .int)⟩ := by decide +kernel
theorem pd_22 : parseMethodDescriptor "([BI)C" = some ⟨[(.array .byte), .int], (some .char)⟩ := by decide +kernel
theorem pd_23 : parseMethodDescriptor "()V" = some ⟨[], none⟩ := by decide +kernel
theorem pd_24 : parseMethodDescriptor "([C)V" = some ⟨[(.array .char)], none⟩ := by decide +kernel
theorem pd_25 : parseMethodDescriptor "(Ljava/lang/String;)Ljava/lang/StringBuilder;" = some ⟨[(.object "java/lang/String")], (some (.object "java/lang/StringBuilder"))⟩ := by decide +kernel
theorem pd_26 : parseMethodDescriptor "()Ljava/lang/String;" = some ⟨[], (some (.object "java/lang/String"))⟩ := by decide +kernel
theorem pd_27 : parseMethodDescriptor "(Ljava/lang/String;Ljava/lang/String;)Ljava/lang/String;" = some ⟨[(.object "java/lang/String"), (.object "java/lang/String")], (some (.object "java/lang/String"))⟩ := by decide +kernel
theorem pd_28 : parseMethodDescriptor "(I)C" = some ⟨[.int], (some .char)⟩ := by decide +kernel
theorem pd_29 : parseMethodDescriptor "(Ljava/lang/String;ILjava/lang/String;I)Z" = some ⟨[(.object "java/lang/String"), .int, (.object "java/lang/String"), .int], (some .boolean)⟩ := by decide +kernel
theorem pd_30 : parseMethodDescriptor "(ICCC)Ljava/lang/String;" = some ⟨[.int, .char, .char, .char], (some (.object "java/lang/String"))⟩ := by decide +kernel
theorem pd_31 : parseMethodDescriptor "(Ljava/lang/String;Ljava/lang/String;)V" = some ⟨[(.object "java/lang/String"), (.object "java/lang/String")], none⟩ := by decide +kernel
theorem pd_32 : parseMethodDescriptor "(Ljava/lang/String;)Ljava/lang/String;" = some ⟨[(.object "java/lang/String")], (some (.object "java/lang/String"))⟩ := by decide +kernel
theorem pd_33 : parseMethodDescriptor "(Ljava/lang/String;ILjava/lang/String;)Z" = some ⟨[(.object "java/lang/String"), .int, (.object "java/lang/String")], (some .boolean)⟩ := by decide +kernel
theorem pn_0 : plainName "java/lang/StringUTF16" = true := by first | (simp [plainName, overriddenIn]; done) | decide +kernel
def P_cfal : List (Nat × Instr × Nat) := [(0, .iload_n 1, 1), (1, .aload_n 0, 1), (2, .arraylength, 1), (3, .isub, 1), (4, .bipush 31, 2), (6, .iushr, 1), (7, .i2b, 1), (8, .ireturn, 1)]
theorem L_cfal : ∀ q ∈ P_cfal, decode jdk_52_method_15_code q.1 = .ok q.2 := by decide +kernel
def M_cfal : Mt := (("java/lang/StringUTF16", "coderFromArrayLen", ({ frames := 0, cells := 0, slots := 0, locals := 0 } : Room)), P_cfal, 2, (some .byte))
set_option maxRecDepth 65536 in
set_option maxHeartbeats 40000000 in
theorem c_cfal {G : Gb} (H : Gl tables_1 els G) {h : Heap} {t : Addr} {kb : ClassId} {n : Int32} {vs : List Value} {dv : Value} (A : Arv G.Z h t kb .byte n vs dv) :
    Ctr G [] (⟨"java/lang/StringUTF16", "coderFromArrayLen", "([BI)B"⟩ : MethodName) jdk_52_method_15_code 2 (some .byte) ({ frames := 0, cells := 0, slots := 0, locals := 0 } : Room) #[.ref t, .int n] h [] (fun v h' Sf => v = some (.int 0) ∧ h = h') := by
  refine ctr_of M_cfal rfl rfl (plainFor_of_name pn_0) L_cfal H.el (Ls := #[.val (.ref t), .val (.int n)]) (fun m => ef_ok (by show argsToLocals _ 2 = _; first | (simp [argsToLocals, Value.category]; done) | rfl)) ?_
  intro B K hE
  refine go_run K 0 2 (pc' := 2) (st' := [(.ref t), (.int n)]) rfl ?_
  refine go_arraylength K (k := 2) rfl A ?_
  refine go_run K 3 4 (pc' := 8) (st' := [(.int ((XT.ushr (n - n) (Int8.ofInt 31).toInt32)).toInt8.toInt32)]) rfl ?_
  rw [show ((XT.ushr (n - n) (Int8.ofInt 31).toInt32)).toInt8.toInt32 = (0 : Int32) from by rw [Int32.sub_self]; decide]
  refine go_ireturn K (k := 7) rfl rfl (by decide) rfl rfl rfl ?_
  intro Sf hSf
  exact ⟨rfl, rfl⟩
def P_cmp5 : List (Nat × Instr × Nat) := [(0, .iconst 0, 1), (1, .istore 5, 2), (3, .iload 5, 2), (5, .iload 4, 2), (7, .if_icmp .ge 37, 3), (10, .aload_n 0, 1), (11, .iload_n 1, 1), (12, .caload, 1), (13, .istore 6, 2), (15, .iload 6, 2), (17, .sipush 255, 3), (20, .if_icmp .le 6, 3), (23, .iload 5, 2), (25, .ireturn, 1), (26, .aload_n 2, 1), (27, .iload_n 3, 1), (28, .iload 6, 2), (30, .i2b, 1), (31, .bastore, 1), (32, .iinc 1 1, 3), (35, .iinc 3 1, 3), (38, .iinc 5 1, 3), (41, .goto (-38), 3), (44, .iload 4, 2), (46, .ireturn, 1)]
theorem L_cmp5 : ∀ q ∈ P_cmp5, decode jdk_52_method_21_code q.1 = .ok q.2 := by decide +kernel
def M_cmp5 : Mt := (("java/lang/StringUTF16", "compress", ({ frames := 0, cells := 0, slots := 0, locals := 0 } : Room)), P_cmp5, 7, (some .int))
set_option maxRecDepth 65536 in
set_option maxHeartbeats 40000000 in
theorem c_cmp5 {G : Gb} (H : Gl tables_1 els G) {h : Heap} {ca da : Addr} {kc kd : ClassId} {cs : List Int32} (hl : Lat cs) (Ac : Arv G.Z h ca kc .char cs.length.toInt32 (cs.map Value.int) (.int 0)) (Ad : Arv G.Z h da kd .byte cs.length.toInt32 (List.replicate cs.length (.int 0)) (.int 0)) (hd : G.Z.heap.size ≤ da) :
    Ctr G [] (⟨"java/lang/StringUTF16", "compress", "([CI[BII)I"⟩ : MethodName) jdk_52_method_21_code 7 (some .int) ({ frames := 0, cells := 0, slots := 0, locals := 0 } : Room) #[.ref ca, .int 0, .ref da, .int 0, .int cs.length.toInt32] h [da] (fun v h' Sf => v = some (.int cs.length.toInt32) ∧ Keep h h' [da] ∧ Arv G.Z h' da kd .byte cs.length.toInt32 (by8 cs) (.int 0)) := by
  refine ctr_of M_cmp5 rfl rfl (plainFor_of_name pn_0) L_cmp5 H.el (Ls := #[.val (.ref ca), .val (.int (0 : Int32)), .val (.ref da), .val (.int (0 : Int32)), .val (.int cs.length.toInt32), .unset, .unset]) (fun m => ef_ok (by show argsToLocals _ 7 = _; first | (simp [argsToLocals, Value.category]; done) | rfl)) ?_
  intro B K hE
  have hlt := lat_lt hl
  refine go_run K 0 2 (pc' := 3) (Ls' := #[.val (.ref ca), .val (.int (0 : Int32)), .val (.ref da), .val (.int (0 : Int32)), .val (.int cs.length.toInt32), .val (.int (0 : Int32)), .unset]) (st' := []) rfl ?_
  have loop : ∀ (k i : Nat) (h1 : Heap) (o : Slot), i + k = cs.length → Keep h h1 [da] → Arv G.Z h1 ca kc .char cs.length.toInt32 (cs.map Value.int) (.int 0) → Arv G.Z h1 da kd .byte cs.length.toInt32 (by8 (cs.take i) ++ List.replicate k (.int 0)) (.int 0) → (o = .unset ∨ ∃ w, o = .val (.int w)) →
      Go G B M_cmp5 (fun v h' Sf => v = some (.int cs.length.toInt32) ∧ Keep h h' [da] ∧ Arv G.Z h' da kd .byte cs.length.toInt32 (by8 cs) (.int 0)) h1 [da] 0 0 3 #[.val (.ref ca), .val (.int i.toInt32), .val (.ref da), .val (.int i.toInt32), .val (.int cs.length.toInt32), .val (.int i.toInt32), o] [] := by
    intro k; induction k with
    | zero =>
      intro i h1 o hi hK Ac Ad ho
      refine go_run K 2 2 (pc' := 7) (st' := [(.int cs.length.toInt32), (.int i.toInt32)]) rfl ?_
      refine go_icmpge K (k := 4) rfl (pc' := 44) (by decide) (fun _ => ?_) (fun q => absurd q (len_nlt (by omega) (by omega)))
      refine go_run K 23 1 (pc' := 46) (st' := [(.int cs.length.toInt32)]) rfl ?_
      refine go_ireturn K (k := 24) rfl rfl (by decide) rfl rfl rfl ?_
      intro Sf hSf
      refine ⟨rfl, hK, ?_⟩
      rw [List.replicate_zero, List.append_nil, List.take_of_length_le (by omega)] at Ad
      exact Ad
    | succ k ih =>
      intro i h1 o hi hK Ac Ad ho
      have hin : i < cs.length := by omega
      have hc := hl.2 _ (List.getElem_mem hin)
      refine go_run K 2 2 (pc' := 7) (st' := [(.int cs.length.toInt32), (.int i.toInt32)]) rfl ?_
      refine go_icmpge K (k := 4) rfl (pc' := 44) (by decide) (fun q => absurd (len_lt hlt hin) q) (fun _ => ?_)
      refine go_run K 5 2 (pc' := 12) (st' := [(.int i.toInt32), (.ref ca)]) rfl ?_
      refine go_caload K (k := 7) rfl Ac ⟨len_nn (by omega), len_lt hlt hin⟩ (v := .int cs[i]) (by rw [len_nat (by omega)]; exact get_map hin) ?_
      obtain rfl | ⟨w0, rfl⟩ := ho
      all_goals
        refine go_run K 8 3 (pc' := 20) (Ls' := #[.val (.ref ca), .val (.int i.toInt32), .val (.ref da), .val (.int i.toInt32), .val (.int cs.length.toInt32), .val (.int i.toInt32), .val (.int cs[i])]) (st' := [(.int (255 : Int32)), (.int cs[i])]) rfl ?_
        refine go_icmple K (k := 11) rfl (pc' := 26) (by decide) (fun _ => ?_) (fun q => absurd q hc.2)
        refine go_run K 14 4 (pc' := 31) (st' := [(.int (cs[i]).toInt8.toInt32), (.int i.toInt32), (.ref da)]) rfl ?_
        refine go_bastore K (k := 18) rfl Ad (i := i) ⟨len_nn (by omega), len_lt hlt hin⟩ (len_nat (by omega)) (by rw [List.length_append, by8_len, List.length_take, List.length_replicate]; omega) hd (List.mem_cons_self ..) ?_
        intro h1 W2 A3
        refine go_run K 19 4 (pc' := 3) (Ls' := #[.val (.ref ca), .val (.int (i.toInt32 + Int32.ofInt 1)), .val (.ref da), .val (.int (i.toInt32 + Int32.ofInt 1)), .val (.int cs.length.toInt32), .val (.int (i.toInt32 + Int32.ofInt 1)), .val (.int cs[i])]) (st' := []) rfl ?_
        rw [len_succ i]
        refine ih (i + 1) h1 _ (by omega) (hK.wr W2 (Or.inl (List.mem_cons_self ..))) (Ac.other W2 (Arv.ty_ne Ac Ad (by decide))) ?_ (Or.inr ⟨_, rfl⟩)
        rw [set_by8 hin] at A3
        exact A3
  exact loop cs.length 0 h .unset (by omega) (Keep.refl _ _) Ac Ad (Or.inl rfl)
def P_cmp3 : List (Nat × Instr × Nat) := [(0, .iload_n 2, 1), (1, .newarray .byte, 2), (3, .astore_n 3, 1), (4, .aload_n 0, 1), (5, .iload_n 1, 1), (6, .aload_n 3, 1), (7, .iconst 0, 1), (8, .iload_n 2, 1), (9, .invokestatic 115, 3), (12, .istore 4, 2), (14, .iload 4, 2), (16, .iload_n 2, 1), (17, .if_icmp .eq 40, 3), (20, .aload_n 0, 1), (21, .iload_n 1, 1), (22, .iload_n 2, 1), (23, .invokestatic 119, 3), (26, .astore 5, 2), (28, .aload 5, 2), (30, .iload 4, 2), (32, .invokestatic 71, 3), (35, .sipush 255, 3), (38, .if_icmp .gt 16, 3), (41, .aload 5, 2), (43, .iconst 0, 1), (44, .aload_n 3, 1), (45, .iconst 0, 1), (46, .iload_n 2, 1), (47, .invokestatic 123, 3), (50, .iload_n 2, 1), (51, .if_icmp .eq 6, 3), (54, .aload 5, 2), (56, .areturn, 1), (57, .aload_n 3, 1), (58, .areturn, 1)]
theorem L_cmp3 : ∀ q ∈ P_cmp3, decode jdk_52_method_16_code q.1 = .ok q.2 := by decide +kernel
def M_cmp3 : Mt := (("java/lang/StringUTF16", "compress", ({ frames := 1, cells := 1, slots := 3, locals := 18 } : Room)), P_cmp3, 6, (some (.array .byte)))
set_option maxRecDepth 65536 in
set_option maxHeartbeats 40000000 in
theorem c_cmp3 {G : Gb} (H : Gl tables_1 els G) {h : Heap} {ca : Addr} {kc : ClassId} {cs : List Int32} (hl : Lat cs) (hcap : cs.length ≤ 3) (Ac : Arv G.Z h ca kc .char cs.length.toInt32 (cs.map Value.int) (.int 0)) :
    Ctr G [] (⟨"java/lang/StringUTF16", "compress", "([CII)[B"⟩ : MethodName) jdk_52_method_16_code 6 (some (.array .byte)) ({ frames := 1, cells := 1, slots := 3, locals := 18 } : Room) #[.ref ca, .int 0, .int cs.length.toInt32] h [] (fun v h' Sf => ∃ (t : Addr) (kb : ClassId), v = some (.ref t) ∧ Ext h h' ∧ Arv G.Z h' t kb .byte cs.length.toInt32 (by8 cs) (.int 0) ∧ G.Z.heap.size ≤ t) := by
  refine ctr_of M_cmp3 rfl rfl (plainFor_of_name pn_0) L_cmp3 H.el (Ls := #[.val (.ref ca), .val (.int (0 : Int32)), .val (.int cs.length.toInt32), .unset, .unset, .unset]) (fun m => ef_ok (by show argsToLocals _ 6 = _; first | (simp [argsToLocals, Value.category]; done) | rfl)) ?_
  intro B K hE
  have hlt := lat_lt hl
  refine go_run K 0 1 (pc' := 1) (st' := [(.int cs.length.toInt32)]) rfl ?_
  refine go_newarray K (k := 1) rfl (H.w 3 rfl) (len_nn hlt) (cap := 3) (by rw [len_nat hlt]; exact hcap) rfl rfl rfl ?_
  intro h2 a1 k3 e4 g5 E6 A7
  have A7' : Arv G.Z h2 a1 k3 .byte cs.length.toInt32 (List.replicate cs.length (.int 0)) (.int 0) := Arv.pad A7 (pad_rep [] _ _)
  refine go_run K 2 6 (pc' := 9) (Ls' := #[.val (.ref ca), .val (.int (0 : Int32)), .val (.int cs.length.toInt32), .val (.ref a1), .unset, .unset]) (st' := [(.int cs.length.toInt32), (.int (0 : Int32)), (.ref a1), (.int (0 : Int32)), (.ref ca)]) rfl ?_
  have c8 := (Ac.ext E6)
  refine go_static K (k := 8) rfl (H.w 203 rfl) (H.w 204 rfl) (H.w 201 rfl) (H.w 205 rfl) (by decide) pd_0 (c_cmp5 (cs := cs) H hl c8 A7' g5) (argsL := [(.ref ca), (.int (0 : Int32)), (.ref a1), (.int (0 : Int32)), (.int cs.length.toInt32)]) (rest := []) rfl rfl rfl (subS (List.mem_cons_self ..) sub0) rfl ?_
  rintro _ h9 _ - ⟨rfl, K10, A11⟩
  show Go G B M_cmp3 _ h9 (a1 :: []) 1 3 12 #[.val (.ref ca), .val (.int (0 : Int32)), .val (.int cs.length.toInt32), .val (.ref a1), .unset, .unset] [(.int cs.length.toInt32)]
  refine go_run K 9 3 (pc' := 17) (Ls' := #[.val (.ref ca), .val (.int (0 : Int32)), .val (.int cs.length.toInt32), .val (.ref a1), .val (.int cs.length.toInt32), .unset]) (st' := [(.int cs.length.toInt32), (.int cs.length.toInt32)]) rfl ?_
  refine go_icmpeq K (k := 12) rfl (pc' := 57) (by decide) (fun _ => ?_) (fun q => absurd rfl q)
  refine go_run K 33 1 (pc' := 58) (st' := [(.ref a1)]) rfl ?_
  have X12 : Ext h h9 := (Ext.keepN E6 K10 (allS (Nat.le_trans (Nat.le_refl _) (Nat.le_of_eq e4.symm)) all0))
  refine go_areturn K (k := 34) rfl rfl rfl rfl rfl rfl rfl ?_
  intro Sf hSf
  exact ⟨_, _, rfl, X12, A11, g5⟩
theorem pn_1 : plainName "java/lang/String" = true := by first | (simp [plainName, overriddenIn]; done) | decide +kernel
def P_si4 : List (Nat × Instr × Nat) := [(0, .aload_n 0, 1), (1, .invokespecial 1, 3), (4, .iload_n 3, 1), (5, .ifCond .ne 22, 3), (8, .aload_n 0, 1), (9, .ldc 7, 2), (11, .getfield 9, 3), (14, .putfield 9, 3), (17, .aload_n 0, 1), (18, .ldc 7, 2), (20, .getfield 15, 3), (23, .putfield 15, 3), (26, .return_, 1), (27, .getstatic 38, 3), (30, .ifCond .eq 28, 3), (33, .aload_n 1, 1), (34, .iload_n 2, 1), (35, .iload_n 3, 1), (36, .invokestatic 177, 3), (39, .astore 5, 2), (41, .aload_n 0, 1), (42, .aload 5, 2), (44, .iload_n 3, 1), (45, .invokestatic 47, 3), (48, .putfield 15, 3), (51, .aload_n 0, 1), (52, .aload 5, 2), (54, .putfield 9, 3), (57, .return_, 1), (58, .aload_n 0, 1), (59, .iconst 1, 1), (60, .putfield 15, 3), (63, .aload_n 0, 1), (64, .aload_n 1, 1), (65, .iload_n 2, 1), (66, .iload_n 3, 1), (67, .invokestatic 180, 3), (70, .putfield 9, 3), (73, .return_, 1)]
theorem L_si4 : ∀ q ∈ P_si4, decode jdk_42_method_149_code q.1 = .ok q.2 := by decide +kernel
def M_si4 : Mt := (("java/lang/String", "<init>", ({ frames := 2, cells := 4, slots := 8, locals := 35 } : Room)), P_si4, 6, none)
set_option maxRecDepth 65536 in
set_option maxHeartbeats 40000000 in
theorem c_si4 {G : Gb} (H : Gl tables_1 els G) {h : Heap} {a ca : Addr} {kc : ClassId} {cs : List Int32} (hl : Lat cs) (hcap : cs.length ≤ 3) (E0 : Exa G.Z h a "java/lang/String") (V0 : Fld G.Z h a "java/lang/String" "value" "[B" .null) (C0 : Fld G.Z h a "java/lang/String" "coder" "B" (.int 0)) (g0 : G.Z.heap.size ≤ a) (Ac : Arv G.Z h ca kc .char cs.length.toInt32 (cs.map Value.int) (.int 0)) :
    Ctr G [] (⟨"java/lang/String", "<init>", "([CIILjava/lang/Void;)V"⟩ : MethodName) jdk_42_method_149_code 6 none ({ frames := 2, cells := 4, slots := 8, locals := 35 } : Room) #[.ref a, .ref ca, .int 0, .int cs.length.toInt32, .null] h [a] (fun v h' Sf => v = none ∧ Keep h h' [a] ∧ Str G h' a cs) := by
  refine ctr_of M_si4 rfl rfl (plainFor_of_name pn_1) L_si4 H.el (Ls := #[.val (.ref a), .val (.ref ca), .val (.int (0 : Int32)), .val (.int cs.length.toInt32), .val .null, .unset]) (fun m => ef_ok (by show argsToLocals _ 6 = _; first | (simp [argsToLocals, Value.category]; done) | rfl)) ?_
  intro B K hE
  have hlt := lat_lt hl
  obtain ⟨cz, hcs, hcz⟩ := H.cs
  refine go_run K 0 1 (pc' := 1) (st' := [(.ref a)]) rfl ?_
  refine go_init0 K (k := 1) rfl (H.w 21 rfl) (H.w 22 rfl) (H.w 23 rfl) rfl rfl rfl ?_
  refine go_run K 2 1 (pc' := 5) (st' := [(.int cs.length.toInt32)]) rfl ?_
  refine go_ifne K (k := 3) rfl (pc' := 27) (by decide) (fun hne1 => ?_) (fun hz2 => ?_)
  · refine go_getstatic K (k := 13) rfl (host := "") (Or.inl (H.w 86 rfl)) Via.refl hcs ?_
    refine go_ifeq K (k := 14) rfl (pc' := 58) (by decide) (fun q => absurd q hcz) (fun _ => ?_)
    refine go_run K 15 3 (pc' := 36) (st' := [(.int cs.length.toInt32), (.int (0 : Int32)), (.ref ca)]) rfl ?_
    refine go_static K (k := 18) rfl (H.w 199 rfl) (H.w 200 rfl) (H.w 201 rfl) (H.w 202 rfl) (by decide) pd_1 (c_cmp3 (cs := cs) H hl hcap Ac) (argsL := [(.ref ca), (.int (0 : Int32)), (.int cs.length.toInt32)]) (rest := []) rfl rfl rfl sub0 rfl ?_
    rintro _ h28 _ - ⟨t29, k30, rfl, E31, A32, g33⟩
    show Go G B M_si4 _ h28 (a :: []) 1 3 39 #[.val (.ref a), .val (.ref ca), .val (.int (0 : Int32)), .val (.int cs.length.toInt32), .val .null, .unset] [(.ref t29)]
    refine go_run K 19 4 (pc' := 45) (Ls' := #[.val (.ref a), .val (.ref ca), .val (.int (0 : Int32)), .val (.int cs.length.toInt32), .val .null, .val (.ref t29)]) (st' := [(.int cs.length.toInt32), (.ref t29), (.ref a)]) rfl ?_
    refine go_static K (k := 23) rfl (H.w 206 rfl) (H.w 207 rfl) (H.w 201 rfl) (H.w 208 rfl) (by decide) pd_2 (c_cfal H A32) (argsL := [(.ref t29), (.int cs.length.toInt32)]) (rest := [(.ref a)]) rfl rfl rfl sub0 rfl ?_
    rintro _ _ _ - ⟨rfl, rfl⟩
    show Go G B M_si4 _ h28 (a :: []) 1 3 48 #[.val (.ref a), .val (.ref ca), .val (.int (0 : Int32)), .val (.int cs.length.toInt32), .val .null, .val (.ref t29)] [(.int (0 : Int32)), (.ref a)]
    have c34 := (C0.ext E31)
    have c35 := (E0.ext E31)
    refine go_putfield K (k := 24) rfl (host := "") (Or.inl (H.w 26 rfl)) Via.refl c34 c35 (Or.inr ⟨(H.w 5 rfl), rfl, rfl⟩) (H.w 2 rfl) (ty := .byte) (by decide) rfl rfl g0 (Or.inl (List.mem_cons_self ..)) ?_
    intro h36 W37
    have c38 := (V0.ext E31)
    have F39 : Exa G.Z h36 a "java/lang/String" := Exa.wr W37 c35
    have F40 : Fld G.Z h36 a "java/lang/String" "value" "[B" .null := Fld.other W37 c38 (Or.inr (slot_ne (Or.inr (H.w 4 rfl)) (Or.inr (H.w 5 rfl)) (by decide) (t := (.array .byte)) (t' := .byte) (by decide) (by decide)))
    have F41 : Fld G.Z h36 a "java/lang/String" "coder" "B" (.int (0 : Int32)) := Fld.same W37 c34
    refine go_run K 25 2 (pc' := 54) (st' := [(.ref t29), (.ref a)]) rfl ?_
    refine go_putfield K (k := 27) rfl (host := "") (Or.inl (H.w 25 rfl)) Via.refl F40 F39 (Or.inr ⟨(H.w 4 rfl), rfl, rfl⟩) (H.w 2 rfl) (ty := (.array .byte)) (by decide) rfl rfl g0 (Or.inl (List.mem_cons_self ..)) ?_
    intro h42 W43
    have F44 : Exa G.Z h42 a "java/lang/String" := Exa.wr W43 F39
    have F45 : Fld G.Z h42 a "java/lang/String" "value" "[B" (.ref t29) := Fld.same W43 F40
    have F46 : Fld G.Z h42 a "java/lang/String" "coder" "B" (.int (0 : Int32)) := Fld.other W43 F41 (Or.inr (slot_ne (Or.inr (H.w 5 rfl)) (Or.inr (H.w 4 rfl)) (by decide) (t := .byte) (t' := (.array .byte)) (by decide) (by decide)))
    have c47 := (Arv.other (Arv.other A32 W37 (Exa.neArv c35 A32 (H.w 2 rfl)).symm) W43 (Exa.neArv F39 (Arv.other A32 W37 (Exa.neArv c35 A32 (H.w 2 rfl)).symm) (H.w 2 rfl)).symm)
    refine go_return K (k := 28) rfl rfl rfl rfl ?_
    intro Sf hSf
    exact ⟨rfl, ((((Keep.refl _ [a]).ext E31).wr W37 (Or.inl (List.mem_cons_self ..))).wr W43 (Or.inl (List.mem_cons_self ..))), _, _, F44, F46, F45, c47⟩
  · have hnil : cs = [] := List.eq_nil_of_length_eq_zero (len_zero hlt hz2)
    refine go_run K 4 1 (pc' := 9) (st' := [(.ref a)]) rfl ?_
    refine go_ldcT K (k := 5) rfl (H.w 24 rfl) H.ws (H.mem (by decide)) (cs := []) (by decide) (by decide) (n := 0) rfl rfl rfl rfl ?_
    intro h4 a3 E5 S6
    obtain ⟨t1, k1, e1, e2, e3, e4⟩ := S6
    refine go_getfield K (k := 6) rfl (host := "") (Or.inl (H.w 25 rfl)) Via.refl e3 ?_
    have c7 := (V0.ext E5)
    have c8 := (E0.ext E5)
    refine go_putfield K (k := 7) rfl (host := "") (Or.inl (H.w 25 rfl)) Via.refl c7 c8 (Or.inr ⟨(H.w 4 rfl), rfl, rfl⟩) (H.w 2 rfl) (ty := (.array .byte)) (by decide) rfl rfl g0 (Or.inl (List.mem_cons_self ..)) ?_
    intro h9 W10
    have c11 := (C0.ext E5)
    have F12 : Exa G.Z h9 a "java/lang/String" := Exa.wr W10 c8
    have F13 : Fld G.Z h9 a "java/lang/String" "value" "[B" (.ref t1) := Fld.same W10 c7
    have F14 : Fld G.Z h9 a "java/lang/String" "coder" "B" (.int (0 : Int32)) := Fld.other W10 c11 (Or.inr (slot_ne (Or.inr (H.w 5 rfl)) (Or.inr (H.w 4 rfl)) (by decide) (t := .byte) (t' := (.array .byte)) (by decide) (by decide)))
    refine go_run K 8 1 (pc' := 18) (st' := [(.ref a)]) rfl ?_
    refine go_ldcT K (k := 9) rfl (H.w 24 rfl) H.ws (H.mem (by decide)) (cs := []) (by decide) (by decide) (n := 0) rfl rfl rfl rfl ?_
    intro h16 a15 E17 S18
    obtain ⟨t2, k2, f1, f2, f3, f4⟩ := S18
    refine go_getfield K (k := 10) rfl (host := "") (Or.inl (H.w 26 rfl)) Via.refl f2 ?_
    have c19 := (F14.ext E17)
    have c20 := (F12.ext E17)
    refine go_putfield K (k := 11) rfl (host := "") (Or.inl (H.w 26 rfl)) Via.refl c19 c20 (Or.inr ⟨(H.w 5 rfl), rfl, rfl⟩) (H.w 2 rfl) (ty := .byte) (by decide) rfl rfl g0 (Or.inl (List.mem_cons_self ..)) ?_
    intro h21 W22
    have c23 := (F13.ext E17)
    have F24 : Exa G.Z h21 a "java/lang/String" := Exa.wr W22 c20
    have F25 : Fld G.Z h21 a "java/lang/String" "value" "[B" (.ref t1) := Fld.other W22 c23 (Or.inr (slot_ne (Or.inr (H.w 4 rfl)) (Or.inr (H.w 5 rfl)) (by decide) (t := (.array .byte)) (t' := .byte) (by decide) (by decide)))
    have F26 : Fld G.Z h21 a "java/lang/String" "coder" "B" (.int (0 : Int32)) := Fld.same W22 c19
    have c27 := (Arv.other ((Arv.other e4 W10 (Exa.neArv c8 e4 (H.w 2 rfl)).symm).ext E17) W22 (Exa.neArv c20 ((Arv.other e4 W10 (Exa.neArv c8 e4 (H.w 2 rfl)).symm).ext E17) (H.w 2 rfl)).symm)
    refine go_return K (k := 12) rfl rfl rfl rfl ?_
    intro Sf hSf
    exact ⟨rfl, (((((Keep.refl _ [a]).ext E5).wr W10 (Or.inl (List.mem_cons_self ..))).ext E17).wr W22 (Or.inl (List.mem_cons_self ..))), _, _, F24, F26, F25, (by rw [hnil]; exact c27)⟩
def P_si : List (Nat × Instr × Nat) := [(0, .aload_n 0, 1), (1, .aload_n 1, 1), (2, .iconst 0, 1), (3, .aload_n 1, 1), (4, .arraylength, 1), (5, .aconst_null, 1), (6, .invokespecial 27, 3), (9, .return_, 1)]
theorem L_si : ∀ q ∈ P_si, decode jdk_42_method_3_code q.1 = .ok q.2 := by decide +kernel
def M_si : Mt := (("java/lang/String", "<init>", ({ frames := 3, cells := 4, slots := 8, locals := 52 } : Room)), P_si, 2, none)
set_option maxRecDepth 65536 in
set_option maxHeartbeats 40000000 in
theorem c_si {G : Gb} (H : Gl tables_1 els G) {h : Heap} {a ca : Addr} {kc : ClassId} {cs : List Int32} (hl : Lat cs) (hcap : cs.length ≤ 3) (E0 : Exa G.Z h a "java/lang/String") (V0 : Fld G.Z h a "java/lang/String" "value" "[B" .null) (C0 : Fld G.Z h a "java/lang/String" "coder" "B" (.int 0)) (g0 : G.Z.heap.size ≤ a) (Ac : Arv G.Z h ca kc .char cs.length.toInt32 (cs.map Value.int) (.int 0)) :
    Ctr G [] (⟨"java/lang/String", "<init>", "([C)V"⟩ : MethodName) jdk_42_method_3_code 2 none ({ frames := 3, cells := 4, slots := 8, locals := 52 } : Room) #[.ref a, .ref ca] h [a] (fun v h' Sf => v = none ∧ Keep h h' [a] ∧ Str G h' a cs) := by
  refine ctr_of M_si rfl rfl (plainFor_of_name pn_1) L_si H.el (Ls := #[.val (.ref a), .val (.ref ca)]) (fun m => ef_ok (by show argsToLocals _ 2 = _; first | (simp [argsToLocals, Value.category]; done) | rfl)) ?_
  intro B K hE
  refine go_run K 0 4 (pc' := 4) (st' := [(.ref ca), (.int (0 : Int32)), (.ref ca), (.ref a)]) rfl ?_
  refine go_arraylength K (k := 4) rfl Ac ?_
  refine go_run K 5 1 (pc' := 6) (st' := [.null, (.int cs.length.toInt32), (.int (0 : Int32)), (.ref ca), (.ref a)]) rfl ?_
  refine go_special K (k := 6) rfl rfl (H.w 17 rfl) (H.w 18 rfl) (H.w 1 rfl) (H.w 20 rfl) (by decide) pd_3 (c_si4 (cs := cs) H hl hcap E0 V0 C0 g0 Ac) (argsL := [(.ref ca), (.int (0 : Int32)), (.int cs.length.toInt32), .null]) (rest := []) rfl rfl rfl (subS (List.mem_cons_self ..) sub0) rfl ?_
  rintro _ h1 _ - ⟨rfl, K2, S3⟩
  show Go G B M_si _ h1 (a :: []) 4 8 9 #[.val (.ref a), .val (.ref ca)] []
  refine go_return K (k := 7) rfl rfl rfl rfl ?_
  intro Sf hSf
  exact ⟨rfl, ((Keep.refl _ [a]).trans K2 (allS (Or.inl (List.mem_cons_self ..)) all0)), S3⟩
def P_cod : List (Nat × Instr × Nat) := [(0, .getstatic 38, 3), (3, .ifCond .eq 10, 3), (6, .aload_n 0, 1), (7, .getfield 15, 3), (10, .goto 4, 3), (13, .iconst 1, 1), (14, .ireturn, 1)]
theorem L_cod : ∀ q ∈ P_cod, decode jdk_42_method_152_code q.1 = .ok q.2 := by decide +kernel
def M_cod : Mt := (("java/lang/String", "coder", ({ frames := 0, cells := 0, slots := 0, locals := 0 } : Room)), P_cod, 1, (some .byte))
set_option maxRecDepth 65536 in
set_option maxHeartbeats 40000000 in
theorem c_cod {G : Gb} (H : Gl tables_1 els G) {h : Heap} {a : Addr} {cs : List Int32} (S1 : Str G h a cs) :
    Ctr G [] (⟨"java/lang/String", "coder", "()B"⟩ : MethodName) jdk_42_method_152_code 1 (some .byte) ({ frames := 0, cells := 0, slots := 0, locals := 0 } : Room) #[.ref a] h [] (fun v h' Sf => v = some (.int 0) ∧ h = h') := by
  refine ctr_of M_cod rfl rfl (plainFor_of_name pn_1) L_cod H.el (Ls := #[.val (.ref a)]) (fun m => ef_ok (by show argsToLocals _ 1 = _; first | (simp [argsToLocals, Value.category]; done) | rfl)) ?_
  intro B K hE
  obtain ⟨cz, hcs, hcz⟩ := H.cs
  obtain ⟨t1, k2, e3, e4, e5, e6⟩ := id S1
  refine go_getstatic K (k := 0) rfl (host := "") (Or.inl (H.w 86 rfl)) Via.refl hcs ?_
  refine go_ifeq K (k := 1) rfl (pc' := 13) (by decide) (fun q => absurd q hcz) (fun _ => ?_)
  refine go_run K 2 1 (pc' := 7) (st' := [(.ref a)]) rfl ?_
  refine go_getfield K (k := 3) rfl (host := "") (Or.inl (H.w 26 rfl)) Via.refl e4 ?_
  refine go_run K 4 1 (pc' := 14) (st' := [(.int (0 : Int32))]) rfl ?_
  refine go_ireturn K (k := 6) rfl rfl (by decide) rfl rfl rfl ?_
  intro Sf hSf
  exact ⟨rfl, rfl⟩
def P_isl : List (Nat × Instr × Nat) := [(0, .getstatic 38, 3), (3, .ifCond .eq 14, 3), (6, .aload_n 0, 1), (7, .getfield 15, 3), (10, .ifCond .ne 7, 3), (13, .iconst 1, 1), (14, .goto 4, 3), (17, .iconst 0, 1), (18, .ireturn, 1)]
theorem L_isl : ∀ q ∈ P_isl, decode jdk_42_method_154_code q.1 = .ok q.2 := by decide +kernel
def M_isl : Mt := (("java/lang/String", "isLatin1", ({ frames := 0, cells := 0, slots := 0, locals := 0 } : Room)), P_isl, 1, (some .boolean))
set_option maxRecDepth 65536 in
set_option maxHeartbeats 40000000 in
theorem c_isl {G : Gb} (H : Gl tables_1 els G) {h : Heap} {a : Addr} {cs : List Int32} (S1 : Str G h a cs) :
    Ctr G [] (⟨"java/lang/String", "isLatin1", "()Z"⟩ : MethodName) jdk_42_method_154_code 1 (some .boolean) ({ frames := 0, cells := 0, slots := 0, locals := 0 } : Room) #[.ref a] h [] (fun v h' Sf => v = some (.int 1) ∧ h = h') := by
  refine ctr_of M_isl rfl rfl (plainFor_of_name pn_1) L_isl H.el (Ls := #[.val (.ref a)]) (fun m => ef_ok (by show argsToLocals _ 1 = _; first | (simp [argsToLocals, Value.category]; done) | rfl)) ?_
  intro B K hE
  obtain ⟨cz, hcs, hcz⟩ := H.cs
  obtain ⟨t1, k2, e3, e4, e5, e6⟩ := id S1
  refine go_getstatic K (k := 0) rfl (host := "") (Or.inl (H.w 86 rfl)) Via.refl hcs ?_
  refine go_ifeq K (k := 1) rfl (pc' := 17) (by decide) (fun q => absurd q hcz) (fun _ => ?_)
  refine go_run K 2 1 (pc' := 7) (st' := [(.ref a)]) rfl ?_
  refine go_getfield K (k := 3) rfl (host := "") (Or.inl (H.w 26 rfl)) Via.refl e4 ?_
  refine go_ifne K (k := 4) rfl (pc' := 17) (by decide) (fun q => absurd rfl q) (fun _ => ?_)
  refine go_run K 5 2 (pc' := 18) (st' := [(.int (1 : Int32))]) rfl ?_
  refine go_ireturn K (k := 8) rfl rfl (by decide) rfl rfl rfl ?_
  intro Sf hSf
  exact ⟨rfl, rfl⟩
def P_len : List (Nat × Instr × Nat) := [(0, .aload_n 0, 1), (1, .getfield 9, 3), (4, .arraylength, 1), (5, .aload_n 0, 1), (6, .invokevirtual 335, 3), (9, .ishr, 1), (10, .ireturn, 1)]
theorem L_len : ∀ q ∈ P_len, decode jdk_42_method_54_code q.1 = .ok q.2 := by decide +kernel
def M_len : Mt := (("java/lang/String", "length", ({ frames := 1, cells := 0, slots := 0, locals := 13 } : Room)), P_len, 1, (some .int))
set_option maxRecDepth 65536 in
set_option maxHeartbeats 40000000 in
theorem c_len {G : Gb} (H : Gl tables_1 els G) {h : Heap} {a : Addr} {cs : List Int32} (S1 : Str G h a cs) :
    Ctr G [] (⟨"java/lang/String", "length", "()I"⟩ : MethodName) jdk_42_method_54_code 1 (some .int) ({ frames := 1, cells := 0, slots := 0, locals := 13 } : Room) #[.ref a] h [] (fun v h' Sf => v = some (.int cs.length.toInt32) ∧ h = h') := by
  refine ctr_of M_len rfl rfl (plainFor_of_name pn_1) L_len H.el (Ls := #[.val (.ref a)]) (fun m => ef_ok (by show argsToLocals _ 1 = _; first | (simp [argsToLocals, Value.category]; done) | rfl)) ?_
  intro B K hE
  obtain ⟨t1, k2, e3, e4, e5, e6⟩ := id S1
  refine go_run K 0 1 (pc' := 1) (st' := [(.ref a)]) rfl ?_
  refine go_getfield K (k := 1) rfl (host := "") (Or.inl (H.w 25 rfl)) Via.refl e5 ?_
  refine go_arraylength K (k := 2) rfl e6 ?_
  refine go_run K 3 1 (pc' := 6) (st' := [(.ref a), (.int cs.length.toInt32)]) rfl ?_
  refine go_virt0 K (k := 4) rfl (H.w 81 rfl) (H.w 84 rfl) (H.w 83 rfl) (H.w 1 rfl) (H.w 85 rfl) (by decide) pd_4 S1.exa (c_cod H S1) (argsL := []) (rest := [(.int cs.length.toInt32)]) rfl rfl rfl sub0 rfl ?_
  rintro _ _ _ - ⟨rfl, rfl⟩
  show Go G B M_len _ h [] 0 0 9 #[.val (.ref a)] [(.int (0 : Int32)), (.int cs.length.toInt32)]
  refine go_run K 5 1 (pc' := 10) (st' := [(.int (cs.length.toInt32 >>> ((0 : Int32) &&& 31)))]) rfl ?_
  rw [shr0]
  refine go_ireturn K (k := 6) rfl rfl (by decide) rfl rfl rfl ?_
  intro Sf hSf
  exact ⟨rfl, rfl⟩
theorem pf_2 : plainFor (⟨"java/lang/Math", "min", "(II)I"⟩ : MethodName) = true := by decide +kernel
def P_min : List (Nat × Instr × Nat) := [(0, .iload_n 0, 1), (1, .iload_n 1, 1), (2, .if_icmp .gt 7, 3), (5, .iload_n 0, 1), (6, .goto 4, 3), (9, .iload_n 1, 1), (10, .ireturn, 1)]
theorem L_min : ∀ q ∈ P_min, decode jdk_29_method_69_code q.1 = .ok q.2 := by decide +kernel
def M_min : Mt := (("java/lang/Math", "min", ({ frames := 0, cells := 0, slots := 0, locals := 0 } : Room)), P_min, 2, (some .int))
set_option maxRecDepth 65536 in
set_option maxHeartbeats 40000000 in
theorem c_min {G : Gb} (H : Gl tables_1 els G) {h : Heap} {x y : Int32} :
    Ctr G [] (⟨"java/lang/Math", "min", "(II)I"⟩ : MethodName) jdk_29_method_69_code 2 (some .int) ({ frames := 0, cells := 0, slots := 0, locals := 0 } : Room) #[.int x, .int y] h [] (fun v h' Sf => ∃ r : Int32, v = some (.int r) ∧ h = h' ∧ ((r = x ∧ ¬ y < x) ∨ (r = y ∧ y < x))) := by
  refine ctr_of M_min rfl rfl pf_2 L_min H.el (Ls := #[.val (.int x), .val (.int y)]) (fun m => ef_ok (by show argsToLocals _ 2 = _; first | (simp [argsToLocals, Value.category]; done) | rfl)) ?_
  intro B K hE
  refine go_run K 0 2 (pc' := 2) (st' := [(.int y), (.int x)]) rfl ?_
  refine go_icmpgt K (k := 2) rfl (pc' := 9) (by decide) (fun q1 => ?_) (fun q2 => ?_)
  · refine go_run K 5 1 (pc' := 10) (st' := [(.int y)]) rfl ?_
    refine go_ireturn K (k := 6) rfl rfl (by decide) rfl rfl rfl ?_
    intro Sf hSf
    exact ⟨y, rfl, rfl, Or.inr ⟨rfl, q1⟩⟩
  · refine go_run K 3 2 (pc' := 10) (st' := [(.int x)]) rfl ?_
    refine go_ireturn K (k := 6) rfl rfl (by decide) rfl rfl rfl ?_
    intro Sf hSf
    exact ⟨x, rfl, rfl, Or.inl ⟨rfl, q2⟩⟩
theorem pn_3 : plainName "java/util/Arrays" = true := by first | (simp [plainName, overriddenIn]; done) | decide +kernel
def P_ckl : List (Nat × Instr × Nat) := [(0, .iload_n 1, 1), (1, .iload_n 0, 1), (2, .if_icmp .ge 35, 3), (5, .new 43, 3), (8, .dup, 1), (9, .new 45, 3), (12, .dup, 1), (13, .invokespecial 47, 3), (16, .iload_n 0, 1), (17, .invokevirtual 54, 3), (20, .ldc_w 337, 3), (23, .invokevirtual 50, 3), (26, .iload_n 1, 1), (27, .invokevirtual 54, 3), (30, .invokevirtual 61, 3), (33, .invokespecial 65, 3), (36, .athrow, 1), (37, .return_, 1)]
theorem L_ckl : ∀ q ∈ P_ckl, decode jdk_65_method_131_code q.1 = .ok q.2 := by decide +kernel
def M_ckl : Mt := (("java/util/Arrays", "checkLength", ({ frames := 0, cells := 0, slots := 0, locals := 0 } : Room)), P_ckl, 2, none)
set_option maxRecDepth 65536 in
set_option maxHeartbeats 40000000 in
theorem c_ckl {G : Gb} (H : Gl tables_1 els G) {h : Heap} {x y : Int32} (hle : ¬ y < x) :
    Ctr G [] (⟨"java/util/Arrays", "checkLength", "(II)V"⟩ : MethodName) jdk_65_method_131_code 2 none ({ frames := 0, cells := 0, slots := 0, locals := 0 } : Room) #[.int x, .int y] h [] (fun v h' Sf => v = none ∧ h = h') := by
  refine ctr_of M_ckl rfl rfl (plainFor_of_name pn_3) L_ckl H.el (Ls := #[.val (.int x), .val (.int y)]) (fun m => ef_ok (by show argsToLocals _ 2 = _; first | (simp [argsToLocals, Value.category]; done) | rfl)) ?_
  intro B K hE
  refine go_run K 0 2 (pc' := 2) (st' := [(.int x), (.int y)]) rfl ?_
  refine go_icmpge K (k := 2) rfl (pc' := 37) (by decide) (fun _ => ?_) (fun q => absurd q hle)
  refine go_return K (k := 17) rfl rfl rfl rfl ?_
  intro Sf hSf
  exact ⟨rfl, rfl⟩
def P_crb : List (Nat × Instr × Nat) := [(0, .iload_n 1, 1), (1, .iload_n 2, 1), (2, .invokestatic 343, 3), (5, .iload_n 2, 1), (6, .iload_n 1, 1), (7, .isub, 1), (8, .istore_n 3, 1), (9, .iload_n 3, 1), (10, .newarray .byte, 2), (12, .astore 4, 2), (14, .aload_n 0, 1), (15, .iload_n 1, 1), (16, .aload 4, 2), (18, .iconst 0, 1), (19, .aload_n 0, 1), (20, .arraylength, 1), (21, .iload_n 1, 1), (22, .isub, 1), (23, .iload_n 3, 1), (24, .invokestatic 304, 3), (27, .invokestatic 150, 3), (30, .aload 4, 2), (32, .areturn, 1)]
theorem L_crb : ∀ q ∈ P_crb, decode jdk_65_method_133_code q.1 = .ok q.2 := by decide +kernel
def M_crb : Mt := (("java/util/Arrays", "copyOfRangeByte", ({ frames := 1, cells := 1, slots := 34, locals := 18 } : Room)), P_crb, 5, (some (.array .byte)))
set_option maxRecDepth 65536 in
set_option maxHeartbeats 40000000 in
theorem c_crb {G : Gb} (H : Gl tables_1 els G) {h : Heap} {t : Addr} {kt : ClassId} {m i j : Nat} {vs : List Value} (hij : i ≤ j) (hjm : j ≤ m) (hm : m < 2 ^ 31) (hv : vs.length = m) (hcap : j - i ≤ 34) (A1 : Arv G.Z h t kt .byte m.toInt32 vs (.int 0)) :
    Ctr G [] (⟨"java/util/Arrays", "copyOfRangeByte", "([BII)[B"⟩ : MethodName) jdk_65_method_133_code 5 (some (.array .byte)) ({ frames := 1, cells := 1, slots := 34, locals := 18 } : Room) #[.ref t, .int i.toInt32, .int j.toInt32] h [] (fun v h' Sf => ∃ (u : Addr) (ku : ClassId), v = some (.ref u) ∧ Ext h h' ∧ Arv G.Z h' u ku .byte (j - i).toInt32 ((vs.drop i).take (j - i)) (.int 0) ∧ G.Z.heap.size ≤ u ∧ h.size ≤ u ∧ Sf u) := by
  refine ctr_of M_crb rfl rfl (plainFor_of_name pn_3) L_crb H.el (Ls := #[.val (.ref t), .val (.int i.toInt32), .val (.int j.toInt32), .unset, .unset]) (fun m => ef_ok (by show argsToLocals _ 5 = _; first | (simp [argsToLocals, Value.category]; done) | rfl)) ?_
  intro B K hE
  refine go_run K 0 2 (pc' := 2) (st' := [(.int j.toInt32), (.int i.toInt32)]) rfl ?_
  refine go_static K (k := 2) rfl (H.w 152 rfl) (H.w 153 rfl) (H.w 147 rfl) (H.w 154 rfl) (by decide) pd_5 (c_ckl (x := i.toInt32) (y := j.toInt32) H (len_nlt (by omega) hij)) (argsL := [(.int i.toInt32), (.int j.toInt32)]) (rest := []) rfl rfl rfl sub0 rfl ?_
  rintro _ _ _ - ⟨rfl, rfl⟩
  show Go G B M_crb _ h [] 0 0 5 #[.val (.ref t), .val (.int i.toInt32), .val (.int j.toInt32), .unset, .unset] []
  refine go_run K 3 5 (pc' := 10) (Ls' := #[.val (.ref t), .val (.int i.toInt32), .val (.int j.toInt32), .val (.int (j.toInt32 - i.toInt32)), .unset]) (st' := [(.int (j.toInt32 - i.toInt32))]) rfl ?_
  rw [sub_len hij]
  refine go_newarray K (k := 8) rfl (H.w 3 rfl) (len_nn (by omega)) (cap := 34) (by rw [len_nat (by omega)]; exact hcap) rfl rfl rfl ?_
  intro h2 a1 k3 e4 g5 E6 A7
  have A7' : Arv G.Z h2 a1 k3 .byte (j - i).toInt32 (List.replicate (j - i) (.int 0)) (.int 0) := Arv.pad A7 (pad_rep [] _ _)
  refine go_run K 9 6 (pc' := 20) (Ls' := #[.val (.ref t), .val (.int i.toInt32), .val (.int j.toInt32), .val (.int (j - i).toInt32), .val (.ref a1)]) (st' := [(.ref t), (.int (0 : Int32)), (.ref a1), (.int i.toInt32), (.ref t)]) rfl ?_
  have c8 := (A1.ext E6)
  refine go_arraylength K (k := 15) rfl c8 ?_
  refine go_run K 16 3 (pc' := 24) (st' := [(.int (j - i).toInt32), (.int (m.toInt32 - i.toInt32)), (.int (0 : Int32)), (.ref a1), (.int i.toInt32), (.ref t)]) rfl ?_
  rw [sub_len (show i ≤ m by omega)]
  refine go_static K (k := 19) rfl (H.w 155 rfl) (H.w 156 rfl) (H.w 157 rfl) (H.w 158 rfl) (by decide) pd_6 (c_min (x := (m - i).toInt32) (y := (j - i).toInt32) H) (argsL := [(.int (m - i).toInt32), (.int (j - i).toInt32)]) (rest := [(.int (0 : Int32)), (.ref a1), (.int i.toInt32), (.ref t)]) rfl rfl rfl sub0 rfl ?_
  rintro _ _ _ - ⟨r9, rfl, rfl, q10⟩
  show Go G B M_crb _ h2 (a1 :: []) 1 34 27 #[.val (.ref t), .val (.int i.toInt32), .val (.int j.toInt32), .val (.int (j - i).toInt32), .val (.ref a1)] [(.int r9), (.int (0 : Int32)), (.ref a1), (.int i.toInt32), (.ref t)]
  have hr : r9 = (j - i).toInt32 := by
    rcases q10 with ⟨u1, u2⟩ | ⟨u1, -⟩
    · rw [u1]; exact len_ge (by omega) (by omega) (by omega) u2
    · exact u1
  rw [hr]
  refine go_arraycopy K (k := 20) rfl (H.w 159 rfl) (H.w 113 rfl) (H.w 111 rfl) (H.w 112 rfl) c8 A7' rfl (len_nn (by omega)) (by decide) (len_nn (by omega)) (by rw [len_nat (by omega), len_nat (by omega), len_nat (by omega)]; omega) (by rw [len_nat (by omega)]; exact Nat.le_of_eq (Nat.zero_add _)) (us := ((vs.drop i).take (j - i))) (by rw [len_nat (by omega), len_nat (by omega)]; exact (map_range (by omega)).symm) (by rw [len_nat (by omega), List.length_replicate]; exact Nat.le_of_eq (Nat.zero_add _)) g5 (Or.inl (List.mem_cons_self ..)) rfl rfl rfl ?_
  intro h11 K12 A13
  refine go_run K 21 1 (pc' := 32) (st' := [(.ref a1)]) rfl ?_
  have X14 : Ext h h11 := (Ext.keepN E6 K12 (allS (Nat.le_trans (Nat.le_refl _) (Nat.le_of_eq e4.symm)) all0))
  refine go_areturn K (k := 22) rfl rfl rfl rfl rfl rfl rfl ?_
  intro Sf hSf
  refine ⟨a1, k3, rfl, X14, ?_, g5, Nat.le_of_eq e4.symm, hSf _ (List.mem_cons_self ..)⟩
  have u := A13
  rw [show (0 : Int32).toNatClampNeg = 0 from rfl, len_nat (by omega), List.take_zero, List.nil_append, Nat.zero_add, show List.drop (j - i) (List.replicate (j - i) (Value.int 0)) = [] from List.drop_of_length_le (by rw [List.length_replicate]; exact Nat.le_refl _), List.append_nil] at u
  exact u
def P_cor : List (Nat × Instr × Nat) := [(0, .iload_n 1, 1), (1, .ifCond .ne 9, 3), (4, .iload_n 2, 1), (5, .aload_n 0, 1), (6, .arraylength, 1), (7, .if_icmp .eq 10, 3), (10, .aload_n 0, 1), (11, .iload_n 1, 1), (12, .iload_n 2, 1), (13, .invokestatic 339, 3), (16, .areturn, 1), (17, .aload_n 0, 1), (18, .invokevirtual 310, 3), (21, .checkcast 311, 3), (24, .areturn, 1)]
theorem L_cor : ∀ q ∈ P_cor, decode jdk_65_method_132_code q.1 = .ok q.2 := by decide +kernel
def M_cor : Mt := (("java/util/Arrays", "copyOfRange", ({ frames := 2, cells := 1, slots := 34, locals := 34 } : Room)), P_cor, 3, (some (.array .byte)))
set_option maxRecDepth 65536 in
set_option maxHeartbeats 40000000 in
theorem c_cor {G : Gb} (H : Gl tables_1 els G) {h : Heap} {t : Addr} {kt : ClassId} {m i j : Nat} {vs : List Value} (hne : ¬ (i = 0 ∧ j = m)) (hij : i ≤ j) (hjm : j ≤ m) (hm : m < 2 ^ 31) (hv : vs.length = m) (hcap : j - i ≤ 34) (A1 : Arv G.Z h t kt .byte m.toInt32 vs (.int 0)) :
    Ctr G [] (⟨"java/util/Arrays", "copyOfRange", "([BII)[B"⟩ : MethodName) jdk_65_method_132_code 3 (some (.array .byte)) ({ frames := 2, cells := 1, slots := 34, locals := 34 } : Room) #[.ref t, .int i.toInt32, .int j.toInt32] h [] (fun v h' Sf => ∃ (u : Addr) (ku : ClassId), v = some (.ref u) ∧ Ext h h' ∧ Arv G.Z h' u ku .byte (j - i).toInt32 ((vs.drop i).take (j - i)) (.int 0) ∧ G.Z.heap.size ≤ u ∧ h.size ≤ u ∧ Sf u) := by
  refine ctr_of M_cor rfl rfl (plainFor_of_name pn_3) L_cor H.el (Ls := #[.val (.ref t), .val (.int i.toInt32), .val (.int j.toInt32)]) (fun m => ef_ok (by show argsToLocals _ 3 = _; first | (simp [argsToLocals, Value.category]; done) | rfl)) ?_
  intro B K hE
  refine go_run K 0 1 (pc' := 1) (st' := [(.int i.toInt32)]) rfl ?_
  refine go_ifne K (k := 1) rfl (pc' := 10) (by decide) (fun q1 => ?_) (fun q2 => ?_)
  · refine go_run K 6 3 (pc' := 13) (st' := [(.int j.toInt32), (.int i.toInt32), (.ref t)]) rfl ?_
    refine go_staticN K (k := 9) rfl (H.w 149 rfl) (H.w 150 rfl) (H.w 147 rfl) (H.w 151 rfl) (by decide) pd_7 (c_crb (i := i) (j := j) (m := m) H hij hjm hm hv hcap A1) (argsL := [(.ref t), (.int i.toInt32), (.int j.toInt32)]) (rest := []) rfl rfl rfl sub0 rfl ?_
    rintro _ h3 Sf11 - ⟨u4, k5, rfl, E6, A7, g8, f9, s10⟩
    refine ⟨[u4], allS s10 all0, ?_⟩
    show Go G B M_cor _ h3 (u4 :: []) 1 34 16 #[.val (.ref t), .val (.int i.toInt32), .val (.int j.toInt32)] [(.ref u4)]
    refine go_areturn K (k := 10) rfl rfl rfl rfl rfl rfl rfl ?_
    intro Sf hSf
    exact ⟨_, _, rfl, E6, A7, g8, f9, hSf _ (List.mem_cons_self ..)⟩
  · refine go_run K 2 2 (pc' := 6) (st' := [(.ref t), (.int j.toInt32)]) rfl ?_
    refine go_arraylength K (k := 4) rfl A1 ?_
    refine go_icmpeq K (k := 5) rfl (pc' := 17) (by decide) (fun q => absurd q (fun e => hne ⟨len_zero (by omega) q2, len_inj (by omega) (by omega) e⟩)) (fun _ => ?_)
    refine go_run K 6 3 (pc' := 13) (st' := [(.int j.toInt32), (.int i.toInt32), (.ref t)]) rfl ?_
    refine go_staticN K (k := 9) rfl (H.w 149 rfl) (H.w 150 rfl) (H.w 147 rfl) (H.w 151 rfl) (by decide) pd_7 (c_crb (i := i) (j := j) (m := m) H hij hjm hm hv hcap A1) (argsL := [(.ref t), (.int i.toInt32), (.int j.toInt32)]) (rest := []) rfl rfl rfl sub0 rfl ?_
    rintro _ h12 Sf20 - ⟨u13, k14, rfl, E15, A16, g17, f18, s19⟩
    refine ⟨[u13], allS s19 all0, ?_⟩
    show Go G B M_cor _ h12 (u13 :: []) 1 34 16 #[.val (.ref t), .val (.int i.toInt32), .val (.int j.toInt32)] [(.ref u13)]
    refine go_areturn K (k := 10) rfl rfl rfl rfl rfl rfl rfl ?_
    intro Sf hSf
    exact ⟨_, _, rfl, E15, A16, g17, f18, hSf _ (List.mem_cons_self ..)⟩
set_option maxRecDepth 65536 in
set_option maxHeartbeats 40000000 in
theorem c_corW {G : Gb} (H : Gl tables_1 els G) {h : Heap} {t : Addr} {kt : ClassId} {m : Nat} {vs : List Value} (hm : m < 2 ^ 31) (hcap : m ≤ 34) (A1 : Arv G.Z h t kt .byte m.toInt32 vs (.int 0)) (E1 : Exa G.Z h t "[B") :
    Ctr G [] (⟨"java/util/Arrays", "copyOfRange", "([BII)[B"⟩ : MethodName) jdk_65_method_132_code 3 (some (.array .byte)) ({ frames := 2, cells := 1, slots := 34, locals := 34 } : Room) #[.ref t, .int 0, .int m.toInt32] h [] (fun v h' Sf => ∃ (u : Addr) (ku : ClassId), v = some (.ref u) ∧ Ext h h' ∧ Arv G.Z h' u ku .byte m.toInt32 vs (.int 0) ∧ G.Z.heap.size ≤ u ∧ h.size ≤ u ∧ Sf u) := by
  refine ctr_of M_cor rfl rfl (plainFor_of_name pn_3) L_cor H.el (Ls := #[.val (.ref t), .val (.int (0 : Int32)), .val (.int m.toInt32)]) (fun m => ef_ok (by show argsToLocals _ 3 = _; first | (simp [argsToLocals, Value.category]; done) | rfl)) ?_
  intro B K hE
  refine go_run K 0 1 (pc' := 1) (st' := [(.int (0 : Int32))]) rfl ?_
  refine go_ifne K (k := 1) rfl (pc' := 10) (by decide) (fun q => absurd rfl q) (fun _ => ?_)
  refine go_run K 2 2 (pc' := 6) (st' := [(.ref t), (.int m.toInt32)]) rfl ?_
  refine go_arraylength K (k := 4) rfl A1 ?_
  refine go_icmpeq K (k := 5) rfl (pc' := 17) (by decide) (fun _ => ?_) (fun q => absurd rfl q)
  refine go_run K 11 1 (pc' := 18) (st' := [(.ref t)]) rfl ?_
  refine go_clone K (k := 12) rfl (H.w 216 rfl) (H.w 217 rfl) (H.w 221 rfl) (H.w 219 rfl) (H.w 220 rfl) (H.w 222 rfl) A1 E1 rfl rfl rfl (cap := 34) (by rw [len_nat hm]; exact hcap) rfl rfl ?_
  intro h1 b2 e3 g4 E5 A6 X7
  refine go_cast K (k := 13) rfl (H.w 223 rfl) (Ins.self X7) ?_
  refine go_areturn K (k := 14) rfl rfl rfl rfl rfl rfl rfl ?_
  intro Sf hSf
  exact ⟨_, _, rfl, E5, A6, g4, Nat.le_trans (Nat.le_refl _) (Nat.le_of_eq e3.symm), hSf _ (List.mem_cons_self ..)⟩
theorem pf_4 : plainFor (⟨"java/lang/Math", "max", "(II)I"⟩ : MethodName) = true := by decide +kernel
def P_max : List (Nat × Instr × Nat) := [(0, .iload_n 0, 1), (1, .iload_n 1, 1), (2, .if_icmp .lt 7, 3), (5, .iload_n 0, 1), (6, .goto 4, 3), (9, .iload_n 1, 1), (10, .ireturn, 1)]
theorem L_max : ∀ q ∈ P_max, decode jdk_29_method_65_code q.1 = .ok q.2 := by decide +kernel
def M_max : Mt := (("java/lang/Math", "max", ({ frames := 0, cells := 0, slots := 0, locals := 0 } : Room)), P_max, 2, (some .int))
set_option maxRecDepth 65536 in
set_option maxHeartbeats 40000000 in
theorem c_max {G : Gb} (H : Gl tables_1 els G) {h : Heap} {x y : Int32} :
    Ctr G [] (⟨"java/lang/Math", "max", "(II)I"⟩ : MethodName) jdk_29_method_65_code 2 (some .int) ({ frames := 0, cells := 0, slots := 0, locals := 0 } : Room) #[.int x, .int y] h [] (fun v h' Sf => ∃ r : Int32, v = some (.int r) ∧ h = h' ∧ ((r = x ∧ ¬ x < y) ∨ (r = y ∧ x < y))) := by
  refine ctr_of M_max rfl rfl pf_4 L_max H.el (Ls := #[.val (.int x), .val (.int y)]) (fun m => ef_ok (by show argsToLocals _ 2 = _; first | (simp [argsToLocals, Value.category]; done) | rfl)) ?_
  intro B K hE
  refine go_run K 0 2 (pc' := 2) (st' := [(.int y), (.int x)]) rfl ?_
  refine go_icmplt K (k := 2) rfl (pc' := 9) (by decide) (fun q1 => ?_) (fun q2 => ?_)
  · refine go_run K 5 1 (pc' := 10) (st' := [(.int y)]) rfl ?_
    refine go_ireturn K (k := 6) rfl rfl (by decide) rfl rfl rfl ?_
    intro Sf hSf
    exact ⟨y, rfl, rfl, Or.inr ⟨rfl, q1⟩⟩
  · refine go_run K 3 2 (pc' := 10) (st' := [(.int x)]) rfl ?_
    refine go_ireturn K (k := 6) rfl rfl (by decide) rfl rfl rfl ?_
    intro Sf hSf
    exact ⟨x, rfl, rfl, Or.inl ⟨rfl, q2⟩⟩
theorem pn_5 : plainName "jdk/internal/util/ArraysSupport" = true := by first | (simp [plainName, overriddenIn]; done) | decide +kernel
def P_nl : List (Nat × Instr × Nat) := [(0, .iload_n 0, 1), (1, .iload_n 1, 1), (2, .iload_n 2, 1), (3, .invokestatic 194, 3), (6, .iadd, 1), (7, .istore_n 3, 1), (8, .iconst 0, 1), (9, .iload_n 3, 1), (10, .if_icmp .ge 11, 3), (13, .iload_n 3, 1), (14, .ldc 200, 2), (16, .if_icmp .gt 5, 3), (19, .iload_n 3, 1), (20, .ireturn, 1), (21, .iload_n 0, 1), (22, .iload_n 1, 1), (23, .invokestatic 201, 3), (26, .ireturn, 1)]
theorem L_nl : ∀ q ∈ P_nl, decode jdk_48_method_27_code q.1 = .ok q.2 := by decide +kernel
def M_nl : Mt := (("jdk/internal/util/ArraysSupport", "newLength", ({ frames := 1, cells := 0, slots := 0, locals := 14 } : Room)), P_nl, 4, (some .int))
set_option maxRecDepth 65536 in
set_option maxHeartbeats 40000000 in
theorem c_nl {G : Gb} (H : Gl tables_1 els G) {h : Heap} {g : Int32} (hg : ¬ (18 : Int32) < g) :
    Ctr G [] (⟨"jdk/internal/util/ArraysSupport", "newLength", "(III)I"⟩ : MethodName) jdk_48_method_27_code 4 (some .int) ({ frames := 1, cells := 0, slots := 0, locals := 14 } : Room) #[.int 16, .int g, .int 18] h [] (fun v h' Sf => v = some (.int 34) ∧ h = h') := by
  refine ctr_of M_nl rfl rfl (plainFor_of_name pn_5) L_nl H.el (Ls := #[.val (.int (16 : Int32)), .val (.int g), .val (.int (18 : Int32)), .unset]) (fun m => ef_ok (by show argsToLocals _ 4 = _; first | (simp [argsToLocals, Value.category]; done) | rfl)) ?_
  intro B K hE
  refine go_run K 0 3 (pc' := 3) (st' := [(.int (18 : Int32)), (.int g), (.int (16 : Int32))]) rfl ?_
  refine go_static K (k := 3) rfl (H.w 234 rfl) (H.w 235 rfl) (H.w 157 rfl) (H.w 236 rfl) (by decide) pd_6 (c_max (x := g) (y := (18 : Int32)) H) (argsL := [(.int g), (.int (18 : Int32))]) (rest := [(.int (16 : Int32))]) rfl rfl rfl sub0 rfl ?_
  rintro _ _ _ - ⟨r1, rfl, rfl, q2⟩
  show Go G B M_nl _ h [] 0 0 6 #[.val (.int (16 : Int32)), .val (.int g), .val (.int (18 : Int32)), .unset] [(.int r1), (.int (16 : Int32))]
  have hr : r1 = 18 := by
    rcases q2 with ⟨u1, u2⟩ | ⟨u1, -⟩
    · rw [u1]; exact i32_anti u2 hg
    · exact u1
  rw [hr]
  refine go_run K 4 4 (pc' := 10) (Ls' := #[.val (.int (16 : Int32)), .val (.int g), .val (.int (18 : Int32)), .val (.int (34 : Int32))]) (st' := [(.int (34 : Int32)), (.int (0 : Int32))]) rfl ?_
  refine go_icmpge K (k := 8) rfl (pc' := 21) (by decide) (fun q => absurd (by decide) q) (fun _ => ?_)
  refine go_run K 9 1 (pc' := 14) (st' := [(.int (34 : Int32))]) rfl ?_
  refine go_ldcI K (k := 10) rfl (H.w 237 rfl) ?_
  refine go_icmpgt K (k := 11) rfl (pc' := 21) (by decide) (fun q => absurd q (by decide)) (fun _ => ?_)
  refine go_run K 12 1 (pc' := 20) (st' := [(.int (34 : Int32))]) rfl ?_
  refine go_ireturn K (k := 13) rfl rfl (by decide) rfl rfl rfl ?_
  intro Sf hSf
  exact ⟨rfl, rfl⟩
theorem pn_6 : plainName "java/lang/AbstractStringBuilder" = true := by first | (simp [plainName, overriddenIn]; done) | decide +kernel
def P_ncap : List (Nat × Instr × Nat) := [(0, .aload_n 0, 1), (1, .getfield 15, 3), (4, .arraylength, 1), (5, .istore_n 2, 1), (6, .iload_n 1, 1), (7, .aload_n 0, 1), (8, .getfield 22, 3), (11, .ishl, 1), (12, .istore_n 3, 1), (13, .iload_n 3, 1), (14, .iload_n 2, 1), (15, .isub, 1), (16, .istore 4, 2), (18, .iload_n 2, 1), (19, .iload 4, 2), (21, .iload_n 2, 1), (22, .iconst 2, 1), (23, .aload_n 0, 1), (24, .getfield 22, 3), (27, .ishl, 1), (28, .iadd, 1), (29, .invokestatic 114, 3), (32, .istore 5, 2), (34, .iload 5, 2), (36, .ldc 39, 2), (38, .if_icmp .ne 13, 3), (41, .new 120, 3), (44, .dup, 1), (45, .ldc 122, 2), (47, .invokespecial 124, 3), (50, .athrow, 1), (51, .iload 5, 2), (53, .aload_n 0, 1), (54, .getfield 22, 3), (57, .ishr, 1), (58, .ireturn, 1)]
theorem L_ncap : ∀ q ∈ P_ncap, decode jdk_68_method_10_code q.1 = .ok q.2 := by decide +kernel
def M_ncap : Mt := (("java/lang/AbstractStringBuilder", "newCapacity", ({ frames := 2, cells := 0, slots := 0, locals := 29 } : Room)), P_ncap, 6, (some .int))
set_option maxRecDepth 65536 in
set_option maxHeartbeats 40000000 in
theorem c_ncap {G : Gb} (H : Gl tables_1 els G) {h : Heap} {a t : Addr} {kt : ClassId} {cs : List Int32} {n : Nat} (h1 : 16 < n) (h2 : n ≤ 34) (B1 : Sb G h a t kt cs 16) :
    Ctr G [] (⟨"java/lang/AbstractStringBuilder", "newCapacity", "(I)I"⟩ : MethodName) jdk_68_method_10_code 6 (some .int) ({ frames := 2, cells := 0, slots := 0, locals := 29 } : Room) #[.ref a, .int n.toInt32] h [] (fun v h' Sf => v = some (.int 34) ∧ h = h') := by
  refine ctr_of M_ncap rfl rfl (plainFor_of_name pn_6) L_ncap H.el (Ls := #[.val (.ref a), .val (.int n.toInt32), .unset, .unset, .unset, .unset]) (fun m => ef_ok (by show argsToLocals _ 6 = _; first | (simp [argsToLocals, Value.category]; done) | rfl)) ?_
  intro B K hE
  obtain ⟨e1, e2, e3, e4, e5, e6, e7⟩ := id B1
  refine go_run K 0 1 (pc' := 1) (st' := [(.ref a)]) rfl ?_
  refine go_getfield K (k := 1) rfl (host := "") (Or.inl (H.w 62 rfl)) Via.refl e2 ?_
  refine go_arraylength K (k := 2) rfl e5 ?_
  show Go G B M_ncap _ h [] 0 0 5 #[.val (.ref a), .val (.int n.toInt32), .unset, .unset, .unset, .unset] [(.int (16 : Int32))]
  refine go_run K 3 3 (pc' := 8) (Ls' := #[.val (.ref a), .val (.int n.toInt32), .val (.int (16 : Int32)), .unset, .unset, .unset]) (st' := [(.ref a), (.int n.toInt32)]) rfl ?_
  refine go_getfield K (k := 6) rfl (host := "") (Or.inl (H.w 64 rfl)) Via.refl e3 ?_
  refine go_run K 7 11 (pc' := 24) (Ls' := #[.val (.ref a), .val (.int n.toInt32), .val (.int (16 : Int32)), .val (.int (n.toInt32 <<< ((0 : Int32) &&& 31))), .val (.int ((n.toInt32 <<< ((0 : Int32) &&& 31)) - (16 : Int32))), .unset]) (st' := [(.ref a), (.int (2 : Int32)), (.int (16 : Int32)), (.int ((n.toInt32 <<< ((0 : Int32) &&& 31)) - (16 : Int32))), (.int (16 : Int32))]) rfl ?_
  rw [shl0]
  rw [show n.toInt32 - (16 : Int32) = (n - 16).toInt32 from sub_len (k := 16) (by omega)]
  refine go_getfield K (k := 18) rfl (host := "") (Or.inl (H.w 64 rfl)) Via.refl e3 ?_
  refine go_run K 19 2 (pc' := 29) (st' := [(.int ((16 : Int32) + ((2 : Int32) <<< ((0 : Int32) &&& 31)))), (.int (n - 16).toInt32), (.int (16 : Int32))]) rfl ?_
  rw [shl0]
  show Go G B M_ncap _ h [] 0 0 29 #[.val (.ref a), .val (.int n.toInt32), .val (.int (16 : Int32)), .val (.int n.toInt32), .val (.int (n - 16).toInt32), .unset] [(.int (18 : Int32)), (.int (n - 16).toInt32), (.int (16 : Int32))]
  refine go_static K (k := 21) rfl (H.w 230 rfl) (H.w 231 rfl) (H.w 232 rfl) (H.w 233 rfl) (by decide) pd_8 (c_nl (g := (n - 16).toInt32) H (len_nlt (i := 18) (by decide) (by omega))) (argsL := [(.int (16 : Int32)), (.int (n - 16).toInt32), (.int (18 : Int32))]) (rest := []) rfl rfl rfl sub0 rfl ?_
  rintro _ _ _ - ⟨rfl, rfl⟩
  show Go G B M_ncap _ h [] 0 0 32 #[.val (.ref a), .val (.int n.toInt32), .val (.int (16 : Int32)), .val (.int n.toInt32), .val (.int (n - 16).toInt32), .unset] [(.int (34 : Int32))]
  refine go_run K 22 2 (pc' := 36) (Ls' := #[.val (.ref a), .val (.int n.toInt32), .val (.int (16 : Int32)), .val (.int n.toInt32), .val (.int (n - 16).toInt32), .val (.int (34 : Int32))]) (st' := [(.int (34 : Int32))]) rfl ?_
  refine go_ldcI K (k := 24) rfl (H.w 238 rfl) ?_
  refine go_icmpne K (k := 25) rfl (pc' := 51) (by decide) (fun _ => ?_) (fun q => absurd q (by decide))
  refine go_run K 31 2 (pc' := 54) (st' := [(.ref a), (.int (34 : Int32))]) rfl ?_
  refine go_getfield K (k := 33) rfl (host := "") (Or.inl (H.w 64 rfl)) Via.refl e3 ?_
  refine go_run K 34 1 (pc' := 58) (st' := [(.int ((34 : Int32) >>> ((0 : Int32) &&& 31)))]) rfl ?_
  rw [shr0]
  refine go_ireturn K (k := 35) rfl rfl (by decide) rfl rfl rfl ?_
  intro Sf hSf
  exact ⟨rfl, rfl⟩
def P_cof : List (Nat × Instr × Nat) := [(0, .iload_n 1, 1), (1, .aload_n 0, 1), (2, .arraylength, 1), (3, .if_icmp .ne 11, 3), (6, .aload_n 0, 1), (7, .invokevirtual 310, 3), (10, .checkcast 311, 3), (13, .areturn, 1), (14, .iload_n 1, 1), (15, .newarray .byte, 2), (17, .astore_n 2, 1), (18, .aload_n 0, 1), (19, .iconst 0, 1), (20, .aload_n 2, 1), (21, .iconst 0, 1), (22, .aload_n 0, 1), (23, .arraylength, 1), (24, .iload_n 1, 1), (25, .invokestatic 304, 3), (28, .invokestatic 150, 3), (31, .aload_n 2, 1), (32, .areturn, 1)]
theorem L_cof : ∀ q ∈ P_cof, decode jdk_65_method_121_code q.1 = .ok q.2 := by decide +kernel
def M_cof : Mt := (("java/util/Arrays", "copyOf", ({ frames := 1, cells := 1, slots := 34, locals := 18 } : Room)), P_cof, 3, (some (.array .byte)))
set_option maxRecDepth 65536 in
set_option maxHeartbeats 40000000 in
theorem c_cof {G : Gb} (H : Gl tables_1 els G) {h : Heap} {t : Addr} {kt : ClassId} {vs : List Value} (hv : vs.length = 16) (A1 : Arv G.Z h t kt .byte (16 : Int32) vs (.int 0)) :
    Ctr G [] (⟨"java/util/Arrays", "copyOf", "([BI)[B"⟩ : MethodName) jdk_65_method_121_code 3 (some (.array .byte)) ({ frames := 1, cells := 1, slots := 34, locals := 18 } : Room) #[.ref t, .int 34] h [] (fun v h' Sf => ∃ (u : Addr) (ku : ClassId), v = some (.ref u) ∧ Ext h h' ∧ Arv G.Z h' u ku .byte (34 : Int32) ((List.replicate 34 (Value.int 0)).take 0 ++ vs ++ (List.replicate 34 (Value.int 0)).drop (0 + 16)) (.int 0) ∧ Exa G.Z h' u "[B" ∧ G.Z.heap.size ≤ u ∧ h.size ≤ u ∧ Sf u) := by
  refine ctr_of M_cof rfl rfl (plainFor_of_name pn_3) L_cof H.el (Ls := #[.val (.ref t), .val (.int (34 : Int32)), .unset]) (fun m => ef_ok (by show argsToLocals _ 3 = _; first | (simp [argsToLocals, Value.category]; done) | rfl)) ?_
  intro B K hE
  refine go_run K 0 2 (pc' := 2) (st' := [(.ref t), (.int (34 : Int32))]) rfl ?_
  refine go_arraylength K (k := 2) rfl A1 ?_
  refine go_icmpne K (k := 3) rfl (pc' := 14) (by decide) (fun _ => ?_) (fun q => absurd q (by decide))
  refine go_run K 8 1 (pc' := 15) (st' := [(.int (34 : Int32))]) rfl ?_
  refine go_newarrayE K (k := 9) rfl (H.w 3 rfl) (ad := "[B") (by decide) (by decide) (cap := 34) (by decide) rfl rfl rfl ?_
  intro h2 a1 k3 e4 g5 E6 A7 X8
  have A7' : Arv G.Z h2 a1 k3 .byte (34 : Int32) (List.replicate 34 (.int 0)) (.int 0) := Arv.pad A7 (pad_rep [] _ 34)
  refine go_run K 10 6 (pc' := 23) (Ls' := #[.val (.ref t), .val (.int (34 : Int32)), .val (.ref a1)]) (st' := [(.ref t), (.int (0 : Int32)), (.ref a1), (.int (0 : Int32)), (.ref t)]) rfl ?_
  have c9 := (A1.ext E6)
  refine go_arraylength K (k := 16) rfl c9 ?_
  refine go_run K 17 1 (pc' := 25) (st' := [(.int (34 : Int32)), (.int (16 : Int32)), (.int (0 : Int32)), (.ref a1), (.int (0 : Int32)), (.ref t)]) rfl ?_
  refine go_static K (k := 18) rfl (H.w 155 rfl) (H.w 156 rfl) (H.w 157 rfl) (H.w 158 rfl) (by decide) pd_6 (c_min (x := (16 : Int32)) (y := (34 : Int32)) H) (argsL := [(.int (16 : Int32)), (.int (34 : Int32))]) (rest := [(.int (0 : Int32)), (.ref a1), (.int (0 : Int32)), (.ref t)]) rfl rfl rfl sub0 rfl ?_
  rintro _ _ _ - ⟨r10, rfl, rfl, q11⟩
  show Go G B M_cof _ h2 (a1 :: []) 1 34 28 #[.val (.ref t), .val (.int (34 : Int32)), .val (.ref a1)] [(.int r10), (.int (0 : Int32)), (.ref a1), (.int (0 : Int32)), (.ref t)]
  have hr : r10 = 16 := by
    rcases q11 with ⟨u1, -⟩ | ⟨-, u2⟩
    · exact u1
    · exact absurd u2 (by decide)
  rw [hr]
  refine go_arraycopy K (k := 19) rfl (H.w 159 rfl) (H.w 113 rfl) (H.w 111 rfl) (H.w 112 rfl) c9 A7' rfl (by decide) (by decide) (by decide) (by decide) (by decide) (us := vs) (by rw [show (16 : Int32).toNatClampNeg = 16 from rfl, show (0 : Int32).toNatClampNeg = 0 from rfl, map_range (by omega), List.drop_zero, List.take_of_length_le (by omega)]) (by rw [List.length_replicate]; decide) g5 (Or.inl (List.mem_cons_self ..)) rfl rfl rfl ?_
  intro h12 K13 A14
  refine go_run K 20 1 (pc' := 32) (st' := [(.ref a1)]) rfl ?_
  have X15 : Ext h h12 := (Ext.keepN E6 K13 (allS (Nat.le_trans (Nat.le_refl _) (Nat.le_of_eq e4.symm)) all0))
  have c16 := (X8.keep K13)
  refine go_areturn K (k := 21) rfl rfl rfl rfl rfl rfl rfl ?_
  intro Sf hSf
  exact ⟨a1, k3, rfl, X15, A14, c16, g5, Nat.le_trans (Nat.le_refl _) (Nat.le_of_eq e4.symm), hSf _ (List.mem_cons_self ..)⟩
def P_ecap : List (Nat × Instr × Nat) := [(0, .aload_n 0, 1), (1, .getfield 15, 3), (4, .arraylength, 1), (5, .aload_n 0, 1), (6, .getfield 22, 3), (9, .ishr, 1), (10, .istore_n 2, 1), (11, .iload_n 1, 1), (12, .iload_n 2, 1), (13, .isub, 1), (14, .ifCond .le 24, 3), (17, .aload_n 0, 1), (18, .aload_n 0, 1), (19, .getfield 15, 3), (22, .aload_n 0, 1), (23, .iload_n 1, 1), (24, .invokevirtual 104, 3), (27, .aload_n 0, 1), (28, .getfield 22, 3), (31, .ishl, 1), (32, .invokestatic 108, 3), (35, .putfield 15, 3), (38, .return_, 1)]
theorem L_ecap : ∀ q ∈ P_ecap, decode jdk_68_method_9_code q.1 = .ok q.2 := by decide +kernel
def M_ecap : Mt := (("java/lang/AbstractStringBuilder", "ensureCapacityInternal", ({ frames := 3, cells := 1, slots := 34, locals := 48 } : Room)), P_ecap, 3, none)
set_option maxRecDepth 65536 in
set_option maxHeartbeats 40000000 in
theorem c_ecap {G : Gb} (H : Gl tables_1 els G) {h : Heap} {a t : Addr} {kt : ClassId} {cs : List Int32} {m : Nat} {n : Nat} (hn : n ≤ m) (hm : m < 2 ^ 31) (B1 : Sb G h a t kt cs m) :
    Ctr G [] (⟨"java/lang/AbstractStringBuilder", "ensureCapacityInternal", "(I)V"⟩ : MethodName) jdk_68_method_9_code 3 none ({ frames := 3, cells := 1, slots := 34, locals := 48 } : Room) #[.ref a, .int n.toInt32] h [] (fun v h' Sf => v = none ∧ h = h') := by
  refine ctr_of M_ecap rfl rfl (plainFor_of_name pn_6) L_ecap H.el (Ls := #[.val (.ref a), .val (.int n.toInt32), .unset]) (fun m => ef_ok (by show argsToLocals _ 3 = _; first | (simp [argsToLocals, Value.category]; done) | rfl)) ?_
  intro B K hE
  obtain ⟨e1, e2, e3, e4, e5, e6, e7⟩ := id B1
  refine go_run K 0 1 (pc' := 1) (st' := [(.ref a)]) rfl ?_
  refine go_getfield K (k := 1) rfl (host := "") (Or.inl (H.w 62 rfl)) Via.refl e2 ?_
  refine go_arraylength K (k := 2) rfl e5 ?_
  refine go_run K 3 1 (pc' := 6) (st' := [(.ref a), (.int m.toInt32)]) rfl ?_
  refine go_getfield K (k := 4) rfl (host := "") (Or.inl (H.w 64 rfl)) Via.refl e3 ?_
  refine go_run K 5 5 (pc' := 14) (Ls' := #[.val (.ref a), .val (.int n.toInt32), .val (.int (m.toInt32 >>> ((0 : Int32) &&& 31)))]) (st' := [(.int (n.toInt32 - (m.toInt32 >>> ((0 : Int32) &&& 31))))]) rfl ?_
  rw [shr0]
  refine go_ifle K (k := 10) rfl (pc' := 38) (by decide) (fun _ => ?_) (fun q => absurd q (le_len hm hn))
  refine go_return K (k := 22) rfl rfl rfl rfl ?_
  intro Sf hSf
  exact ⟨rfl, rfl⟩
set_option maxRecDepth 65536 in
set_option maxHeartbeats 40000000 in
theorem c_ecapG {G : Gb} (H : Gl tables_1 els G) {h : Heap} {a t : Addr} {kt : ClassId} {cs : List Int32} {n : Nat} (h1 : 16 < n) (h2 : n ≤ 34) (ga : G.Z.heap.size ≤ a) (B1 : Sx G h a t kt cs 16) :
    Ctr G [] (⟨"java/lang/AbstractStringBuilder", "ensureCapacityInternal", "(I)V"⟩ : MethodName) jdk_68_method_9_code 3 none ({ frames := 3, cells := 1, slots := 34, locals := 48 } : Room) #[.ref a, .int n.toInt32] h [t] (fun v h' Sf => v = none ∧ Keep h h' [a] ∧ ∃ (t' : Addr) (k' : ClassId),  Sx G h' a t' k' cs 34 ∧ G.Z.heap.size ≤ t' ∧ h.size ≤ t' ∧ Sf t') := by
  refine ctr_of M_ecap rfl rfl (plainFor_of_name pn_6) L_ecap H.el (Ls := #[.val (.ref a), .val (.int n.toInt32), .unset]) (fun m => ef_ok (by show argsToLocals _ 3 = _; first | (simp [argsToLocals, Value.category]; done) | rfl)) ?_
  intro B K hE
  obtain ⟨Bx1, EB2⟩ := id B1
  obtain ⟨e3, e4, e5, e6, e7, e8, e9⟩ := id Bx1
  refine go_run K 0 1 (pc' := 1) (st' := [(.ref a)]) rfl ?_
  refine go_getfield K (k := 1) rfl (host := "") (Or.inl (H.w 62 rfl)) Via.refl e4 ?_
  refine go_arraylength K (k := 2) rfl e7 ?_
  show Go G B M_ecap _ h (t :: []) 0 0 5 #[.val (.ref a), .val (.int n.toInt32), .unset] [(.int (16 : Int32))]
  refine go_run K 3 1 (pc' := 6) (st' := [(.ref a), (.int (16 : Int32))]) rfl ?_
  refine go_getfield K (k := 4) rfl (host := "") (Or.inl (H.w 64 rfl)) Via.refl e5 ?_
  refine go_run K 5 5 (pc' := 14) (Ls' := #[.val (.ref a), .val (.int n.toInt32), .val (.int ((16 : Int32) >>> ((0 : Int32) &&& 31)))]) (st' := [(.int (n.toInt32 - ((16 : Int32) >>> ((0 : Int32) &&& 31))))]) rfl ?_
  rw [shr0]
  refine go_ifle K (k := 10) rfl (pc' := 38) (by decide) (fun q => absurd (gt_len (k := 16) (by omega) h1) q) (fun _ => ?_)
  refine go_run K 11 2 (pc' := 19) (st' := [(.ref a), (.ref a)]) rfl ?_
  refine go_getfield K (k := 13) rfl (host := "") (Or.inl (H.w 62 rfl)) Via.refl e4 ?_
  refine go_run K 14 2 (pc' := 24) (st' := [(.int n.toInt32), (.ref a), (.ref t), (.ref a)]) rfl ?_
  refine go_virt0 K (k := 16) rfl (H.w 225 rfl) (H.w 228 rfl) (H.w 226 rfl) (H.w 58 rfl) (H.w 229 rfl) (by decide) pd_9 e3 (c_ncap (n := n) H h1 h2 Bx1) (argsL := [(.int n.toInt32)]) (rest := [(.ref t), (.ref a)]) rfl rfl rfl sub0 rfl ?_
  rintro _ _ _ - ⟨rfl, rfl⟩
  show Go G B M_ecap _ h (t :: []) 0 0 27 #[.val (.ref a), .val (.int n.toInt32), .val (.int (16 : Int32))] [(.int (34 : Int32)), (.ref t), (.ref a)]
  refine go_run K 17 1 (pc' := 28) (st' := [(.ref a), (.int (34 : Int32)), (.ref t), (.ref a)]) rfl ?_
  refine go_getfield K (k := 18) rfl (host := "") (Or.inl (H.w 64 rfl)) Via.refl e5 ?_
  refine go_run K 19 1 (pc' := 32) (st' := [(.int ((34 : Int32) <<< ((0 : Int32) &&& 31))), (.ref t), (.ref a)]) rfl ?_
  rw [shl0]
  refine go_staticN K (k := 20) rfl (H.w 239 rfl) (H.w 240 rfl) (H.w 147 rfl) (H.w 241 rfl) (by decide) pd_10 (c_cof H (by rw [List.length_append, by8_len, List.length_replicate]; omega) e7) (argsL := [(.ref t), (.int (34 : Int32))]) (rest := [(.ref a)]) rfl rfl rfl sub0 rfl ?_
  rintro _ h10 Sf19 - ⟨u11, k12, rfl, E13, A14, X15, g16, f17, s18⟩
  refine ⟨[u11], allS s18 all0, ?_⟩
  show Go G B M_ecap _ h10 (u11 :: (t :: [])) 1 34 35 #[.val (.ref a), .val (.int n.toInt32), .val (.int (16 : Int32))] [(.ref u11), (.ref a)]
  have c20 := (e4.ext E13)
  have c21 := (e3.ext E13)
  refine go_putfield K (k := 21) rfl (host := "") (Or.inl (H.w 62 rfl)) Via.refl c20 c21 (Or.inl (H.w 63 rfl)) (H.w 49 rfl) (ty := (.array .byte)) (by decide) rfl rfl ga (Or.inr (by decide)) ?_
  intro h22 W23
  have c24 := (e5.ext E13)
  have c25 := (e6.ext E13)
  have F26 : Exa G.Z h22 a "java/lang/StringBuilder" := Exa.wr W23 c21
  have F27 : Fld G.Z h22 a "java/lang/AbstractStringBuilder" "value" "[B" (.ref u11) := Fld.same W23 c20
  have F28 : Fld G.Z h22 a "java/lang/AbstractStringBuilder" "coder" "B" (.int (0 : Int32)) := Fld.other W23 c24 (Or.inr (slot_ne (Or.inl (H.w 65 rfl)) (Or.inl (H.w 63 rfl)) (by decide) (t := .byte) (t' := (.array .byte)) (by decide) (by decide)))
  have F29 : Fld G.Z h22 a "java/lang/AbstractStringBuilder" "count" "I" (.int cs.length.toInt32) := Fld.other W23 c25 (Or.inr (slot_ne (Or.inl (H.w 88 rfl)) (Or.inl (H.w 63 rfl)) (by decide) (t := .int) (t' := (.array .byte)) (by decide) (by decide)))
  have c30 := (Arv.other A14 W23 (Exa.neArv c21 A14 (H.w 49 rfl)).symm)
  have c31 := (Exa.wr W23 X15)
  refine go_return K (k := 22) rfl rfl rfl rfl ?_
  intro Sf hSf
  refine ⟨rfl, (((Keep.refl _ [a]).ext E13).wr W23 (Or.inl (List.mem_cons_self ..))), u11, k12, ⟨⟨F26, F27, F28, F29, ?_, by omega, by decide⟩, c31⟩, g16, f17, hSf _ (List.mem_cons_self ..)⟩
  have u := c30
  rw [grow_list e8] at u
  exact u
def P_gby : List (Nat × Instr × Nat) := [(0, .aload_n 0, 1), (1, .invokevirtual 335, 3), (4, .iload_n 3, 1), (5, .if_icmp .ne 23, 3), (8, .aload_n 0, 1), (9, .getfield 9, 3), (12, .iconst 0, 1), (13, .aload_n 1, 1), (14, .iload_n 2, 1), (15, .iload_n 3, 1), (16, .ishl, 1), (17, .aload_n 0, 1), (18, .getfield 9, 3), (21, .arraylength, 1), (22, .invokestatic 212, 3), (25, .goto 18, 3), (28, .aload_n 0, 1), (29, .getfield 9, 3), (32, .iconst 0, 1), (33, .aload_n 1, 1), (34, .iload_n 2, 1), (35, .aload_n 0, 1), (36, .getfield 9, 3), (39, .arraylength, 1), (40, .invokestatic 106, 3), (43, .return_, 1)]
theorem L_gby : ∀ q ∈ P_gby, decode jdk_42_method_147_code q.1 = .ok q.2 := by decide +kernel
def M_gby : Mt := (("java/lang/String", "getBytes", ({ frames := 1, cells := 0, slots := 0, locals := 18 } : Room)), P_gby, 4, none)
set_option maxRecDepth 65536 in
set_option maxHeartbeats 40000000 in
theorem c_gby {G : Gb} (H : Gl tables_1 els G) {h : Heap} {s t : Addr} {kt : ClassId} {ds : List Int32} {m i : Nat} {vd : List Value} (l1 : Lat ds) (S1 : Str G h s ds) (A1 : Arv G.Z h t kt .byte m.toInt32 vd (.int 0)) (hm : m < 2 ^ 31) (hv : vd.length = m) (hi : i + ds.length ≤ m) (g0 : G.Z.heap.size ≤ t) :
    Ctr G [] (⟨"java/lang/String", "getBytes", "([BIB)V"⟩ : MethodName) jdk_42_method_147_code 4 none ({ frames := 1, cells := 0, slots := 0, locals := 18 } : Room) #[.ref s, .ref t, .int i.toInt32, .int 0] h [t] (fun v h' Sf => v = none ∧ Keep h h' [t] ∧ Arv G.Z h' t kt .byte m.toInt32 (vd.take i ++ by8 ds ++ vd.drop (i + ds.length)) (.int 0)) := by
  refine ctr_of M_gby rfl rfl (plainFor_of_name pn_1) L_gby H.el (Ls := #[.val (.ref s), .val (.ref t), .val (.int i.toInt32), .val (.int (0 : Int32))]) (fun m => ef_ok (by show argsToLocals _ 4 = _; first | (simp [argsToLocals, Value.category]; done) | rfl)) ?_
  intro B K hE
  obtain ⟨t1, k2, e3, e4, e5, e6⟩ := id S1
  have hld := lat_lt l1
  refine go_run K 0 1 (pc' := 1) (st' := [(.ref s)]) rfl ?_
  refine go_virt0 K (k := 1) rfl (H.w 81 rfl) (H.w 84 rfl) (H.w 83 rfl) (H.w 1 rfl) (H.w 85 rfl) (by decide) pd_4 S1.exa (c_cod H S1) (argsL := []) (rest := []) rfl rfl rfl sub0 rfl ?_
  rintro _ _ _ - ⟨rfl, rfl⟩
  show Go G B M_gby _ h (t :: []) 0 0 4 #[.val (.ref s), .val (.ref t), .val (.int i.toInt32), .val (.int (0 : Int32))] [(.int (0 : Int32))]
  refine go_run K 2 1 (pc' := 5) (st' := [(.int (0 : Int32)), (.int (0 : Int32))]) rfl ?_
  refine go_icmpne K (k := 3) rfl (pc' := 28) (by decide) (fun q => absurd rfl q) (fun _ => ?_)
  refine go_run K 4 1 (pc' := 9) (st' := [(.ref s)]) rfl ?_
  refine go_getfield K (k := 5) rfl (host := "") (Or.inl (H.w 25 rfl)) Via.refl e5 ?_
  refine go_run K 6 6 (pc' := 18) (st' := [(.ref s), (.int (i.toInt32 <<< ((0 : Int32) &&& 31))), (.ref t), (.int (0 : Int32)), (.ref t1)]) rfl ?_
  rw [shl0]
  refine go_getfield K (k := 12) rfl (host := "") (Or.inl (H.w 25 rfl)) Via.refl e5 ?_
  refine go_arraylength K (k := 13) rfl e6 ?_
  refine go_arraycopy K (k := 14) rfl (H.w 110 rfl) (H.w 113 rfl) (H.w 111 rfl) (H.w 112 rfl) e6 A1 rfl (by decide) (len_nn (by omega)) (len_nn hld) (by rw [len_nat hld]; exact Nat.le_of_eq (Nat.zero_add _)) (by rw [len_nat (by omega), len_nat hld, len_nat hm]; omega) (us := (by8 ds)) (by rw [len_nat hld, show (0 : Int32).toNatClampNeg = 0 from rfl, map_range (by rw [by8_len]; omega), List.drop_zero, List.take_of_length_le (by rw [by8_len]; exact Nat.le_refl _)]) (by rw [len_nat (by omega), len_nat hld]; omega) g0 (Or.inl (List.mem_cons_self ..)) rfl rfl rfl ?_
  intro h7 K8 A9
  refine go_run K 15 1 (pc' := 43) (st' := []) rfl ?_
  refine go_return K (k := 25) rfl rfl rfl rfl ?_
  intro Sf hSf
  refine ⟨rfl, ((Keep.refl _ [t]).trans K8 (allS (Or.inl (List.mem_cons_self ..)) all0)), ?_⟩
  have u := A9
  rw [len_nat (by omega), len_nat hld] at u
  exact u
def P_inf : List (Nat × Instr × Nat) := [(0, .getstatic 18, 3), (3, .ifCond .eq 18, 3), (6, .aload_n 0, 1), (7, .getfield 22, 3), (10, .aload_n 1, 1), (11, .invokevirtual 40, 3), (14, .if_icmp .eq 7, 3), (17, .aload_n 0, 1), (18, .invokevirtual 195, 3), (21, .return_, 1)]
theorem L_inf : ∀ q ∈ P_inf, decode jdk_68_method_71_code q.1 = .ok q.2 := by decide +kernel
def M_inf : Mt := (("java/lang/AbstractStringBuilder", "inflateIfNeededFor", ({ frames := 1, cells := 0, slots := 0, locals := 13 } : Room)), P_inf, 2, none)
set_option maxRecDepth 65536 in
set_option maxHeartbeats 40000000 in
theorem c_inf {G : Gb} (H : Gl tables_1 els G) {h : Heap} {a s : Addr} {ds : List Int32} (F0 : Fld G.Z h a "java/lang/AbstractStringBuilder" "coder" "B" (.int 0)) (S1 : Str G h s ds) :
    Ctr G [] (⟨"java/lang/AbstractStringBuilder", "inflateIfNeededFor", "(Ljava/lang/String;)V"⟩ : MethodName) jdk_68_method_71_code 2 none ({ frames := 1, cells := 0, slots := 0, locals := 13 } : Room) #[.ref a, .ref s] h [] (fun v h' Sf => v = none ∧ h = h') := by
  refine ctr_of M_inf rfl rfl (plainFor_of_name pn_6) L_inf H.el (Ls := #[.val (.ref a), .val (.ref s)]) (fun m => ef_ok (by show argsToLocals _ 2 = _; first | (simp [argsToLocals, Value.category]; done) | rfl)) ?_
  intro B K hE
  obtain ⟨cz, hcs, hcz⟩ := H.cs
  refine go_getstatic K (k := 0) rfl (host := "") (Or.inl (H.w 61 rfl)) Via.refl hcs ?_
  refine go_ifeq K (k := 1) rfl (pc' := 21) (by decide) (fun q => absurd q hcz) (fun _ => ?_)
  refine go_run K 2 1 (pc' := 7) (st' := [(.ref a)]) rfl ?_
  refine go_getfield K (k := 3) rfl (host := "") (Or.inl (H.w 64 rfl)) Via.refl F0 ?_
  refine go_run K 4 1 (pc' := 11) (st' := [(.ref s), (.int (0 : Int32))]) rfl ?_
  refine go_virt0 K (k := 5) rfl (H.w 104 rfl) (H.w 84 rfl) (H.w 83 rfl) (H.w 1 rfl) (H.w 85 rfl) (by decide) pd_4 S1.exa (c_cod H S1) (argsL := []) (rest := [(.int (0 : Int32))]) rfl rfl rfl sub0 rfl ?_
  rintro _ _ _ - ⟨rfl, rfl⟩
  show Go G B M_inf _ h [] 0 0 14 #[.val (.ref a), .val (.ref s)] [(.int (0 : Int32)), (.int (0 : Int32))]
  refine go_icmpeq K (k := 6) rfl (pc' := 21) (by decide) (fun _ => ?_) (fun q => absurd rfl q)
  refine go_return K (k := 9) rfl rfl rfl rfl ?_
  intro Sf hSf
  exact ⟨rfl, rfl⟩
def P_psa : List (Nat × Instr × Nat) := [(0, .aload_n 0, 1), (1, .aload_n 2, 1), (2, .invokevirtual 397, 3), (5, .aload_n 2, 1), (6, .aload_n 0, 1), (7, .getfield 15, 3), (10, .iload_n 1, 1), (11, .aload_n 0, 1), (12, .getfield 22, 3), (15, .invokevirtual 399, 3), (18, .return_, 1)]
theorem L_psa : ∀ q ∈ P_psa, decode jdk_68_method_73_code q.1 = .ok q.2 := by decide +kernel
def M_psa : Mt := (("java/lang/AbstractStringBuilder", "putStringAt", ({ frames := 2, cells := 0, slots := 0, locals := 33 } : Room)), P_psa, 3, none)
set_option maxRecDepth 65536 in
set_option maxHeartbeats 40000000 in
theorem c_psa {G : Gb} (H : Gl tables_1 els G) {h : Heap} {a t : Addr} {kt : ClassId} {cs : List Int32} {m : Nat} {s : Addr} {ds : List Int32} (l1 : Lat ds) (hsum : cs.length + ds.length ≤ m) (B1 : Sb G h a t kt cs m) (S1 : Str G h s ds) (g0 : G.Z.heap.size ≤ t) :
    Ctr G [] (⟨"java/lang/AbstractStringBuilder", "putStringAt", "(ILjava/lang/String;)V"⟩ : MethodName) jdk_68_method_73_code 3 none ({ frames := 2, cells := 0, slots := 0, locals := 33 } : Room) #[.ref a, .int cs.length.toInt32, .ref s] h [t] (fun v h' Sf => v = none ∧ Keep h h' [t] ∧ Arv G.Z h' t kt .byte m.toInt32 (by8 (cs ++ ds) ++ List.replicate (m - (cs ++ ds).length) (.int 0)) (.int 0)) := by
  refine ctr_of M_psa rfl rfl (plainFor_of_name pn_6) L_psa H.el (Ls := #[.val (.ref a), .val (.int cs.length.toInt32), .val (.ref s)]) (fun m => ef_ok (by show argsToLocals _ 3 = _; first | (simp [argsToLocals, Value.category]; done) | rfl)) ?_
  intro B K hE
  obtain ⟨e1, e2, e3, e4, e5, e6, e7⟩ := id B1
  refine go_run K 0 2 (pc' := 2) (st' := [(.ref s), (.ref a)]) rfl ?_
  refine go_virt0 K (k := 2) rfl (H.w 99 rfl) (H.w 102 rfl) (H.w 100 rfl) (H.w 58 rfl) (H.w 103 rfl) (by decide) pd_11 e1 (c_inf H e3 S1) (argsL := [(.ref s)]) (rest := []) rfl rfl rfl sub0 rfl ?_
  rintro _ _ _ - ⟨rfl, rfl⟩
  show Go G B M_psa _ h (t :: []) 0 0 5 #[.val (.ref a), .val (.int cs.length.toInt32), .val (.ref s)] []
  refine go_run K 3 2 (pc' := 7) (st' := [(.ref a), (.ref s)]) rfl ?_
  refine go_getfield K (k := 5) rfl (host := "") (Or.inl (H.w 62 rfl)) Via.refl e2 ?_
  refine go_run K 6 2 (pc' := 12) (st' := [(.ref a), (.int cs.length.toInt32), (.ref t), (.ref s)]) rfl ?_
  refine go_getfield K (k := 8) rfl (host := "") (Or.inl (H.w 64 rfl)) Via.refl e3 ?_
  refine go_virt0 K (k := 9) rfl (H.w 105 rfl) (H.w 108 rfl) (H.w 107 rfl) (H.w 1 rfl) (H.w 109 rfl) (by decide) pd_12 S1.exa (c_gby (i := cs.length) (m := m) H l1 S1 e5 e7 (by rw [List.length_append, by8_len, List.length_replicate]; omega) hsum g0) (argsL := [(.ref t), (.int cs.length.toInt32), (.int (0 : Int32))]) (rest := []) rfl rfl rfl (subS (List.mem_cons_self ..) sub0) rfl ?_
  rintro _ h8 _ - ⟨rfl, K9, A10⟩
  show Go G B M_psa _ h8 (t :: []) 0 0 18 #[.val (.ref a), .val (.int cs.length.toInt32), .val (.ref s)] []
  refine go_return K (k := 10) rfl rfl rfl rfl ?_
  intro Sf hSf
  refine ⟨rfl, ((Keep.refl _ [t]).trans K9 (allS (Or.inl (List.mem_cons_self ..)) all0)), ?_⟩
  have u := A10
  rw [sb_put hsum] at u
  exact u
def P_aap : List (Nat × Instr × Nat) := [(0, .aload_n 1, 1), (1, .ifnonnull 8, 3), (4, .aload_n 0, 1), (5, .invokevirtual 204, 3), (8, .areturn, 1), (9, .aload_n 1, 1), (10, .invokevirtual 32, 3), (13, .istore_n 2, 1), (14, .aload_n 0, 1), (15, .aload_n 0, 1), (16, .getfield 79, 3), (19, .iload_n 2, 1), (20, .iadd, 1), (21, .invokevirtual 100, 3), (24, .aload_n 0, 1), (25, .aload_n 0, 1), (26, .getfield 79, 3), (29, .aload_n 1, 1), (30, .invokevirtual 208, 3), (33, .aload_n 0, 1), (34, .dup, 1), (35, .getfield 79, 3), (38, .iload_n 2, 1), (39, .iadd, 1), (40, .putfield 79, 3), (43, .aload_n 0, 1), (44, .areturn, 1)]
theorem L_aap : ∀ q ∈ P_aap, decode jdk_68_method_22_code q.1 = .ok q.2 := by decide +kernel
def M_aap : Mt := (("java/lang/AbstractStringBuilder", "append", ({ frames := 4, cells := 1, slots := 34, locals := 62 } : Room)), P_aap, 3, (some (.object "java/lang/AbstractStringBuilder")))
set_option maxRecDepth 65536 in
set_option maxHeartbeats 40000000 in
theorem c_aap {G : Gb} (H : Gl tables_1 els G) {h : Heap} {a t : Addr} {kt : ClassId} {cs : List Int32} {m : Nat} {s : Addr} {ds : List Int32} (l1 : Lat ds) (hm16 : m = 16 ∨ m = 34) (hs : cs.length + ds.length ≤ 34) (B1 : Sx G h a t kt cs m) (S1 : Str G h s ds) (ga : G.Z.heap.size ≤ a) (g0 : G.Z.heap.size ≤ t) :
    Ctr G [] (⟨"java/lang/AbstractStringBuilder", "append", "(Ljava/lang/String;)Ljava/lang/AbstractStringBuilder;"⟩ : MethodName) jdk_68_method_22_code 3 (some (.object "java/lang/AbstractStringBuilder")) ({ frames := 4, cells := 1, slots := 34, locals := 62 } : Room) #[.ref a, .ref s] h [t] (fun v h' Sf => v = some (.ref a) ∧ ∃ (t' : Addr) (k' : ClassId) (m' : Nat), Keep h h' [a, t] ∧ Sx G h' a t' k' (cs ++ ds) m' ∧ (m' = 16 ∨ m' = 34) ∧ G.Z.heap.size ≤ t' ∧ Sf t' ∧ ∀ n : Nat, n ≤ t → n ≤ h.size → n ≤ t') := by
  refine ctr_of M_aap rfl rfl (plainFor_of_name pn_6) L_aap H.el (Ls := #[.val (.ref a), .val (.ref s), .unset]) (fun m => ef_ok (by show argsToLocals _ 3 = _; first | (simp [argsToLocals, Value.category]; done) | rfl)) ?_
  intro B K hE
  obtain ⟨Bx1, EB2⟩ := id B1
  obtain ⟨e3, e4, e5, e6, e7, e8, e9⟩ := id Bx1
  refine go_run K 0 1 (pc' := 1) (st' := [(.ref s)]) rfl ?_
  refine go_ifnonY K (k := 1) rfl (pc' := 9) (by decide) ?_
  refine go_run K 5 1 (pc' := 10) (st' := [(.ref s)]) rfl ?_
  refine go_virt0 K (k := 6) rfl (H.w 76 rfl) (H.w 79 rfl) (H.w 78 rfl) (H.w 1 rfl) (H.w 80 rfl) (by decide) pd_13 S1.exa (c_len H S1) (argsL := []) (rest := []) rfl rfl rfl sub0 rfl ?_
  rintro _ _ _ - ⟨rfl, rfl⟩
  show Go G B M_aap _ h (t :: []) 0 0 13 #[.val (.ref a), .val (.ref s), .unset] [(.int (ds).length.toInt32)]
  show Go G B M_aap _ h (t :: []) 0 0 13 #[.val (.ref a), .val (.ref s), .unset] [(.int ds.length.toInt32)]
  refine go_run K 7 3 (pc' := 16) (Ls' := #[.val (.ref a), .val (.ref s), .val (.int ds.length.toInt32)]) (st' := [(.ref a), (.ref a)]) rfl ?_
  refine go_getfield K (k := 10) rfl (host := "") (Or.inl (H.w 87 rfl)) Via.refl e6 ?_
  refine go_run K 11 2 (pc' := 21) (st' := [(.int (cs.length.toInt32 + ds.length.toInt32)), (.ref a)]) rfl ?_
  rw [add_len]
  by_cases hsum : cs.length + ds.length ≤ m
  · refine go_virt0 K (k := 13) rfl (H.w 89 rfl) (H.w 92 rfl) (H.w 90 rfl) (H.w 58 rfl) (H.w 93 rfl) (by decide) pd_14 e3 (c_ecap (n := (cs.length + ds.length)) H hsum e9 Bx1) (argsL := [(.int (cs.length + ds.length).toInt32)]) (rest := []) rfl rfl rfl sub0 rfl ?_
    rintro _ _ _ - ⟨rfl, rfl⟩
    show Go G B M_aap _ h (t :: []) 1 34 24 #[.val (.ref a), .val (.ref s), .val (.int ds.length.toInt32)] []
    refine go_run K 14 2 (pc' := 26) (st' := [(.ref a), (.ref a)]) rfl ?_
    refine go_getfield K (k := 16) rfl (host := "") (Or.inl (H.w 87 rfl)) Via.refl e6 ?_
    refine go_run K 17 1 (pc' := 30) (st' := [(.ref s), (.int cs.length.toInt32), (.ref a)]) rfl ?_
    refine go_virt0 K (k := 18) rfl (H.w 94 rfl) (H.w 97 rfl) (H.w 95 rfl) (H.w 58 rfl) (H.w 98 rfl) (by decide) pd_15 e3 (c_psa H l1 hsum Bx1 S1 g0) (argsL := [(.int cs.length.toInt32), (.ref s)]) (rest := []) rfl rfl rfl (subS (List.mem_cons_self ..) sub0) rfl ?_
    rintro _ h10 _ - ⟨rfl, K11, A12⟩
    show Go G B M_aap _ h10 (t :: []) 1 34 33 #[.val (.ref a), .val (.ref s), .val (.int ds.length.toInt32)] []
    refine go_run K 19 2 (pc' := 35) (st' := [(.ref a), (.ref a)]) rfl ?_
    have c13 := (e6.keep K11 (ninS (Exa.ne e3 EB2 (by decide)) nin0))
    refine go_getfield K (k := 21) rfl (host := "") (Or.inl (H.w 87 rfl)) Via.refl c13 ?_
    refine go_run K 22 2 (pc' := 40) (st' := [(.int (cs.length.toInt32 + ds.length.toInt32)), (.ref a)]) rfl ?_
    rw [add_len]
    have c14 := (e3.keep K11)
    refine go_putfield K (k := 24) rfl (host := "") (Or.inl (H.w 87 rfl)) Via.refl c13 c14 (Or.inl (H.w 88 rfl)) (H.w 49 rfl) (ty := .int) (by decide) rfl rfl ga (Or.inr (by decide)) ?_
    intro h15 W16
    have c17 := (e4.keep K11 (ninS (Exa.ne e3 EB2 (by decide)) nin0))
    have c18 := (e5.keep K11 (ninS (Exa.ne e3 EB2 (by decide)) nin0))
    have F19 : Exa G.Z h15 a "java/lang/StringBuilder" := Exa.wr W16 c14
    have F20 : Fld G.Z h15 a "java/lang/AbstractStringBuilder" "value" "[B" (.ref t) := Fld.other W16 c17 (Or.inr (slot_ne (Or.inl (H.w 63 rfl)) (Or.inl (H.w 88 rfl)) (by decide) (t := (.array .byte)) (t' := .int) (by decide) (by decide)))
    have F21 : Fld G.Z h15 a "java/lang/AbstractStringBuilder" "coder" "B" (.int (0 : Int32)) := Fld.other W16 c18 (Or.inr (slot_ne (Or.inl (H.w 65 rfl)) (Or.inl (H.w 88 rfl)) (by decide) (t := .byte) (t' := .int) (by decide) (by decide)))
    have F22 : Fld G.Z h15 a "java/lang/AbstractStringBuilder" "count" "I" (.int (cs.length + ds.length).toInt32) := Fld.same W16 c13
    refine go_run K 25 1 (pc' := 44) (st' := [(.ref a)]) rfl ?_
    have c23 := (Arv.other A12 W16 (Exa.neArv c14 A12 (H.w 49 rfl)).symm)
    have c24 := (Exa.wr W16 (EB2.keep K11))
    refine go_areturn K (k := 26) rfl rfl rfl rfl rfl rfl rfl ?_
    intro Sf hSf
    refine ⟨rfl, t, kt, m, (((Keep.refl _ [a, t]).trans K11 (allS (Or.inl (List.mem_cons_of_mem _ (List.mem_cons_self ..))) all0)).wr W16 (Or.inl (List.mem_cons_self ..))), ⟨⟨F19, F20, F21, ?_, c23, ?_, (by omega)⟩, c24⟩, hm16, g0, hSf _ (List.mem_cons_self ..), fun _ q _ => q⟩
    · rw [List.length_append]; exact F22
    · rw [List.length_append]; exact hsum
  · obtain rfl : m = 16 := by omega
    have hg : 16 < cs.length + ds.length := by omega
    refine go_virt0N K (k := 13) rfl (H.w 89 rfl) (H.w 92 rfl) (H.w 90 rfl) (H.w 58 rfl) (H.w 93 rfl) (by decide) pd_14 e3 (c_ecapG (n := (cs.length + ds.length)) H hg hs ga B1) (argsL := [(.int (cs.length + ds.length).toInt32)]) (rest := []) rfl rfl rfl (subS (List.mem_cons_self ..) sub0) rfl ?_
    rintro _ h25 Sf33 - ⟨rfl, K26, t27, k28, B29, g30, f31, s32⟩
    refine ⟨[t27], allS s32 all0, ?_⟩
    show Go G B M_aap _ h25 (t27 :: (t :: [])) 1 34 24 #[.val (.ref a), .val (.ref s), .val (.int ds.length.toInt32)] []
    obtain ⟨B34, EB35⟩ := id B29
    obtain ⟨e36, e37, e38, e39, e40, e41, e42⟩ := id B34
    refine go_run K 14 2 (pc' := 26) (st' := [(.ref a), (.ref a)]) rfl ?_
    refine go_getfield K (k := 16) rfl (host := "") (Or.inl (H.w 87 rfl)) Via.refl e39 ?_
    refine go_run K 17 1 (pc' := 30) (st' := [(.ref s), (.int cs.length.toInt32), (.ref a)]) rfl ?_
    have c43 := (Str.keepO S1 e3 (by decide) (H.w 49 rfl) K26)
    refine go_virt0 K (k := 18) rfl (H.w 94 rfl) (H.w 97 rfl) (H.w 95 rfl) (H.w 58 rfl) (H.w 98 rfl) (by decide) pd_15 e36 (c_psa H l1 hs B34 c43 g30) (argsL := [(.int cs.length.toInt32), (.ref s)]) (rest := []) rfl rfl rfl (subS (List.mem_cons_self ..) sub0) rfl ?_
    rintro _ h44 _ - ⟨rfl, K45, A46⟩
    show Go G B M_aap _ h44 (t27 :: (t :: [])) 1 34 33 #[.val (.ref a), .val (.ref s), .val (.int ds.length.toInt32)] []
    refine go_run K 19 2 (pc' := 35) (st' := [(.ref a), (.ref a)]) rfl ?_
    have c47 := (e39.keep K45 (ninS (Exa.ne e36 EB35 (by decide)) nin0))
    refine go_getfield K (k := 21) rfl (host := "") (Or.inl (H.w 87 rfl)) Via.refl c47 ?_
    refine go_run K 22 2 (pc' := 40) (st' := [(.int (cs.length.toInt32 + ds.length.toInt32)), (.ref a)]) rfl ?_
    rw [add_len]
    have c48 := (e36.keep K45)
    refine go_putfield K (k := 24) rfl (host := "") (Or.inl (H.w 87 rfl)) Via.refl c47 c48 (Or.inl (H.w 88 rfl)) (H.w 49 rfl) (ty := .int) (by decide) rfl rfl ga (Or.inr (by decide)) ?_
    intro h49 W50
    have c51 := (e37.keep K45 (ninS (Exa.ne e36 EB35 (by decide)) nin0))
    have c52 := (e38.keep K45 (ninS (Exa.ne e36 EB35 (by decide)) nin0))
    have F53 : Exa G.Z h49 a "java/lang/StringBuilder" := Exa.wr W50 c48
    have F54 : Fld G.Z h49 a "java/lang/AbstractStringBuilder" "value" "[B" (.ref t27) := Fld.other W50 c51 (Or.inr (slot_ne (Or.inl (H.w 63 rfl)) (Or.inl (H.w 88 rfl)) (by decide) (t := (.array .byte)) (t' := .int) (by decide) (by decide)))
    have F55 : Fld G.Z h49 a "java/lang/AbstractStringBuilder" "coder" "B" (.int (0 : Int32)) := Fld.other W50 c52 (Or.inr (slot_ne (Or.inl (H.w 65 rfl)) (Or.inl (H.w 88 rfl)) (by decide) (t := .byte) (t' := .int) (by decide) (by decide)))
    have F56 : Fld G.Z h49 a "java/lang/AbstractStringBuilder" "count" "I" (.int (cs.length + ds.length).toInt32) := Fld.same W50 c47
    refine go_run K 25 1 (pc' := 44) (st' := [(.ref a)]) rfl ?_
    have c57 := (Arv.other A46 W50 (Exa.neArv c48 A46 (H.w 49 rfl)).symm)
    have c58 := (Exa.wr W50 (EB35.keep K45))
    refine go_areturn K (k := 26) rfl rfl rfl rfl rfl rfl rfl ?_
    intro Sf hSf
    refine ⟨rfl, t27, k28, 34, ((((Keep.refl _ [a, t]).trans K26 (allS (Or.inl (List.mem_cons_self ..)) all0)).trans K45 (allS (Or.inr (f31)) all0)).wr W50 (Or.inl (List.mem_cons_self ..))), ⟨⟨F53, F54, F55, ?_, c57, ?_, (by omega)⟩, c58⟩, Or.inr rfl, g30, hSf _ (List.mem_cons_self ..), fun _ _ q => Nat.le_trans q (f31)⟩
    · rw [List.length_append]; exact F56
    · rw [List.length_append]; exact hs
theorem pn_7 : plainName "java/lang/StringBuilder" = true := by first | (simp [plainName, overriddenIn]; done) | decide +kernel
def P_sap : List (Nat × Instr × Nat) := [(0, .aload_n 0, 1), (1, .aload_n 1, 1), (2, .invokespecial 29, 3), (5, .pop, 1), (6, .aload_n 0, 1), (7, .areturn, 1)]
theorem L_sap : ∀ q ∈ P_sap, decode jdk_67_method_7_code q.1 = .ok q.2 := by decide +kernel
def M_sap : Mt := (("java/lang/StringBuilder", "append", ({ frames := 5, cells := 1, slots := 34, locals := 76 } : Room)), P_sap, 2, (some (.object "java/lang/StringBuilder")))
set_option maxRecDepth 65536 in
set_option maxHeartbeats 40000000 in
theorem c_sap {G : Gb} (H : Gl tables_1 els G) {h : Heap} {a t : Addr} {kt : ClassId} {cs : List Int32} {m : Nat} {s : Addr} {ds : List Int32} (l1 : Lat ds) (hm16 : m = 16 ∨ m = 34) (hs : cs.length + ds.length ≤ 34) (B1 : Sx G h a t kt cs m) (S1 : Str G h s ds) (ga : G.Z.heap.size ≤ a) (g0 : G.Z.heap.size ≤ t) :
    Ctr G [] (⟨"java/lang/StringBuilder", "append", "(Ljava/lang/String;)Ljava/lang/StringBuilder;"⟩ : MethodName) jdk_67_method_7_code 2 (some (.object "java/lang/StringBuilder")) ({ frames := 5, cells := 1, slots := 34, locals := 76 } : Room) #[.ref a, .ref s] h [t] (fun v h' Sf => v = some (.ref a) ∧ ∃ (t' : Addr) (k' : ClassId) (m' : Nat), Keep h h' [a, t] ∧ Sx G h' a t' k' (cs ++ ds) m' ∧ (m' = 16 ∨ m' = 34) ∧ G.Z.heap.size ≤ t' ∧ Sf t' ∧ ∀ n : Nat, n ≤ t → n ≤ h.size → n ≤ t') := by
  refine ctr_of M_sap rfl rfl (plainFor_of_name pn_7) L_sap H.el (Ls := #[.val (.ref a), .val (.ref s)]) (fun m => ef_ok (by show argsToLocals _ 2 = _; first | (simp [argsToLocals, Value.category]; done) | rfl)) ?_
  intro B K hE
  refine go_run K 0 2 (pc' := 2) (st' := [(.ref s), (.ref a)]) rfl ?_
  refine go_superN K (k := 2) rfl (H.w 71 rfl) (sameM (H.w 74 rfl) (H.w 92 rfl) rfl (by decide)) (H.w 72 rfl) (H.w 73 rfl) (H.w 58 rfl) (H.w 75 rfl) (by decide) pd_16 B1.exa (c_aap H l1 hm16 hs B1 S1 ga g0) (argsL := [(.ref s)]) (rest := []) rfl rfl rfl (subS (List.mem_cons_self ..) sub0) rfl ?_
  rintro _ h1 Sf11 - ⟨rfl, t2, k3, m4, K5, X6, hm7, g8, s9, f10⟩
  refine ⟨[t2], allS s9 all0, ?_⟩
  show Go G B M_sap _ h1 (t2 :: (t :: [])) 1 34 5 #[.val (.ref a), .val (.ref s)] [(.ref a)]
  refine go_run K 3 2 (pc' := 7) (st' := [(.ref a)]) rfl ?_
  refine go_areturn K (k := 5) rfl rfl rfl rfl rfl rfl rfl ?_
  intro Sf hSf
  exact ⟨rfl, t2, _, _, ((Keep.refl _ [a, t]).trans K5 (allS (Or.inl (List.mem_cons_self ..)) (allS (Or.inl (List.mem_cons_of_mem _ (List.mem_cons_self ..))) all0))), X6, hm7, g8, hSf _ (List.mem_cons_self ..), f10⟩
def P_asi : List (Nat × Instr × Nat) := [(0, .aload_n 0, 1), (1, .invokespecial 3, 3), (4, .getstatic 18, 3), (7, .ifCond .eq 18, 3), (10, .aload_n 0, 1), (11, .iload_n 1, 1), (12, .newarray .byte, 2), (14, .putfield 15, 3), (17, .aload_n 0, 1), (18, .iconst 0, 1), (19, .putfield 22, 3), (22, .goto 16, 3), (25, .aload_n 0, 1), (26, .iload_n 1, 1), (27, .invokestatic 26, 3), (30, .putfield 15, 3), (33, .aload_n 0, 1), (34, .iconst 1, 1), (35, .putfield 22, 3), (38, .return_, 1)]
theorem L_asi : ∀ q ∈ P_asi, decode jdk_68_method_2_code q.1 = .ok q.2 := by decide +kernel
def M_asi : Mt := (("java/lang/AbstractStringBuilder", "<init>", ({ frames := 1, cells := 1, slots := 16, locals := 12 } : Room)), P_asi, 2, none)
set_option maxRecDepth 65536 in
set_option maxHeartbeats 40000000 in
theorem c_asi {G : Gb} (H : Gl tables_1 els G) {h : Heap} {a : Addr} (E0 : Exa G.Z h a "java/lang/StringBuilder") (V0 : Fld G.Z h a "java/lang/AbstractStringBuilder" "value" "[B" .null) (C0 : Fld G.Z h a "java/lang/AbstractStringBuilder" "coder" "B" (.int 0)) (N0 : Fld G.Z h a "java/lang/AbstractStringBuilder" "count" "I" (.int 0)) (g0 : G.Z.heap.size ≤ a) :
    Ctr G [] (⟨"java/lang/AbstractStringBuilder", "<init>", "(I)V"⟩ : MethodName) jdk_68_method_2_code 2 none ({ frames := 1, cells := 1, slots := 16, locals := 12 } : Room) #[.ref a, .int 16] h [] (fun v h' Sf => v = none ∧ Keep h h' [a] ∧ ∃ (t : Addr) (kt : ClassId), Sx G h' a t kt [] 16 ∧ G.Z.heap.size ≤ t ∧ h.size ≤ t ∧ Sf t) := by
  refine ctr_of M_asi rfl rfl (plainFor_of_name pn_6) L_asi H.el (Ls := #[.val (.ref a), .val (.int (16 : Int32))]) (fun m => ef_ok (by show argsToLocals _ 2 = _; first | (simp [argsToLocals, Value.category]; done) | rfl)) ?_
  intro B K hE
  obtain ⟨cz, hcs, hcz⟩ := H.cs
  refine go_run K 0 1 (pc' := 1) (st' := [(.ref a)]) rfl ?_
  refine go_init0 K (k := 1) rfl (H.w 60 rfl) (H.w 22 rfl) (H.w 23 rfl) rfl rfl rfl ?_
  refine go_getstatic K (k := 2) rfl (host := "") (Or.inl (H.w 61 rfl)) Via.refl hcs ?_
  refine go_ifeq K (k := 3) rfl (pc' := 25) (by decide) (fun q => absurd q hcz) (fun _ => ?_)
  refine go_run K 4 2 (pc' := 12) (st' := [(.int (16 : Int32)), (.ref a)]) rfl ?_
  refine go_newarrayE K (k := 6) rfl (H.w 3 rfl) (ad := "[B") (by decide) (by decide) (cap := 16) (by decide) rfl rfl rfl ?_
  intro h2 a1 k3 e4 g5 E6 A7 X8
  have A7' : Arv G.Z h2 a1 k3 .byte (16 : Int32) (List.replicate 16 (.int 0)) (.int 0) := Arv.pad A7 (pad_rep [] _ 16)
  have c9 := (V0.ext E6)
  have c10 := (E0.ext E6)
  refine go_putfield K (k := 7) rfl (host := "") (Or.inl (H.w 62 rfl)) Via.refl c9 c10 (Or.inl (H.w 63 rfl)) (H.w 49 rfl) (ty := (.array .byte)) (by decide) rfl rfl g0 (Or.inr (by decide)) ?_
  intro h11 W12
  have c13 := (C0.ext E6)
  have c14 := (N0.ext E6)
  have F15 : Exa G.Z h11 a "java/lang/StringBuilder" := Exa.wr W12 c10
  have F16 : Fld G.Z h11 a "java/lang/AbstractStringBuilder" "value" "[B" (.ref a1) := Fld.same W12 c9
  have F17 : Fld G.Z h11 a "java/lang/AbstractStringBuilder" "coder" "B" (.int (0 : Int32)) := Fld.other W12 c13 (Or.inr (slot_ne (Or.inl (H.w 65 rfl)) (Or.inl (H.w 63 rfl)) (by decide) (t := .byte) (t' := (.array .byte)) (by decide) (by decide)))
  have F18 : Fld G.Z h11 a "java/lang/AbstractStringBuilder" "count" "I" (.int (0 : Int32)) := Fld.other W12 c14 (Or.inr (slot_ne (Or.inl (H.w 88 rfl)) (Or.inl (H.w 63 rfl)) (by decide) (t := .int) (t' := (.array .byte)) (by decide) (by decide)))
  refine go_run K 8 2 (pc' := 19) (st' := [(.int (0 : Int32)), (.ref a)]) rfl ?_
  refine go_putfield K (k := 10) rfl (host := "") (Or.inl (H.w 64 rfl)) Via.refl F17 F15 (Or.inl (H.w 65 rfl)) (H.w 49 rfl) (ty := .byte) (by decide) rfl rfl g0 (Or.inr (by decide)) ?_
  intro h19 W20
  have F21 : Exa G.Z h19 a "java/lang/StringBuilder" := Exa.wr W20 F15
  have F22 : Fld G.Z h19 a "java/lang/AbstractStringBuilder" "value" "[B" (.ref a1) := Fld.other W20 F16 (Or.inr (slot_ne (Or.inl (H.w 63 rfl)) (Or.inl (H.w 65 rfl)) (by decide) (t := (.array .byte)) (t' := .byte) (by decide) (by decide)))
  have F23 : Fld G.Z h19 a "java/lang/AbstractStringBuilder" "coder" "B" (.int (0 : Int32)) := Fld.same W20 F17
  have F24 : Fld G.Z h19 a "java/lang/AbstractStringBuilder" "count" "I" (.int (0 : Int32)) := Fld.other W20 F18 (Or.inr (slot_ne (Or.inl (H.w 88 rfl)) (Or.inl (H.w 65 rfl)) (by decide) (t := .int) (t' := .byte) (by decide) (by decide)))
  refine go_run K 11 1 (pc' := 38) (st' := []) rfl ?_
  have c25 := (Arv.other (Arv.other A7' W12 (Exa.neArv c10 A7' (H.w 49 rfl)).symm) W20 (Exa.neArv F15 (Arv.other A7' W12 (Exa.neArv c10 A7' (H.w 49 rfl)).symm) (H.w 49 rfl)).symm)
  have c26 := (Exa.wr W20 (Exa.wr W12 X8))
  refine go_return K (k := 19) rfl rfl rfl rfl ?_
  intro Sf hSf
  exact ⟨rfl, ((((Keep.refl _ [a]).ext E6).wr W12 (Or.inl (List.mem_cons_self ..))).wr W20 (Or.inl (List.mem_cons_self ..))), a1, k3, ⟨⟨F21, F22, F23, F24, c25, by decide, by decide⟩, c26⟩, g5, Nat.le_trans (Nat.le_refl _) (Nat.le_of_eq e4.symm), hSf _ (List.mem_cons_self ..)⟩
def P_sbi : List (Nat × Instr × Nat) := [(0, .aload_n 0, 1), (1, .bipush 16, 2), (3, .invokespecial 1, 3), (6, .return_, 1)]
theorem L_sbi : ∀ q ∈ P_sbi, decode jdk_67_method_1_code q.1 = .ok q.2 := by decide +kernel
def M_sbi : Mt := (("java/lang/StringBuilder", "<init>", ({ frames := 2, cells := 1, slots := 16, locals := 25 } : Room)), P_sbi, 1, none)
set_option maxRecDepth 65536 in
set_option maxHeartbeats 40000000 in
theorem c_sbi {G : Gb} (H : Gl tables_1 els G) {h : Heap} {a : Addr} (E0 : Exa G.Z h a "java/lang/StringBuilder") (V0 : Fld G.Z h a "java/lang/AbstractStringBuilder" "value" "[B" .null) (C0 : Fld G.Z h a "java/lang/AbstractStringBuilder" "coder" "B" (.int 0)) (N0 : Fld G.Z h a "java/lang/AbstractStringBuilder" "count" "I" (.int 0)) (g0 : G.Z.heap.size ≤ a) :
    Ctr G [] (⟨"java/lang/StringBuilder", "<init>", "()V"⟩ : MethodName) jdk_67_method_1_code 1 none ({ frames := 2, cells := 1, slots := 16, locals := 25 } : Room) #[.ref a] h [] (fun v h' Sf => v = none ∧ Keep h h' [a] ∧ ∃ (t : Addr) (kt : ClassId), Sx G h' a t kt [] 16 ∧ G.Z.heap.size ≤ t ∧ h.size ≤ t ∧ Sf t) := by
  refine ctr_of M_sbi rfl rfl (plainFor_of_name pn_7) L_sbi H.el (Ls := #[.val (.ref a)]) (fun m => ef_ok (by show argsToLocals _ 1 = _; first | (simp [argsToLocals, Value.category]; done) | rfl)) ?_
  intro B K hE
  refine go_run K 0 2 (pc' := 3) (st' := [(.int (16 : Int32)), (.ref a)]) rfl ?_
  refine go_specialN K (k := 2) rfl rfl (H.w 54 rfl) (H.w 55 rfl) (H.w 58 rfl) (H.w 59 rfl) (by decide) pd_14 (c_asi H E0 V0 C0 N0 g0) (argsL := [(.int (16 : Int32))]) (rest := []) rfl rfl rfl sub0 rfl ?_
  rintro _ h1 Sf9 - ⟨rfl, K2, t3, k4, X5, g6, f7, s8⟩
  refine ⟨[t3], allS s8 all0, ?_⟩
  show Go G B M_sbi _ h1 (t3 :: []) 1 16 6 #[.val (.ref a)] []
  refine go_return K (k := 3) rfl rfl rfl rfl ?_
  intro Sf hSf
  exact ⟨rfl, ((Keep.refl _ [a]).trans K2 (allS (Or.inl (List.mem_cons_self ..)) all0)), _, _, X5, g6, f7, hSf _ (List.mem_cons_self ..)⟩
def P_gval : List (Nat × Instr × Nat) := [(0, .aload_n 0, 1), (1, .getfield 15, 3), (4, .areturn, 1)]
theorem L_gval : ∀ q ∈ P_gval, decode jdk_68_method_64_code q.1 = .ok q.2 := by decide +kernel
def M_gval : Mt := (("java/lang/AbstractStringBuilder", "getValue", ({ frames := 0, cells := 0, slots := 0, locals := 0 } : Room)), P_gval, 1, (some (.array .byte)))
set_option maxRecDepth 65536 in
set_option maxHeartbeats 40000000 in
theorem c_gval {G : Gb} (H : Gl tables_1 els G) {h : Heap} {a t : Addr} {kt : ClassId} {cs : List Int32} {m : Nat} (B1 : Sb G h a t kt cs m) :
    Ctr G [] (⟨"java/lang/AbstractStringBuilder", "getValue", "()[B"⟩ : MethodName) jdk_68_method_64_code 1 (some (.array .byte)) ({ frames := 0, cells := 0, slots := 0, locals := 0 } : Room) #[.ref a] h [] (fun v h' Sf => v = some (.ref t) ∧ h = h') := by
  refine ctr_of M_gval rfl rfl (plainFor_of_name pn_6) L_gval H.el (Ls := #[.val (.ref a)]) (fun m => ef_ok (by show argsToLocals _ 1 = _; first | (simp [argsToLocals, Value.category]; done) | rfl)) ?_
  intro B K hE
  obtain ⟨e1, e2, e3, e4, e5, e6, e7⟩ := id B1
  refine go_run K 0 1 (pc' := 1) (st' := [(.ref a)]) rfl ?_
  refine go_getfield K (k := 1) rfl (host := "") (Or.inl (H.w 62 rfl)) Via.refl e2 ?_
  refine go_areturn K (k := 2) rfl rfl rfl rfl rfl rfl rfl ?_
  intro Sf hSf
  exact ⟨rfl, rfl⟩
def P_alen : List (Nat × Instr × Nat) := [(0, .aload_n 0, 1), (1, .getfield 79, 3), (4, .ireturn, 1)]
theorem L_alen : ∀ q ∈ P_alen, decode jdk_68_method_6_code q.1 = .ok q.2 := by decide +kernel
def M_alen : Mt := (("java/lang/AbstractStringBuilder", "length", ({ frames := 0, cells := 0, slots := 0, locals := 0 } : Room)), P_alen, 1, (some .int))
set_option maxRecDepth 65536 in
set_option maxHeartbeats 40000000 in
theorem c_alen {G : Gb} (H : Gl tables_1 els G) {h : Heap} {a t : Addr} {kt : ClassId} {cs : List Int32} {m : Nat} (B1 : Sb G h a t kt cs m) :
    Ctr G [] (⟨"java/lang/AbstractStringBuilder", "length", "()I"⟩ : MethodName) jdk_68_method_6_code 1 (some .int) ({ frames := 0, cells := 0, slots := 0, locals := 0 } : Room) #[.ref a] h [] (fun v h' Sf => v = some (.int cs.length.toInt32) ∧ h = h') := by
  refine ctr_of M_alen rfl rfl (plainFor_of_name pn_6) L_alen H.el (Ls := #[.val (.ref a)]) (fun m => ef_ok (by show argsToLocals _ 1 = _; first | (simp [argsToLocals, Value.category]; done) | rfl)) ?_
  intro B K hE
  obtain ⟨e1, e2, e3, e4, e5, e6, e7⟩ := id B1
  refine go_run K 0 1 (pc' := 1) (st' := [(.ref a)]) rfl ?_
  refine go_getfield K (k := 1) rfl (host := "") (Or.inl (H.w 87 rfl)) Via.refl e4 ?_
  refine go_ireturn K (k := 2) rfl rfl (by decide) rfl rfl rfl ?_
  intro Sf hSf
  exact ⟨rfl, rfl⟩
def P_slen : List (Nat × Instr × Nat) := [(0, .aload_n 0, 1), (1, .invokespecial 343, 3), (4, .ireturn, 1)]
theorem L_slen : ∀ q ∈ P_slen, decode jdk_67_method_93_code q.1 = .ok q.2 := by decide +kernel
def M_slen : Mt := (("java/lang/StringBuilder", "length", ({ frames := 1, cells := 0, slots := 0, locals := 12 } : Room)), P_slen, 1, (some .int))
set_option maxRecDepth 65536 in
set_option maxHeartbeats 40000000 in
theorem c_slen {G : Gb} (H : Gl tables_1 els G) {h : Heap} {a t : Addr} {kt : ClassId} {cs : List Int32} {m : Nat} (B1 : Sb G h a t kt cs m) :
    Ctr G [] (⟨"java/lang/StringBuilder", "length", "()I"⟩ : MethodName) jdk_67_method_93_code 1 (some .int) ({ frames := 1, cells := 0, slots := 0, locals := 12 } : Room) #[.ref a] h [] (fun v h' Sf => v = some (.int cs.length.toInt32) ∧ h = h') := by
  refine ctr_of M_slen rfl rfl (plainFor_of_name pn_7) L_slen H.el (Ls := #[.val (.ref a)]) (fun m => ef_ok (by show argsToLocals _ 1 = _; first | (simp [argsToLocals, Value.category]; done) | rfl)) ?_
  intro B K hE
  obtain ⟨e1, e2, e3, e4, e5, e6, e7⟩ := id B1
  refine go_run K 0 1 (pc' := 1) (st' := [(.ref a)]) rfl ?_
  refine go_super K (k := 1) rfl (H.w 138 rfl) (sameM (H.w 133 rfl) (H.w 92 rfl) rfl (by decide)) (H.w 134 rfl) (H.w 73 rfl) (H.w 58 rfl) (H.w 139 rfl) (by decide) pd_13 e1 (c_alen H B1) (argsL := []) (rest := []) rfl rfl rfl sub0 rfl ?_
  rintro _ _ _ - ⟨rfl, rfl⟩
  show Go G B M_slen _ h [] 0 0 4 #[.val (.ref a)] [(.int (cs).length.toInt32)]
  show Go G B M_slen _ h [] 0 0 4 #[.val (.ref a)] [(.int cs.length.toInt32)]
  refine go_ireturn K (k := 2) rfl rfl (by decide) rfl rfl rfl ?_
  intro Sf hSf
  exact ⟨rfl, rfl⟩
def P_isb : List (Nat × Instr × Nat) := [(0, .getstatic 18, 3), (3, .ifCond .eq 14, 3), (6, .aload_n 0, 1), (7, .getfield 22, 3), (10, .ifCond .ne 7, 3), (13, .iconst 1, 1), (14, .goto 4, 3), (17, .iconst 0, 1), (18, .ireturn, 1)]
theorem L_isb : ∀ q ∈ P_isb, decode jdk_68_method_68_code q.1 = .ok q.2 := by decide +kernel
def M_isb : Mt := (("java/lang/AbstractStringBuilder", "isLatin1", ({ frames := 0, cells := 0, slots := 0, locals := 0 } : Room)), P_isb, 1, (some .boolean))
set_option maxRecDepth 65536 in
set_option maxHeartbeats 40000000 in
theorem c_isb {G : Gb} (H : Gl tables_1 els G) {h : Heap} {a t : Addr} {kt : ClassId} {cs : List Int32} {m : Nat} (B1 : Sb G h a t kt cs m) :
    Ctr G [] (⟨"java/lang/AbstractStringBuilder", "isLatin1", "()Z"⟩ : MethodName) jdk_68_method_68_code 1 (some .boolean) ({ frames := 0, cells := 0, slots := 0, locals := 0 } : Room) #[.ref a] h [] (fun v h' Sf => v = some (.int 1) ∧ h = h') := by
  refine ctr_of M_isb rfl rfl (plainFor_of_name pn_6) L_isb H.el (Ls := #[.val (.ref a)]) (fun m => ef_ok (by show argsToLocals _ 1 = _; first | (simp [argsToLocals, Value.category]; done) | rfl)) ?_
  intro B K hE
  obtain ⟨e1, e2, e3, e4, e5, e6, e7⟩ := id B1
  obtain ⟨cz, hcs, hcz⟩ := H.cs
  refine go_getstatic K (k := 0) rfl (host := "") (Or.inl (H.w 61 rfl)) Via.refl hcs ?_
  refine go_ifeq K (k := 1) rfl (pc' := 17) (by decide) (fun q => absurd q hcz) (fun _ => ?_)
  refine go_run K 2 1 (pc' := 7) (st' := [(.ref a)]) rfl ?_
  refine go_getfield K (k := 3) rfl (host := "") (Or.inl (H.w 64 rfl)) Via.refl e3 ?_
  refine go_ifne K (k := 4) rfl (pc' := 17) (by decide) (fun q => absurd rfl q) (fun _ => ?_)
  refine go_run K 5 2 (pc' := 18) (st' := [(.int (1 : Int32))]) rfl ?_
  refine go_ireturn K (k := 8) rfl rfl (by decide) rfl rfl rfl ?_
  intro Sf hSf
  exact ⟨rfl, rfl⟩
def P_sia : List (Nat × Instr × Nat) := [(0, .aload_n 0, 1), (1, .invokespecial 1, 3), (4, .aload_n 1, 1), (5, .invokevirtual 552, 3), (8, .astore_n 3, 1), (9, .aload_n 1, 1), (10, .invokevirtual 549, 3), (13, .istore 4, 2), (15, .aload_n 1, 1), (16, .invokevirtual 1047, 3), (19, .ifCond .eq 22, 3), (22, .aload_n 0, 1), (23, .iconst 0, 1), (24, .putfield 15, 3), (27, .aload_n 0, 1), (28, .aload_n 3, 1), (29, .iconst 0, 1), (30, .iload 4, 2), (32, .invokestatic 54, 3), (35, .putfield 9, 3), (38, .goto 59, 3), (41, .getstatic 38, 3), (44, .ifCond .eq 35, 3), (47, .aload_n 1, 1), (48, .getfield 1048, 3), (51, .ifCond .eq 28, 3), (54, .aload_n 0, 1), (55, .aload_n 3, 1), (56, .iconst 0, 1), (57, .iload 4, 2), (59, .invokestatic 1051, 3), (62, .putfield 9, 3), (65, .aload_n 0, 1), (66, .aload_n 0, 1), (67, .getfield 9, 3), (70, .iload 4, 2), (72, .invokestatic 47, 3), (75, .putfield 15, 3), (78, .return_, 1), (79, .aload_n 0, 1), (80, .iconst 1, 1), (81, .putfield 15, 3), (84, .aload_n 0, 1), (85, .aload_n 3, 1), (86, .iconst 0, 1), (87, .iload 4, 2), (89, .iconst 1, 1), (90, .ishl, 1), (91, .invokestatic 54, 3), (94, .putfield 9, 3), (97, .return_, 1)]
theorem L_sia : ∀ q ∈ P_sia, decode jdk_42_method_150_code q.1 = .ok q.2 := by decide +kernel
def M_sia : Mt := (("java/lang/String", "<init>", ({ frames := 3, cells := 1, slots := 34, locals := 49 } : Room)), P_sia, 5, none)
set_option maxRecDepth 65536 in
set_option maxHeartbeats 40000000 in
theorem c_sia {G : Gb} (H : Gl tables_1 els G) {h : Heap} {a t s : Addr} {kt : ClassId} {cs : List Int32} {m : Nat} (hcap : m ≤ 34) (B1 : Sx G h a t kt cs m) (E0 : Exa G.Z h s "java/lang/String") (V0 : Fld G.Z h s "java/lang/String" "value" "[B" .null) (C0 : Fld G.Z h s "java/lang/String" "coder" "B" (.int 0)) (g0 : G.Z.heap.size ≤ s) :
    Ctr G [] (⟨"java/lang/String", "<init>", "(Ljava/lang/AbstractStringBuilder;Ljava/lang/Void;)V"⟩ : MethodName) jdk_42_method_150_code 5 none ({ frames := 3, cells := 1, slots := 34, locals := 49 } : Room) #[.ref s, .ref a, .null] h [s] (fun v h' Sf => v = none ∧ Keep h h' [s] ∧ Str G h' s cs) := by
  refine ctr_of M_sia rfl rfl (plainFor_of_name pn_1) L_sia H.el (Ls := #[.val (.ref s), .val (.ref a), .val .null, .unset, .unset]) (fun m => ef_ok (by show argsToLocals _ 5 = _; first | (simp [argsToLocals, Value.category]; done) | rfl)) ?_
  intro B K hE
  obtain ⟨Bx1, EB2⟩ := id B1
  obtain ⟨e3, e4, e5, e6, e7, e8, e9⟩ := id Bx1
  refine go_run K 0 1 (pc' := 1) (st' := [(.ref s)]) rfl ?_
  refine go_init0 K (k := 1) rfl (H.w 21 rfl) (H.w 22 rfl) (H.w 23 rfl) rfl rfl rfl ?_
  refine go_run K 2 1 (pc' := 5) (st' := [(.ref a)]) rfl ?_
  refine go_virt0 K (k := 3) rfl (H.w 127 rfl) (H.w 130 rfl) (H.w 129 rfl) (H.w 58 rfl) (H.w 131 rfl) (by decide) pd_17 e3 (c_gval H Bx1) (argsL := []) (rest := []) rfl rfl rfl sub0 rfl ?_
  rintro _ _ _ - ⟨rfl, rfl⟩
  show Go G B M_sia _ h (s :: []) 0 0 8 #[.val (.ref s), .val (.ref a), .val .null, .unset, .unset] [(.ref t)]
  refine go_run K 4 2 (pc' := 10) (Ls' := #[.val (.ref s), .val (.ref a), .val .null, .val (.ref t), .unset]) (st' := [(.ref a)]) rfl ?_
  refine go_virtual K (k := 6) rfl (H.w 132 rfl) (H.w 133 rfl) (H.w 135 rfl) (H.w 136 rfl) (H.w 50 rfl) (H.w 137 rfl) (by decide) pd_13 e3 (nfO (H.w 92 rfl) rfl) (c_slen H Bx1) (argsL := []) (rest := []) rfl rfl rfl sub0 rfl ?_
  rintro _ _ _ - ⟨rfl, rfl⟩
  show Go G B M_sia _ h (s :: []) 0 0 13 #[.val (.ref s), .val (.ref a), .val .null, .val (.ref t), .unset] [(.int (cs).length.toInt32)]
  show Go G B M_sia _ h (s :: []) 0 0 13 #[.val (.ref s), .val (.ref a), .val .null, .val (.ref t), .unset] [(.int cs.length.toInt32)]
  refine go_run K 7 2 (pc' := 16) (Ls' := #[.val (.ref s), .val (.ref a), .val .null, .val (.ref t), .val (.int cs.length.toInt32)]) (st' := [(.ref a)]) rfl ?_
  refine go_virt0 K (k := 9) rfl (H.w 140 rfl) (H.w 143 rfl) (H.w 142 rfl) (H.w 58 rfl) (H.w 144 rfl) (by decide) pd_18 e3 (c_isb H Bx1) (argsL := []) (rest := []) rfl rfl rfl sub0 rfl ?_
  rintro _ _ _ - ⟨rfl, rfl⟩
  show Go G B M_sia _ h (s :: []) 0 0 19 #[.val (.ref s), .val (.ref a), .val .null, .val (.ref t), .val (.int cs.length.toInt32)] [(.int (1 : Int32))]
  refine go_ifeq K (k := 10) rfl (pc' := 41) (by decide) (fun q => absurd q (by decide)) (fun _ => ?_)
  refine go_run K 11 2 (pc' := 24) (st' := [(.int (0 : Int32)), (.ref s)]) rfl ?_
  refine go_putfield K (k := 13) rfl (host := "") (Or.inl (H.w 26 rfl)) Via.refl C0 E0 (Or.inr ⟨(H.w 5 rfl), rfl, rfl⟩) (H.w 2 rfl) (ty := .byte) (by decide) rfl rfl g0 (Or.inl (List.mem_cons_self ..)) ?_
  intro h10 W11
  have F12 : Exa G.Z h10 s "java/lang/String" := Exa.wr W11 E0
  have F13 : Fld G.Z h10 s "java/lang/String" "value" "[B" .null := Fld.other W11 V0 (Or.inr (slot_ne (Or.inr (H.w 4 rfl)) (Or.inr (H.w 5 rfl)) (by decide) (t := (.array .byte)) (t' := .byte) (by decide) (by decide)))
  have F14 : Fld G.Z h10 s "java/lang/String" "coder" "B" (.int (0 : Int32)) := Fld.same W11 C0
  refine go_run K 14 4 (pc' := 32) (st' := [(.int cs.length.toInt32), (.int (0 : Int32)), (.ref t), (.ref s)]) rfl ?_
  by_cases hfull : cs.length = m
  · rw [hfull]
    show Go G B M_sia _ h10 (s :: []) 0 0 32 #[.val (.ref s), .val (.ref a), .val .null, .val (.ref t), .val (.int m.toInt32)] [(.int m.toInt32), (.int (0 : Int32)), (.ref t), (.ref s)]
    have c15 := (Arv.other e7 W11 (Exa.neArv E0 e7 (H.w 2 rfl)).symm)
    have c16 := (Exa.wr W11 EB2)
    refine go_staticN K (k := 18) rfl (H.w 145 rfl) (H.w 146 rfl) (H.w 147 rfl) (H.w 148 rfl) (by decide) pd_7 (c_corW (m := m) H e9 hcap c15 c16) (argsL := [(.ref t), (.int (0 : Int32)), (.int m.toInt32)]) (rest := [(.ref s)]) rfl rfl rfl sub0 rfl ?_
    rintro _ h17 Sf25 - ⟨u18, k19, rfl, E20, A21, g22, f23, s24⟩
    refine ⟨[u18], allS s24 all0, ?_⟩
    show Go G B M_sia _ h17 (u18 :: (s :: [])) 1 34 35 #[.val (.ref s), .val (.ref a), .val .null, .val (.ref t), .val (.int m.toInt32)] [(.ref u18), (.ref s)]
    have c26 := (F13.ext E20)
    have c27 := (F12.ext E20)
    refine go_putfield K (k := 19) rfl (host := "") (Or.inl (H.w 25 rfl)) Via.refl c26 c27 (Or.inr ⟨(H.w 4 rfl), rfl, rfl⟩) (H.w 2 rfl) (ty := (.array .byte)) (by decide) rfl rfl g0 (Or.inl (List.mem_cons_of_mem _ (List.mem_cons_self ..))) ?_
    intro h28 W29
    have c30 := (F14.ext E20)
    have F31 : Exa G.Z h28 s "java/lang/String" := Exa.wr W29 c27
    have F32 : Fld G.Z h28 s "java/lang/String" "value" "[B" (.ref u18) := Fld.same W29 c26
    have F33 : Fld G.Z h28 s "java/lang/String" "coder" "B" (.int (0 : Int32)) := Fld.other W29 c30 (Or.inr (slot_ne (Or.inr (H.w 5 rfl)) (Or.inr (H.w 4 rfl)) (by decide) (t := .byte) (t' := (.array .byte)) (by decide) (by decide)))
    refine go_run K 20 1 (pc' := 97) (st' := []) rfl ?_
    have c34 := (Arv.other A21 W29 (Exa.neArv c27 A21 (H.w 2 rfl)).symm)
    refine go_return K (k := 50) rfl rfl rfl rfl ?_
    intro Sf hSf
    refine ⟨rfl, ((((Keep.refl _ [s]).wr W11 (Or.inl (List.mem_cons_self ..))).ext E20).wr W29 (Or.inl (List.mem_cons_self ..))), u18, k19, F31, F33, F32, ?_⟩
    have u := c34
    rw [← hfull, Nat.sub_self, List.replicate_zero, List.append_nil] at u
    exact u
  · have c35 := (Arv.other e7 W11 (Exa.neArv E0 e7 (H.w 2 rfl)).symm)
    refine go_staticN K (k := 18) rfl (H.w 145 rfl) (H.w 146 rfl) (H.w 147 rfl) (H.w 148 rfl) (by decide) pd_7 (c_cor (i := 0) (j := cs.length) (m := m) H (fun e => hfull e.2) (Nat.zero_le _) e8 e9 (by rw [List.length_append, by8_len, List.length_replicate]; omega) (by omega) c35) (argsL := [(.ref t), (.int (0 : Int32)), (.int cs.length.toInt32)]) (rest := [(.ref s)]) rfl rfl rfl sub0 rfl ?_
    rintro _ h36 Sf44 - ⟨u37, k38, rfl, E39, A40, g41, f42, s43⟩
    refine ⟨[u37], allS s43 all0, ?_⟩
    show Go G B M_sia _ h36 (u37 :: (s :: [])) 1 34 35 #[.val (.ref s), .val (.ref a), .val .null, .val (.ref t), .val (.int cs.length.toInt32)] [(.ref u37), (.ref s)]
    have c45 := (F13.ext E39)
    have c46 := (F12.ext E39)
    refine go_putfield K (k := 19) rfl (host := "") (Or.inl (H.w 25 rfl)) Via.refl c45 c46 (Or.inr ⟨(H.w 4 rfl), rfl, rfl⟩) (H.w 2 rfl) (ty := (.array .byte)) (by decide) rfl rfl g0 (Or.inl (List.mem_cons_of_mem _ (List.mem_cons_self ..))) ?_
    intro h47 W48
    have c49 := (F14.ext E39)
    have F50 : Exa G.Z h47 s "java/lang/String" := Exa.wr W48 c46
    have F51 : Fld G.Z h47 s "java/lang/String" "value" "[B" (.ref u37) := Fld.same W48 c45
    have F52 : Fld G.Z h47 s "java/lang/String" "coder" "B" (.int (0 : Int32)) := Fld.other W48 c49 (Or.inr (slot_ne (Or.inr (H.w 5 rfl)) (Or.inr (H.w 4 rfl)) (by decide) (t := .byte) (t' := (.array .byte)) (by decide) (by decide)))
    refine go_run K 20 1 (pc' := 97) (st' := []) rfl ?_
    have c53 := (Arv.other A40 W48 (Exa.neArv c46 A40 (H.w 2 rfl)).symm)
    refine go_return K (k := 50) rfl rfl rfl rfl ?_
    intro Sf hSf
    refine ⟨rfl, ((((Keep.refl _ [s]).wr W11 (Or.inl (List.mem_cons_self ..))).ext E39).wr W48 (Or.inl (List.mem_cons_self ..))), u37, k38, F50, F52, F51, ?_⟩
    have u := c53
    rw [Nat.sub_zero, List.drop_zero, List.take_append_of_le_length (by rw [by8_len]; exact Nat.le_refl _), List.take_of_length_le (by rw [by8_len]; exact Nat.le_refl _)] at u
    exact u
def P_sis : List (Nat × Instr × Nat) := [(0, .aload_n 0, 1), (1, .aload_n 1, 1), (2, .aconst_null, 1), (3, .invokespecial 489, 3), (6, .return_, 1)]
theorem L_sis : ∀ q ∈ P_sis, decode jdk_42_method_53_code q.1 = .ok q.2 := by decide +kernel
def M_sis : Mt := (("java/lang/String", "<init>", ({ frames := 4, cells := 1, slots := 34, locals := 65 } : Room)), P_sis, 2, none)
set_option maxRecDepth 65536 in
set_option maxHeartbeats 40000000 in
theorem c_sis {G : Gb} (H : Gl tables_1 els G) {h : Heap} {a t s : Addr} {kt : ClassId} {cs : List Int32} {m : Nat} (hcap : m ≤ 34) (B1 : Sx G h a t kt cs m) (E0 : Exa G.Z h s "java/lang/String") (V0 : Fld G.Z h s "java/lang/String" "value" "[B" .null) (C0 : Fld G.Z h s "java/lang/String" "coder" "B" (.int 0)) (g0 : G.Z.heap.size ≤ s) :
    Ctr G [] (⟨"java/lang/String", "<init>", "(Ljava/lang/StringBuilder;)V"⟩ : MethodName) jdk_42_method_53_code 2 none ({ frames := 4, cells := 1, slots := 34, locals := 65 } : Room) #[.ref s, .ref a] h [s] (fun v h' Sf => v = none ∧ Keep h h' [s] ∧ Str G h' s cs) := by
  refine ctr_of M_sis rfl rfl (plainFor_of_name pn_1) L_sis H.el (Ls := #[.val (.ref s), .val (.ref a)]) (fun m => ef_ok (by show argsToLocals _ 2 = _; first | (simp [argsToLocals, Value.category]; done) | rfl)) ?_
  intro B K hE
  refine go_run K 0 3 (pc' := 3) (st' := [.null, (.ref a), (.ref s)]) rfl ?_
  refine go_special K (k := 3) rfl rfl (H.w 124 rfl) (H.w 125 rfl) (H.w 1 rfl) (H.w 126 rfl) (by decide) pd_19 (c_sia H hcap B1 E0 V0 C0 g0) (argsL := [(.ref a), .null]) (rest := []) rfl rfl rfl (subS (List.mem_cons_self ..) sub0) rfl ?_
  rintro _ h1 _ - ⟨rfl, K2, S3⟩
  show Go G B M_sis _ h1 (s :: []) 1 34 6 #[.val (.ref s), .val (.ref a)] []
  refine go_return K (k := 4) rfl rfl rfl rfl ?_
  intro Sf hSf
  exact ⟨rfl, ((Keep.refl _ [s]).trans K2 (allS (Or.inl (List.mem_cons_self ..)) all0)), S3⟩
def P_sbs : List (Nat × Instr × Nat) := [(0, .new 18, 3), (3, .dup, 1), (4, .aload_n 0, 1), (5, .invokespecial 137, 3), (8, .areturn, 1)]
theorem L_sbs : ∀ q ∈ P_sbs, decode jdk_67_method_42_code q.1 = .ok q.2 := by decide +kernel
def M_sbs : Mt := (("java/lang/StringBuilder", "toString", ({ frames := 5, cells := 2, slots := 38, locals := 79 } : Room)), P_sbs, 1, (some (.object "java/lang/String")))
set_option maxRecDepth 65536 in
set_option maxHeartbeats 40000000 in
theorem c_sbs {G : Gb} (H : Gl tables_1 els G) {h : Heap} {a t : Addr} {kt : ClassId} {cs : List Int32} {m : Nat} (hcap : m ≤ 34) (B1 : Sx G h a t kt cs m) :
    Ctr G [] (⟨"java/lang/StringBuilder", "toString", "()Ljava/lang/String;"⟩ : MethodName) jdk_67_method_42_code 1 (some (.object "java/lang/String")) ({ frames := 5, cells := 2, slots := 38, locals := 79 } : Room) #[.ref a] h [] (fun v h' Sf => ∃ s : Addr, v = some (.ref s) ∧ Ext h h' ∧ Str G h' s cs ∧ G.Z.heap.size ≤ s) := by
  refine ctr_of M_sbs rfl rfl (plainFor_of_name pn_7) L_sbs H.el (Ls := #[.val (.ref a)]) (fun m => ef_ok (by show argsToLocals _ 1 = _; first | (simp [argsToLocals, Value.category]; done) | rfl)) ?_
  intro B K hE
  refine go_new K (k := 0) rfl (H.w 120 rfl) (H.w 2 rfl) (H.w 1 rfl) rfl rfl ?_
  intro h2 a1 e3 g4 E5 A6 D7
  have F8 : Fld G.Z h2 a1 "java/lang/String" "value" "[B" .null := D7 (Or.inr (H.w 4 rfl)) (ty := (.array .byte)) (by decide)
  have F9 : Fld G.Z h2 a1 "java/lang/String" "coder" "B" (.int (0 : Int32)) := D7 (Or.inr (H.w 5 rfl)) (ty := .byte) (by decide)
  refine go_run K 1 2 (pc' := 5) (st' := [(.ref a), (.ref a1), (.ref a1)]) rfl ?_
  have c10 := (B1.ext E5)
  refine go_special K (k := 3) rfl rfl (H.w 121 rfl) (H.w 122 rfl) (H.w 1 rfl) (H.w 123 rfl) (by decide) pd_20 (c_sis H hcap c10 A6 F8 F9 g4) (argsL := [(.ref a)]) (rest := [(.ref a1)]) rfl rfl rfl (subS (List.mem_cons_self ..) sub0) rfl ?_
  rintro _ h11 _ - ⟨rfl, K12, S13⟩
  show Go G B M_sbs _ h11 (a1 :: []) 2 38 8 #[.val (.ref a)] [(.ref a1)]
  have X14 : Ext h h11 := (Ext.keepN E5 K12 (allS (Nat.le_trans (Nat.le_refl _) (Nat.le_of_eq e3.symm)) all0))
  refine go_areturn K (k := 4) rfl rfl rfl rfl rfl rfl rfl ?_
  intro Sf hSf
  exact ⟨_, rfl, X14, S13, g4⟩
def P_emp : List (Nat × Instr × Nat) := [(0, .aload_n 0, 1), (1, .getfield 9, 3), (4, .arraylength, 1), (5, .ifCond .ne 7, 3), (8, .iconst 1, 1), (9, .goto 4, 3), (12, .iconst 0, 1), (13, .ireturn, 1)]
theorem L_emp : ∀ q ∈ P_emp, decode jdk_42_method_55_code q.1 = .ok q.2 := by decide +kernel
def M_emp : Mt := (("java/lang/String", "isEmpty", ({ frames := 0, cells := 0, slots := 0, locals := 0 } : Room)), P_emp, 1, (some .boolean))
set_option maxRecDepth 65536 in
set_option maxHeartbeats 40000000 in
theorem c_emp {G : Gb} (H : Gl tables_1 els G) {h : Heap} {a : Addr} {cs : List Int32} (l1 : Lat cs) (S1 : Str G h a cs) :
    Ctr G [] (⟨"java/lang/String", "isEmpty", "()Z"⟩ : MethodName) jdk_42_method_55_code 1 (some .boolean) ({ frames := 0, cells := 0, slots := 0, locals := 0 } : Room) #[.ref a] h [] (fun v h' Sf => ∃ r : Int32, v = some (.int r) ∧ h = h' ∧ ((r = 1 ∧ cs = []) ∨ (r = 0 ∧ ¬ cs = []))) := by
  refine ctr_of M_emp rfl rfl (plainFor_of_name pn_1) L_emp H.el (Ls := #[.val (.ref a)]) (fun m => ef_ok (by show argsToLocals _ 1 = _; first | (simp [argsToLocals, Value.category]; done) | rfl)) ?_
  intro B K hE
  obtain ⟨t1, k2, e3, e4, e5, e6⟩ := id S1
  refine go_run K 0 1 (pc' := 1) (st' := [(.ref a)]) rfl ?_
  refine go_getfield K (k := 1) rfl (host := "") (Or.inl (H.w 25 rfl)) Via.refl e5 ?_
  refine go_arraylength K (k := 2) rfl e6 ?_
  refine go_ifne K (k := 3) rfl (pc' := 12) (by decide) (fun q7 => ?_) (fun q8 => ?_)
  · refine go_run K 6 1 (pc' := 13) (st' := [(.int (0 : Int32))]) rfl ?_
    refine go_ireturn K (k := 7) rfl rfl (by decide) rfl rfl rfl ?_
    intro Sf hSf
    exact ⟨0, rfl, rfl, Or.inr ⟨rfl, fun e => q7 (by rw [e]; rfl)⟩⟩
  · refine go_run K 4 2 (pc' := 13) (st' := [(.int (1 : Int32))]) rfl ?_
    refine go_ireturn K (k := 7) rfl rfl (by decide) rfl rfl rfl ?_
    intro Sf hSf
    exact ⟨1, rfl, rfl, Or.inl ⟨rfl, List.eq_nil_of_length_eq_zero (len_zero (lat_lt l1) q8)⟩⟩
theorem pn_8 : plainName "java/lang/Record" = true := by first | (simp [plainName, overriddenIn]; done) | decide +kernel
def P_rec : List (Nat × Instr × Nat) := [(0, .aload_n 0, 1), (1, .invokespecial 1, 3), (4, .return_, 1)]
theorem L_rec : ∀ q ∈ P_rec, decode jdk_30_method_1_code q.1 = .ok q.2 := by decide +kernel
def M_rec : Mt := (("java/lang/Record", "<init>", ({ frames := 1, cells := 0, slots := 0, locals := 12 } : Room)), P_rec, 1, none)
set_option maxRecDepth 65536 in
set_option maxHeartbeats 40000000 in
theorem c_rec {G : Gb} (H : Gl tables_1 els G) {h : Heap} {a : Addr} :
    Ctr G [] (⟨"java/lang/Record", "<init>", "()V"⟩ : MethodName) jdk_30_method_1_code 1 none ({ frames := 1, cells := 0, slots := 0, locals := 12 } : Room) #[.ref a] h [] (fun v h' Sf => v = none ∧ h = h') := by
  refine ctr_of M_rec rfl rfl (plainFor_of_name pn_8) L_rec H.el (Ls := #[.val (.ref a)]) (fun m => ef_ok (by show argsToLocals _ 1 = _; first | (simp [argsToLocals, Value.category]; done) | rfl)) ?_
  intro B K hE
  refine go_run K 0 1 (pc' := 1) (st' := [(.ref a)]) rfl ?_
  refine go_init0 K (k := 1) rfl (H.w 38 rfl) (H.w 22 rfl) (H.w 23 rfl) rfl rfl rfl ?_
  refine go_return K (k := 2) rfl rfl rfl rfl ?_
  intro Sf hSf
  exact ⟨rfl, rfl⟩
theorem pn_9 : plainName "jdk/internal/util/Preconditions" = true := by first | (simp [plainName, overriddenIn]; done) | decide +kernel
def P_pci : List (Nat × Instr × Nat) := [(0, .iload_n 0, 1), (1, .ifCond .lt 8, 3), (4, .iload_n 0, 1), (5, .iload_n 1, 1), (6, .if_icmp .lt 10, 3), (9, .aload_n 2, 1), (10, .iload_n 0, 1), (11, .iload_n 1, 1), (12, .invokestatic 95, 3), (15, .athrow, 1), (16, .iload_n 0, 1), (17, .ireturn, 1)]
theorem L_pci : ∀ q ∈ P_pci, decode jdk_41_method_11_code q.1 = .ok q.2 := by decide +kernel
def M_pci : Mt := (("jdk/internal/util/Preconditions", "checkIndex", ({ frames := 0, cells := 0, slots := 0, locals := 0 } : Room)), P_pci, 3, (some .int))
set_option maxRecDepth 65536 in
set_option maxHeartbeats 40000000 in
theorem c_pci {G : Gb} (H : Gl tables_1 els G) {h : Heap} {x n : Int32} {f : Addr} (h1 : ¬ x < 0) (h2 : x < n) :
    Ctr G [] (⟨"jdk/internal/util/Preconditions", "checkIndex", "(IILjava/util/function/BiFunction;)I"⟩ : MethodName) jdk_41_method_11_code 3 (some .int) ({ frames := 0, cells := 0, slots := 0, locals := 0 } : Room) #[.int x, .int n, .ref f] h [] (fun v h' Sf => v = some (.int x) ∧ h = h') := by
  refine ctr_of M_pci rfl rfl (plainFor_of_name pn_9) L_pci H.el (Ls := #[.val (.int x), .val (.int n), .val (.ref f)]) (fun m => ef_ok (by show argsToLocals _ 3 = _; first | (simp [argsToLocals, Value.category]; done) | rfl)) ?_
  intro B K hE
  refine go_run K 0 1 (pc' := 1) (st' := [(.int x)]) rfl ?_
  refine go_iflt K (k := 1) rfl (pc' := 9) (by decide) (fun q => absurd q h1) (fun _ => ?_)
  refine go_run K 2 2 (pc' := 6) (st' := [(.int n), (.int x)]) rfl ?_
  refine go_icmplt K (k := 4) rfl (pc' := 16) (by decide) (fun _ => ?_) (fun q => absurd h2 q)
  refine go_run K 10 1 (pc' := 17) (st' := [(.int x)]) rfl ?_
  refine go_ireturn K (k := 11) rfl rfl (by decide) rfl rfl rfl ?_
  intro Sf hSf
  exact ⟨rfl, rfl⟩
set_option maxRecDepth 65536 in
set_option maxHeartbeats 40000000 in
theorem c_pciN {G : Gb} (H : Gl tables_1 els G) {h : Heap} {x n : Int32} (h1 : ¬ x < 0) (h2 : x < n) :
    Ctr G [] (⟨"jdk/internal/util/Preconditions", "checkIndex", "(IILjava/util/function/BiFunction;)I"⟩ : MethodName) jdk_41_method_11_code 3 (some .int) ({ frames := 0, cells := 0, slots := 0, locals := 0 } : Room) #[.int x, .int n, .null] h [] (fun v h' Sf => v = some (.int x) ∧ h = h') := by
  refine ctr_of M_pci rfl rfl (plainFor_of_name pn_9) L_pci H.el (Ls := #[.val (.int x), .val (.int n), .val .null]) (fun m => ef_ok (by show argsToLocals _ 3 = _; first | (simp [argsToLocals, Value.category]; done) | rfl)) ?_
  intro B K hE
  refine go_run K 0 1 (pc' := 1) (st' := [(.int x)]) rfl ?_
  refine go_iflt K (k := 1) rfl (pc' := 9) (by decide) (fun q => absurd q h1) (fun _ => ?_)
  refine go_run K 2 2 (pc' := 6) (st' := [(.int n), (.int x)]) rfl ?_
  refine go_icmplt K (k := 4) rfl (pc' := 16) (by decide) (fun _ => ?_) (fun q => absurd h2 q)
  refine go_run K 10 1 (pc' := 17) (st' := [(.int x)]) rfl ?_
  refine go_ireturn K (k := 11) rfl rfl (by decide) rfl rfl rfl ?_
  intro Sf hSf
  exact ⟨rfl, rfl⟩
def P_sci : List (Nat × Instr × Nat) := [(0, .iload_n 0, 1), (1, .iload_n 1, 1), (2, .getstatic 1053, 3), (5, .invokestatic 1059, 3), (8, .pop, 1), (9, .return_, 1)]
theorem L_sci : ∀ q ∈ P_sci, decode jdk_42_method_155_code q.1 = .ok q.2 := by decide +kernel
def M_sci : Mt := (("java/lang/String", "checkIndex", ({ frames := 1, cells := 0, slots := 0, locals := 14 } : Room)), P_sci, 2, none)
set_option maxRecDepth 65536 in
set_option maxHeartbeats 40000000 in
theorem c_sci {G : Gb} (H : Gl tables_1 els G) {h : Heap} {x n : Int32} (hF : ∃ vf : Value, Sta G.Z G.Z.heap "jdk/internal/util/Preconditions" "SIOOBE_FORMATTER" "Ljava/util/function/BiFunction;" vf ∧ vf.isRef = true) (h1 : ¬ x < 0) (h2 : x < n) :
    Ctr G [] (⟨"java/lang/String", "checkIndex", "(II)V"⟩ : MethodName) jdk_42_method_155_code 2 none ({ frames := 1, cells := 0, slots := 0, locals := 14 } : Room) #[.int x, .int n] h [] (fun v h' Sf => v = none ∧ h = h') := by
  refine ctr_of M_sci rfl rfl (plainFor_of_name pn_1) L_sci H.el (Ls := #[.val (.int x), .val (.int n)]) (fun m => ef_ok (by show argsToLocals _ 2 = _; first | (simp [argsToLocals, Value.category]; done) | rfl)) ?_
  intro B K hE
  obtain ⟨vf, hsf, hrf⟩ := hF
  refine go_run K 0 2 (pc' := 2) (st' := [(.int n), (.int x)]) rfl ?_
  obtain rfl | ⟨f, rfl⟩ := ref_cases hrf
  · refine go_getstatic K (k := 2) rfl (host := "") (Or.inl (H.w 193 rfl)) Via.refl hsf ?_
    refine go_static K (k := 3) rfl (H.w 195 rfl) (H.w 196 rfl) (H.w 194 rfl) (H.w 197 rfl) (by decide) pd_21 (c_pciN (x := x) (n := n) H h1 h2) (argsL := [(.int x), (.int n), .null]) (rest := []) rfl rfl rfl sub0 rfl ?_
    rintro _ _ _ - ⟨rfl, rfl⟩
    show Go G B M_sci _ h [] 0 0 8 #[.val (.int x), .val (.int n)] [(.int x)]
    refine go_run K 4 1 (pc' := 9) (st' := []) rfl ?_
    refine go_return K (k := 5) rfl rfl rfl rfl ?_
    intro Sf hSf
    exact ⟨rfl, rfl⟩
  · refine go_getstatic K (k := 2) rfl (host := "") (Or.inl (H.w 193 rfl)) Via.refl hsf ?_
    refine go_static K (k := 3) rfl (H.w 195 rfl) (H.w 196 rfl) (H.w 194 rfl) (H.w 197 rfl) (by decide) pd_21 (c_pci (x := x) (n := n) (f := f) H h1 h2) (argsL := [(.int x), (.int n), (.ref f)]) (rest := []) rfl rfl rfl sub0 rfl ?_
    rintro _ _ _ - ⟨rfl, rfl⟩
    show Go G B M_sci _ h [] 0 0 8 #[.val (.int x), .val (.int n)] [(.int x)]
    refine go_run K 4 1 (pc' := 9) (st' := []) rfl ?_
    refine go_return K (k := 5) rfl rfl rfl rfl ?_
    intro Sf hSf
    exact ⟨rfl, rfl⟩
theorem pn_10 : plainName "java/lang/StringLatin1" = true := by first | (simp [plainName, overriddenIn]; done) | decide +kernel
def P_lca : List (Nat × Instr × Nat) := [(0, .iload_n 1, 1), (1, .aload_n 0, 1), (2, .arraylength, 1), (3, .invokestatic 9, 3), (6, .aload_n 0, 1), (7, .iload_n 1, 1), (8, .baload, 1), (9, .sipush 255, 3), (12, .iand, 1), (13, .i2c, 1), (14, .ireturn, 1)]
theorem L_lca : ∀ q ∈ P_lca, decode jdk_43_method_2_code q.1 = .ok q.2 := by decide +kernel
def M_lca : Mt := (("java/lang/StringLatin1", "charAt", ({ frames := 2, cells := 0, slots := 0, locals := 27 } : Room)), P_lca, 2, (some .char))
set_option maxRecDepth 65536 in
set_option maxHeartbeats 40000000 in
theorem c_lca {G : Gb} (H : Gl tables_1 els G) {h : Heap} {t : Addr} {kt : ClassId} {cs : List Int32} {i : Nat} (l1 : Lat cs) (p1 : i < cs.length) (hF : ∃ vf : Value, Sta G.Z G.Z.heap "jdk/internal/util/Preconditions" "SIOOBE_FORMATTER" "Ljava/util/function/BiFunction;" vf ∧ vf.isRef = true) (A1 : Arv G.Z h t kt .byte cs.length.toInt32 (by8 cs) (.int 0)) :
    Ctr G [] (⟨"java/lang/StringLatin1", "charAt", "([BI)C"⟩ : MethodName) jdk_43_method_2_code 2 (some .char) ({ frames := 2, cells := 0, slots := 0, locals := 27 } : Room) #[.ref t, .int i.toInt32] h [] (fun v h' Sf => v = some (.int cs[i]) ∧ h = h') := by
  refine ctr_of M_lca rfl rfl (plainFor_of_name pn_10) L_lca H.el (Ls := #[.val (.ref t), .val (.int i.toInt32)]) (fun m => ef_ok (by show argsToLocals _ 2 = _; first | (simp [argsToLocals, Value.category]; done) | rfl)) ?_
  intro B K hE
  have hl1 := lat_lt l1
  refine go_run K 0 2 (pc' := 2) (st' := [(.ref t), (.int i.toInt32)]) rfl ?_
  refine go_arraylength K (k := 2) rfl A1 ?_
  refine go_static K (k := 3) rfl (H.w 190 rfl) (H.w 191 rfl) (H.w 1 rfl) (H.w 192 rfl) (by decide) pd_5 (c_sci (x := i.toInt32) (n := cs.length.toInt32) H hF (len_nn (by omega)) (len_lt hl1 p1)) (argsL := [(.int i.toInt32), (.int cs.length.toInt32)]) (rest := []) rfl rfl rfl sub0 rfl ?_
  rintro _ _ _ - ⟨rfl, rfl⟩
  show Go G B M_lca _ h [] 0 0 6 #[.val (.ref t), .val (.int i.toInt32)] []
  refine go_run K 4 2 (pc' := 8) (st' := [(.int i.toInt32), (.ref t)]) rfl ?_
  refine go_baload K (k := 6) rfl A1 ⟨len_nn (by omega), len_lt hl1 p1⟩ (v := .int cs[i].toInt8.toInt32) (by rw [len_nat (by omega)]; exact get_by8 p1) ?_
  refine go_run K 7 3 (pc' := 14) (st' := [(.int ((cs[i].toInt8.toInt32 &&& (255 : Int32))).toUInt32.toUInt16.toUInt32.toInt32)]) rfl ?_
  rw [b8_char (l1.2 _ (List.getElem_mem p1))]
  refine go_ireturn K (k := 10) rfl rfl (by decide) (char_n (l1.2 _ (List.getElem_mem p1))) rfl rfl ?_
  intro Sf hSf
  exact ⟨rfl, rfl⟩
def P_cha : List (Nat × Instr × Nat) := [(0, .aload_n 0, 1), (1, .invokevirtual 492, 3), (4, .ifCond .eq 12, 3), (7, .aload_n 0, 1), (8, .getfield 9, 3), (11, .iload_n 1, 1), (12, .invokestatic 495, 3), (15, .ireturn, 1), (16, .aload_n 0, 1), (17, .getfield 9, 3), (20, .iload_n 1, 1), (21, .invokestatic 498, 3), (24, .ireturn, 1)]
theorem L_cha : ∀ q ∈ P_cha, decode jdk_42_method_56_code q.1 = .ok q.2 := by decide +kernel
def M_cha : Mt := (("java/lang/String", "charAt", ({ frames := 3, cells := 0, slots := 0, locals := 40 } : Room)), P_cha, 2, (some .char))
set_option maxRecDepth 65536 in
set_option maxHeartbeats 40000000 in
theorem c_cha {G : Gb} (H : Gl tables_1 els G) {h : Heap} {a : Addr} {cs : List Int32} {i : Nat} (l1 : Lat cs) (p1 : i < cs.length) (hF : ∃ vf : Value, Sta G.Z G.Z.heap "jdk/internal/util/Preconditions" "SIOOBE_FORMATTER" "Ljava/util/function/BiFunction;" vf ∧ vf.isRef = true) (S1 : Str G h a cs) :
    Ctr G [] (⟨"java/lang/String", "charAt", "(I)C"⟩ : MethodName) jdk_42_method_56_code 2 (some .char) ({ frames := 3, cells := 0, slots := 0, locals := 40 } : Room) #[.ref a, .int i.toInt32] h [] (fun v h' Sf => v = some (.int cs[i]) ∧ h = h') := by
  refine ctr_of M_cha rfl rfl (plainFor_of_name pn_1) L_cha H.el (Ls := #[.val (.ref a), .val (.int i.toInt32)]) (fun m => ef_ok (by show argsToLocals _ 2 = _; first | (simp [argsToLocals, Value.category]; done) | rfl)) ?_
  intro B K hE
  obtain ⟨t1, k2, e3, e4, e5, e6⟩ := id S1
  refine go_run K 0 1 (pc' := 1) (st' := [(.ref a)]) rfl ?_
  refine go_virt0 K (k := 1) rfl (H.w 181 rfl) (H.w 184 rfl) (H.w 183 rfl) (H.w 1 rfl) (H.w 185 rfl) (by decide) pd_18 S1.exa (c_isl H S1) (argsL := []) (rest := []) rfl rfl rfl sub0 rfl ?_
  rintro _ _ _ - ⟨rfl, rfl⟩
  show Go G B M_cha _ h [] 0 0 4 #[.val (.ref a), .val (.int i.toInt32)] [(.int (1 : Int32))]
  refine go_ifeq K (k := 2) rfl (pc' := 16) (by decide) (fun q => absurd q (by decide)) (fun _ => ?_)
  refine go_run K 3 1 (pc' := 8) (st' := [(.ref a)]) rfl ?_
  refine go_getfield K (k := 4) rfl (host := "") (Or.inl (H.w 25 rfl)) Via.refl e5 ?_
  refine go_run K 5 1 (pc' := 12) (st' := [(.int i.toInt32), (.ref t1)]) rfl ?_
  refine go_static K (k := 6) rfl (H.w 186 rfl) (H.w 187 rfl) (H.w 188 rfl) (H.w 189 rfl) (by decide) pd_22 (c_lca (i := i) H l1 p1 hF e6) (argsL := [(.ref t1), (.int i.toInt32)]) (rest := []) rfl rfl rfl sub0 rfl ?_
  rintro _ _ _ - ⟨rfl, rfl⟩
  show Go G B M_cha _ h [] 0 0 15 #[.val (.ref a), .val (.int i.toInt32)] [(.int cs[i])]
  refine go_ireturn K (k := 7) rfl rfl (by decide) (char_n (l1.2 _ (List.getElem_mem p1))) rfl rfl ?_
  intro Sf hSf
  exact ⟨rfl, rfl⟩
theorem c_chaQ {G : Gb} (H : Gl tables_1 els G) {h : Heap} {a : Addr} {cs : List Int32} {i : Nat} {c : Int32} (l1 : Lat cs) (hc : cs[i]? = some c) (hF : ∃ vf : Value, Sta G.Z G.Z.heap "jdk/internal/util/Preconditions" "SIOOBE_FORMATTER" "Ljava/util/function/BiFunction;" vf ∧ vf.isRef = true) (S1 : Str G h a cs) :
    Ctr G [] (⟨"java/lang/String", "charAt", "(I)C"⟩ : MethodName) jdk_42_method_56_code 2 (some .char) ({ frames := 3, cells := 0, slots := 0, locals := 40 } : Room) #[.ref a, .int i.toInt32] h [] (fun v h' Sf => v = some (.int c) ∧ h = h') := by
  obtain ⟨p, rfl⟩ := List.getElem?_eq_some_iff.mp hc
  exact c_cha H l1 p hF S1
theorem pn_11 : plainName "com/example/penelope/penelope/frontend/CType$Tagged" = true := by first | (simp [plainName, overriddenIn]; done) | decide +kernel
def P_tg : List (Nat × Instr × Nat) := [(0, .aload_n 0, 1), (1, .invokespecial 1, 3), (4, .aload_n 0, 1), (5, .aload_n 1, 1), (6, .putfield 7, 3), (9, .aload_n 0, 1), (10, .aload_n 2, 1), (11, .putfield 13, 3), (14, .return_, 1)]
theorem L_tg : ∀ q ∈ P_tg, decode prog_57_method_1_code q.1 = .ok q.2 := by decide +kernel
def M_tg : Mt := (("com/example/penelope/penelope/frontend/CType$Tagged", "<init>", ({ frames := 2, cells := 0, slots := 0, locals := 24 } : Room)), P_tg, 3, none)
set_option maxRecDepth 65536 in
set_option maxHeartbeats 40000000 in
theorem c_tg {G : Gb} (H : Gl tables_1 els G) {h : Heap} {a : Addr} {r0 : Addr} {r1 : Addr} (E0 : Exa G.Z h a "com/example/penelope/penelope/frontend/CType$Tagged") (f0 : Fld G.Z h a "com/example/penelope/penelope/frontend/CType$Tagged" "keyword" "Ljava/lang/String;" .null) (f1 : Fld G.Z h a "com/example/penelope/penelope/frontend/CType$Tagged" "tag" "Ljava/lang/String;" .null) (g0 : G.Z.heap.size ≤ a) :
    Ctr G [] (⟨"com/example/penelope/penelope/frontend/CType$Tagged", "<init>", "(Ljava/lang/String;Ljava/lang/String;)V"⟩ : MethodName) prog_57_method_1_code 3 none ({ frames := 2, cells := 0, slots := 0, locals := 24 } : Room) #[.ref a, .ref r0, .ref r1] h [] (fun v h' Sf => v = none ∧ Keep h h' [a] ∧ Exa G.Z h' a "com/example/penelope/penelope/frontend/CType$Tagged" ∧ Fld G.Z h' a "com/example/penelope/penelope/frontend/CType$Tagged" "keyword" "Ljava/lang/String;" (.ref r0) ∧ Fld G.Z h' a "com/example/penelope/penelope/frontend/CType$Tagged" "tag" "Ljava/lang/String;" (.ref r1)) := by
  refine ctr_of M_tg rfl rfl (plainFor_of_name pn_11) L_tg H.el (Ls := #[.val (.ref a), .val (.ref r0), .val (.ref r1)]) (fun m => ef_ok (by show argsToLocals _ 3 = _; first | (simp [argsToLocals, Value.category]; done) | rfl)) ?_
  intro B K hE
  refine go_run K 0 1 (pc' := 1) (st' := [(.ref a)]) rfl ?_
  refine go_special K (k := 1) rfl rfl (H.w 33 rfl) (H.w 34 rfl) (H.w 36 rfl) (H.w 37 rfl) (by decide) pd_23 (c_rec (a := a) H) (argsL := []) (rest := []) rfl rfl rfl sub0 rfl ?_
  rintro _ _ _ - ⟨rfl, rfl⟩
  show Go G B M_tg _ h [] 0 0 4 #[.val (.ref a), .val (.ref r0), .val (.ref r1)] []
  refine go_run K 2 2 (pc' := 6) (st' := [(.ref r0), (.ref a)]) rfl ?_
  refine go_putfield K (k := 4) rfl (host := "") (Or.inl (H.w 39 rfl)) Via.refl f0 E0 (Or.inr ⟨(H.w 40 rfl), rfl, rfl⟩) (H.w 28 rfl) (ty := (.object "java/lang/String")) (by decide) rfl rfl g0 (Or.inr (by decide)) ?_
  intro h1 W2
  have F3 : Exa G.Z h1 a "com/example/penelope/penelope/frontend/CType$Tagged" := Exa.wr W2 E0
  have F4 : Fld G.Z h1 a "com/example/penelope/penelope/frontend/CType$Tagged" "keyword" "Ljava/lang/String;" (.ref r0) := Fld.same W2 f0
  have F5 : Fld G.Z h1 a "com/example/penelope/penelope/frontend/CType$Tagged" "tag" "Ljava/lang/String;" .null := Fld.other W2 f1 (Or.inr (slot_ne (Or.inr (H.w 42 rfl)) (Or.inr (H.w 40 rfl)) (by decide) (t := (.object "java/lang/String")) (t' := (.object "java/lang/String")) (by decide) (by decide)))
  refine go_run K 5 2 (pc' := 11) (st' := [(.ref r1), (.ref a)]) rfl ?_
  refine go_putfield K (k := 7) rfl (host := "") (Or.inl (H.w 41 rfl)) Via.refl F5 F3 (Or.inr ⟨(H.w 42 rfl), rfl, rfl⟩) (H.w 28 rfl) (ty := (.object "java/lang/String")) (by decide) rfl rfl g0 (Or.inr (by decide)) ?_
  intro h6 W7
  have F8 : Exa G.Z h6 a "com/example/penelope/penelope/frontend/CType$Tagged" := Exa.wr W7 F3
  have F9 : Fld G.Z h6 a "com/example/penelope/penelope/frontend/CType$Tagged" "keyword" "Ljava/lang/String;" (.ref r0) := Fld.other W7 F4 (Or.inr (slot_ne (Or.inr (H.w 40 rfl)) (Or.inr (H.w 42 rfl)) (by decide) (t := (.object "java/lang/String")) (t' := (.object "java/lang/String")) (by decide) (by decide)))
  have F10 : Fld G.Z h6 a "com/example/penelope/penelope/frontend/CType$Tagged" "tag" "Ljava/lang/String;" (.ref r1) := Fld.same W7 F5
  refine go_return K (k := 8) rfl rfl rfl rfl ?_
  intro Sf hSf
  exact ⟨rfl, (((Keep.refl _ [a]).wr W2 (Or.inl (List.mem_cons_self ..))).wr W7 (Or.inl (List.mem_cons_self ..))), F8, F9, F10⟩
set_option maxRecDepth 65536 in
set_option maxHeartbeats 40000000 in
theorem c_tgN {G : Gb} (H : Gl tables_1 els G) {h : Heap} {a : Addr} {r0 : Addr} (E0 : Exa G.Z h a "com/example/penelope/penelope/frontend/CType$Tagged") (f0 : Fld G.Z h a "com/example/penelope/penelope/frontend/CType$Tagged" "keyword" "Ljava/lang/String;" .null) (f1 : Fld G.Z h a "com/example/penelope/penelope/frontend/CType$Tagged" "tag" "Ljava/lang/String;" .null) (g0 : G.Z.heap.size ≤ a) :
    Ctr G [] (⟨"com/example/penelope/penelope/frontend/CType$Tagged", "<init>", "(Ljava/lang/String;Ljava/lang/String;)V"⟩ : MethodName) prog_57_method_1_code 3 none ({ frames := 2, cells := 0, slots := 0, locals := 24 } : Room) #[.ref a, .ref r0, .null] h [] (fun v h' Sf => v = none ∧ Keep h h' [a] ∧ Exa G.Z h' a "com/example/penelope/penelope/frontend/CType$Tagged" ∧ Fld G.Z h' a "com/example/penelope/penelope/frontend/CType$Tagged" "keyword" "Ljava/lang/String;" (.ref r0) ∧ Fld G.Z h' a "com/example/penelope/penelope/frontend/CType$Tagged" "tag" "Ljava/lang/String;" .null) := by
  refine ctr_of M_tg rfl rfl (plainFor_of_name pn_11) L_tg H.el (Ls := #[.val (.ref a), .val (.ref r0), .val .null]) (fun m => ef_ok (by show argsToLocals _ 3 = _; first | (simp [argsToLocals, Value.category]; done) | rfl)) ?_
  intro B K hE
  refine go_run K 0 1 (pc' := 1) (st' := [(.ref a)]) rfl ?_
  refine go_special K (k := 1) rfl rfl (H.w 33 rfl) (H.w 34 rfl) (H.w 36 rfl) (H.w 37 rfl) (by decide) pd_23 (c_rec (a := a) H) (argsL := []) (rest := []) rfl rfl rfl sub0 rfl ?_
  rintro _ _ _ - ⟨rfl, rfl⟩
  show Go G B M_tg _ h [] 0 0 4 #[.val (.ref a), .val (.ref r0), .val .null] []
  refine go_run K 2 2 (pc' := 6) (st' := [(.ref r0), (.ref a)]) rfl ?_
  refine go_putfield K (k := 4) rfl (host := "") (Or.inl (H.w 39 rfl)) Via.refl f0 E0 (Or.inr ⟨(H.w 40 rfl), rfl, rfl⟩) (H.w 28 rfl) (ty := (.object "java/lang/String")) (by decide) rfl rfl g0 (Or.inr (by decide)) ?_
  intro h1 W2
  have F3 : Exa G.Z h1 a "com/example/penelope/penelope/frontend/CType$Tagged" := Exa.wr W2 E0
  have F4 : Fld G.Z h1 a "com/example/penelope/penelope/frontend/CType$Tagged" "keyword" "Ljava/lang/String;" (.ref r0) := Fld.same W2 f0
  have F5 : Fld G.Z h1 a "com/example/penelope/penelope/frontend/CType$Tagged" "tag" "Ljava/lang/String;" .null := Fld.other W2 f1 (Or.inr (slot_ne (Or.inr (H.w 42 rfl)) (Or.inr (H.w 40 rfl)) (by decide) (t := (.object "java/lang/String")) (t' := (.object "java/lang/String")) (by decide) (by decide)))
  refine go_run K 5 2 (pc' := 11) (st' := [.null, (.ref a)]) rfl ?_
  refine go_putfield K (k := 7) rfl (host := "") (Or.inl (H.w 41 rfl)) Via.refl F5 F3 (Or.inr ⟨(H.w 42 rfl), rfl, rfl⟩) (H.w 28 rfl) (ty := (.object "java/lang/String")) (by decide) rfl rfl g0 (Or.inr (by decide)) ?_
  intro h6 W7
  have F8 : Exa G.Z h6 a "com/example/penelope/penelope/frontend/CType$Tagged" := Exa.wr W7 F3
  have F9 : Fld G.Z h6 a "com/example/penelope/penelope/frontend/CType$Tagged" "keyword" "Ljava/lang/String;" (.ref r0) := Fld.other W7 F4 (Or.inr (slot_ne (Or.inr (H.w 40 rfl)) (Or.inr (H.w 42 rfl)) (by decide) (t := (.object "java/lang/String")) (t' := (.object "java/lang/String")) (by decide) (by decide)))
  have F10 : Fld G.Z h6 a "com/example/penelope/penelope/frontend/CType$Tagged" "tag" "Ljava/lang/String;" .null := Fld.same W7 F5
  refine go_return K (k := 8) rfl rfl rfl rfl ?_
  intro Sf hSf
  exact ⟨rfl, (((Keep.refl _ [a]).wr W2 (Or.inl (List.mem_cons_self ..))).wr W7 (Or.inl (List.mem_cons_self ..))), F8, F9, F10⟩
theorem pn_12 : plainName "com/example/penelope/penelope/frontend/TaggedSpellingPinLaw" = true := by first | (simp [plainName, overriddenIn]; done) | decide +kernel
def P_mk : List (Nat × Instr × Nat) := [(0, .iload_n 0, 1), (1, .ifCond .ne 14, 3), (4, .new 31, 3), (7, .dup, 1), (8, .iconst 0, 1), (9, .newarray .char, 2), (11, .invokespecial 44, 3), (14, .areturn, 1), (15, .iload_n 0, 1), (16, .iconst 1, 1), (17, .if_icmp .ne 18, 3), (20, .new 31, 3), (23, .dup, 1), (24, .iconst 1, 1), (25, .newarray .char, 2), (27, .dup, 1), (28, .iconst 0, 1), (29, .iload_n 1, 1), (30, .castore, 1), (31, .invokespecial 44, 3), (34, .areturn, 1), (35, .iload_n 0, 1), (36, .iconst 2, 1), (37, .if_icmp .ne 22, 3), (40, .new 31, 3), (43, .dup, 1), (44, .iconst 2, 1), (45, .newarray .char, 2), (47, .dup, 1), (48, .iconst 0, 1), (49, .iload_n 1, 1), (50, .castore, 1), (51, .dup, 1), (52, .iconst 1, 1), (53, .iload_n 2, 1), (54, .castore, 1), (55, .invokespecial 44, 3), (58, .areturn, 1), (59, .new 31, 3), (62, .dup, 1), (63, .iconst 3, 1), (64, .newarray .char, 2), (66, .dup, 1), (67, .iconst 0, 1), (68, .iload_n 1, 1), (69, .castore, 1), (70, .dup, 1), (71, .iconst 1, 1), (72, .iload_n 2, 1), (73, .castore, 1), (74, .dup, 1), (75, .iconst 2, 1), (76, .iload_n 3, 1), (77, .castore, 1), (78, .invokespecial 44, 3), (81, .areturn, 1)]
theorem L_mk : ∀ q ∈ P_mk, decode method_3_code q.1 = .ok q.2 := by decide +kernel
def M_mk : Mt := (("com/example/penelope/penelope/frontend/TaggedSpellingPinLaw", "mk", ({ frames := 4, cells := 6, slots := 15, locals := 66 } : Room)), P_mk, 4, (some (.object "java/lang/String")))
set_option maxRecDepth 65536 in
set_option maxHeartbeats 40000000 in
theorem c_mk {G : Gb} (H : Gl tables_1 els G) {h : Heap} {n c0 c1 c2 : Int32} (l0 : ¬ c0 < 0 ∧ ¬ (255 : Int32) < c0) (l1 : ¬ c1 < 0 ∧ ¬ (255 : Int32) < c1) (l2 : ¬ c2 < 0 ∧ ¬ (255 : Int32) < c2) :
    Ctr G [] (⟨"com/example/penelope/penelope/frontend/TaggedSpellingPinLaw", "mk", "(ICCC)Ljava/lang/String;"⟩ : MethodName) method_3_code 4 (some (.object "java/lang/String")) ({ frames := 4, cells := 6, slots := 15, locals := 66 } : Room) #[.int n, .int c0, .int c1, .int c2] h [] (fun v h' Sf => ∃ (a : Addr) (cs : List Int32), v = some (.ref a) ∧ Ext h h' ∧ Str G h' a cs ∧ Lat cs ∧ cs.length ≤ 3 ∧ G.Z.heap.size ≤ a) := by
  refine ctr_of M_mk rfl rfl (plainFor_of_name pn_12) L_mk H.el (Ls := #[.val (.int n), .val (.int c0), .val (.int c1), .val (.int c2)]) (fun m => ef_ok (by show argsToLocals _ 4 = _; first | (simp [argsToLocals, Value.category]; done) | rfl)) ?_
  intro B K hE
  refine go_run K 0 1 (pc' := 1) (st' := [(.int n)]) rfl ?_
  refine go_ifne K (k := 1) rfl (pc' := 15) (by decide) (fun q1 => ?_) (fun q2 => ?_)
  · refine go_run K 8 2 (pc' := 17) (st' := [(.int (1 : Int32)), (.int n)]) rfl ?_
    refine go_icmpne K (k := 10) rfl (pc' := 35) (by decide) (fun q28 => ?_) (fun q29 => ?_)
    · refine go_run K 21 2 (pc' := 37) (st' := [(.int (2 : Int32)), (.int n)]) rfl ?_
      refine go_icmpne K (k := 23) rfl (pc' := 59) (by decide) (fun q60 => ?_) (fun q61 => ?_)
      · refine go_new K (k := 38) rfl (H.w 12 rfl) (H.w 2 rfl) (H.w 1 rfl) rfl rfl ?_
        intro h98 a97 e99 g100 E101 A102 D103
        have F104 : Fld G.Z h98 a97 "java/lang/String" "value" "[B" .null := D103 (Or.inr (H.w 4 rfl)) (ty := (.array .byte)) (by decide)
        have F105 : Fld G.Z h98 a97 "java/lang/String" "coder" "B" (.int (0 : Int32)) := D103 (Or.inr (H.w 5 rfl)) (ty := .byte) (by decide)
        refine go_run K 39 2 (pc' := 64) (st' := [(.int (3 : Int32)), (.ref a97), (.ref a97)]) rfl ?_
        refine go_newarray K (k := 41) rfl (H.w 13 rfl) (by decide) (cap := 3) (by decide) rfl rfl rfl ?_
        intro h107 a106 k108 e109 g110 E111 A112
        have A112' : Arv G.Z h107 a106 k108 .char (3 : Int32) [(.int (0 : Int32)), (.int (0 : Int32)), (.int (0 : Int32))] (.int (0 : Int32)) := Arv.pad A112 (pad_rep [] (.int (0 : Int32)) 3)
        refine go_run K 42 3 (pc' := 69) (st' := [(.int c0), (.int (0 : Int32)), (.ref a106), (.ref a106), (.ref a97), (.ref a97)]) rfl ?_
        refine go_castore K (k := 45) rfl A112' (i := 0) (by decide) rfl (Nat.le_of_ble_eq_true rfl) g110 ?_
        intro h113 W114 A115
        refine go_run K 46 3 (pc' := 73) (st' := [(.int c1), (.int (1 : Int32)), (.ref a106), (.ref a106), (.ref a97), (.ref a97)]) rfl ?_
        refine go_castore K (k := 49) rfl A115 (i := 1) (by decide) rfl (Nat.le_of_ble_eq_true rfl) g110 ?_
        intro h116 W117 A118
        refine go_run K 50 3 (pc' := 77) (st' := [(.int c2), (.int (2 : Int32)), (.ref a106), (.ref a106), (.ref a97), (.ref a97)]) rfl ?_
        refine go_castore K (k := 53) rfl A118 (i := 2) (by decide) rfl (Nat.le_of_ble_eq_true rfl) g110 ?_
        intro h119 W120 A121
        have B122 : Arv G.Z h119 a106 k108 .char (3 : Int32) (([c0, c1, c2] : List Int32).map Value.int) (.int 0) := by
          have u := A121
          rw [nar_id l0, nar_id l1, nar_id l2] at u
          exact u
        have X123 : Ext h98 h113 := (Ext.wrN E111 W114 (Nat.le_trans (Nat.le_refl _) (Nat.le_of_eq e109.symm)))
        have X124 : Ext h98 h116 := (Ext.wrN X123 W117 (Nat.le_trans (Nat.le_refl _) (Nat.le_of_eq e109.symm)))
        have X125 : Ext h98 h119 := (Ext.wrN X124 W120 (Nat.le_trans (Nat.le_refl _) (Nat.le_of_eq e109.symm)))
        have c126 := (A102.ext X125)
        have c127 := (F104.ext X125)
        have c128 := (F105.ext X125)
        refine go_special K (k := 54) rfl rfl (H.w 14 rfl) (H.w 15 rfl) (H.w 1 rfl) (H.w 16 rfl) (by decide) pd_24 (c_si (cs := [c0, c1, c2]) H (latC l0 (latC l1 (lat1 l2) (Nat.le_of_ble_eq_true rfl)) (Nat.le_of_ble_eq_true rfl)) (Nat.le_of_ble_eq_true rfl) c126 c127 c128 g100 B122) (argsL := [(.ref a106)]) (rest := [(.ref a97)]) rfl rfl rfl (subS (List.mem_cons_of_mem _ (List.mem_cons_self ..)) sub0) rfl ?_
        rintro _ h129 _ - ⟨rfl, K130, S131⟩
        show Go G B M_mk _ h129 (a106 :: (a97 :: [])) 6 15 81 #[.val (.int n), .val (.int c0), .val (.int c1), .val (.int c2)] [(.ref a97)]
        have X132 : Ext h h107 := (Ext.tr E101 E111)
        have X133 : Ext h h113 := (Ext.wrN X132 W114 (Nat.le_trans (E101).1 (Nat.le_of_eq e109.symm)))
        have X134 : Ext h h116 := (Ext.wrN X133 W117 (Nat.le_trans (E101).1 (Nat.le_of_eq e109.symm)))
        have X135 : Ext h h119 := (Ext.wrN X134 W120 (Nat.le_trans (E101).1 (Nat.le_of_eq e109.symm)))
        have X136 : Ext h h129 := (Ext.keepN X135 K130 (allS (Nat.le_trans (Nat.le_refl _) (Nat.le_of_eq e99.symm)) all0))
        refine go_areturn K (k := 55) rfl rfl rfl rfl rfl rfl rfl ?_
        intro Sf hSf
        exact ⟨a97, _, rfl, X136, S131, (latC l0 (latC l1 (lat1 l2) (Nat.le_of_ble_eq_true rfl)) (Nat.le_of_ble_eq_true rfl)), Nat.le_of_ble_eq_true rfl, g100⟩
      · refine go_new K (k := 24) rfl (H.w 12 rfl) (H.w 2 rfl) (H.w 1 rfl) rfl rfl ?_
        intro h63 a62 e64 g65 E66 A67 D68
        have F69 : Fld G.Z h63 a62 "java/lang/String" "value" "[B" .null := D68 (Or.inr (H.w 4 rfl)) (ty := (.array .byte)) (by decide)
        have F70 : Fld G.Z h63 a62 "java/lang/String" "coder" "B" (.int (0 : Int32)) := D68 (Or.inr (H.w 5 rfl)) (ty := .byte) (by decide)
        refine go_run K 25 2 (pc' := 45) (st' := [(.int (2 : Int32)), (.ref a62), (.ref a62)]) rfl ?_
        refine go_newarray K (k := 27) rfl (H.w 13 rfl) (by decide) (cap := 2) (by decide) rfl rfl rfl ?_
        intro h72 a71 k73 e74 g75 E76 A77
        have A77' : Arv G.Z h72 a71 k73 .char (2 : Int32) [(.int (0 : Int32)), (.int (0 : Int32))] (.int (0 : Int32)) := Arv.pad A77 (pad_rep [] (.int (0 : Int32)) 2)
        refine go_run K 28 3 (pc' := 50) (st' := [(.int c0), (.int (0 : Int32)), (.ref a71), (.ref a71), (.ref a62), (.ref a62)]) rfl ?_
        refine go_castore K (k := 31) rfl A77' (i := 0) (by decide) rfl (Nat.le_of_ble_eq_true rfl) g75 ?_
        intro h78 W79 A80
        refine go_run K 32 3 (pc' := 54) (st' := [(.int c1), (.int (1 : Int32)), (.ref a71), (.ref a71), (.ref a62), (.ref a62)]) rfl ?_
        refine go_castore K (k := 35) rfl A80 (i := 1) (by decide) rfl (Nat.le_of_ble_eq_true rfl) g75 ?_
        intro h81 W82 A83
        have B84 : Arv G.Z h81 a71 k73 .char (2 : Int32) (([c0, c1] : List Int32).map Value.int) (.int 0) := by
          have u := A83
          rw [nar_id l0, nar_id l1] at u
          exact u
        have X85 : Ext h63 h78 := (Ext.wrN E76 W79 (Nat.le_trans (Nat.le_refl _) (Nat.le_of_eq e74.symm)))
        have X86 : Ext h63 h81 := (Ext.wrN X85 W82 (Nat.le_trans (Nat.le_refl _) (Nat.le_of_eq e74.symm)))
        have c87 := (A67.ext X86)
        have c88 := (F69.ext X86)
        have c89 := (F70.ext X86)
        refine go_special K (k := 36) rfl rfl (H.w 14 rfl) (H.w 15 rfl) (H.w 1 rfl) (H.w 16 rfl) (by decide) pd_24 (c_si (cs := [c0, c1]) H (latC l0 (lat1 l1) (Nat.le_of_ble_eq_true rfl)) (Nat.le_of_ble_eq_true rfl) c87 c88 c89 g65 B84) (argsL := [(.ref a71)]) (rest := [(.ref a62)]) rfl rfl rfl (subS (List.mem_cons_of_mem _ (List.mem_cons_self ..)) sub0) rfl ?_
        rintro _ h90 _ - ⟨rfl, K91, S92⟩
        show Go G B M_mk _ h90 (a71 :: (a62 :: [])) 6 14 58 #[.val (.int n), .val (.int c0), .val (.int c1), .val (.int c2)] [(.ref a62)]
        have X93 : Ext h h72 := (Ext.tr E66 E76)
        have X94 : Ext h h78 := (Ext.wrN X93 W79 (Nat.le_trans (E66).1 (Nat.le_of_eq e74.symm)))
        have X95 : Ext h h81 := (Ext.wrN X94 W82 (Nat.le_trans (E66).1 (Nat.le_of_eq e74.symm)))
        have X96 : Ext h h90 := (Ext.keepN X95 K91 (allS (Nat.le_trans (Nat.le_refl _) (Nat.le_of_eq e64.symm)) all0))
        refine go_areturn K (k := 37) rfl rfl rfl rfl rfl rfl rfl ?_
        intro Sf hSf
        exact ⟨a62, _, rfl, X96, S92, (latC l0 (lat1 l1) (Nat.le_of_ble_eq_true rfl)), Nat.le_of_ble_eq_true rfl, g65⟩
    · refine go_new K (k := 11) rfl (H.w 12 rfl) (H.w 2 rfl) (H.w 1 rfl) rfl rfl ?_
      intro h31 a30 e32 g33 E34 A35 D36
      have F37 : Fld G.Z h31 a30 "java/lang/String" "value" "[B" .null := D36 (Or.inr (H.w 4 rfl)) (ty := (.array .byte)) (by decide)
      have F38 : Fld G.Z h31 a30 "java/lang/String" "coder" "B" (.int (0 : Int32)) := D36 (Or.inr (H.w 5 rfl)) (ty := .byte) (by decide)
      refine go_run K 12 2 (pc' := 25) (st' := [(.int (1 : Int32)), (.ref a30), (.ref a30)]) rfl ?_
      refine go_newarray K (k := 14) rfl (H.w 13 rfl) (by decide) (cap := 1) (by decide) rfl rfl rfl ?_
      intro h40 a39 k41 e42 g43 E44 A45
      have A45' : Arv G.Z h40 a39 k41 .char (1 : Int32) [(.int (0 : Int32))] (.int (0 : Int32)) := Arv.pad A45 (pad_rep [] (.int (0 : Int32)) 1)
      refine go_run K 15 3 (pc' := 30) (st' := [(.int c0), (.int (0 : Int32)), (.ref a39), (.ref a39), (.ref a30), (.ref a30)]) rfl ?_
      refine go_castore K (k := 18) rfl A45' (i := 0) (by decide) rfl (Nat.le_of_ble_eq_true rfl) g43 ?_
      intro h46 W47 A48
      have B49 : Arv G.Z h46 a39 k41 .char (1 : Int32) (([c0] : List Int32).map Value.int) (.int 0) := by
        have u := A48
        rw [nar_id l0] at u
        exact u
      have X50 : Ext h31 h46 := (Ext.wrN E44 W47 (Nat.le_trans (Nat.le_refl _) (Nat.le_of_eq e42.symm)))
      have c51 := (A35.ext X50)
      have c52 := (F37.ext X50)
      have c53 := (F38.ext X50)
      refine go_special K (k := 19) rfl rfl (H.w 14 rfl) (H.w 15 rfl) (H.w 1 rfl) (H.w 16 rfl) (by decide) pd_24 (c_si (cs := [c0]) H (lat1 l0) (Nat.le_of_ble_eq_true rfl) c51 c52 c53 g33 B49) (argsL := [(.ref a39)]) (rest := [(.ref a30)]) rfl rfl rfl (subS (List.mem_cons_of_mem _ (List.mem_cons_self ..)) sub0) rfl ?_
      rintro _ h54 _ - ⟨rfl, K55, S56⟩
      show Go G B M_mk _ h54 (a39 :: (a30 :: [])) 6 13 34 #[.val (.int n), .val (.int c0), .val (.int c1), .val (.int c2)] [(.ref a30)]
      have X57 : Ext h h40 := (Ext.tr E34 E44)
      have X58 : Ext h h46 := (Ext.wrN X57 W47 (Nat.le_trans (E34).1 (Nat.le_of_eq e42.symm)))
      have X59 : Ext h h54 := (Ext.keepN X58 K55 (allS (Nat.le_trans (Nat.le_refl _) (Nat.le_of_eq e32.symm)) all0))
      refine go_areturn K (k := 20) rfl rfl rfl rfl rfl rfl rfl ?_
      intro Sf hSf
      exact ⟨a30, _, rfl, X59, S56, (lat1 l0), Nat.le_of_ble_eq_true rfl, g33⟩
  · refine go_new K (k := 2) rfl (H.w 12 rfl) (H.w 2 rfl) (H.w 1 rfl) rfl rfl ?_
    intro h4 a3 e5 g6 E7 A8 D9
    have F10 : Fld G.Z h4 a3 "java/lang/String" "value" "[B" .null := D9 (Or.inr (H.w 4 rfl)) (ty := (.array .byte)) (by decide)
    have F11 : Fld G.Z h4 a3 "java/lang/String" "coder" "B" (.int (0 : Int32)) := D9 (Or.inr (H.w 5 rfl)) (ty := .byte) (by decide)
    refine go_run K 3 2 (pc' := 9) (st' := [(.int (0 : Int32)), (.ref a3), (.ref a3)]) rfl ?_
    refine go_newarray K (k := 5) rfl (H.w 13 rfl) (by decide) (cap := 0) (by decide) rfl rfl rfl ?_
    intro h13 a12 k14 e15 g16 E17 A18
    have A18' : Arv G.Z h13 a12 k14 .char (0 : Int32) [] (.int (0 : Int32)) := Arv.pad A18 (pad_rep [] (.int (0 : Int32)) 0)
    have B19 : Arv G.Z h13 a12 k14 .char (0 : Int32) (([] : List Int32).map Value.int) (.int 0) := by
      have u := A18'
      exact u
    have c20 := (A8.ext E17)
    have c21 := (F10.ext E17)
    have c22 := (F11.ext E17)
    refine go_special K (k := 6) rfl rfl (H.w 14 rfl) (H.w 15 rfl) (H.w 1 rfl) (H.w 16 rfl) (by decide) pd_24 (c_si (cs := []) H lat0 (Nat.le_of_ble_eq_true rfl) c20 c21 c22 g6 B19) (argsL := [(.ref a12)]) (rest := [(.ref a3)]) rfl rfl rfl (subS (List.mem_cons_of_mem _ (List.mem_cons_self ..)) sub0) rfl ?_
    rintro _ h23 _ - ⟨rfl, K24, S25⟩
    show Go G B M_mk _ h23 (a12 :: (a3 :: [])) 6 12 14 #[.val (.int n), .val (.int c0), .val (.int c1), .val (.int c2)] [(.ref a3)]
    have X26 : Ext h h13 := (Ext.tr E7 E17)
    have X27 : Ext h h23 := (Ext.keepN X26 K24 (allS (Nat.le_trans (Nat.le_refl _) (Nat.le_of_eq e5.symm)) all0))
    refine go_areturn K (k := 7) rfl rfl rfl rfl rfl rfl rfl ?_
    intro Sf hSf
    exact ⟨a3, _, rfl, X27, S25, lat0, Nat.le_of_ble_eq_true rfl, g6⟩
theorem pn_13 : plainName "com/example/penelope/penelope/frontend/CType" = true := by first | (simp [plainName, overriddenIn]; done) | decide +kernel
def P_dcl : List (Nat × Instr × Nat) := [(0, .aload_n 1, 1), (1, .invokevirtual 15, 3), (4, .ifCond .eq 7, 3), (7, .aload_n 0, 1), (8, .goto 26, 3), (11, .new 21, 3), (14, .dup, 1), (15, .invokespecial 23, 3), (18, .aload_n 0, 1), (19, .invokevirtual 27, 3), (22, .ldc 31, 2), (24, .invokevirtual 27, 3), (27, .aload_n 1, 1), (28, .invokevirtual 27, 3), (31, .invokevirtual 33, 3), (34, .areturn, 1)]
theorem L_dcl : ∀ q ∈ P_dcl, decode prog_51_method_5_code q.1 = .ok q.2 := by decide +kernel
def M_dcl : Mt := (("com/example/penelope/penelope/frontend/CType", "declaring", ({ frames := 6, cells := 9, slots := 168, locals := 91 } : Room)), P_dcl, 2, (some (.object "java/lang/String")))
set_option maxRecDepth 65536 in
set_option maxHeartbeats 40000000 in
theorem c_dcl {G : Gb} (H : Gl tables_1 els G) {h : Heap} {s d : Addr} {xs ds : List Int32} (l1 : Lat xs) (l2 : Lat ds) (hb1 : xs.length ≤ 18) (hb2 : ds.length ≤ 3) (S1 : Str G h s xs) (S2 : Str G h d ds) :
    Ctr G [] (⟨"com/example/penelope/penelope/frontend/CType", "declaring", "(Ljava/lang/String;Ljava/lang/String;)Ljava/lang/String;"⟩ : MethodName) prog_51_method_5_code 2 (some (.object "java/lang/String")) ({ frames := 6, cells := 9, slots := 168, locals := 91 } : Room) #[.ref s, .ref d] h [] (fun v h' Sf => ∃ s : Addr, v = some (.ref s) ∧ Ext h h' ∧ Str G h' s (dec xs ds)) := by
  refine ctr_of M_dcl rfl rfl (plainFor_of_name pn_13) L_dcl H.el (Ls := #[.val (.ref s), .val (.ref d)]) (fun m => ef_ok (by show argsToLocals _ 2 = _; first | (simp [argsToLocals, Value.category]; done) | rfl)) ?_
  intro B K hE
  refine go_run K 0 1 (pc' := 1) (st' := [(.ref d)]) rfl ?_
  refine go_virt0 K (k := 1) rfl (H.w 164 rfl) (H.w 167 rfl) (H.w 166 rfl) (H.w 1 rfl) (H.w 168 rfl) (by decide) pd_18 S2.exa (c_emp H l2 S2) (argsL := []) (rest := []) rfl rfl rfl sub0 rfl ?_
  rintro _ _ _ - ⟨r1, rfl, rfl, q2⟩
  show Go G B M_dcl _ h [] 0 0 4 #[.val (.ref s), .val (.ref d)] [(.int r1)]
  refine go_ifeq K (k := 2) rfl (pc' := 11) (by decide) (fun q3 => ?_) (fun q4 => ?_)
  · have he : ¬ ds = [] := by
      rcases q2 with ⟨u, -⟩ | ⟨-, u⟩
      · rw [u] at q3; exact absurd q3 (by decide)
      · exact u
    refine go_new K (k := 5) rfl (H.w 209 rfl) (H.w 49 rfl) (H.w 50 rfl) rfl rfl ?_
    intro h6 a5 e7 g8 E9 A10 D11
    have F12 : Fld G.Z h6 a5 "java/lang/AbstractStringBuilder" "value" "[B" .null := D11 (Or.inl (H.w 63 rfl)) (ty := (.array .byte)) (by decide)
    have F13 : Fld G.Z h6 a5 "java/lang/AbstractStringBuilder" "coder" "B" (.int (0 : Int32)) := D11 (Or.inl (H.w 65 rfl)) (ty := .byte) (by decide)
    have F14 : Fld G.Z h6 a5 "java/lang/AbstractStringBuilder" "count" "I" (.int (0 : Int32)) := D11 (Or.inl (H.w 88 rfl)) (ty := .int) (by decide)
    refine go_run K 6 1 (pc' := 15) (st' := [(.ref a5), (.ref a5)]) rfl ?_
    refine go_specialN K (k := 7) rfl rfl (H.w 210 rfl) (H.w 52 rfl) (H.w 50 rfl) (H.w 53 rfl) (by decide) pd_23 (c_sbi H A10 F12 F13 F14 g8) (argsL := []) (rest := [(.ref a5)]) rfl rfl rfl sub0 rfl ?_
    rintro _ h15 Sf23 - ⟨rfl, K16, t17, k18, X19, g20, f21, s22⟩
    refine ⟨[t17], allS s22 all0, ?_⟩
    show Go G B M_dcl _ h15 (t17 :: (a5 :: [])) 2 20 18 #[.val (.ref s), .val (.ref d)] [(.ref a5)]
    refine go_run K 8 1 (pc' := 19) (st' := [(.ref s), (.ref a5)]) rfl ?_
    have X24 : Ext h h15 := (Ext.keepN E9 K16 (allS (Nat.le_trans (Nat.le_refl _) (Nat.le_of_eq e7.symm)) all0))
    have c25 := (S1.ext X24)
    refine go_virt0N K (k := 9) rfl (H.w 211 rfl) (H.w 69 rfl) (H.w 68 rfl) (H.w 50 rfl) (H.w 70 rfl) (by decide) pd_25 X19.exa (c_sap H l1 (Or.inl rfl) (by simp only [List.nil_append, List.length_append, List.length_cons, List.length_nil] <;> omega) X19 c25 g8 g20) (argsL := [(.ref s)]) (rest := []) rfl rfl rfl (subS (List.mem_cons_self ..) sub0) rfl ?_
    rintro _ h26 Sf36 - ⟨rfl, t27, k28, m29, K30, X31, hm32, g33, s34, f35⟩
    refine ⟨[t27], allS s34 all0, ?_⟩
    show Go G B M_dcl _ h26 (t27 :: (t17 :: (a5 :: []))) 3 54 22 #[.val (.ref s), .val (.ref d)] [(.ref a5)]
    refine go_ldcT K (k := 10) rfl (H.w 212 rfl) H.ws (H.mem (by decide)) (cs := [(32 : Int32)]) (by decide) (by decide) (n := 4) rfl rfl rfl rfl ?_
    intro h38 a37 E39 S40
    have c41 := (X31.ext E39)
    refine go_virt0N K (k := 11) rfl (H.w 211 rfl) (H.w 69 rfl) (H.w 68 rfl) (H.w 50 rfl) (H.w 70 rfl) (by decide) pd_25 c41.exa (c_sap H (lat1 (by decide)) hm32 (by simp only [List.nil_append, List.length_append, List.length_cons, List.length_nil] <;> omega) c41 S40 g8 g33) (argsL := [(.ref a37)]) (rest := []) rfl rfl rfl (subS (List.mem_cons_self ..) sub0) rfl ?_
    rintro _ h42 Sf52 - ⟨rfl, t43, k44, m45, K46, X47, hm48, g49, s50, f51⟩
    refine ⟨[t43], allS s50 all0, ?_⟩
    show Go G B M_dcl _ h42 (t43 :: (t27 :: (t17 :: (a5 :: [])))) 6 96 27 #[.val (.ref s), .val (.ref d)] [(.ref a5)]
    refine go_run K 12 1 (pc' := 28) (st' := [(.ref d), (.ref a5)]) rfl ?_
    have X53 : Ext h h26 := (Ext.keepN X24 K30 (allS (Nat.le_trans (Nat.le_refl _) (Nat.le_of_eq e7.symm)) (allS (Nat.le_trans (E9).1 f21) all0)))
    have X54 : Ext h h38 := (Ext.tr X53 E39)
    have X55 : Ext h h42 := (Ext.keepN X54 K46 (allS (Nat.le_trans (Nat.le_refl _) (Nat.le_of_eq e7.symm)) (allS (f35 _ (Nat.le_trans (E9).1 f21) (X24).1) all0)))
    have c56 := (S2.ext X55)
    refine go_virt0N K (k := 13) rfl (H.w 211 rfl) (H.w 69 rfl) (H.w 68 rfl) (H.w 50 rfl) (H.w 70 rfl) (by decide) pd_25 X47.exa (c_sap H l2 hm48 (by simp only [List.nil_append, List.length_append, List.length_cons, List.length_nil] <;> omega) X47 c56 g8 g49) (argsL := [(.ref d)]) (rest := []) rfl rfl rfl (subS (List.mem_cons_self ..) sub0) rfl ?_
    rintro _ h57 Sf67 - ⟨rfl, t58, k59, m60, K61, X62, hm63, g64, s65, f66⟩
    refine ⟨[t58], allS s65 all0, ?_⟩
    show Go G B M_dcl _ h57 (t58 :: (t43 :: (t27 :: (t17 :: (a5 :: []))))) 7 130 31 #[.val (.ref s), .val (.ref d)] [(.ref a5)]
    refine go_virt0 K (k := 14) rfl (H.w 213 rfl) (H.w 118 rfl) (H.w 117 rfl) (H.w 50 rfl) (H.w 119 rfl) (by decide) pd_26 X62.exa (c_sbs H (hm34 hm63) X62) (argsL := []) (rest := []) rfl rfl rfl sub0 rfl ?_
    rintro _ h68 _ - ⟨a69, rfl, E70, S71, g72⟩
    show Go G B M_dcl _ h68 (t58 :: (t43 :: (t27 :: (t17 :: (a5 :: []))))) 9 168 34 #[.val (.ref s), .val (.ref d)] [(.ref a69)]
    have X73 : Ext h h57 := (Ext.keepN X55 K61 (allS (Nat.le_trans (Nat.le_refl _) (Nat.le_of_eq e7.symm)) (allS (f51 _ (f35 _ (Nat.le_trans (E9).1 f21) (X24).1) (X54).1) all0)))
    have X74 : Ext h h68 := (Ext.tr X73 E70)
    refine go_areturn K (k := 15) rfl rfl rfl rfl rfl rfl rfl ?_
    intro Sf hSf
    refine ⟨_, rfl, X74, ?_⟩
    rw [dec, if_neg he]
    have u := S71
    simp only [List.nil_append, List.append_assoc, List.singleton_append] at u
    exact u
  · refine go_run K 3 2 (pc' := 34) (st' := [(.ref s)]) rfl ?_
    have he : ds = [] := by
      rcases q2 with ⟨-, u⟩ | ⟨u, -⟩
      · exact u
      · exact absurd u q4
    refine go_areturn K (k := 15) rfl rfl rfl rfl rfl rfl rfl ?_
    intro Sf hSf
    refine ⟨_, rfl, Ext.rf _, ?_⟩
    rw [dec, if_pos he]
    exact S1
abbrev anon : List Int32 := [(60 : Int32), (97 : Int32), (110 : Int32), (111 : Int32), (110 : Int32), (121 : Int32), (109 : Int32), (111 : Int32), (117 : Int32), (115 : Int32), (62 : Int32)]
def P_spl : List (Nat × Instr × Nat) := [(0, .new 16, 3), (3, .dup, 1), (4, .invokespecial 18, 3), (7, .aload_n 0, 1), (8, .getfield 7, 3), (11, .invokevirtual 19, 3), (14, .ldc 23, 2), (16, .invokevirtual 19, 3), (19, .aload_n 0, 1), (20, .getfield 13, 3), (23, .ifnonnull 8, 3), (26, .ldc 25, 2), (28, .goto 7, 3), (31, .aload_n 0, 1), (32, .getfield 13, 3), (35, .invokevirtual 19, 3), (38, .invokevirtual 27, 3), (41, .aload_n 1, 1), (42, .invokestatic 31, 3), (45, .areturn, 1)]
theorem L_spl : ∀ q ∈ P_spl, decode prog_57_method_2_code q.1 = .ok q.2 := by decide +kernel
def M_spl : Mt := (("com/example/penelope/penelope/frontend/CType$Tagged", "spelling", ({ frames := 7, cells := 20, slots := 384, locals := 104 } : Room)), P_spl, 2, (some (.object "java/lang/String")))
set_option maxRecDepth 65536 in
set_option maxHeartbeats 40000000 in
theorem c_spl {G : Gb} (H : Gl tables_1 els G) {h : Heap} {q d k g : Addr} {ks gs ds : List Int32} (l1 : Lat ks) (l2 : Lat ds) (l3 : Lat gs) (hb1 : ks.length ≤ 6) (hb2 : ds.length ≤ 3) (hb3 : gs.length ≤ 3) (F1 : Fld G.Z h q "com/example/penelope/penelope/frontend/CType$Tagged" "keyword" "Ljava/lang/String;" (.ref k)) (F2 : Fld G.Z h q "com/example/penelope/penelope/frontend/CType$Tagged" "tag" "Ljava/lang/String;" (.ref g)) (S1 : Str G h k ks) (S2 : Str G h g gs) (S3 : Str G h d ds) :
    Ctr G [] (⟨"com/example/penelope/penelope/frontend/CType$Tagged", "spelling", "(Ljava/lang/String;)Ljava/lang/String;"⟩ : MethodName) prog_57_method_2_code 2 (some (.object "java/lang/String")) ({ frames := 7, cells := 20, slots := 384, locals := 104 } : Room) #[.ref q, .ref d] h [] (fun v h' Sf => ∃ s : Addr, v = some (.ref s) ∧ Ext h h' ∧ Str G h' s (dec (ks ++ (32 : Int32) :: gs) ds)) := by
  refine ctr_of M_spl rfl rfl (plainFor_of_name pn_11) L_spl H.el (Ls := #[.val (.ref q), .val (.ref d)]) (fun m => ef_ok (by show argsToLocals _ 2 = _; first | (simp [argsToLocals, Value.category]; done) | rfl)) ?_
  intro B K hE
  refine go_new K (k := 0) rfl (H.w 48 rfl) (H.w 49 rfl) (H.w 50 rfl) rfl rfl ?_
  intro h2 a1 e3 g4 E5 A6 D7
  have F8 : Fld G.Z h2 a1 "java/lang/AbstractStringBuilder" "value" "[B" .null := D7 (Or.inl (H.w 63 rfl)) (ty := (.array .byte)) (by decide)
  have F9 : Fld G.Z h2 a1 "java/lang/AbstractStringBuilder" "coder" "B" (.int (0 : Int32)) := D7 (Or.inl (H.w 65 rfl)) (ty := .byte) (by decide)
  have F10 : Fld G.Z h2 a1 "java/lang/AbstractStringBuilder" "count" "I" (.int (0 : Int32)) := D7 (Or.inl (H.w 88 rfl)) (ty := .int) (by decide)
  refine go_run K 1 1 (pc' := 4) (st' := [(.ref a1), (.ref a1)]) rfl ?_
  refine go_specialN K (k := 2) rfl rfl (H.w 51 rfl) (H.w 52 rfl) (H.w 50 rfl) (H.w 53 rfl) (by decide) pd_23 (c_sbi H A6 F8 F9 F10 g4) (argsL := []) (rest := [(.ref a1)]) rfl rfl rfl sub0 rfl ?_
  rintro _ h11 Sf19 - ⟨rfl, K12, t13, k14, X15, g16, f17, s18⟩
  refine ⟨[t13], allS s18 all0, ?_⟩
  show Go G B M_spl _ h11 (t13 :: (a1 :: [])) 2 20 7 #[.val (.ref q), .val (.ref d)] [(.ref a1)]
  refine go_run K 3 1 (pc' := 8) (st' := [(.ref q), (.ref a1)]) rfl ?_
  have X20 : Ext h h11 := (Ext.keepN E5 K12 (allS (Nat.le_trans (Nat.le_refl _) (Nat.le_of_eq e3.symm)) all0))
  have c21 := (F1.ext X20)
  refine go_getfield K (k := 4) rfl (host := "") (Or.inl (H.w 39 rfl)) Via.refl c21 ?_
  have c22 := (S1.ext X20)
  refine go_virt0N K (k := 5) rfl (H.w 66 rfl) (H.w 69 rfl) (H.w 68 rfl) (H.w 50 rfl) (H.w 70 rfl) (by decide) pd_25 X15.exa (c_sap H l1 (Or.inl rfl) (by simp only [List.nil_append, List.length_append, List.length_cons, List.length_nil] <;> omega) X15 c22 g4 g16) (argsL := [(.ref k)]) (rest := []) rfl rfl rfl (subS (List.mem_cons_self ..) sub0) rfl ?_
  rintro _ h23 Sf33 - ⟨rfl, t24, k25, m26, K27, X28, hm29, g30, s31, f32⟩
  refine ⟨[t24], allS s31 all0, ?_⟩
  show Go G B M_spl _ h23 (t24 :: (t13 :: (a1 :: []))) 3 54 14 #[.val (.ref q), .val (.ref d)] [(.ref a1)]
  refine go_ldcT K (k := 6) rfl (H.w 114 rfl) H.ws (H.mem (by decide)) (cs := [(32 : Int32)]) (by decide) (by decide) (n := 4) rfl rfl rfl rfl ?_
  intro h35 a34 E36 S37
  have c38 := (X28.ext E36)
  refine go_virt0N K (k := 7) rfl (H.w 66 rfl) (H.w 69 rfl) (H.w 68 rfl) (H.w 50 rfl) (H.w 70 rfl) (by decide) pd_25 c38.exa (c_sap H (lat1 (by decide)) hm29 (by simp only [List.nil_append, List.length_append, List.length_cons, List.length_nil] <;> omega) c38 S37 g4 g30) (argsL := [(.ref a34)]) (rest := []) rfl rfl rfl (subS (List.mem_cons_self ..) sub0) rfl ?_
  rintro _ h39 Sf49 - ⟨rfl, t40, k41, m42, K43, X44, hm45, g46, s47, f48⟩
  refine ⟨[t40], allS s47 all0, ?_⟩
  show Go G B M_spl _ h39 (t40 :: (t24 :: (t13 :: (a1 :: [])))) 6 96 19 #[.val (.ref q), .val (.ref d)] [(.ref a1)]
  refine go_run K 8 1 (pc' := 20) (st' := [(.ref q), (.ref a1)]) rfl ?_
  have X50 : Ext h h23 := (Ext.keepN X20 K27 (allS (Nat.le_trans (Nat.le_refl _) (Nat.le_of_eq e3.symm)) (allS (Nat.le_trans (E5).1 f17) all0)))
  have X51 : Ext h h35 := (Ext.tr X50 E36)
  have X52 : Ext h h39 := (Ext.keepN X51 K43 (allS (Nat.le_trans (Nat.le_refl _) (Nat.le_of_eq e3.symm)) (allS (f32 _ (Nat.le_trans (E5).1 f17) (X20).1) all0)))
  have c53 := (F2.ext X52)
  refine go_getfield K (k := 9) rfl (host := "") (Or.inl (H.w 41 rfl)) Via.refl c53 ?_
  refine go_ifnonY K (k := 10) rfl (pc' := 31) (by decide) ?_
  refine go_run K 13 1 (pc' := 32) (st' := [(.ref q), (.ref a1)]) rfl ?_
  refine go_getfield K (k := 14) rfl (host := "") (Or.inl (H.w 41 rfl)) Via.refl c53 ?_
  have c54 := (S2.ext X52)
  refine go_virt0N K (k := 15) rfl (H.w 66 rfl) (H.w 69 rfl) (H.w 68 rfl) (H.w 50 rfl) (H.w 70 rfl) (by decide) pd_25 X44.exa (c_sap H l3 hm45 (by simp only [List.nil_append, List.length_append, List.length_cons, List.length_nil] <;> omega) X44 c54 g4 g46) (argsL := [(.ref g)]) (rest := []) rfl rfl rfl (subS (List.mem_cons_self ..) sub0) rfl ?_
  rintro _ h55 Sf65 - ⟨rfl, t56, k57, m58, K59, X60, hm61, g62, s63, f64⟩
  refine ⟨[t56], allS s63 all0, ?_⟩
  show Go G B M_spl _ h55 (t56 :: (t40 :: (t24 :: (t13 :: (a1 :: []))))) 7 130 38 #[.val (.ref q), .val (.ref d)] [(.ref a1)]
  refine go_virt0 K (k := 16) rfl (H.w 115 rfl) (H.w 118 rfl) (H.w 117 rfl) (H.w 50 rfl) (H.w 119 rfl) (by decide) pd_26 X60.exa (c_sbs H (hm34 hm61) X60) (argsL := []) (rest := []) rfl rfl rfl sub0 rfl ?_
  rintro _ h66 _ - ⟨a67, rfl, E68, S69, g70⟩
  show Go G B M_spl _ h66 (t56 :: (t40 :: (t24 :: (t13 :: (a1 :: []))))) 9 168 41 #[.val (.ref q), .val (.ref d)] [(.ref a67)]
  have S71 : Str G h66 a67 (ks ++ (32 : Int32) :: gs) := by
    have u := S69
    simp only [List.nil_append, List.append_assoc, List.singleton_append] at u
    exact u
  refine go_run K 17 1 (pc' := 42) (st' := [(.ref d), (.ref a67)]) rfl ?_
  have X72 : Ext h h55 := (Ext.keepN X52 K59 (allS (Nat.le_trans (Nat.le_refl _) (Nat.le_of_eq e3.symm)) (allS (f48 _ (f32 _ (Nat.le_trans (E5).1 f17) (X20).1) (X51).1) all0)))
  have X73 : Ext h h66 := (Ext.tr X72 E68)
  have c74 := (S3.ext X73)
  refine go_staticM K (k := 18) rfl (H.w 160 rfl) (H.w 161 rfl) (H.w 162 rfl) (H.w 163 rfl) (by decide) pd_27 (c_dcl H (lat_app l1 (latC (by decide) l3 (by first | omega | decide | (simp only [List.length_cons, List.length_nil] <;> omega))) (by first | omega | decide | (simp only [List.length_cons, List.length_nil] <;> omega))) l2 (by simp only [List.length_append, List.length_cons, List.length_nil] <;> omega) hb2 S71 c74) (argsL := [(.ref a67), (.ref d)]) (rest := []) rfl rfl rfl sub0 rfl ?_
  rintro _ h75 _ - ⟨a76, rfl, E77, S78⟩
  show Go G B M_spl _ h75 (t56 :: (t40 :: (t24 :: (t13 :: (a1 :: []))))) 18 336 45 #[.val (.ref q), .val (.ref d)] [(.ref a76)]
  have X79 : Ext h h75 := (Ext.tr X73 E77)
  refine go_areturn K (k := 19) rfl rfl rfl rfl rfl rfl rfl ?_
  intro Sf hSf
  exact ⟨_, rfl, X79, S78⟩
set_option maxRecDepth 65536 in
set_option maxHeartbeats 40000000 in
theorem c_splN {G : Gb} (H : Gl tables_1 els G) {h : Heap} {q d k : Addr} {ks ds : List Int32} (l1 : Lat ks) (l2 : Lat ds) (hb1 : ks.length ≤ 6) (hb2 : ds.length ≤ 3) (F1 : Fld G.Z h q "com/example/penelope/penelope/frontend/CType$Tagged" "keyword" "Ljava/lang/String;" (.ref k)) (F2 : Fld G.Z h q "com/example/penelope/penelope/frontend/CType$Tagged" "tag" "Ljava/lang/String;" .null) (S1 : Str G h k ks) (S3 : Str G h d ds) :
    Ctr G [] (⟨"com/example/penelope/penelope/frontend/CType$Tagged", "spelling", "(Ljava/lang/String;)Ljava/lang/String;"⟩ : MethodName) prog_57_method_2_code 2 (some (.object "java/lang/String")) ({ frames := 7, cells := 20, slots := 384, locals := 104 } : Room) #[.ref q, .ref d] h [] (fun v h' Sf => ∃ s : Addr, v = some (.ref s) ∧ Ext h h' ∧ Str G h' s (dec (ks ++ (32 : Int32) :: anon) ds)) := by
  refine ctr_of M_spl rfl rfl (plainFor_of_name pn_11) L_spl H.el (Ls := #[.val (.ref q), .val (.ref d)]) (fun m => ef_ok (by show argsToLocals _ 2 = _; first | (simp [argsToLocals, Value.category]; done) | rfl)) ?_
  intro B K hE
  refine go_new K (k := 0) rfl (H.w 48 rfl) (H.w 49 rfl) (H.w 50 rfl) rfl rfl ?_
  intro h2 a1 e3 g4 E5 A6 D7
  have F8 : Fld G.Z h2 a1 "java/lang/AbstractStringBuilder" "value" "[B" .null := D7 (Or.inl (H.w 63 rfl)) (ty := (.array .byte)) (by decide)
  have F9 : Fld G.Z h2 a1 "java/lang/AbstractStringBuilder" "coder" "B" (.int (0 : Int32)) := D7 (Or.inl (H.w 65 rfl)) (ty := .byte) (by decide)
  have F10 : Fld G.Z h2 a1 "java/lang/AbstractStringBuilder" "count" "I" (.int (0 : Int32)) := D7 (Or.inl (H.w 88 rfl)) (ty := .int) (by decide)
  refine go_run K 1 1 (pc' := 4) (st' := [(.ref a1), (.ref a1)]) rfl ?_
  refine go_specialN K (k := 2) rfl rfl (H.w 51 rfl) (H.w 52 rfl) (H.w 50 rfl) (H.w 53 rfl) (by decide) pd_23 (c_sbi H A6 F8 F9 F10 g4) (argsL := []) (rest := [(.ref a1)]) rfl rfl rfl sub0 rfl ?_
  rintro _ h11 Sf19 - ⟨rfl, K12, t13, k14, X15, g16, f17, s18⟩
  refine ⟨[t13], allS s18 all0, ?_⟩
  show Go G B M_spl _ h11 (t13 :: (a1 :: [])) 2 20 7 #[.val (.ref q), .val (.ref d)] [(.ref a1)]
  refine go_run K 3 1 (pc' := 8) (st' := [(.ref q), (.ref a1)]) rfl ?_
  have X20 : Ext h h11 := (Ext.keepN E5 K12 (allS (Nat.le_trans (Nat.le_refl _) (Nat.le_of_eq e3.symm)) all0))
  have c21 := (F1.ext X20)
  refine go_getfield K (k := 4) rfl (host := "") (Or.inl (H.w 39 rfl)) Via.refl c21 ?_
  have c22 := (S1.ext X20)
  refine go_virt0N K (k := 5) rfl (H.w 66 rfl) (H.w 69 rfl) (H.w 68 rfl) (H.w 50 rfl) (H.w 70 rfl) (by decide) pd_25 X15.exa (c_sap H l1 (Or.inl rfl) (by simp only [List.nil_append, List.length_append, List.length_cons, List.length_nil] <;> omega) X15 c22 g4 g16) (argsL := [(.ref k)]) (rest := []) rfl rfl rfl (subS (List.mem_cons_self ..) sub0) rfl ?_
  rintro _ h23 Sf33 - ⟨rfl, t24, k25, m26, K27, X28, hm29, g30, s31, f32⟩
  refine ⟨[t24], allS s31 all0, ?_⟩
  show Go G B M_spl _ h23 (t24 :: (t13 :: (a1 :: []))) 3 54 14 #[.val (.ref q), .val (.ref d)] [(.ref a1)]
  refine go_ldcT K (k := 6) rfl (H.w 114 rfl) H.ws (H.mem (by decide)) (cs := [(32 : Int32)]) (by decide) (by decide) (n := 4) rfl rfl rfl rfl ?_
  intro h35 a34 E36 S37
  have c38 := (X28.ext E36)
  refine go_virt0N K (k := 7) rfl (H.w 66 rfl) (H.w 69 rfl) (H.w 68 rfl) (H.w 50 rfl) (H.w 70 rfl) (by decide) pd_25 c38.exa (c_sap H (lat1 (by decide)) hm29 (by simp only [List.nil_append, List.length_append, List.length_cons, List.length_nil] <;> omega) c38 S37 g4 g30) (argsL := [(.ref a34)]) (rest := []) rfl rfl rfl (subS (List.mem_cons_self ..) sub0) rfl ?_
  rintro _ h39 Sf49 - ⟨rfl, t40, k41, m42, K43, X44, hm45, g46, s47, f48⟩
  refine ⟨[t40], allS s47 all0, ?_⟩
  show Go G B M_spl _ h39 (t40 :: (t24 :: (t13 :: (a1 :: [])))) 6 96 19 #[.val (.ref q), .val (.ref d)] [(.ref a1)]
  refine go_run K 8 1 (pc' := 20) (st' := [(.ref q), (.ref a1)]) rfl ?_
  have X50 : Ext h h23 := (Ext.keepN X20 K27 (allS (Nat.le_trans (Nat.le_refl _) (Nat.le_of_eq e3.symm)) (allS (Nat.le_trans (E5).1 f17) all0)))
  have X51 : Ext h h35 := (Ext.tr X50 E36)
  have X52 : Ext h h39 := (Ext.keepN X51 K43 (allS (Nat.le_trans (Nat.le_refl _) (Nat.le_of_eq e3.symm)) (allS (f32 _ (Nat.le_trans (E5).1 f17) (X20).1) all0)))
  have c53 := (F2.ext X52)
  refine go_getfield K (k := 9) rfl (host := "") (Or.inl (H.w 41 rfl)) Via.refl c53 ?_
  refine go_ifnonN K (k := 10) rfl ?_
  refine go_ldcT K (k := 11) rfl (H.w 215 rfl) H.ws (H.mem (by decide)) (cs := [(60 : Int32), (97 : Int32), (110 : Int32), (111 : Int32), (110 : Int32), (121 : Int32), (109 : Int32), (111 : Int32), (117 : Int32), (115 : Int32), (62 : Int32)]) (by decide) (by decide) (n := 44) rfl rfl rfl rfl ?_
  intro h55 a54 E56 S57
  refine go_run K 12 1 (pc' := 35) (st' := [(.ref a54), (.ref a1)]) rfl ?_
  have c58 := (X44.ext E56)
  refine go_virt0N K (k := 15) rfl (H.w 66 rfl) (H.w 69 rfl) (H.w 68 rfl) (H.w 50 rfl) (H.w 70 rfl) (by decide) pd_25 c58.exa (c_sap H (by exact ⟨by decide, by decide⟩) hm45 (by simp only [List.nil_append, List.length_append, List.length_cons, List.length_nil] <;> omega) c58 S57 g4 g46) (argsL := [(.ref a54)]) (rest := []) rfl rfl rfl (subS (List.mem_cons_self ..) sub0) rfl ?_
  rintro _ h59 Sf69 - ⟨rfl, t60, k61, m62, K63, X64, hm65, g66, s67, f68⟩
  refine ⟨[t60], allS s67 all0, ?_⟩
  show Go G B M_spl _ h59 (t60 :: (t40 :: (t24 :: (t13 :: (a1 :: []))))) 9 178 38 #[.val (.ref q), .val (.ref d)] [(.ref a1)]
  refine go_virt0 K (k := 16) rfl (H.w 115 rfl) (H.w 118 rfl) (H.w 117 rfl) (H.w 50 rfl) (H.w 119 rfl) (by decide) pd_26 X64.exa (c_sbs H (hm34 hm65) X64) (argsL := []) (rest := []) rfl rfl rfl sub0 rfl ?_
  rintro _ h70 _ - ⟨a71, rfl, E72, S73, g74⟩
  show Go G B M_spl _ h70 (t60 :: (t40 :: (t24 :: (t13 :: (a1 :: []))))) 11 216 41 #[.val (.ref q), .val (.ref d)] [(.ref a71)]
  have S75 : Str G h70 a71 (ks ++ (32 : Int32) :: anon) := by
    have u := S73
    simp only [List.nil_append, List.append_assoc, List.singleton_append] at u
    exact u
  refine go_run K 17 1 (pc' := 42) (st' := [(.ref d), (.ref a71)]) rfl ?_
  have X76 : Ext h h55 := (Ext.tr X52 E56)
  have X77 : Ext h h59 := (Ext.keepN X76 K63 (allS (Nat.le_trans (Nat.le_refl _) (Nat.le_of_eq e3.symm)) (allS (f48 _ (f32 _ (Nat.le_trans (E5).1 f17) (X20).1) (X51).1) all0)))
  have X78 : Ext h h70 := (Ext.tr X77 E72)
  have c79 := (S3.ext X78)
  refine go_staticM K (k := 18) rfl (H.w 160 rfl) (H.w 161 rfl) (H.w 162 rfl) (H.w 163 rfl) (by decide) pd_27 (c_dcl H (lat_app l1 (latC (by decide) (by exact ⟨by decide, by decide⟩) (by first | omega | decide | (simp only [List.length_cons, List.length_nil] <;> omega))) (by first | omega | decide | (simp only [List.length_cons, List.length_nil] <;> omega))) l2 (by simp only [List.length_append, List.length_cons, List.length_nil] <;> omega) hb2 S75 c79) (argsL := [(.ref a71), (.ref d)]) (rest := []) rfl rfl rfl sub0 rfl ?_
  rintro _ h80 _ - ⟨a81, rfl, E82, S83⟩
  show Go G B M_spl _ h80 (t60 :: (t40 :: (t24 :: (t13 :: (a1 :: []))))) 20 384 45 #[.val (.ref q), .val (.ref d)] [(.ref a81)]
  have X84 : Ext h h80 := (Ext.tr X78 E82)
  refine go_areturn K (k := 19) rfl rfl rfl rfl rfl rfl rfl ?_
  intro Sf hSf
  exact ⟨_, rfl, X84, S83⟩
def P_eqa : List (Nat × Instr × Nat) := [(0, .iload_n 3, 1), (1, .aload_n 2, 1), (2, .invokevirtual 30, 3), (5, .if_icmp .ge 18, 3), (8, .aload_n 0, 1), (9, .iload_n 1, 1), (10, .iload_n 3, 1), (11, .iadd, 1), (12, .invokevirtual 40, 3), (15, .aload_n 2, 1), (16, .iload_n 3, 1), (17, .invokevirtual 40, 3), (20, .if_icmp .ne 7, 3), (23, .iconst 1, 1), (24, .goto 4, 3), (27, .iconst 0, 1), (28, .ireturn, 1)]
theorem L_eqa : ∀ q ∈ P_eqa, decode method_4_code q.1 = .ok q.2 := by decide +kernel
def M_eqa : Mt := (("com/example/penelope/penelope/frontend/TaggedSpellingPinLaw", "eqAt", ({ frames := 4, cells := 0, slots := 0, locals := 54 } : Room)), P_eqa, 4, (some .boolean))
set_option maxRecDepth 65536 in
set_option maxHeartbeats 40000000 in
theorem c_eqa {G : Gb} (H : Gl tables_1 els G) {h : Heap} {o s : Addr} {out pre cs post : List Int32} {k : Int32} {i : Nat} (ho : out = pre ++ (cs ++ post)) (hk : k = pre.length.toInt32) (lo : Lat out) (lc : Lat cs) (hF : ∃ vf : Value, Sta G.Z G.Z.heap "jdk/internal/util/Preconditions" "SIOOBE_FORMATTER" "Ljava/util/function/BiFunction;" vf ∧ vf.isRef = true) (S1 : Str G h o out) (S2 : Str G h s cs) (hi : i < 2 ^ 31) :
    Ctr G [] (⟨"com/example/penelope/penelope/frontend/TaggedSpellingPinLaw", "eqAt", "(Ljava/lang/String;ILjava/lang/String;I)Z"⟩ : MethodName) method_4_code 4 (some .boolean) ({ frames := 4, cells := 0, slots := 0, locals := 54 } : Room) #[.ref o, .int k, .ref s, .int i.toInt32] h [] (fun v h' Sf => v = some (.int 1) ∧ h = h') := by
  refine ctr_of M_eqa rfl rfl (plainFor_of_name pn_12) L_eqa H.el (Ls := #[.val (.ref o), .val (.int k), .val (.ref s), .val (.int i.toInt32)]) (fun m => ef_ok (by show argsToLocals _ 4 = _; first | (simp [argsToLocals, Value.category]; done) | rfl)) ?_
  intro B K hE
  refine go_run K 0 2 (pc' := 2) (st' := [(.ref s), (.int i.toInt32)]) rfl ?_
  refine go_virt0 K (k := 2) rfl (H.w 169 rfl) (H.w 79 rfl) (H.w 78 rfl) (H.w 1 rfl) (H.w 80 rfl) (by decide) pd_13 S2.exa (c_len H S2) (argsL := []) (rest := [(.int i.toInt32)]) rfl rfl rfl sub0 rfl ?_
  rintro _ _ _ - ⟨rfl, rfl⟩
  show Go G B M_eqa _ h [] 0 0 5 #[.val (.ref o), .val (.int k), .val (.ref s), .val (.int i.toInt32)] [(.int (cs).length.toInt32), (.int i.toInt32)]
  show Go G B M_eqa _ h [] 0 0 5 #[.val (.ref o), .val (.int k), .val (.ref s), .val (.int i.toInt32)] [(.int cs.length.toInt32), (.int i.toInt32)]
  refine go_icmpge K (k := 3) rfl (pc' := 23) (by decide) (fun q1 => ?_) (fun q2 => ?_)
  · refine go_run K 13 2 (pc' := 28) (st' := [(.int (1 : Int32))]) rfl ?_
    refine go_ireturn K (k := 16) rfl rfl (by decide) rfl rfl rfl ?_
    intro Sf hSf
    exact ⟨rfl, rfl⟩
  · have p1 := lt_len (lat_lt lc) hi q2
    refine go_run K 4 4 (pc' := 12) (st' := [(.int (k + i.toInt32)), (.ref o)]) rfl ?_
    rw [show k + i.toInt32 = (pre.length + i).toInt32 by rw [hk, add_len]]
    obtain ⟨c, hc⟩ : ∃ c, cs[i]? = some c := ⟨_, List.getElem?_eq_getElem p1⟩
    have hd : out[pre.length + i]? = some c := by rw [ho, List.getElem?_append_right (by omega), show pre.length + i - pre.length = i by omega, List.getElem?_append_left p1]; exact hc
    refine go_virt0 K (k := 8) rfl (H.w 176 rfl) (H.w 179 rfl) (H.w 178 rfl) (H.w 1 rfl) (H.w 180 rfl) (by decide) pd_28 S1.exa (c_chaQ (i := (pre.length + i)) (c := c) H lo hd hF S1) (argsL := [(.int (pre.length + i).toInt32)]) (rest := []) rfl rfl rfl sub0 rfl ?_
    rintro _ _ _ - ⟨rfl, rfl⟩
    show Go G B M_eqa _ h [] 0 0 15 #[.val (.ref o), .val (.int k), .val (.ref s), .val (.int i.toInt32)] [(.int c)]
    refine go_run K 9 2 (pc' := 17) (st' := [(.int i.toInt32), (.ref s), (.int c)]) rfl ?_
    refine go_virt0 K (k := 11) rfl (H.w 176 rfl) (H.w 179 rfl) (H.w 178 rfl) (H.w 1 rfl) (H.w 180 rfl) (by decide) pd_28 S2.exa (c_chaQ (i := i) (c := c) H lc hc hF S2) (argsL := [(.int i.toInt32)]) (rest := [(.int c)]) rfl rfl rfl sub0 rfl ?_
    rintro _ _ _ - ⟨rfl, rfl⟩
    show Go G B M_eqa _ h [] 0 0 20 #[.val (.ref o), .val (.int k), .val (.ref s), .val (.int i.toInt32)] [(.int c), (.int c)]
    refine go_icmpne K (k := 12) rfl (pc' := 27) (by decide) (fun q => absurd rfl q) (fun _ => ?_)
    refine go_run K 13 2 (pc' := 28) (st' := [(.int (1 : Int32))]) rfl ?_
    refine go_ireturn K (k := 16) rfl rfl (by decide) rfl rfl rfl ?_
    intro Sf hSf
    exact ⟨rfl, rfl⟩
def P_mat : List (Nat × Instr × Nat) := [(0, .aload_n 0, 1), (1, .iload_n 1, 1), (2, .aload_n 2, 1), (3, .iconst 0, 1), (4, .invokestatic 47, 3), (7, .ifCond .eq 112, 3), (10, .aload_n 0, 1), (11, .iload_n 1, 1), (12, .aload_n 2, 1), (13, .iconst 1, 1), (14, .invokestatic 47, 3), (17, .ifCond .eq 102, 3), (20, .aload_n 0, 1), (21, .iload_n 1, 1), (22, .aload_n 2, 1), (23, .iconst 2, 1), (24, .invokestatic 47, 3), (27, .ifCond .eq 92, 3), (30, .aload_n 0, 1), (31, .iload_n 1, 1), (32, .aload_n 2, 1), (33, .iconst 3, 1), (34, .invokestatic 47, 3), (37, .ifCond .eq 82, 3), (40, .aload_n 0, 1), (41, .iload_n 1, 1), (42, .aload_n 2, 1), (43, .iconst 4, 1), (44, .invokestatic 47, 3), (47, .ifCond .eq 72, 3), (50, .aload_n 0, 1), (51, .iload_n 1, 1), (52, .aload_n 2, 1), (53, .iconst 5, 1), (54, .invokestatic 47, 3), (57, .ifCond .eq 62, 3), (60, .aload_n 0, 1), (61, .iload_n 1, 1), (62, .aload_n 2, 1), (63, .bipush 6, 2), (65, .invokestatic 47, 3), (68, .ifCond .eq 51, 3), (71, .aload_n 0, 1), (72, .iload_n 1, 1), (73, .aload_n 2, 1), (74, .bipush 7, 2), (76, .invokestatic 47, 3), (79, .ifCond .eq 40, 3), (82, .aload_n 0, 1), (83, .iload_n 1, 1), (84, .aload_n 2, 1), (85, .bipush 8, 2), (87, .invokestatic 47, 3), (90, .ifCond .eq 29, 3), (93, .aload_n 0, 1), (94, .iload_n 1, 1), (95, .aload_n 2, 1), (96, .bipush 9, 2), (98, .invokestatic 47, 3), (101, .ifCond .eq 18, 3), (104, .aload_n 0, 1), (105, .iload_n 1, 1), (106, .aload_n 2, 1), (107, .bipush 10, 2), (109, .invokestatic 47, 3), (112, .ifCond .eq 7, 3), (115, .iconst 1, 1), (116, .goto 4, 3), (119, .iconst 0, 1), (120, .ireturn, 1)]
theorem L_mat : ∀ q ∈ P_mat, decode method_5_code q.1 = .ok q.2 := by decide +kernel
def M_mat : Mt := (("com/example/penelope/penelope/frontend/TaggedSpellingPinLaw", "match", ({ frames := 5, cells := 0, slots := 0, locals := 69 } : Room)), P_mat, 3, (some .boolean))
set_option maxRecDepth 65536 in
set_option maxHeartbeats 40000000 in
theorem c_mat {G : Gb} (H : Gl tables_1 els G) {h : Heap} {o s : Addr} {out pre cs post : List Int32} {k : Int32} (ho : out = pre ++ (cs ++ post)) (hk : k = pre.length.toInt32) (lo : Lat out) (lc : Lat cs) (hF : ∃ vf : Value, Sta G.Z G.Z.heap "jdk/internal/util/Preconditions" "SIOOBE_FORMATTER" "Ljava/util/function/BiFunction;" vf ∧ vf.isRef = true) (S1 : Str G h o out) (S2 : Str G h s cs) :
    Ctr G [] (⟨"com/example/penelope/penelope/frontend/TaggedSpellingPinLaw", "match", "(Ljava/lang/String;ILjava/lang/String;)Z"⟩ : MethodName) method_5_code 3 (some .boolean) ({ frames := 5, cells := 0, slots := 0, locals := 69 } : Room) #[.ref o, .int k, .ref s] h [] (fun v h' Sf => v = some (.int 1) ∧ h = h') := by
  refine ctr_of M_mat rfl rfl (plainFor_of_name pn_12) L_mat H.el (Ls := #[.val (.ref o), .val (.int k), .val (.ref s)]) (fun m => ef_ok (by show argsToLocals _ 3 = _; first | (simp [argsToLocals, Value.category]; done) | rfl)) ?_
  intro B K hE
  refine go_run K 0 4 (pc' := 4) (st' := [(.int (0 : Int32)), (.ref s), (.int k), (.ref o)]) rfl ?_
  refine go_static K (k := 4) rfl (H.w 173 rfl) (H.w 174 rfl) (H.w 10 rfl) (H.w 175 rfl) (by decide) pd_29 (c_eqa (i := 0) H ho hk lo lc hF S1 S2 (by decide)) (argsL := [(.ref o), (.int k), (.ref s), (.int (0 : Int32))]) (rest := []) rfl rfl rfl sub0 rfl ?_
  rintro _ _ _ - ⟨rfl, rfl⟩
  show Go G B M_mat _ h [] 0 0 7 #[.val (.ref o), .val (.int k), .val (.ref s)] [(.int (1 : Int32))]
  refine go_ifeq K (k := 5) rfl (pc' := 119) (by decide) (fun q => absurd q (by decide)) (fun _ => ?_)
  refine go_run K 6 4 (pc' := 14) (st' := [(.int (1 : Int32)), (.ref s), (.int k), (.ref o)]) rfl ?_
  refine go_static K (k := 10) rfl (H.w 173 rfl) (H.w 174 rfl) (H.w 10 rfl) (H.w 175 rfl) (by decide) pd_29 (c_eqa (i := 1) H ho hk lo lc hF S1 S2 (by decide)) (argsL := [(.ref o), (.int k), (.ref s), (.int (1 : Int32))]) (rest := []) rfl rfl rfl sub0 rfl ?_
  rintro _ _ _ - ⟨rfl, rfl⟩
  show Go G B M_mat _ h [] 0 0 17 #[.val (.ref o), .val (.int k), .val (.ref s)] [(.int (1 : Int32))]
  refine go_ifeq K (k := 11) rfl (pc' := 119) (by decide) (fun q => absurd q (by decide)) (fun _ => ?_)
  refine go_run K 12 4 (pc' := 24) (st' := [(.int (2 : Int32)), (.ref s), (.int k), (.ref o)]) rfl ?_
  refine go_static K (k := 16) rfl (H.w 173 rfl) (H.w 174 rfl) (H.w 10 rfl) (H.w 175 rfl) (by decide) pd_29 (c_eqa (i := 2) H ho hk lo lc hF S1 S2 (by decide)) (argsL := [(.ref o), (.int k), (.ref s), (.int (2 : Int32))]) (rest := []) rfl rfl rfl sub0 rfl ?_
  rintro _ _ _ - ⟨rfl, rfl⟩
  show Go G B M_mat _ h [] 0 0 27 #[.val (.ref o), .val (.int k), .val (.ref s)] [(.int (1 : Int32))]
  refine go_ifeq K (k := 17) rfl (pc' := 119) (by decide) (fun q => absurd q (by decide)) (fun _ => ?_)
  refine go_run K 18 4 (pc' := 34) (st' := [(.int (3 : Int32)), (.ref s), (.int k), (.ref o)]) rfl ?_
  refine go_static K (k := 22) rfl (H.w 173 rfl) (H.w 174 rfl) (H.w 10 rfl) (H.w 175 rfl) (by decide) pd_29 (c_eqa (i := 3) H ho hk lo lc hF S1 S2 (by decide)) (argsL := [(.ref o), (.int k), (.ref s), (.int (3 : Int32))]) (rest := []) rfl rfl rfl sub0 rfl ?_
  rintro _ _ _ - ⟨rfl, rfl⟩
  show Go G B M_mat _ h [] 0 0 37 #[.val (.ref o), .val (.int k), .val (.ref s)] [(.int (1 : Int32))]
  refine go_ifeq K (k := 23) rfl (pc' := 119) (by decide) (fun q => absurd q (by decide)) (fun _ => ?_)
  refine go_run K 24 4 (pc' := 44) (st' := [(.int (4 : Int32)), (.ref s), (.int k), (.ref o)]) rfl ?_
  refine go_static K (k := 28) rfl (H.w 173 rfl) (H.w 174 rfl) (H.w 10 rfl) (H.w 175 rfl) (by decide) pd_29 (c_eqa (i := 4) H ho hk lo lc hF S1 S2 (by decide)) (argsL := [(.ref o), (.int k), (.ref s), (.int (4 : Int32))]) (rest := []) rfl rfl rfl sub0 rfl ?_
  rintro _ _ _ - ⟨rfl, rfl⟩
  show Go G B M_mat _ h [] 0 0 47 #[.val (.ref o), .val (.int k), .val (.ref s)] [(.int (1 : Int32))]
  refine go_ifeq K (k := 29) rfl (pc' := 119) (by decide) (fun q => absurd q (by decide)) (fun _ => ?_)
  refine go_run K 30 4 (pc' := 54) (st' := [(.int (5 : Int32)), (.ref s), (.int k), (.ref o)]) rfl ?_
  refine go_static K (k := 34) rfl (H.w 173 rfl) (H.w 174 rfl) (H.w 10 rfl) (H.w 175 rfl) (by decide) pd_29 (c_eqa (i := 5) H ho hk lo lc hF S1 S2 (by decide)) (argsL := [(.ref o), (.int k), (.ref s), (.int (5 : Int32))]) (rest := []) rfl rfl rfl sub0 rfl ?_
  rintro _ _ _ - ⟨rfl, rfl⟩
  show Go G B M_mat _ h [] 0 0 57 #[.val (.ref o), .val (.int k), .val (.ref s)] [(.int (1 : Int32))]
  refine go_ifeq K (k := 35) rfl (pc' := 119) (by decide) (fun q => absurd q (by decide)) (fun _ => ?_)
  refine go_run K 36 4 (pc' := 65) (st' := [(.int (6 : Int32)), (.ref s), (.int k), (.ref o)]) rfl ?_
  refine go_static K (k := 40) rfl (H.w 173 rfl) (H.w 174 rfl) (H.w 10 rfl) (H.w 175 rfl) (by decide) pd_29 (c_eqa (i := 6) H ho hk lo lc hF S1 S2 (by decide)) (argsL := [(.ref o), (.int k), (.ref s), (.int (6 : Int32))]) (rest := []) rfl rfl rfl sub0 rfl ?_
  rintro _ _ _ - ⟨rfl, rfl⟩
  show Go G B M_mat _ h [] 0 0 68 #[.val (.ref o), .val (.int k), .val (.ref s)] [(.int (1 : Int32))]
  refine go_ifeq K (k := 41) rfl (pc' := 119) (by decide) (fun q => absurd q (by decide)) (fun _ => ?_)
  refine go_run K 42 4 (pc' := 76) (st' := [(.int (7 : Int32)), (.ref s), (.int k), (.ref o)]) rfl ?_
  refine go_static K (k := 46) rfl (H.w 173 rfl) (H.w 174 rfl) (H.w 10 rfl) (H.w 175 rfl) (by decide) pd_29 (c_eqa (i := 7) H ho hk lo lc hF S1 S2 (by decide)) (argsL := [(.ref o), (.int k), (.ref s), (.int (7 : Int32))]) (rest := []) rfl rfl rfl sub0 rfl ?_
  rintro _ _ _ - ⟨rfl, rfl⟩
  show Go G B M_mat _ h [] 0 0 79 #[.val (.ref o), .val (.int k), .val (.ref s)] [(.int (1 : Int32))]
  refine go_ifeq K (k := 47) rfl (pc' := 119) (by decide) (fun q => absurd q (by decide)) (fun _ => ?_)
  refine go_run K 48 4 (pc' := 87) (st' := [(.int (8 : Int32)), (.ref s), (.int k), (.ref o)]) rfl ?_
  refine go_static K (k := 52) rfl (H.w 173 rfl) (H.w 174 rfl) (H.w 10 rfl) (H.w 175 rfl) (by decide) pd_29 (c_eqa (i := 8) H ho hk lo lc hF S1 S2 (by decide)) (argsL := [(.ref o), (.int k), (.ref s), (.int (8 : Int32))]) (rest := []) rfl rfl rfl sub0 rfl ?_
  rintro _ _ _ - ⟨rfl, rfl⟩
  show Go G B M_mat _ h [] 0 0 90 #[.val (.ref o), .val (.int k), .val (.ref s)] [(.int (1 : Int32))]
  refine go_ifeq K (k := 53) rfl (pc' := 119) (by decide) (fun q => absurd q (by decide)) (fun _ => ?_)
  refine go_run K 54 4 (pc' := 98) (st' := [(.int (9 : Int32)), (.ref s), (.int k), (.ref o)]) rfl ?_
  refine go_static K (k := 58) rfl (H.w 173 rfl) (H.w 174 rfl) (H.w 10 rfl) (H.w 175 rfl) (by decide) pd_29 (c_eqa (i := 9) H ho hk lo lc hF S1 S2 (by decide)) (argsL := [(.ref o), (.int k), (.ref s), (.int (9 : Int32))]) (rest := []) rfl rfl rfl sub0 rfl ?_
  rintro _ _ _ - ⟨rfl, rfl⟩
  show Go G B M_mat _ h [] 0 0 101 #[.val (.ref o), .val (.int k), .val (.ref s)] [(.int (1 : Int32))]
  refine go_ifeq K (k := 59) rfl (pc' := 119) (by decide) (fun q => absurd q (by decide)) (fun _ => ?_)
  refine go_run K 60 4 (pc' := 109) (st' := [(.int (10 : Int32)), (.ref s), (.int k), (.ref o)]) rfl ?_
  refine go_static K (k := 64) rfl (H.w 173 rfl) (H.w 174 rfl) (H.w 10 rfl) (H.w 175 rfl) (by decide) pd_29 (c_eqa (i := 10) H ho hk lo lc hF S1 S2 (by decide)) (argsL := [(.ref o), (.int k), (.ref s), (.int (10 : Int32))]) (rest := []) rfl rfl rfl sub0 rfl ?_
  rintro _ _ _ - ⟨rfl, rfl⟩
  show Go G B M_mat _ h [] 0 0 112 #[.val (.ref o), .val (.int k), .val (.ref s)] [(.int (1 : Int32))]
  refine go_ifeq K (k := 65) rfl (pc' := 119) (by decide) (fun q => absurd q (by decide)) (fun _ => ?_)
  refine go_run K 66 2 (pc' := 120) (st' := [(.int (1 : Int32))]) rfl ?_
  refine go_ireturn K (k := 69) rfl rfl (by decide) rfl rfl rfl ?_
  intro Sf hSf
  exact ⟨rfl, rfl⟩
def P_law : List (Nat × Instr × Nat) := [(0, .iload_n 0, 1), (1, .iconst 3, 1), (2, .iand, 1), (3, .istore_n 3, 1), (4, .iload_n 0, 1), (5, .iconst 2, 1), (6, .iushr, 1), (7, .iconst 3, 1), (8, .iand, 1), (9, .istore 4, 2), (11, .iload_n 0, 1), (12, .iconst 4, 1), (13, .iushr, 1), (14, .iconst 3, 1), (15, .iand, 1), (16, .istore 5, 2), (18, .iload_n 0, 1), (19, .bipush 6, 2), (21, .iushr, 1), (22, .iconst 3, 1), (23, .iand, 1), (24, .istore 6, 2), (26, .iload_n 3, 1), (27, .ifCond .ne 10, 3), (30, .ldc 7, 2), (32, .astore 7, 2), (34, .goto 58, 3), (37, .iload_n 3, 1), (38, .iconst 1, 1), (39, .if_icmp .ne 10, 3), (42, .ldc 9, 2), (44, .astore 7, 2), (46, .goto 46, 3), (49, .iload_n 3, 1), (50, .iconst 2, 1), (51, .if_icmp .ne 10, 3), (54, .ldc 11, 2), (56, .astore 7, 2), (58, .goto 34, 3), (61, .iload 4, 2), (63, .iload_n 1, 1), (64, .sipush 255, 3), (67, .iand, 1), (68, .i2c, 1), (69, .iload_n 1, 1), (70, .bipush 8, 2), (72, .iushr, 1), (73, .sipush 255, 3), (76, .iand, 1), (77, .i2c, 1), (78, .iload_n 2, 1), (79, .bipush 24, 2), (81, .iushr, 1), (82, .sipush 255, 3), (85, .iand, 1), (86, .i2c, 1), (87, .invokestatic 13, 3), (90, .astore 7, 2), (92, .iload 5, 2), (94, .iconst 3, 1), (95, .if_icmp .ne 7, 3), (98, .aconst_null, 1), (99, .goto 27, 3), (102, .iload 5, 2), (104, .iload_n 1, 1), (105, .bipush 16, 2), (107, .iushr, 1), (108, .sipush 255, 3), (111, .iand, 1), (112, .i2c, 1), (113, .iload_n 1, 1), (114, .bipush 24, 2), (116, .iushr, 1), (117, .sipush 255, 3), (120, .iand, 1), (121, .i2c, 1), (122, .iconst 0, 1), (123, .invokestatic 13, 3), (126, .astore 8, 2), (128, .iload 6, 2), (130, .iload_n 2, 1), (131, .sipush 255, 3), (134, .iand, 1), (135, .i2c, 1), (136, .iload_n 2, 1), (137, .bipush 8, 2), (139, .iushr, 1), (140, .sipush 255, 3), (143, .iand, 1), (144, .i2c, 1), (145, .iload_n 2, 1), (146, .bipush 16, 2), (148, .iushr, 1), (149, .sipush 255, 3), (152, .iand, 1), (153, .i2c, 1), (154, .invokestatic 13, 3), (157, .astore 9, 2), (159, .new 19, 3), (162, .dup, 1), (163, .aload 7, 2), (165, .aload 8, 2), (167, .invokespecial 21, 3), (170, .aload 9, 2), (172, .invokevirtual 24, 3), (175, .astore 10, 2), (177, .aload 8, 2), (179, .ifnonnull 8, 3), (182, .ldc 28, 2), (184, .goto 5, 3), (187, .aload 8, 2), (189, .astore 11, 2), (191, .aload 7, 2), (193, .invokevirtual 30, 3), (196, .istore 12, 2), (198, .aload 11, 2), (200, .invokevirtual 30, 3), (203, .istore 13, 2), (205, .aload 9, 2), (207, .invokevirtual 30, 3), (210, .istore 14, 2), (212, .iload 12, 2), (214, .iconst 1, 1), (215, .iadd, 1), (216, .iload 13, 2), (218, .iadd, 1), (219, .iload 14, 2), (221, .ifCond .ne 7, 3), (224, .iconst 0, 1), (225, .goto 7, 3), (228, .iconst 1, 1), (229, .iload 14, 2), (231, .iadd, 1), (232, .iadd, 1), (233, .istore 15, 2), (235, .aload 10, 2), (237, .ifnull 13, 3), (240, .aload 10, 2), (242, .invokevirtual 30, 3), (245, .iload 15, 2), (247, .if_icmp .eq 5, 3), (250, .iconst 0, 1), (251, .ireturn, 1), (252, .aload 10, 2), (254, .iconst 0, 1), (255, .aload 7, 2), (257, .invokestatic 36, 3), (260, .ifCond .ne 5, 3), (263, .iconst 0, 1), (264, .ireturn, 1), (265, .aload 10, 2), (267, .iload 12, 2), (269, .invokevirtual 40, 3), (272, .bipush 32, 2), (274, .if_icmp .eq 5, 3), (277, .iconst 0, 1), (278, .ireturn, 1), (279, .aload 10, 2), (281, .iload 12, 2), (283, .iconst 1, 1), (284, .iadd, 1), (285, .aload 11, 2), (287, .invokestatic 36, 3), (290, .ifCond .ne 5, 3), (293, .iconst 0, 1), (294, .ireturn, 1), (295, .iload 14, 2), (297, .ifCond .ne 5, 3), (300, .iconst 1, 1), (301, .ireturn, 1), (302, .aload 10, 2), (304, .iload 12, 2), (306, .iconst 1, 1), (307, .iadd, 1), (308, .iload 13, 2), (310, .iadd, 1), (311, .invokevirtual 40, 3), (314, .bipush 32, 2), (316, .if_icmp .ne 24, 3), (319, .aload 10, 2), (321, .iload 12, 2), (323, .iconst 2, 1), (324, .iadd, 1), (325, .iload 13, 2), (327, .iadd, 1), (328, .aload 9, 2), (330, .invokestatic 36, 3), (333, .ifCond .eq 7, 3), (336, .iconst 1, 1), (337, .goto 4, 3), (340, .iconst 0, 1), (341, .ireturn, 1)]
theorem L_law : ∀ q ∈ P_law, decode code q.1 = .ok q.2 := by decide +kernel
def M_law : Mt := (("com/example/penelope/penelope/frontend/TaggedSpellingPinLaw", "law", room_1), P_law, 16, (some .boolean))
set_option maxRecDepth 65536 in
set_option maxHeartbeats 40000000 in
theorem law_ok {G : Gb} (H : Gl tables_1 els G) {h : Heap} {p0 p1 p2 : Int32} (hF : ∃ vf : Value, Sta G.Z G.Z.heap "jdk/internal/util/Preconditions" "SIOOBE_FORMATTER" "Ljava/util/function/BiFunction;" vf ∧ vf.isRef = true) :
    Ctr G tables_1 x code maxLocals ret room_1 #[.int p0, .int p1, .int p2] h [] (fun v h' Sf => v = some (.int 1)) := by
  refine ctr_of M_law rfl rfl (plainFor_of_name pn_12) L_law H.el (Ls := #[.val (.int p0), .val (.int p1), .val (.int p2), .unset, .unset, .unset, .unset, .unset, .unset, .unset, .unset, .unset, .unset, .unset, .unset, .unset]) (fun m => ef_ok (by show argsToLocals _ 16 = _; first | (simp [argsToLocals, Value.category]; done) | rfl)) ?_
  intro B K hE
  refine go_run K 0 23 (pc' := 27) (Ls' := #[.val (.int p0), .val (.int p1), .val (.int p2), .val (.int (p0 &&& (3 : Int32))), .val (.int ((XT.ushr p0 (2 : Int32)) &&& (3 : Int32))), .val (.int ((XT.ushr p0 (4 : Int32)) &&& (3 : Int32))), .val (.int ((XT.ushr p0 (Int8.ofInt 6).toInt32) &&& (3 : Int32))), .unset, .unset, .unset, .unset, .unset, .unset, .unset, .unset, .unset]) (st' := [(.int (p0 &&& (3 : Int32)))]) rfl ?_
  have J92 : ∀ (h1 : Heap) (k : Addr) (ks : List Int32), (Str G h1 k ks) → (Lat ks) → (ks.length ≤ 6) → Go G B M_law (fun v h' Sf => v = some (.int 1)) h1 [] 6 28 92 #[.val (.int p0), .val (.int p1), .val (.int p2), .val (.int (p0 &&& (3 : Int32))), .val (.int ((XT.ushr p0 (2 : Int32)) &&& (3 : Int32))), .val (.int ((XT.ushr p0 (4 : Int32)) &&& (3 : Int32))), .val (.int ((XT.ushr p0 (Int8.ofInt 6).toInt32) &&& (3 : Int32))), .val (.ref k), .unset, .unset, .unset, .unset, .unset, .unset, .unset, .unset] [] := by
    intro h1 k ks Sk lk hk
    refine go_run K 58 2 (pc' := 95) (st' := [(.int (3 : Int32)), (.int ((XT.ushr p0 (4 : Int32)) &&& (3 : Int32)))]) rfl ?_
    refine go_icmpne K (k := 60) rfl (pc' := 102) (by decide) (fun q1 => ?_) (fun q2 => ?_)
    · refine go_run K 63 7 (pc' := 113) (st' := [(.int (((XT.ushr p1 (Int8.ofInt 16).toInt32) &&& (255 : Int32))).toUInt32.toUInt16.toUInt32.toInt32), (.int ((XT.ushr p0 (4 : Int32)) &&& (3 : Int32)))]) rfl ?_
      refine go_top (i2c_mask (XT.ushr p1 (Int8.ofInt 16).toInt32)) ?_
      refine go_run K 70 6 (pc' := 122) (st' := [(.int (((XT.ushr p1 (Int8.ofInt 24).toInt32) &&& (255 : Int32))).toUInt32.toUInt16.toUInt32.toInt32), (.int ((XT.ushr p1 (Int8.ofInt 16).toInt32) &&& (255 : Int32))), (.int ((XT.ushr p0 (4 : Int32)) &&& (3 : Int32)))]) rfl ?_
      refine go_top (i2c_mask (XT.ushr p1 (Int8.ofInt 24).toInt32)) ?_
      refine go_run K 76 1 (pc' := 123) (st' := [(.int (0 : Int32)), (.int ((XT.ushr p1 (Int8.ofInt 24).toInt32) &&& (255 : Int32))), (.int ((XT.ushr p1 (Int8.ofInt 16).toInt32) &&& (255 : Int32))), (.int ((XT.ushr p0 (4 : Int32)) &&& (3 : Int32)))]) rfl ?_
      refine go_static K (k := 77) rfl (H.w 8 rfl) (H.w 9 rfl) (H.w 10 rfl) (H.w 11 rfl) (by decide) pd_30 (c_mk (n := ((XT.ushr p0 (4 : Int32)) &&& (3 : Int32))) H (c8_lat _) (c8_lat _) (by decide)) (argsL := [(.int ((XT.ushr p0 (4 : Int32)) &&& (3 : Int32))), (.int ((XT.ushr p1 (Int8.ofInt 16).toInt32) &&& (255 : Int32))), (.int ((XT.ushr p1 (Int8.ofInt 24).toInt32) &&& (255 : Int32))), (.int (0 : Int32))]) (rest := []) rfl rfl rfl sub0 rfl ?_
      rintro _ h47 _ - ⟨a48, cs49, rfl, E50, S51, l52, n53, g54⟩
      show Go G B M_law _ h47 [] 12 43 126 #[.val (.int p0), .val (.int p1), .val (.int p2), .val (.int (p0 &&& (3 : Int32))), .val (.int ((XT.ushr p0 (2 : Int32)) &&& (3 : Int32))), .val (.int ((XT.ushr p0 (4 : Int32)) &&& (3 : Int32))), .val (.int ((XT.ushr p0 (Int8.ofInt 6).toInt32) &&& (3 : Int32))), .val (.ref k), .unset, .unset, .unset, .unset, .unset, .unset, .unset, .unset] [(.ref a48)]
      refine go_run K 78 1 (pc' := 128) (Ls' := #[.val (.int p0), .val (.int p1), .val (.int p2), .val (.int (p0 &&& (3 : Int32))), .val (.int ((XT.ushr p0 (2 : Int32)) &&& (3 : Int32))), .val (.int ((XT.ushr p0 (4 : Int32)) &&& (3 : Int32))), .val (.int ((XT.ushr p0 (Int8.ofInt 6).toInt32) &&& (3 : Int32))), .val (.ref k), .val (.ref a48), .unset, .unset, .unset, .unset, .unset, .unset, .unset]) (st' := []) rfl ?_
      refine go_run K 79 5 (pc' := 136) (st' := [(.int ((p2 &&& (255 : Int32))).toUInt32.toUInt16.toUInt32.toInt32), (.int ((XT.ushr p0 (Int8.ofInt 6).toInt32) &&& (3 : Int32)))]) rfl ?_
      refine go_top (i2c_mask p2) ?_
      refine go_run K 84 6 (pc' := 145) (st' := [(.int (((XT.ushr p2 (Int8.ofInt 8).toInt32) &&& (255 : Int32))).toUInt32.toUInt16.toUInt32.toInt32), (.int (p2 &&& (255 : Int32))), (.int ((XT.ushr p0 (Int8.ofInt 6).toInt32) &&& (3 : Int32)))]) rfl ?_
      refine go_top (i2c_mask (XT.ushr p2 (Int8.ofInt 8).toInt32)) ?_
      refine go_run K 90 6 (pc' := 154) (st' := [(.int (((XT.ushr p2 (Int8.ofInt 16).toInt32) &&& (255 : Int32))).toUInt32.toUInt16.toUInt32.toInt32), (.int ((XT.ushr p2 (Int8.ofInt 8).toInt32) &&& (255 : Int32))), (.int (p2 &&& (255 : Int32))), (.int ((XT.ushr p0 (Int8.ofInt 6).toInt32) &&& (3 : Int32)))]) rfl ?_
      refine go_top (i2c_mask (XT.ushr p2 (Int8.ofInt 16).toInt32)) ?_
      refine go_static K (k := 96) rfl (H.w 8 rfl) (H.w 9 rfl) (H.w 10 rfl) (H.w 11 rfl) (by decide) pd_30 (c_mk (n := ((XT.ushr p0 (Int8.ofInt 6).toInt32) &&& (3 : Int32))) H (c8_lat _) (c8_lat _) (c8_lat _)) (argsL := [(.int ((XT.ushr p0 (Int8.ofInt 6).toInt32) &&& (3 : Int32))), (.int (p2 &&& (255 : Int32))), (.int ((XT.ushr p2 (Int8.ofInt 8).toInt32) &&& (255 : Int32))), (.int ((XT.ushr p2 (Int8.ofInt 16).toInt32) &&& (255 : Int32)))]) (rest := []) rfl rfl rfl sub0 rfl ?_
      rintro _ h55 _ - ⟨a56, cs57, rfl, E58, S59, l60, n61, g62⟩
      show Go G B M_law _ h55 [] 18 58 157 #[.val (.int p0), .val (.int p1), .val (.int p2), .val (.int (p0 &&& (3 : Int32))), .val (.int ((XT.ushr p0 (2 : Int32)) &&& (3 : Int32))), .val (.int ((XT.ushr p0 (4 : Int32)) &&& (3 : Int32))), .val (.int ((XT.ushr p0 (Int8.ofInt 6).toInt32) &&& (3 : Int32))), .val (.ref k), .val (.ref a48), .unset, .unset, .unset, .unset, .unset, .unset, .unset] [(.ref a56)]
      refine go_run K 97 1 (pc' := 159) (Ls' := #[.val (.int p0), .val (.int p1), .val (.int p2), .val (.int (p0 &&& (3 : Int32))), .val (.int ((XT.ushr p0 (2 : Int32)) &&& (3 : Int32))), .val (.int ((XT.ushr p0 (4 : Int32)) &&& (3 : Int32))), .val (.int ((XT.ushr p0 (Int8.ofInt 6).toInt32) &&& (3 : Int32))), .val (.ref k), .val (.ref a48), .val (.ref a56), .unset, .unset, .unset, .unset, .unset, .unset]) (st' := []) rfl ?_
      refine go_new K (k := 98) rfl (H.w 27 rfl) (H.w 28 rfl) (H.w 29 rfl) rfl rfl ?_
      intro h64 a63 e65 g66 E67 A68 D69
      have F70 : Fld G.Z h64 a63 "com/example/penelope/penelope/frontend/CType$Tagged" "keyword" "Ljava/lang/String;" .null := D69 (Or.inr (H.w 40 rfl)) (ty := (.object "java/lang/String")) (by decide)
      have F71 : Fld G.Z h64 a63 "com/example/penelope/penelope/frontend/CType$Tagged" "tag" "Ljava/lang/String;" .null := D69 (Or.inr (H.w 42 rfl)) (ty := (.object "java/lang/String")) (by decide)
      refine go_run K 99 3 (pc' := 167) (st' := [(.ref a48), (.ref k), (.ref a63), (.ref a63)]) rfl ?_
      refine go_special K (k := 102) rfl rfl (H.w 30 rfl) (H.w 31 rfl) (H.w 29 rfl) (H.w 32 rfl) (by decide) pd_31 (c_tg (a := a63) (r0 := k) (r1 := a48) H A68 F70 F71 g66) (argsL := [(.ref k), (.ref a48)]) (rest := [(.ref a63)]) rfl rfl rfl sub0 rfl ?_
      rintro _ h72 _ - ⟨rfl, K73, E74, F75, F76⟩
      show Go G B M_law _ h72 (a63 :: []) 19 60 170 #[.val (.int p0), .val (.int p1), .val (.int p2), .val (.int (p0 &&& (3 : Int32))), .val (.int ((XT.ushr p0 (2 : Int32)) &&& (3 : Int32))), .val (.int ((XT.ushr p0 (4 : Int32)) &&& (3 : Int32))), .val (.int ((XT.ushr p0 (Int8.ofInt 6).toInt32) &&& (3 : Int32))), .val (.ref k), .val (.ref a48), .val (.ref a56), .unset, .unset, .unset, .unset, .unset, .unset] [(.ref a63)]
      refine go_run K 103 1 (pc' := 172) (st' := [(.ref a56), (.ref a63)]) rfl ?_
      have X77 : Ext h1 h55 := (Ext.tr E50 E58)
      have X78 : Ext h1 h64 := (Ext.tr X77 E67)
      have X79 : Ext h1 h72 := (Ext.keepN X78 K73 (allS (Nat.le_trans (X77).1 (Nat.le_of_eq e65.symm)) all0))
      have c80 := (Sk.ext X79)
      have X81 : Ext h55 h72 := (Ext.keepN E67 K73 (allS (Nat.le_trans (Nat.le_refl _) (Nat.le_of_eq e65.symm)) all0))
      have c82 := (S59.ext X81)
      have X83 : Ext h47 h64 := (Ext.tr E58 E67)
      have X84 : Ext h47 h72 := (Ext.keepN X83 K73 (allS (Nat.le_trans (E58).1 (Nat.le_of_eq e65.symm)) all0))
      have c85 := (S51.ext X84)
      refine go_virt0 K (k := 104) rfl (H.w 43 rfl) (H.w 46 rfl) (H.w 45 rfl) (H.w 29 rfl) (H.w 47 rfl) (by decide) pd_32 E74 (c_spl H lk l60 l52 hk n61 n53 F75 F76 c80 c85 c82) (argsL := [(.ref a56)]) (rest := []) rfl rfl rfl sub0 rfl ?_
      rintro _ h86 _ - ⟨a87, rfl, E88, S89⟩
      show Go G B M_law _ h86 (a63 :: []) 39 444 175 #[.val (.int p0), .val (.int p1), .val (.int p2), .val (.int (p0 &&& (3 : Int32))), .val (.int ((XT.ushr p0 (2 : Int32)) &&& (3 : Int32))), .val (.int ((XT.ushr p0 (4 : Int32)) &&& (3 : Int32))), .val (.int ((XT.ushr p0 (Int8.ofInt 6).toInt32) &&& (3 : Int32))), .val (.ref k), .val (.ref a48), .val (.ref a56), .unset, .unset, .unset, .unset, .unset, .unset] [(.ref a87)]
      refine go_run K 105 2 (pc' := 179) (Ls' := #[.val (.int p0), .val (.int p1), .val (.int p2), .val (.int (p0 &&& (3 : Int32))), .val (.int ((XT.ushr p0 (2 : Int32)) &&& (3 : Int32))), .val (.int ((XT.ushr p0 (4 : Int32)) &&& (3 : Int32))), .val (.int ((XT.ushr p0 (Int8.ofInt 6).toInt32) &&& (3 : Int32))), .val (.ref k), .val (.ref a48), .val (.ref a56), .val (.ref a87), .unset, .unset, .unset, .unset, .unset]) (st' := [(.ref a48)]) rfl ?_
      refine go_ifnonY K (k := 107) rfl (pc' := 187) (by decide) ?_
      refine go_run K 110 3 (pc' := 193) (Ls' := #[.val (.int p0), .val (.int p1), .val (.int p2), .val (.int (p0 &&& (3 : Int32))), .val (.int ((XT.ushr p0 (2 : Int32)) &&& (3 : Int32))), .val (.int ((XT.ushr p0 (4 : Int32)) &&& (3 : Int32))), .val (.int ((XT.ushr p0 (Int8.ofInt 6).toInt32) &&& (3 : Int32))), .val (.ref k), .val (.ref a48), .val (.ref a56), .val (.ref a87), .val (.ref a48), .unset, .unset, .unset, .unset]) (st' := [(.ref k)]) rfl ?_
      have c90 := (c80.ext E88)
      refine go_virt0 K (k := 113) rfl (H.w 169 rfl) (H.w 79 rfl) (H.w 78 rfl) (H.w 1 rfl) (H.w 80 rfl) (by decide) pd_13 c90.exa (c_len H c90) (argsL := []) (rest := []) rfl rfl rfl sub0 rfl ?_
      rintro _ _ _ - ⟨rfl, rfl⟩
      show Go G B M_law _ h86 (a63 :: []) 39 444 196 #[.val (.int p0), .val (.int p1), .val (.int p2), .val (.int (p0 &&& (3 : Int32))), .val (.int ((XT.ushr p0 (2 : Int32)) &&& (3 : Int32))), .val (.int ((XT.ushr p0 (4 : Int32)) &&& (3 : Int32))), .val (.int ((XT.ushr p0 (Int8.ofInt 6).toInt32) &&& (3 : Int32))), .val (.ref k), .val (.ref a48), .val (.ref a56), .val (.ref a87), .val (.ref a48), .unset, .unset, .unset, .unset] [(.int (ks).length.toInt32)]
      show Go G B M_law _ h86 (a63 :: []) 39 444 196 #[.val (.int p0), .val (.int p1), .val (.int p2), .val (.int (p0 &&& (3 : Int32))), .val (.int ((XT.ushr p0 (2 : Int32)) &&& (3 : Int32))), .val (.int ((XT.ushr p0 (4 : Int32)) &&& (3 : Int32))), .val (.int ((XT.ushr p0 (Int8.ofInt 6).toInt32) &&& (3 : Int32))), .val (.ref k), .val (.ref a48), .val (.ref a56), .val (.ref a87), .val (.ref a48), .unset, .unset, .unset, .unset] [(.int ks.length.toInt32)]
      refine go_run K 114 2 (pc' := 200) (Ls' := #[.val (.int p0), .val (.int p1), .val (.int p2), .val (.int (p0 &&& (3 : Int32))), .val (.int ((XT.ushr p0 (2 : Int32)) &&& (3 : Int32))), .val (.int ((XT.ushr p0 (4 : Int32)) &&& (3 : Int32))), .val (.int ((XT.ushr p0 (Int8.ofInt 6).toInt32) &&& (3 : Int32))), .val (.ref k), .val (.ref a48), .val (.ref a56), .val (.ref a87), .val (.ref a48), .val (.int ks.length.toInt32), .unset, .unset, .unset]) (st' := [(.ref a48)]) rfl ?_
      have c91 := (c85.ext E88)
      refine go_virt0 K (k := 116) rfl (H.w 169 rfl) (H.w 79 rfl) (H.w 78 rfl) (H.w 1 rfl) (H.w 80 rfl) (by decide) pd_13 c91.exa (c_len H c91) (argsL := []) (rest := []) rfl rfl rfl sub0 rfl ?_
      rintro _ _ _ - ⟨rfl, rfl⟩
      show Go G B M_law _ h86 (a63 :: []) 39 444 203 #[.val (.int p0), .val (.int p1), .val (.int p2), .val (.int (p0 &&& (3 : Int32))), .val (.int ((XT.ushr p0 (2 : Int32)) &&& (3 : Int32))), .val (.int ((XT.ushr p0 (4 : Int32)) &&& (3 : Int32))), .val (.int ((XT.ushr p0 (Int8.ofInt 6).toInt32) &&& (3 : Int32))), .val (.ref k), .val (.ref a48), .val (.ref a56), .val (.ref a87), .val (.ref a48), .val (.int ks.length.toInt32), .unset, .unset, .unset] [(.int (cs49).length.toInt32)]
      show Go G B M_law _ h86 (a63 :: []) 39 444 203 #[.val (.int p0), .val (.int p1), .val (.int p2), .val (.int (p0 &&& (3 : Int32))), .val (.int ((XT.ushr p0 (2 : Int32)) &&& (3 : Int32))), .val (.int ((XT.ushr p0 (4 : Int32)) &&& (3 : Int32))), .val (.int ((XT.ushr p0 (Int8.ofInt 6).toInt32) &&& (3 : Int32))), .val (.ref k), .val (.ref a48), .val (.ref a56), .val (.ref a87), .val (.ref a48), .val (.int ks.length.toInt32), .unset, .unset, .unset] [(.int cs49.length.toInt32)]
      refine go_run K 117 2 (pc' := 207) (Ls' := #[.val (.int p0), .val (.int p1), .val (.int p2), .val (.int (p0 &&& (3 : Int32))), .val (.int ((XT.ushr p0 (2 : Int32)) &&& (3 : Int32))), .val (.int ((XT.ushr p0 (4 : Int32)) &&& (3 : Int32))), .val (.int ((XT.ushr p0 (Int8.ofInt 6).toInt32) &&& (3 : Int32))), .val (.ref k), .val (.ref a48), .val (.ref a56), .val (.ref a87), .val (.ref a48), .val (.int ks.length.toInt32), .val (.int cs49.length.toInt32), .unset, .unset]) (st' := [(.ref a56)]) rfl ?_
      have c92 := (c82.ext E88)
      refine go_virt0 K (k := 119) rfl (H.w 169 rfl) (H.w 79 rfl) (H.w 78 rfl) (H.w 1 rfl) (H.w 80 rfl) (by decide) pd_13 c92.exa (c_len H c92) (argsL := []) (rest := []) rfl rfl rfl sub0 rfl ?_
      rintro _ _ _ - ⟨rfl, rfl⟩
      show Go G B M_law _ h86 (a63 :: []) 39 444 210 #[.val (.int p0), .val (.int p1), .val (.int p2), .val (.int (p0 &&& (3 : Int32))), .val (.int ((XT.ushr p0 (2 : Int32)) &&& (3 : Int32))), .val (.int ((XT.ushr p0 (4 : Int32)) &&& (3 : Int32))), .val (.int ((XT.ushr p0 (Int8.ofInt 6).toInt32) &&& (3 : Int32))), .val (.ref k), .val (.ref a48), .val (.ref a56), .val (.ref a87), .val (.ref a48), .val (.int ks.length.toInt32), .val (.int cs49.length.toInt32), .unset, .unset] [(.int (cs57).length.toInt32)]
      show Go G B M_law _ h86 (a63 :: []) 39 444 210 #[.val (.int p0), .val (.int p1), .val (.int p2), .val (.int (p0 &&& (3 : Int32))), .val (.int ((XT.ushr p0 (2 : Int32)) &&& (3 : Int32))), .val (.int ((XT.ushr p0 (4 : Int32)) &&& (3 : Int32))), .val (.int ((XT.ushr p0 (Int8.ofInt 6).toInt32) &&& (3 : Int32))), .val (.ref k), .val (.ref a48), .val (.ref a56), .val (.ref a87), .val (.ref a48), .val (.int ks.length.toInt32), .val (.int cs49.length.toInt32), .unset, .unset] [(.int cs57.length.toInt32)]
      refine go_run K 120 7 (pc' := 221) (Ls' := #[.val (.int p0), .val (.int p1), .val (.int p2), .val (.int (p0 &&& (3 : Int32))), .val (.int ((XT.ushr p0 (2 : Int32)) &&& (3 : Int32))), .val (.int ((XT.ushr p0 (4 : Int32)) &&& (3 : Int32))), .val (.int ((XT.ushr p0 (Int8.ofInt 6).toInt32) &&& (3 : Int32))), .val (.ref k), .val (.ref a48), .val (.ref a56), .val (.ref a87), .val (.ref a48), .val (.int ks.length.toInt32), .val (.int cs49.length.toInt32), .val (.int cs57.length.toInt32), .unset]) (st' := [(.int cs57.length.toInt32), (.int ((ks.length.toInt32 + (1 : Int32)) + cs49.length.toInt32))]) rfl ?_
      have lx : Lat (ks ++ (32 : Int32) :: cs49) := lat_app lk (latC (by decide) l52 (by first | omega | decide | (simp only [List.length_cons, List.length_nil] <;> omega))) (by first | omega | decide | (simp only [List.length_cons, List.length_nil] <;> omega))
      refine go_ifne K (k := 127) rfl (pc' := 228) (by decide) (fun q93 => ?_) (fun q94 => ?_)
      · have he : ¬ cs57 = [] := fun e => q93 (by rw [e]; rfl)
        have ho : (dec (ks ++ (32 : Int32) :: cs49) cs57) = (ks ++ (32 : Int32) :: (cs49 ++ (32 : Int32) :: cs57)) := (if_neg he).trans (by rw [List.append_assoc, List.cons_append])
        have S96 : Str G h86 a87 (ks ++ (32 : Int32) :: (cs49 ++ (32 : Int32) :: cs57)) := ho ▸ S89
        have lo : Lat (ks ++ (32 : Int32) :: (cs49 ++ (32 : Int32) :: cs57)) := lat_app lk (latC (by decide) (lat_app l52 (latC (by decide) l60 (by omega)) (by first | omega | decide | (simp only [List.length_cons, List.length_nil] <;> omega))) (by simp only [List.length_append, List.length_cons, List.length_nil] <;> omega)) (by simp only [List.length_append, List.length_cons, List.length_nil] <;> omega)
        refine go_run K 130 6 (pc' := 237) (Ls' := #[.val (.int p0), .val (.int p1), .val (.int p2), .val (.int (p0 &&& (3 : Int32))), .val (.int ((XT.ushr p0 (2 : Int32)) &&& (3 : Int32))), .val (.int ((XT.ushr p0 (4 : Int32)) &&& (3 : Int32))), .val (.int ((XT.ushr p0 (Int8.ofInt 6).toInt32) &&& (3 : Int32))), .val (.ref k), .val (.ref a48), .val (.ref a56), .val (.ref a87), .val (.ref a48), .val (.int ks.length.toInt32), .val (.int cs49.length.toInt32), .val (.int cs57.length.toInt32), .val (.int (((ks.length.toInt32 + (1 : Int32)) + cs49.length.toInt32) + ((1 : Int32) + cs57.length.toInt32)))]) (st' := [(.ref a87)]) rfl ?_
        refine go_ifnullN K (k := 136) rfl ?_
        refine go_run K 137 1 (pc' := 242) (st' := [(.ref a87)]) rfl ?_
        refine go_virt0 K (k := 138) rfl (H.w 169 rfl) (H.w 79 rfl) (H.w 78 rfl) (H.w 1 rfl) (H.w 80 rfl) (by decide) pd_13 S96.exa (c_len H S96) (argsL := []) (rest := []) rfl rfl rfl sub0 rfl ?_
        rintro _ _ _ - ⟨rfl, rfl⟩
        show Go G B M_law _ h86 (a63 :: []) 39 444 245 #[.val (.int p0), .val (.int p1), .val (.int p2), .val (.int (p0 &&& (3 : Int32))), .val (.int ((XT.ushr p0 (2 : Int32)) &&& (3 : Int32))), .val (.int ((XT.ushr p0 (4 : Int32)) &&& (3 : Int32))), .val (.int ((XT.ushr p0 (Int8.ofInt 6).toInt32) &&& (3 : Int32))), .val (.ref k), .val (.ref a48), .val (.ref a56), .val (.ref a87), .val (.ref a48), .val (.int ks.length.toInt32), .val (.int cs49.length.toInt32), .val (.int cs57.length.toInt32), .val (.int (((ks.length.toInt32 + (1 : Int32)) + cs49.length.toInt32) + ((1 : Int32) + cs57.length.toInt32)))] [(.int ((ks ++ (32 : Int32) :: (cs49 ++ (32 : Int32) :: cs57))).length.toInt32)]
        refine go_run K 139 1 (pc' := 247) (st' := [(.int (((ks.length.toInt32 + (1 : Int32)) + cs49.length.toInt32) + ((1 : Int32) + cs57.length.toInt32))), (.int ((ks ++ (32 : Int32) :: (cs49 ++ (32 : Int32) :: cs57))).length.toInt32)]) rfl ?_
        refine go_icmpeq K (k := 140) rfl (pc' := 252) (by decide) (fun _ => ?_) (fun q => absurd (by rw [show ((ks ++ (32 : Int32) :: (cs49 ++ (32 : Int32) :: cs57))).length = ks.length + 1 + cs49.length + (1 + cs57.length) by simp only [List.length_append, List.length_cons] <;> omega, ← add_len, ← add_len, ← add_len, ← add_len] <;> rfl) q)
        refine go_run K 143 3 (pc' := 257) (st' := [(.ref k), (.int (0 : Int32)), (.ref a87)]) rfl ?_
        refine go_static K (k := 146) rfl (H.w 170 rfl) (H.w 171 rfl) (H.w 10 rfl) (H.w 172 rfl) (by decide) pd_33 (c_mat (pre := []) (cs := ks) (post := ((32 : Int32) :: (cs49 ++ (32 : Int32) :: cs57))) H rfl rfl lo lk hF S96 c90) (argsL := [(.ref a87), (.int (0 : Int32)), (.ref k)]) (rest := []) rfl rfl rfl sub0 rfl ?_
        rintro _ _ _ - ⟨rfl, rfl⟩
        show Go G B M_law _ h86 (a63 :: []) 39 444 260 #[.val (.int p0), .val (.int p1), .val (.int p2), .val (.int (p0 &&& (3 : Int32))), .val (.int ((XT.ushr p0 (2 : Int32)) &&& (3 : Int32))), .val (.int ((XT.ushr p0 (4 : Int32)) &&& (3 : Int32))), .val (.int ((XT.ushr p0 (Int8.ofInt 6).toInt32) &&& (3 : Int32))), .val (.ref k), .val (.ref a48), .val (.ref a56), .val (.ref a87), .val (.ref a48), .val (.int ks.length.toInt32), .val (.int cs49.length.toInt32), .val (.int cs57.length.toInt32), .val (.int (((ks.length.toInt32 + (1 : Int32)) + cs49.length.toInt32) + ((1 : Int32) + cs57.length.toInt32)))] [(.int (1 : Int32))]
        refine go_ifne K (k := 147) rfl (pc' := 265) (by decide) (fun _ => ?_) (fun q => absurd q (by decide))
        refine go_run K 150 2 (pc' := 269) (st' := [(.int ks.length.toInt32), (.ref a87)]) rfl ?_
        refine go_virt0 K (k := 152) rfl (H.w 176 rfl) (H.w 179 rfl) (H.w 178 rfl) (H.w 1 rfl) (H.w 180 rfl) (by decide) pd_28 S96.exa (c_chaQ (i := ks.length) (c := (32 : Int32)) H lo (by rw [List.getElem?_append_right (Nat.le_refl _), Nat.sub_self]; rfl) hF S96) (argsL := [(.int ks.length.toInt32)]) (rest := []) rfl rfl rfl sub0 rfl ?_
        rintro _ _ _ - ⟨rfl, rfl⟩
        show Go G B M_law _ h86 (a63 :: []) 39 444 272 #[.val (.int p0), .val (.int p1), .val (.int p2), .val (.int (p0 &&& (3 : Int32))), .val (.int ((XT.ushr p0 (2 : Int32)) &&& (3 : Int32))), .val (.int ((XT.ushr p0 (4 : Int32)) &&& (3 : Int32))), .val (.int ((XT.ushr p0 (Int8.ofInt 6).toInt32) &&& (3 : Int32))), .val (.ref k), .val (.ref a48), .val (.ref a56), .val (.ref a87), .val (.ref a48), .val (.int ks.length.toInt32), .val (.int cs49.length.toInt32), .val (.int cs57.length.toInt32), .val (.int (((ks.length.toInt32 + (1 : Int32)) + cs49.length.toInt32) + ((1 : Int32) + cs57.length.toInt32)))] [(.int (32 : Int32))]
        refine go_run K 153 1 (pc' := 274) (st' := [(.int (32 : Int32)), (.int (32 : Int32))]) rfl ?_
        refine go_icmpeq K (k := 154) rfl (pc' := 279) (by decide) (fun _ => ?_) (fun q => absurd rfl q)
        refine go_run K 157 5 (pc' := 287) (st' := [(.ref a48), (.int (ks.length.toInt32 + (1 : Int32))), (.ref a87)]) rfl ?_
        refine go_static K (k := 162) rfl (H.w 170 rfl) (H.w 171 rfl) (H.w 10 rfl) (H.w 172 rfl) (by decide) pd_33 (c_mat (pre := (ks ++ [(32 : Int32)])) (cs := cs49) (post := ((32 : Int32) :: cs57)) H (by simp) (by rw [List.length_append]; exact add_len _ 1) lo l52 hF S96 c91) (argsL := [(.ref a87), (.int (ks.length.toInt32 + (1 : Int32))), (.ref a48)]) (rest := []) rfl rfl rfl sub0 rfl ?_
        rintro _ _ _ - ⟨rfl, rfl⟩
        show Go G B M_law _ h86 (a63 :: []) 39 444 290 #[.val (.int p0), .val (.int p1), .val (.int p2), .val (.int (p0 &&& (3 : Int32))), .val (.int ((XT.ushr p0 (2 : Int32)) &&& (3 : Int32))), .val (.int ((XT.ushr p0 (4 : Int32)) &&& (3 : Int32))), .val (.int ((XT.ushr p0 (Int8.ofInt 6).toInt32) &&& (3 : Int32))), .val (.ref k), .val (.ref a48), .val (.ref a56), .val (.ref a87), .val (.ref a48), .val (.int ks.length.toInt32), .val (.int cs49.length.toInt32), .val (.int cs57.length.toInt32), .val (.int (((ks.length.toInt32 + (1 : Int32)) + cs49.length.toInt32) + ((1 : Int32) + cs57.length.toInt32)))] [(.int (1 : Int32))]
        refine go_ifne K (k := 163) rfl (pc' := 295) (by decide) (fun _ => ?_) (fun q => absurd q (by decide))
        refine go_run K 166 1 (pc' := 297) (st' := [(.int cs57.length.toInt32)]) rfl ?_
        refine go_ifne K (k := 167) rfl (pc' := 302) (by decide) (fun _ => ?_) (fun q => absurd q (fun e => he (List.eq_nil_of_length_eq_zero (len_zero (lat_lt l60) e))))
        refine go_run K 170 6 (pc' := 311) (st' := [(.int ((ks.length.toInt32 + (1 : Int32)) + cs49.length.toInt32)), (.ref a87)]) rfl ?_
        rw [show ((ks.length.toInt32 + (1 : Int32)) + cs49.length.toInt32) = (ks.length + 1 + cs49.length).toInt32 by rw [← add_len, ← add_len] <;> rfl]
        refine go_virt0 K (k := 176) rfl (H.w 176 rfl) (H.w 179 rfl) (H.w 178 rfl) (H.w 1 rfl) (H.w 180 rfl) (by decide) pd_28 S96.exa (c_chaQ (i := (ks.length + 1 + cs49.length)) (c := (32 : Int32)) H lo (by rw [List.getElem?_append_right (by omega), show ks.length + 1 + cs49.length - ks.length = cs49.length + 1 by omega, List.getElem?_cons_succ, List.getElem?_append_right (Nat.le_refl _), Nat.sub_self]; rfl) hF S96) (argsL := [(.int (ks.length + 1 + cs49.length).toInt32)]) (rest := []) rfl rfl rfl sub0 rfl ?_
        rintro _ _ _ - ⟨rfl, rfl⟩
        show Go G B M_law _ h86 (a63 :: []) 39 444 314 #[.val (.int p0), .val (.int p1), .val (.int p2), .val (.int (p0 &&& (3 : Int32))), .val (.int ((XT.ushr p0 (2 : Int32)) &&& (3 : Int32))), .val (.int ((XT.ushr p0 (4 : Int32)) &&& (3 : Int32))), .val (.int ((XT.ushr p0 (Int8.ofInt 6).toInt32) &&& (3 : Int32))), .val (.ref k), .val (.ref a48), .val (.ref a56), .val (.ref a87), .val (.ref a48), .val (.int ks.length.toInt32), .val (.int cs49.length.toInt32), .val (.int cs57.length.toInt32), .val (.int ((ks.length + 1 + cs49.length).toInt32 + ((1 : Int32) + cs57.length.toInt32)))] [(.int (32 : Int32))]
        refine go_run K 177 1 (pc' := 316) (st' := [(.int (32 : Int32)), (.int (32 : Int32))]) rfl ?_
        refine go_icmpne K (k := 178) rfl (pc' := 340) (by decide) (fun q => absurd rfl q) (fun _ => ?_)
        refine go_run K 179 7 (pc' := 330) (st' := [(.ref a56), (.int ((ks.length.toInt32 + (2 : Int32)) + cs49.length.toInt32)), (.ref a87)]) rfl ?_
        refine go_static K (k := 186) rfl (H.w 170 rfl) (H.w 171 rfl) (H.w 10 rfl) (H.w 172 rfl) (by decide) pd_33 (c_mat (pre := (ks ++ (32 : Int32) :: (cs49 ++ [(32 : Int32)]))) (cs := cs57) (post := []) H (by simp) (by rw [show ((ks ++ (32 : Int32) :: (cs49 ++ [(32 : Int32)]))).length = ks.length + 2 + cs49.length by simp only [List.length_append, List.length_cons, List.length_nil] <;> omega, ← add_len, ← add_len] <;> rfl) lo l60 hF S96 c92) (argsL := [(.ref a87), (.int ((ks.length.toInt32 + (2 : Int32)) + cs49.length.toInt32)), (.ref a56)]) (rest := []) rfl rfl rfl sub0 rfl ?_
        rintro _ _ _ - ⟨rfl, rfl⟩
        show Go G B M_law _ h86 (a63 :: []) 39 444 333 #[.val (.int p0), .val (.int p1), .val (.int p2), .val (.int (p0 &&& (3 : Int32))), .val (.int ((XT.ushr p0 (2 : Int32)) &&& (3 : Int32))), .val (.int ((XT.ushr p0 (4 : Int32)) &&& (3 : Int32))), .val (.int ((XT.ushr p0 (Int8.ofInt 6).toInt32) &&& (3 : Int32))), .val (.ref k), .val (.ref a48), .val (.ref a56), .val (.ref a87), .val (.ref a48), .val (.int ks.length.toInt32), .val (.int cs49.length.toInt32), .val (.int cs57.length.toInt32), .val (.int ((ks.length + 1 + cs49.length).toInt32 + ((1 : Int32) + cs57.length.toInt32)))] [(.int (1 : Int32))]
        refine go_ifeq K (k := 187) rfl (pc' := 340) (by decide) (fun q => absurd q (by decide)) (fun _ => ?_)
        refine go_run K 188 2 (pc' := 341) (st' := [(.int (1 : Int32))]) rfl ?_
        refine go_ireturn K (k := 191) rfl rfl (by decide) rfl rfl rfl ?_
        intro Sf hSf
        exact rfl
      · have he : cs57 = [] := List.eq_nil_of_length_eq_zero (len_zero (lat_lt l60) q94)
        have ho : (dec (ks ++ (32 : Int32) :: cs49) cs57) = (ks ++ (32 : Int32) :: cs49) := if_pos he
        have S95 : Str G h86 a87 (ks ++ (32 : Int32) :: cs49) := ho ▸ S89
        have lo := lx
        refine go_run K 128 2 (pc' := 232) (st' := [(.int (0 : Int32)), (.int ((ks.length.toInt32 + (1 : Int32)) + cs49.length.toInt32))]) rfl ?_
        refine go_run K 133 3 (pc' := 237) (Ls' := #[.val (.int p0), .val (.int p1), .val (.int p2), .val (.int (p0 &&& (3 : Int32))), .val (.int ((XT.ushr p0 (2 : Int32)) &&& (3 : Int32))), .val (.int ((XT.ushr p0 (4 : Int32)) &&& (3 : Int32))), .val (.int ((XT.ushr p0 (Int8.ofInt 6).toInt32) &&& (3 : Int32))), .val (.ref k), .val (.ref a48), .val (.ref a56), .val (.ref a87), .val (.ref a48), .val (.int ks.length.toInt32), .val (.int cs49.length.toInt32), .val (.int cs57.length.toInt32), .val (.int (((ks.length.toInt32 + (1 : Int32)) + cs49.length.toInt32) + (0 : Int32)))]) (st' := [(.ref a87)]) rfl ?_
        refine go_ifnullN K (k := 136) rfl ?_
        refine go_run K 137 1 (pc' := 242) (st' := [(.ref a87)]) rfl ?_
        refine go_virt0 K (k := 138) rfl (H.w 169 rfl) (H.w 79 rfl) (H.w 78 rfl) (H.w 1 rfl) (H.w 80 rfl) (by decide) pd_13 S95.exa (c_len H S95) (argsL := []) (rest := []) rfl rfl rfl sub0 rfl ?_
        rintro _ _ _ - ⟨rfl, rfl⟩
        show Go G B M_law _ h86 (a63 :: []) 39 444 245 #[.val (.int p0), .val (.int p1), .val (.int p2), .val (.int (p0 &&& (3 : Int32))), .val (.int ((XT.ushr p0 (2 : Int32)) &&& (3 : Int32))), .val (.int ((XT.ushr p0 (4 : Int32)) &&& (3 : Int32))), .val (.int ((XT.ushr p0 (Int8.ofInt 6).toInt32) &&& (3 : Int32))), .val (.ref k), .val (.ref a48), .val (.ref a56), .val (.ref a87), .val (.ref a48), .val (.int ks.length.toInt32), .val (.int cs49.length.toInt32), .val (.int cs57.length.toInt32), .val (.int (((ks.length.toInt32 + (1 : Int32)) + cs49.length.toInt32) + (0 : Int32)))] [(.int ((ks ++ (32 : Int32) :: cs49)).length.toInt32)]
        refine go_run K 139 1 (pc' := 247) (st' := [(.int (((ks.length.toInt32 + (1 : Int32)) + cs49.length.toInt32) + (0 : Int32))), (.int ((ks ++ (32 : Int32) :: cs49)).length.toInt32)]) rfl ?_
        refine go_icmpeq K (k := 140) rfl (pc' := 252) (by decide) (fun _ => ?_) (fun q => absurd (by rw [show ((ks ++ (32 : Int32) :: cs49)).length = ks.length + 1 + cs49.length + 0 by simp only [List.length_append, List.length_cons] <;> omega, ← add_len, ← add_len, ← add_len] <;> rfl) q)
        refine go_run K 143 3 (pc' := 257) (st' := [(.ref k), (.int (0 : Int32)), (.ref a87)]) rfl ?_
        refine go_static K (k := 146) rfl (H.w 170 rfl) (H.w 171 rfl) (H.w 10 rfl) (H.w 172 rfl) (by decide) pd_33 (c_mat (pre := []) (cs := ks) (post := ((32 : Int32) :: cs49)) H rfl rfl lo lk hF S95 c90) (argsL := [(.ref a87), (.int (0 : Int32)), (.ref k)]) (rest := []) rfl rfl rfl sub0 rfl ?_
        rintro _ _ _ - ⟨rfl, rfl⟩
        show Go G B M_law _ h86 (a63 :: []) 39 444 260 #[.val (.int p0), .val (.int p1), .val (.int p2), .val (.int (p0 &&& (3 : Int32))), .val (.int ((XT.ushr p0 (2 : Int32)) &&& (3 : Int32))), .val (.int ((XT.ushr p0 (4 : Int32)) &&& (3 : Int32))), .val (.int ((XT.ushr p0 (Int8.ofInt 6).toInt32) &&& (3 : Int32))), .val (.ref k), .val (.ref a48), .val (.ref a56), .val (.ref a87), .val (.ref a48), .val (.int ks.length.toInt32), .val (.int cs49.length.toInt32), .val (.int cs57.length.toInt32), .val (.int (((ks.length.toInt32 + (1 : Int32)) + cs49.length.toInt32) + (0 : Int32)))] [(.int (1 : Int32))]
        refine go_ifne K (k := 147) rfl (pc' := 265) (by decide) (fun _ => ?_) (fun q => absurd q (by decide))
        refine go_run K 150 2 (pc' := 269) (st' := [(.int ks.length.toInt32), (.ref a87)]) rfl ?_
        refine go_virt0 K (k := 152) rfl (H.w 176 rfl) (H.w 179 rfl) (H.w 178 rfl) (H.w 1 rfl) (H.w 180 rfl) (by decide) pd_28 S95.exa (c_chaQ (i := ks.length) (c := (32 : Int32)) H lo (by rw [List.getElem?_append_right (Nat.le_refl _), Nat.sub_self]; rfl) hF S95) (argsL := [(.int ks.length.toInt32)]) (rest := []) rfl rfl rfl sub0 rfl ?_
        rintro _ _ _ - ⟨rfl, rfl⟩
        show Go G B M_law _ h86 (a63 :: []) 39 444 272 #[.val (.int p0), .val (.int p1), .val (.int p2), .val (.int (p0 &&& (3 : Int32))), .val (.int ((XT.ushr p0 (2 : Int32)) &&& (3 : Int32))), .val (.int ((XT.ushr p0 (4 : Int32)) &&& (3 : Int32))), .val (.int ((XT.ushr p0 (Int8.ofInt 6).toInt32) &&& (3 : Int32))), .val (.ref k), .val (.ref a48), .val (.ref a56), .val (.ref a87), .val (.ref a48), .val (.int ks.length.toInt32), .val (.int cs49.length.toInt32), .val (.int cs57.length.toInt32), .val (.int (((ks.length.toInt32 + (1 : Int32)) + cs49.length.toInt32) + (0 : Int32)))] [(.int (32 : Int32))]
        refine go_run K 153 1 (pc' := 274) (st' := [(.int (32 : Int32)), (.int (32 : Int32))]) rfl ?_
        refine go_icmpeq K (k := 154) rfl (pc' := 279) (by decide) (fun _ => ?_) (fun q => absurd rfl q)
        refine go_run K 157 5 (pc' := 287) (st' := [(.ref a48), (.int (ks.length.toInt32 + (1 : Int32))), (.ref a87)]) rfl ?_
        refine go_static K (k := 162) rfl (H.w 170 rfl) (H.w 171 rfl) (H.w 10 rfl) (H.w 172 rfl) (by decide) pd_33 (c_mat (pre := (ks ++ [(32 : Int32)])) (cs := cs49) (post := []) H (by simp) (by rw [List.length_append]; exact add_len _ 1) lo l52 hF S95 c91) (argsL := [(.ref a87), (.int (ks.length.toInt32 + (1 : Int32))), (.ref a48)]) (rest := []) rfl rfl rfl sub0 rfl ?_
        rintro _ _ _ - ⟨rfl, rfl⟩
        show Go G B M_law _ h86 (a63 :: []) 39 444 290 #[.val (.int p0), .val (.int p1), .val (.int p2), .val (.int (p0 &&& (3 : Int32))), .val (.int ((XT.ushr p0 (2 : Int32)) &&& (3 : Int32))), .val (.int ((XT.ushr p0 (4 : Int32)) &&& (3 : Int32))), .val (.int ((XT.ushr p0 (Int8.ofInt 6).toInt32) &&& (3 : Int32))), .val (.ref k), .val (.ref a48), .val (.ref a56), .val (.ref a87), .val (.ref a48), .val (.int ks.length.toInt32), .val (.int cs49.length.toInt32), .val (.int cs57.length.toInt32), .val (.int (((ks.length.toInt32 + (1 : Int32)) + cs49.length.toInt32) + (0 : Int32)))] [(.int (1 : Int32))]
        refine go_ifne K (k := 163) rfl (pc' := 295) (by decide) (fun _ => ?_) (fun q => absurd q (by decide))
        refine go_run K 166 1 (pc' := 297) (st' := [(.int cs57.length.toInt32)]) rfl ?_
        refine go_ifne K (k := 167) rfl (pc' := 302) (by decide) (fun q => absurd (by rw [he]; rfl) q) (fun _ => ?_)
        refine go_run K 168 1 (pc' := 301) (st' := [(.int (1 : Int32))]) rfl ?_
        refine go_ireturn K (k := 169) rfl rfl (by decide) rfl rfl rfl ?_
        intro Sf hSf
        exact rfl
    · refine go_run K 61 2 (pc' := 126) (st' := [.null]) rfl ?_
      refine go_run K 78 1 (pc' := 128) (Ls' := #[.val (.int p0), .val (.int p1), .val (.int p2), .val (.int (p0 &&& (3 : Int32))), .val (.int ((XT.ushr p0 (2 : Int32)) &&& (3 : Int32))), .val (.int ((XT.ushr p0 (4 : Int32)) &&& (3 : Int32))), .val (.int ((XT.ushr p0 (Int8.ofInt 6).toInt32) &&& (3 : Int32))), .val (.ref k), .val .null, .unset, .unset, .unset, .unset, .unset, .unset, .unset]) (st' := []) rfl ?_
      refine go_run K 79 5 (pc' := 136) (st' := [(.int ((p2 &&& (255 : Int32))).toUInt32.toUInt16.toUInt32.toInt32), (.int ((XT.ushr p0 (Int8.ofInt 6).toInt32) &&& (3 : Int32)))]) rfl ?_
      refine go_top (i2c_mask p2) ?_
      refine go_run K 84 6 (pc' := 145) (st' := [(.int (((XT.ushr p2 (Int8.ofInt 8).toInt32) &&& (255 : Int32))).toUInt32.toUInt16.toUInt32.toInt32), (.int (p2 &&& (255 : Int32))), (.int ((XT.ushr p0 (Int8.ofInt 6).toInt32) &&& (3 : Int32)))]) rfl ?_
      refine go_top (i2c_mask (XT.ushr p2 (Int8.ofInt 8).toInt32)) ?_
      refine go_run K 90 6 (pc' := 154) (st' := [(.int (((XT.ushr p2 (Int8.ofInt 16).toInt32) &&& (255 : Int32))).toUInt32.toUInt16.toUInt32.toInt32), (.int ((XT.ushr p2 (Int8.ofInt 8).toInt32) &&& (255 : Int32))), (.int (p2 &&& (255 : Int32))), (.int ((XT.ushr p0 (Int8.ofInt 6).toInt32) &&& (3 : Int32)))]) rfl ?_
      refine go_top (i2c_mask (XT.ushr p2 (Int8.ofInt 16).toInt32)) ?_
      refine go_static K (k := 96) rfl (H.w 8 rfl) (H.w 9 rfl) (H.w 10 rfl) (H.w 11 rfl) (by decide) pd_30 (c_mk (n := ((XT.ushr p0 (Int8.ofInt 6).toInt32) &&& (3 : Int32))) H (c8_lat _) (c8_lat _) (c8_lat _)) (argsL := [(.int ((XT.ushr p0 (Int8.ofInt 6).toInt32) &&& (3 : Int32))), (.int (p2 &&& (255 : Int32))), (.int ((XT.ushr p2 (Int8.ofInt 8).toInt32) &&& (255 : Int32))), (.int ((XT.ushr p2 (Int8.ofInt 16).toInt32) &&& (255 : Int32)))]) (rest := []) rfl rfl rfl sub0 rfl ?_
      rintro _ h3 _ - ⟨a4, cs5, rfl, E6, S7, l8, n9, g10⟩
      show Go G B M_law _ h3 [] 12 43 157 #[.val (.int p0), .val (.int p1), .val (.int p2), .val (.int (p0 &&& (3 : Int32))), .val (.int ((XT.ushr p0 (2 : Int32)) &&& (3 : Int32))), .val (.int ((XT.ushr p0 (4 : Int32)) &&& (3 : Int32))), .val (.int ((XT.ushr p0 (Int8.ofInt 6).toInt32) &&& (3 : Int32))), .val (.ref k), .val .null, .unset, .unset, .unset, .unset, .unset, .unset, .unset] [(.ref a4)]
      refine go_run K 97 1 (pc' := 159) (Ls' := #[.val (.int p0), .val (.int p1), .val (.int p2), .val (.int (p0 &&& (3 : Int32))), .val (.int ((XT.ushr p0 (2 : Int32)) &&& (3 : Int32))), .val (.int ((XT.ushr p0 (4 : Int32)) &&& (3 : Int32))), .val (.int ((XT.ushr p0 (Int8.ofInt 6).toInt32) &&& (3 : Int32))), .val (.ref k), .val .null, .val (.ref a4), .unset, .unset, .unset, .unset, .unset, .unset]) (st' := []) rfl ?_
      refine go_new K (k := 98) rfl (H.w 27 rfl) (H.w 28 rfl) (H.w 29 rfl) rfl rfl ?_
      intro h12 a11 e13 g14 E15 A16 D17
      have F18 : Fld G.Z h12 a11 "com/example/penelope/penelope/frontend/CType$Tagged" "keyword" "Ljava/lang/String;" .null := D17 (Or.inr (H.w 40 rfl)) (ty := (.object "java/lang/String")) (by decide)
      have F19 : Fld G.Z h12 a11 "com/example/penelope/penelope/frontend/CType$Tagged" "tag" "Ljava/lang/String;" .null := D17 (Or.inr (H.w 42 rfl)) (ty := (.object "java/lang/String")) (by decide)
      refine go_run K 99 3 (pc' := 167) (st' := [.null, (.ref k), (.ref a11), (.ref a11)]) rfl ?_
      refine go_special K (k := 102) rfl rfl (H.w 30 rfl) (H.w 31 rfl) (H.w 29 rfl) (H.w 32 rfl) (by decide) pd_31 (c_tgN (a := a11) (r0 := k) H A16 F18 F19 g14) (argsL := [(.ref k), .null]) (rest := [(.ref a11)]) rfl rfl rfl sub0 rfl ?_
      rintro _ h20 _ - ⟨rfl, K21, E22, F23, F24⟩
      show Go G B M_law _ h20 (a11 :: []) 13 45 170 #[.val (.int p0), .val (.int p1), .val (.int p2), .val (.int (p0 &&& (3 : Int32))), .val (.int ((XT.ushr p0 (2 : Int32)) &&& (3 : Int32))), .val (.int ((XT.ushr p0 (4 : Int32)) &&& (3 : Int32))), .val (.int ((XT.ushr p0 (Int8.ofInt 6).toInt32) &&& (3 : Int32))), .val (.ref k), .val .null, .val (.ref a4), .unset, .unset, .unset, .unset, .unset, .unset] [(.ref a11)]
      refine go_run K 103 1 (pc' := 172) (st' := [(.ref a4), (.ref a11)]) rfl ?_
      have X25 : Ext h1 h12 := (Ext.tr E6 E15)
      have X26 : Ext h1 h20 := (Ext.keepN X25 K21 (allS (Nat.le_trans (E6).1 (Nat.le_of_eq e13.symm)) all0))
      have c27 := (Sk.ext X26)
      have X28 : Ext h3 h20 := (Ext.keepN E15 K21 (allS (Nat.le_trans (Nat.le_refl _) (Nat.le_of_eq e13.symm)) all0))
      have c29 := (S7.ext X28)
      refine go_virt0 K (k := 104) rfl (H.w 43 rfl) (H.w 46 rfl) (H.w 45 rfl) (H.w 29 rfl) (H.w 47 rfl) (by decide) pd_32 E22 (c_splN H lk l8 hk n9 F23 F24 c27 c29) (argsL := [(.ref a4)]) (rest := []) rfl rfl rfl sub0 rfl ?_
      rintro _ h30 _ - ⟨a31, rfl, E32, S33⟩
      show Go G B M_law _ h30 (a11 :: []) 33 429 175 #[.val (.int p0), .val (.int p1), .val (.int p2), .val (.int (p0 &&& (3 : Int32))), .val (.int ((XT.ushr p0 (2 : Int32)) &&& (3 : Int32))), .val (.int ((XT.ushr p0 (4 : Int32)) &&& (3 : Int32))), .val (.int ((XT.ushr p0 (Int8.ofInt 6).toInt32) &&& (3 : Int32))), .val (.ref k), .val .null, .val (.ref a4), .unset, .unset, .unset, .unset, .unset, .unset] [(.ref a31)]
      refine go_run K 105 2 (pc' := 179) (Ls' := #[.val (.int p0), .val (.int p1), .val (.int p2), .val (.int (p0 &&& (3 : Int32))), .val (.int ((XT.ushr p0 (2 : Int32)) &&& (3 : Int32))), .val (.int ((XT.ushr p0 (4 : Int32)) &&& (3 : Int32))), .val (.int ((XT.ushr p0 (Int8.ofInt 6).toInt32) &&& (3 : Int32))), .val (.ref k), .val .null, .val (.ref a4), .val (.ref a31), .unset, .unset, .unset, .unset, .unset]) (st' := [.null]) rfl ?_
      refine go_ifnonN K (k := 107) rfl ?_
      refine go_ldcT K (k := 108) rfl (H.w 242 rfl) H.ws (H.mem (by decide)) (cs := [(60 : Int32), (97 : Int32), (110 : Int32), (111 : Int32), (110 : Int32), (121 : Int32), (109 : Int32), (111 : Int32), (117 : Int32), (115 : Int32), (62 : Int32)]) (by decide) (by decide) (n := 44) rfl rfl rfl rfl ?_
      intro h35 a34 E36 S37
      refine go_run K 109 1 (pc' := 189) (st' := [(.ref a34)]) rfl ?_
      refine go_run K 111 2 (pc' := 193) (Ls' := #[.val (.int p0), .val (.int p1), .val (.int p2), .val (.int (p0 &&& (3 : Int32))), .val (.int ((XT.ushr p0 (2 : Int32)) &&& (3 : Int32))), .val (.int ((XT.ushr p0 (4 : Int32)) &&& (3 : Int32))), .val (.int ((XT.ushr p0 (Int8.ofInt 6).toInt32) &&& (3 : Int32))), .val (.ref k), .val .null, .val (.ref a4), .val (.ref a31), .val (.ref a34), .unset, .unset, .unset, .unset]) (st' := [(.ref k)]) rfl ?_
      have X38 : Ext h20 h35 := (Ext.tr E32 E36)
      have c39 := (c27.ext X38)
      refine go_virt0 K (k := 113) rfl (H.w 169 rfl) (H.w 79 rfl) (H.w 78 rfl) (H.w 1 rfl) (H.w 80 rfl) (by decide) pd_13 c39.exa (c_len H c39) (argsL := []) (rest := []) rfl rfl rfl sub0 rfl ?_
      rintro _ _ _ - ⟨rfl, rfl⟩
      show Go G B M_law _ h35 (a11 :: []) 35 477 196 #[.val (.int p0), .val (.int p1), .val (.int p2), .val (.int (p0 &&& (3 : Int32))), .val (.int ((XT.ushr p0 (2 : Int32)) &&& (3 : Int32))), .val (.int ((XT.ushr p0 (4 : Int32)) &&& (3 : Int32))), .val (.int ((XT.ushr p0 (Int8.ofInt 6).toInt32) &&& (3 : Int32))), .val (.ref k), .val .null, .val (.ref a4), .val (.ref a31), .val (.ref a34), .unset, .unset, .unset, .unset] [(.int (ks).length.toInt32)]
      show Go G B M_law _ h35 (a11 :: []) 35 477 196 #[.val (.int p0), .val (.int p1), .val (.int p2), .val (.int (p0 &&& (3 : Int32))), .val (.int ((XT.ushr p0 (2 : Int32)) &&& (3 : Int32))), .val (.int ((XT.ushr p0 (4 : Int32)) &&& (3 : Int32))), .val (.int ((XT.ushr p0 (Int8.ofInt 6).toInt32) &&& (3 : Int32))), .val (.ref k), .val .null, .val (.ref a4), .val (.ref a31), .val (.ref a34), .unset, .unset, .unset, .unset] [(.int ks.length.toInt32)]
      refine go_run K 114 2 (pc' := 200) (Ls' := #[.val (.int p0), .val (.int p1), .val (.int p2), .val (.int (p0 &&& (3 : Int32))), .val (.int ((XT.ushr p0 (2 : Int32)) &&& (3 : Int32))), .val (.int ((XT.ushr p0 (4 : Int32)) &&& (3 : Int32))), .val (.int ((XT.ushr p0 (Int8.ofInt 6).toInt32) &&& (3 : Int32))), .val (.ref k), .val .null, .val (.ref a4), .val (.ref a31), .val (.ref a34), .val (.int ks.length.toInt32), .unset, .unset, .unset]) (st' := [(.ref a34)]) rfl ?_
      refine go_virt0 K (k := 116) rfl (H.w 169 rfl) (H.w 79 rfl) (H.w 78 rfl) (H.w 1 rfl) (H.w 80 rfl) (by decide) pd_13 S37.exa (c_len H S37) (argsL := []) (rest := []) rfl rfl rfl sub0 rfl ?_
      rintro _ _ _ - ⟨rfl, rfl⟩
      show Go G B M_law _ h35 (a11 :: []) 35 477 203 #[.val (.int p0), .val (.int p1), .val (.int p2), .val (.int (p0 &&& (3 : Int32))), .val (.int ((XT.ushr p0 (2 : Int32)) &&& (3 : Int32))), .val (.int ((XT.ushr p0 (4 : Int32)) &&& (3 : Int32))), .val (.int ((XT.ushr p0 (Int8.ofInt 6).toInt32) &&& (3 : Int32))), .val (.ref k), .val .null, .val (.ref a4), .val (.ref a31), .val (.ref a34), .val (.int ks.length.toInt32), .unset, .unset, .unset] [(.int (anon).length.toInt32)]
      show Go G B M_law _ h35 (a11 :: []) 35 477 203 #[.val (.int p0), .val (.int p1), .val (.int p2), .val (.int (p0 &&& (3 : Int32))), .val (.int ((XT.ushr p0 (2 : Int32)) &&& (3 : Int32))), .val (.int ((XT.ushr p0 (4 : Int32)) &&& (3 : Int32))), .val (.int ((XT.ushr p0 (Int8.ofInt 6).toInt32) &&& (3 : Int32))), .val (.ref k), .val .null, .val (.ref a4), .val (.ref a31), .val (.ref a34), .val (.int ks.length.toInt32), .unset, .unset, .unset] [(.int anon.length.toInt32)]
      refine go_run K 117 2 (pc' := 207) (Ls' := #[.val (.int p0), .val (.int p1), .val (.int p2), .val (.int (p0 &&& (3 : Int32))), .val (.int ((XT.ushr p0 (2 : Int32)) &&& (3 : Int32))), .val (.int ((XT.ushr p0 (4 : Int32)) &&& (3 : Int32))), .val (.int ((XT.ushr p0 (Int8.ofInt 6).toInt32) &&& (3 : Int32))), .val (.ref k), .val .null, .val (.ref a4), .val (.ref a31), .val (.ref a34), .val (.int ks.length.toInt32), .val (.int anon.length.toInt32), .unset, .unset]) (st' := [(.ref a4)]) rfl ?_
      have c40 := (c29.ext X38)
      refine go_virt0 K (k := 119) rfl (H.w 169 rfl) (H.w 79 rfl) (H.w 78 rfl) (H.w 1 rfl) (H.w 80 rfl) (by decide) pd_13 c40.exa (c_len H c40) (argsL := []) (rest := []) rfl rfl rfl sub0 rfl ?_
      rintro _ _ _ - ⟨rfl, rfl⟩
      show Go G B M_law _ h35 (a11 :: []) 35 477 210 #[.val (.int p0), .val (.int p1), .val (.int p2), .val (.int (p0 &&& (3 : Int32))), .val (.int ((XT.ushr p0 (2 : Int32)) &&& (3 : Int32))), .val (.int ((XT.ushr p0 (4 : Int32)) &&& (3 : Int32))), .val (.int ((XT.ushr p0 (Int8.ofInt 6).toInt32) &&& (3 : Int32))), .val (.ref k), .val .null, .val (.ref a4), .val (.ref a31), .val (.ref a34), .val (.int ks.length.toInt32), .val (.int anon.length.toInt32), .unset, .unset] [(.int (cs5).length.toInt32)]
      show Go G B M_law _ h35 (a11 :: []) 35 477 210 #[.val (.int p0), .val (.int p1), .val (.int p2), .val (.int (p0 &&& (3 : Int32))), .val (.int ((XT.ushr p0 (2 : Int32)) &&& (3 : Int32))), .val (.int ((XT.ushr p0 (4 : Int32)) &&& (3 : Int32))), .val (.int ((XT.ushr p0 (Int8.ofInt 6).toInt32) &&& (3 : Int32))), .val (.ref k), .val .null, .val (.ref a4), .val (.ref a31), .val (.ref a34), .val (.int ks.length.toInt32), .val (.int anon.length.toInt32), .unset, .unset] [(.int cs5.length.toInt32)]
      refine go_run K 120 7 (pc' := 221) (Ls' := #[.val (.int p0), .val (.int p1), .val (.int p2), .val (.int (p0 &&& (3 : Int32))), .val (.int ((XT.ushr p0 (2 : Int32)) &&& (3 : Int32))), .val (.int ((XT.ushr p0 (4 : Int32)) &&& (3 : Int32))), .val (.int ((XT.ushr p0 (Int8.ofInt 6).toInt32) &&& (3 : Int32))), .val (.ref k), .val .null, .val (.ref a4), .val (.ref a31), .val (.ref a34), .val (.int ks.length.toInt32), .val (.int anon.length.toInt32), .val (.int cs5.length.toInt32), .unset]) (st' := [(.int cs5.length.toInt32), (.int ((ks.length.toInt32 + (1 : Int32)) + anon.length.toInt32))]) rfl ?_
      have lx : Lat (ks ++ (32 : Int32) :: anon) := lat_app lk (latC (by decide) (by exact ⟨by decide, by decide⟩) (by first | omega | decide | (simp only [List.length_cons, List.length_nil] <;> omega))) (by first | omega | decide | (simp only [List.length_cons, List.length_nil] <;> omega))
      refine go_ifne K (k := 127) rfl (pc' := 228) (by decide) (fun q41 => ?_) (fun q42 => ?_)
      · have he : ¬ cs5 = [] := fun e => q41 (by rw [e]; rfl)
        have ho : (dec (ks ++ (32 : Int32) :: anon) cs5) = (ks ++ (32 : Int32) :: (anon ++ (32 : Int32) :: cs5)) := (if_neg he).trans (by rw [List.append_assoc, List.cons_append])
        have c46 := (S33.ext E36)
        have S45 : Str G h35 a31 (ks ++ (32 : Int32) :: (anon ++ (32 : Int32) :: cs5)) := ho ▸ c46
        have lo : Lat (ks ++ (32 : Int32) :: (anon ++ (32 : Int32) :: cs5)) := lat_app lk (latC (by decide) (lat_app (by exact ⟨by decide, by decide⟩) (latC (by decide) l8 (by omega)) (by first | omega | decide | (simp only [List.length_cons, List.length_nil] <;> omega))) (by simp only [List.length_append, List.length_cons, List.length_nil] <;> omega)) (by simp only [List.length_append, List.length_cons, List.length_nil] <;> omega)
        refine go_run K 130 6 (pc' := 237) (Ls' := #[.val (.int p0), .val (.int p1), .val (.int p2), .val (.int (p0 &&& (3 : Int32))), .val (.int ((XT.ushr p0 (2 : Int32)) &&& (3 : Int32))), .val (.int ((XT.ushr p0 (4 : Int32)) &&& (3 : Int32))), .val (.int ((XT.ushr p0 (Int8.ofInt 6).toInt32) &&& (3 : Int32))), .val (.ref k), .val .null, .val (.ref a4), .val (.ref a31), .val (.ref a34), .val (.int ks.length.toInt32), .val (.int anon.length.toInt32), .val (.int cs5.length.toInt32), .val (.int (((ks.length.toInt32 + (1 : Int32)) + anon.length.toInt32) + ((1 : Int32) + cs5.length.toInt32)))]) (st' := [(.ref a31)]) rfl ?_
        refine go_ifnullN K (k := 136) rfl ?_
        refine go_run K 137 1 (pc' := 242) (st' := [(.ref a31)]) rfl ?_
        refine go_virt0 K (k := 138) rfl (H.w 169 rfl) (H.w 79 rfl) (H.w 78 rfl) (H.w 1 rfl) (H.w 80 rfl) (by decide) pd_13 S45.exa (c_len H S45) (argsL := []) (rest := []) rfl rfl rfl sub0 rfl ?_
        rintro _ _ _ - ⟨rfl, rfl⟩
        show Go G B M_law _ h35 (a11 :: []) 35 477 245 #[.val (.int p0), .val (.int p1), .val (.int p2), .val (.int (p0 &&& (3 : Int32))), .val (.int ((XT.ushr p0 (2 : Int32)) &&& (3 : Int32))), .val (.int ((XT.ushr p0 (4 : Int32)) &&& (3 : Int32))), .val (.int ((XT.ushr p0 (Int8.ofInt 6).toInt32) &&& (3 : Int32))), .val (.ref k), .val .null, .val (.ref a4), .val (.ref a31), .val (.ref a34), .val (.int ks.length.toInt32), .val (.int anon.length.toInt32), .val (.int cs5.length.toInt32), .val (.int (((ks.length.toInt32 + (1 : Int32)) + anon.length.toInt32) + ((1 : Int32) + cs5.length.toInt32)))] [(.int ((ks ++ (32 : Int32) :: (anon ++ (32 : Int32) :: cs5))).length.toInt32)]
        refine go_run K 139 1 (pc' := 247) (st' := [(.int (((ks.length.toInt32 + (1 : Int32)) + anon.length.toInt32) + ((1 : Int32) + cs5.length.toInt32))), (.int ((ks ++ (32 : Int32) :: (anon ++ (32 : Int32) :: cs5))).length.toInt32)]) rfl ?_
        refine go_icmpeq K (k := 140) rfl (pc' := 252) (by decide) (fun _ => ?_) (fun q => absurd (by rw [show ((ks ++ (32 : Int32) :: (anon ++ (32 : Int32) :: cs5))).length = ks.length + 1 + anon.length + (1 + cs5.length) by simp only [List.length_append, List.length_cons] <;> omega, ← add_len, ← add_len, ← add_len, ← add_len] <;> rfl) q)
        refine go_run K 143 3 (pc' := 257) (st' := [(.ref k), (.int (0 : Int32)), (.ref a31)]) rfl ?_
        refine go_static K (k := 146) rfl (H.w 170 rfl) (H.w 171 rfl) (H.w 10 rfl) (H.w 172 rfl) (by decide) pd_33 (c_mat (pre := []) (cs := ks) (post := ((32 : Int32) :: (anon ++ (32 : Int32) :: cs5))) H rfl rfl lo lk hF S45 c39) (argsL := [(.ref a31), (.int (0 : Int32)), (.ref k)]) (rest := []) rfl rfl rfl sub0 rfl ?_
        rintro _ _ _ - ⟨rfl, rfl⟩
        show Go G B M_law _ h35 (a11 :: []) 35 477 260 #[.val (.int p0), .val (.int p1), .val (.int p2), .val (.int (p0 &&& (3 : Int32))), .val (.int ((XT.ushr p0 (2 : Int32)) &&& (3 : Int32))), .val (.int ((XT.ushr p0 (4 : Int32)) &&& (3 : Int32))), .val (.int ((XT.ushr p0 (Int8.ofInt 6).toInt32) &&& (3 : Int32))), .val (.ref k), .val .null, .val (.ref a4), .val (.ref a31), .val (.ref a34), .val (.int ks.length.toInt32), .val (.int anon.length.toInt32), .val (.int cs5.length.toInt32), .val (.int (((ks.length.toInt32 + (1 : Int32)) + anon.length.toInt32) + ((1 : Int32) + cs5.length.toInt32)))] [(.int (1 : Int32))]
        refine go_ifne K (k := 147) rfl (pc' := 265) (by decide) (fun _ => ?_) (fun q => absurd q (by decide))
        refine go_run K 150 2 (pc' := 269) (st' := [(.int ks.length.toInt32), (.ref a31)]) rfl ?_
        refine go_virt0 K (k := 152) rfl (H.w 176 rfl) (H.w 179 rfl) (H.w 178 rfl) (H.w 1 rfl) (H.w 180 rfl) (by decide) pd_28 S45.exa (c_chaQ (i := ks.length) (c := (32 : Int32)) H lo (by rw [List.getElem?_append_right (Nat.le_refl _), Nat.sub_self]; rfl) hF S45) (argsL := [(.int ks.length.toInt32)]) (rest := []) rfl rfl rfl sub0 rfl ?_
        rintro _ _ _ - ⟨rfl, rfl⟩
        show Go G B M_law _ h35 (a11 :: []) 35 477 272 #[.val (.int p0), .val (.int p1), .val (.int p2), .val (.int (p0 &&& (3 : Int32))), .val (.int ((XT.ushr p0 (2 : Int32)) &&& (3 : Int32))), .val (.int ((XT.ushr p0 (4 : Int32)) &&& (3 : Int32))), .val (.int ((XT.ushr p0 (Int8.ofInt 6).toInt32) &&& (3 : Int32))), .val (.ref k), .val .null, .val (.ref a4), .val (.ref a31), .val (.ref a34), .val (.int ks.length.toInt32), .val (.int anon.length.toInt32), .val (.int cs5.length.toInt32), .val (.int (((ks.length.toInt32 + (1 : Int32)) + anon.length.toInt32) + ((1 : Int32) + cs5.length.toInt32)))] [(.int (32 : Int32))]
        refine go_run K 153 1 (pc' := 274) (st' := [(.int (32 : Int32)), (.int (32 : Int32))]) rfl ?_
        refine go_icmpeq K (k := 154) rfl (pc' := 279) (by decide) (fun _ => ?_) (fun q => absurd rfl q)
        refine go_run K 157 5 (pc' := 287) (st' := [(.ref a34), (.int (ks.length.toInt32 + (1 : Int32))), (.ref a31)]) rfl ?_
        refine go_static K (k := 162) rfl (H.w 170 rfl) (H.w 171 rfl) (H.w 10 rfl) (H.w 172 rfl) (by decide) pd_33 (c_mat (pre := (ks ++ [(32 : Int32)])) (cs := anon) (post := ((32 : Int32) :: cs5)) H (by simp) (by rw [List.length_append]; exact add_len _ 1) lo (by exact ⟨by decide, by decide⟩) hF S45 S37) (argsL := [(.ref a31), (.int (ks.length.toInt32 + (1 : Int32))), (.ref a34)]) (rest := []) rfl rfl rfl sub0 rfl ?_
        rintro _ _ _ - ⟨rfl, rfl⟩
        show Go G B M_law _ h35 (a11 :: []) 35 477 290 #[.val (.int p0), .val (.int p1), .val (.int p2), .val (.int (p0 &&& (3 : Int32))), .val (.int ((XT.ushr p0 (2 : Int32)) &&& (3 : Int32))), .val (.int ((XT.ushr p0 (4 : Int32)) &&& (3 : Int32))), .val (.int ((XT.ushr p0 (Int8.ofInt 6).toInt32) &&& (3 : Int32))), .val (.ref k), .val .null, .val (.ref a4), .val (.ref a31), .val (.ref a34), .val (.int ks.length.toInt32), .val (.int anon.length.toInt32), .val (.int cs5.length.toInt32), .val (.int (((ks.length.toInt32 + (1 : Int32)) + anon.length.toInt32) + ((1 : Int32) + cs5.length.toInt32)))] [(.int (1 : Int32))]
        refine go_ifne K (k := 163) rfl (pc' := 295) (by decide) (fun _ => ?_) (fun q => absurd q (by decide))
        refine go_run K 166 1 (pc' := 297) (st' := [(.int cs5.length.toInt32)]) rfl ?_
        refine go_ifne K (k := 167) rfl (pc' := 302) (by decide) (fun _ => ?_) (fun q => absurd q (fun e => he (List.eq_nil_of_length_eq_zero (len_zero (lat_lt l8) e))))
        refine go_run K 170 6 (pc' := 311) (st' := [(.int ((ks.length.toInt32 + (1 : Int32)) + anon.length.toInt32)), (.ref a31)]) rfl ?_
        rw [show ((ks.length.toInt32 + (1 : Int32)) + anon.length.toInt32) = (ks.length + 1 + anon.length).toInt32 by rw [← add_len, ← add_len] <;> rfl]
        refine go_virt0 K (k := 176) rfl (H.w 176 rfl) (H.w 179 rfl) (H.w 178 rfl) (H.w 1 rfl) (H.w 180 rfl) (by decide) pd_28 S45.exa (c_chaQ (i := (ks.length + 1 + anon.length)) (c := (32 : Int32)) H lo (by rw [List.getElem?_append_right (by omega), show ks.length + 1 + anon.length - ks.length = anon.length + 1 by omega, List.getElem?_cons_succ, List.getElem?_append_right (Nat.le_refl _), Nat.sub_self]; rfl) hF S45) (argsL := [(.int (ks.length + 1 + anon.length).toInt32)]) (rest := []) rfl rfl rfl sub0 rfl ?_
        rintro _ _ _ - ⟨rfl, rfl⟩
        show Go G B M_law _ h35 (a11 :: []) 35 477 314 #[.val (.int p0), .val (.int p1), .val (.int p2), .val (.int (p0 &&& (3 : Int32))), .val (.int ((XT.ushr p0 (2 : Int32)) &&& (3 : Int32))), .val (.int ((XT.ushr p0 (4 : Int32)) &&& (3 : Int32))), .val (.int ((XT.ushr p0 (Int8.ofInt 6).toInt32) &&& (3 : Int32))), .val (.ref k), .val .null, .val (.ref a4), .val (.ref a31), .val (.ref a34), .val (.int ks.length.toInt32), .val (.int anon.length.toInt32), .val (.int cs5.length.toInt32), .val (.int ((ks.length + 1 + anon.length).toInt32 + ((1 : Int32) + cs5.length.toInt32)))] [(.int (32 : Int32))]
        refine go_run K 177 1 (pc' := 316) (st' := [(.int (32 : Int32)), (.int (32 : Int32))]) rfl ?_
        refine go_icmpne K (k := 178) rfl (pc' := 340) (by decide) (fun q => absurd rfl q) (fun _ => ?_)
        refine go_run K 179 7 (pc' := 330) (st' := [(.ref a4), (.int ((ks.length.toInt32 + (2 : Int32)) + anon.length.toInt32)), (.ref a31)]) rfl ?_
        refine go_static K (k := 186) rfl (H.w 170 rfl) (H.w 171 rfl) (H.w 10 rfl) (H.w 172 rfl) (by decide) pd_33 (c_mat (pre := (ks ++ (32 : Int32) :: (anon ++ [(32 : Int32)]))) (cs := cs5) (post := []) H (by simp) (by rw [show ((ks ++ (32 : Int32) :: (anon ++ [(32 : Int32)]))).length = ks.length + 2 + anon.length by simp only [List.length_append, List.length_cons, List.length_nil] <;> omega, ← add_len, ← add_len] <;> rfl) lo l8 hF S45 c40) (argsL := [(.ref a31), (.int ((ks.length.toInt32 + (2 : Int32)) + anon.length.toInt32)), (.ref a4)]) (rest := []) rfl rfl rfl sub0 rfl ?_
        rintro _ _ _ - ⟨rfl, rfl⟩
        show Go G B M_law _ h35 (a11 :: []) 35 477 333 #[.val (.int p0), .val (.int p1), .val (.int p2), .val (.int (p0 &&& (3 : Int32))), .val (.int ((XT.ushr p0 (2 : Int32)) &&& (3 : Int32))), .val (.int ((XT.ushr p0 (4 : Int32)) &&& (3 : Int32))), .val (.int ((XT.ushr p0 (Int8.ofInt 6).toInt32) &&& (3 : Int32))), .val (.ref k), .val .null, .val (.ref a4), .val (.ref a31), .val (.ref a34), .val (.int ks.length.toInt32), .val (.int anon.length.toInt32), .val (.int cs5.length.toInt32), .val (.int ((ks.length + 1 + anon.length).toInt32 + ((1 : Int32) + cs5.length.toInt32)))] [(.int (1 : Int32))]
        refine go_ifeq K (k := 187) rfl (pc' := 340) (by decide) (fun q => absurd q (by decide)) (fun _ => ?_)
        refine go_run K 188 2 (pc' := 341) (st' := [(.int (1 : Int32))]) rfl ?_
        refine go_ireturn K (k := 191) rfl rfl (by decide) rfl rfl rfl ?_
        intro Sf hSf
        exact rfl
      · have he : cs5 = [] := List.eq_nil_of_length_eq_zero (len_zero (lat_lt l8) q42)
        have ho : (dec (ks ++ (32 : Int32) :: anon) cs5) = (ks ++ (32 : Int32) :: anon) := if_pos he
        have c44 := (S33.ext E36)
        have S43 : Str G h35 a31 (ks ++ (32 : Int32) :: anon) := ho ▸ c44
        have lo := lx
        refine go_run K 128 2 (pc' := 232) (st' := [(.int (0 : Int32)), (.int ((ks.length.toInt32 + (1 : Int32)) + anon.length.toInt32))]) rfl ?_
        refine go_run K 133 3 (pc' := 237) (Ls' := #[.val (.int p0), .val (.int p1), .val (.int p2), .val (.int (p0 &&& (3 : Int32))), .val (.int ((XT.ushr p0 (2 : Int32)) &&& (3 : Int32))), .val (.int ((XT.ushr p0 (4 : Int32)) &&& (3 : Int32))), .val (.int ((XT.ushr p0 (Int8.ofInt 6).toInt32) &&& (3 : Int32))), .val (.ref k), .val .null, .val (.ref a4), .val (.ref a31), .val (.ref a34), .val (.int ks.length.toInt32), .val (.int anon.length.toInt32), .val (.int cs5.length.toInt32), .val (.int (((ks.length.toInt32 + (1 : Int32)) + anon.length.toInt32) + (0 : Int32)))]) (st' := [(.ref a31)]) rfl ?_
        refine go_ifnullN K (k := 136) rfl ?_
        refine go_run K 137 1 (pc' := 242) (st' := [(.ref a31)]) rfl ?_
        refine go_virt0 K (k := 138) rfl (H.w 169 rfl) (H.w 79 rfl) (H.w 78 rfl) (H.w 1 rfl) (H.w 80 rfl) (by decide) pd_13 S43.exa (c_len H S43) (argsL := []) (rest := []) rfl rfl rfl sub0 rfl ?_
        rintro _ _ _ - ⟨rfl, rfl⟩
        show Go G B M_law _ h35 (a11 :: []) 35 477 245 #[.val (.int p0), .val (.int p1), .val (.int p2), .val (.int (p0 &&& (3 : Int32))), .val (.int ((XT.ushr p0 (2 : Int32)) &&& (3 : Int32))), .val (.int ((XT.ushr p0 (4 : Int32)) &&& (3 : Int32))), .val (.int ((XT.ushr p0 (Int8.ofInt 6).toInt32) &&& (3 : Int32))), .val (.ref k), .val .null, .val (.ref a4), .val (.ref a31), .val (.ref a34), .val (.int ks.length.toInt32), .val (.int anon.length.toInt32), .val (.int cs5.length.toInt32), .val (.int (((ks.length.toInt32 + (1 : Int32)) + anon.length.toInt32) + (0 : Int32)))] [(.int ((ks ++ (32 : Int32) :: anon)).length.toInt32)]
        refine go_run K 139 1 (pc' := 247) (st' := [(.int (((ks.length.toInt32 + (1 : Int32)) + anon.length.toInt32) + (0 : Int32))), (.int ((ks ++ (32 : Int32) :: anon)).length.toInt32)]) rfl ?_
        refine go_icmpeq K (k := 140) rfl (pc' := 252) (by decide) (fun _ => ?_) (fun q => absurd (by rw [show ((ks ++ (32 : Int32) :: anon)).length = ks.length + 1 + anon.length + 0 by simp only [List.length_append, List.length_cons] <;> omega, ← add_len, ← add_len, ← add_len] <;> rfl) q)
        refine go_run K 143 3 (pc' := 257) (st' := [(.ref k), (.int (0 : Int32)), (.ref a31)]) rfl ?_
        refine go_static K (k := 146) rfl (H.w 170 rfl) (H.w 171 rfl) (H.w 10 rfl) (H.w 172 rfl) (by decide) pd_33 (c_mat (pre := []) (cs := ks) (post := ((32 : Int32) :: anon)) H rfl rfl lo lk hF S43 c39) (argsL := [(.ref a31), (.int (0 : Int32)), (.ref k)]) (rest := []) rfl rfl rfl sub0 rfl ?_
        rintro _ _ _ - ⟨rfl, rfl⟩
        show Go G B M_law _ h35 (a11 :: []) 35 477 260 #[.val (.int p0), .val (.int p1), .val (.int p2), .val (.int (p0 &&& (3 : Int32))), .val (.int ((XT.ushr p0 (2 : Int32)) &&& (3 : Int32))), .val (.int ((XT.ushr p0 (4 : Int32)) &&& (3 : Int32))), .val (.int ((XT.ushr p0 (Int8.ofInt 6).toInt32) &&& (3 : Int32))), .val (.ref k), .val .null, .val (.ref a4), .val (.ref a31), .val (.ref a34), .val (.int ks.length.toInt32), .val (.int anon.length.toInt32), .val (.int cs5.length.toInt32), .val (.int (((ks.length.toInt32 + (1 : Int32)) + anon.length.toInt32) + (0 : Int32)))] [(.int (1 : Int32))]
        refine go_ifne K (k := 147) rfl (pc' := 265) (by decide) (fun _ => ?_) (fun q => absurd q (by decide))
        refine go_run K 150 2 (pc' := 269) (st' := [(.int ks.length.toInt32), (.ref a31)]) rfl ?_
        refine go_virt0 K (k := 152) rfl (H.w 176 rfl) (H.w 179 rfl) (H.w 178 rfl) (H.w 1 rfl) (H.w 180 rfl) (by decide) pd_28 S43.exa (c_chaQ (i := ks.length) (c := (32 : Int32)) H lo (by rw [List.getElem?_append_right (Nat.le_refl _), Nat.sub_self]; rfl) hF S43) (argsL := [(.int ks.length.toInt32)]) (rest := []) rfl rfl rfl sub0 rfl ?_
        rintro _ _ _ - ⟨rfl, rfl⟩
        show Go G B M_law _ h35 (a11 :: []) 35 477 272 #[.val (.int p0), .val (.int p1), .val (.int p2), .val (.int (p0 &&& (3 : Int32))), .val (.int ((XT.ushr p0 (2 : Int32)) &&& (3 : Int32))), .val (.int ((XT.ushr p0 (4 : Int32)) &&& (3 : Int32))), .val (.int ((XT.ushr p0 (Int8.ofInt 6).toInt32) &&& (3 : Int32))), .val (.ref k), .val .null, .val (.ref a4), .val (.ref a31), .val (.ref a34), .val (.int ks.length.toInt32), .val (.int anon.length.toInt32), .val (.int cs5.length.toInt32), .val (.int (((ks.length.toInt32 + (1 : Int32)) + anon.length.toInt32) + (0 : Int32)))] [(.int (32 : Int32))]
        refine go_run K 153 1 (pc' := 274) (st' := [(.int (32 : Int32)), (.int (32 : Int32))]) rfl ?_
        refine go_icmpeq K (k := 154) rfl (pc' := 279) (by decide) (fun _ => ?_) (fun q => absurd rfl q)
        refine go_run K 157 5 (pc' := 287) (st' := [(.ref a34), (.int (ks.length.toInt32 + (1 : Int32))), (.ref a31)]) rfl ?_
        refine go_static K (k := 162) rfl (H.w 170 rfl) (H.w 171 rfl) (H.w 10 rfl) (H.w 172 rfl) (by decide) pd_33 (c_mat (pre := (ks ++ [(32 : Int32)])) (cs := anon) (post := []) H (by simp) (by rw [List.length_append]; exact add_len _ 1) lo (by exact ⟨by decide, by decide⟩) hF S43 S37) (argsL := [(.ref a31), (.int (ks.length.toInt32 + (1 : Int32))), (.ref a34)]) (rest := []) rfl rfl rfl sub0 rfl ?_
        rintro _ _ _ - ⟨rfl, rfl⟩
        show Go G B M_law _ h35 (a11 :: []) 35 477 290 #[.val (.int p0), .val (.int p1), .val (.int p2), .val (.int (p0 &&& (3 : Int32))), .val (.int ((XT.ushr p0 (2 : Int32)) &&& (3 : Int32))), .val (.int ((XT.ushr p0 (4 : Int32)) &&& (3 : Int32))), .val (.int ((XT.ushr p0 (Int8.ofInt 6).toInt32) &&& (3 : Int32))), .val (.ref k), .val .null, .val (.ref a4), .val (.ref a31), .val (.ref a34), .val (.int ks.length.toInt32), .val (.int anon.length.toInt32), .val (.int cs5.length.toInt32), .val (.int (((ks.length.toInt32 + (1 : Int32)) + anon.length.toInt32) + (0 : Int32)))] [(.int (1 : Int32))]
        refine go_ifne K (k := 163) rfl (pc' := 295) (by decide) (fun _ => ?_) (fun q => absurd q (by decide))
        refine go_run K 166 1 (pc' := 297) (st' := [(.int cs5.length.toInt32)]) rfl ?_
        refine go_ifne K (k := 167) rfl (pc' := 302) (by decide) (fun q => absurd (by rw [he]; rfl) q) (fun _ => ?_)
        refine go_run K 168 1 (pc' := 301) (st' := [(.int (1 : Int32))]) rfl ?_
        refine go_ireturn K (k := 169) rfl rfl (by decide) rfl rfl rfl ?_
        intro Sf hSf
        exact rfl
  refine go_ifne K (k := 23) rfl (pc' := 37) (by decide) (fun q97 => ?_) (fun q98 => ?_)
  · refine go_run K 27 2 (pc' := 39) (st' := [(.int (1 : Int32)), (.int (p0 &&& (3 : Int32)))]) rfl ?_
    refine go_icmpne K (k := 29) rfl (pc' := 49) (by decide) (fun q103 => ?_) (fun q104 => ?_)
    · refine go_run K 33 2 (pc' := 51) (st' := [(.int (2 : Int32)), (.int (p0 &&& (3 : Int32)))]) rfl ?_
      refine go_icmpne K (k := 35) rfl (pc' := 61) (by decide) (fun q109 => ?_) (fun q110 => ?_)
      · refine go_run K 39 5 (pc' := 69) (st' := [(.int ((p1 &&& (255 : Int32))).toUInt32.toUInt16.toUInt32.toInt32), (.int ((XT.ushr p0 (2 : Int32)) &&& (3 : Int32)))]) rfl ?_
        refine go_top (i2c_mask p1) ?_
        refine go_run K 44 6 (pc' := 78) (st' := [(.int (((XT.ushr p1 (Int8.ofInt 8).toInt32) &&& (255 : Int32))).toUInt32.toUInt16.toUInt32.toInt32), (.int (p1 &&& (255 : Int32))), (.int ((XT.ushr p0 (2 : Int32)) &&& (3 : Int32)))]) rfl ?_
        refine go_top (i2c_mask (XT.ushr p1 (Int8.ofInt 8).toInt32)) ?_
        refine go_run K 50 6 (pc' := 87) (st' := [(.int (((XT.ushr p2 (Int8.ofInt 24).toInt32) &&& (255 : Int32))).toUInt32.toUInt16.toUInt32.toInt32), (.int ((XT.ushr p1 (Int8.ofInt 8).toInt32) &&& (255 : Int32))), (.int (p1 &&& (255 : Int32))), (.int ((XT.ushr p0 (2 : Int32)) &&& (3 : Int32)))]) rfl ?_
        refine go_top (i2c_mask (XT.ushr p2 (Int8.ofInt 24).toInt32)) ?_
        refine go_static K (k := 56) rfl (H.w 8 rfl) (H.w 9 rfl) (H.w 10 rfl) (H.w 11 rfl) (by decide) pd_30 (c_mk (n := ((XT.ushr p0 (2 : Int32)) &&& (3 : Int32))) H (c8_lat _) (c8_lat _) (c8_lat _)) (argsL := [(.int ((XT.ushr p0 (2 : Int32)) &&& (3 : Int32))), (.int (p1 &&& (255 : Int32))), (.int ((XT.ushr p1 (Int8.ofInt 8).toInt32) &&& (255 : Int32))), (.int ((XT.ushr p2 (Int8.ofInt 24).toInt32) &&& (255 : Int32)))]) (rest := []) rfl rfl rfl sub0 rfl ?_
        rintro _ h115 _ - ⟨a116, cs117, rfl, E118, S119, l120, n121, g122⟩
        show Go G B M_law _ h115 [] 6 15 90 #[.val (.int p0), .val (.int p1), .val (.int p2), .val (.int (p0 &&& (3 : Int32))), .val (.int ((XT.ushr p0 (2 : Int32)) &&& (3 : Int32))), .val (.int ((XT.ushr p0 (4 : Int32)) &&& (3 : Int32))), .val (.int ((XT.ushr p0 (Int8.ofInt 6).toInt32) &&& (3 : Int32))), .unset, .unset, .unset, .unset, .unset, .unset, .unset, .unset, .unset] [(.ref a116)]
        refine go_run K 57 1 (pc' := 92) (Ls' := #[.val (.int p0), .val (.int p1), .val (.int p2), .val (.int (p0 &&& (3 : Int32))), .val (.int ((XT.ushr p0 (2 : Int32)) &&& (3 : Int32))), .val (.int ((XT.ushr p0 (4 : Int32)) &&& (3 : Int32))), .val (.int ((XT.ushr p0 (Int8.ofInt 6).toInt32) &&& (3 : Int32))), .val (.ref a116), .unset, .unset, .unset, .unset, .unset, .unset, .unset, .unset]) (st' := []) rfl ?_
        exact go_mono (J92 _ _ _ S119 l120 (Nat.le_trans n121 (by decide))) (by decide) (by decide)
      · refine go_ldcT K (k := 36) rfl (H.w 214 rfl) H.ws (H.mem (by decide)) (cs := [(101 : Int32), (110 : Int32), (117 : Int32), (109 : Int32)]) (by decide) (by decide) (n := 24) rfl rfl rfl rfl ?_
        intro h112 a111 E113 S114
        refine go_run K 37 2 (pc' := 92) (Ls' := #[.val (.int p0), .val (.int p1), .val (.int p2), .val (.int (p0 &&& (3 : Int32))), .val (.int ((XT.ushr p0 (2 : Int32)) &&& (3 : Int32))), .val (.int ((XT.ushr p0 (4 : Int32)) &&& (3 : Int32))), .val (.int ((XT.ushr p0 (Int8.ofInt 6).toInt32) &&& (3 : Int32))), .val (.ref a111), .unset, .unset, .unset, .unset, .unset, .unset, .unset, .unset]) (st' := []) rfl ?_
        exact go_mono (J92 _ _ _ S114 (by exact ⟨by decide, by decide⟩) (by decide)) (by decide) (by decide)
    · refine go_ldcT K (k := 30) rfl (H.w 198 rfl) H.ws (H.mem (by decide)) (cs := [(117 : Int32), (110 : Int32), (105 : Int32), (111 : Int32), (110 : Int32)]) (by decide) (by decide) (n := 24) rfl rfl rfl rfl ?_
      intro h106 a105 E107 S108
      refine go_run K 31 2 (pc' := 92) (Ls' := #[.val (.int p0), .val (.int p1), .val (.int p2), .val (.int (p0 &&& (3 : Int32))), .val (.int ((XT.ushr p0 (2 : Int32)) &&& (3 : Int32))), .val (.int ((XT.ushr p0 (4 : Int32)) &&& (3 : Int32))), .val (.int ((XT.ushr p0 (Int8.ofInt 6).toInt32) &&& (3 : Int32))), .val (.ref a105), .unset, .unset, .unset, .unset, .unset, .unset, .unset, .unset]) (st' := []) rfl ?_
      exact go_mono (J92 _ _ _ S108 (by exact ⟨by decide, by decide⟩) (by decide)) (by decide) (by decide)
  · refine go_ldcT K (k := 24) rfl (H.w 0 rfl) H.ws (H.mem (by decide)) (cs := [(115 : Int32), (116 : Int32), (114 : Int32), (117 : Int32), (99 : Int32), (116 : Int32)]) (by decide) (by decide) (n := 24) rfl rfl rfl rfl ?_
    intro h100 a99 E101 S102
    refine go_run K 25 2 (pc' := 92) (Ls' := #[.val (.int p0), .val (.int p1), .val (.int p2), .val (.int (p0 &&& (3 : Int32))), .val (.int ((XT.ushr p0 (2 : Int32)) &&& (3 : Int32))), .val (.int ((XT.ushr p0 (4 : Int32)) &&& (3 : Int32))), .val (.int ((XT.ushr p0 (Int8.ofInt 6).toInt32) &&& (3 : Int32))), .val (.ref a99), .unset, .unset, .unset, .unset, .unset, .unset, .unset, .unset]) (st' := []) rfl ?_
    exact go_mono (J92 _ _ _ S102 (by exact ⟨by decide, by decide⟩) (by decide)) (by decide) (by decide)
set_option maxRecDepth 65536 in
set_option maxHeartbeats 40000000 in
theorem comes_1 {Post : Tables → Env → Array Value → State → Outcome → State → Prop} (hpost : ∀ tb e args s v u, (limb_1_1.after args s (.returned v) u = true ∧ limb_1_2.after args s (.returned v) u = true ∧ True) → ReturnedEndW s (.returned v) u (Jvm.fieldLocs frame_1_writes args s ++ Jvm.arrayLocs frame_1_arrays args s ++ Jvm.staticLocs frame_1_statics s) 64 8640 → Post tb e args s (.returned v) u) :
    ArmFor flags0 classFile x code maxLocals ret World_1 tables_1 room_1 Calls_1 rest_1 Pre_1 Post := by
  intro l hfl _ _ p e ha hc hk s m args below hf hA hF happ hP
  obtain ⟨hcalls, hrest, hpre⟩ := hP
  obtain ⟨-, -, -, hnamed, -, -, -, hat⟩ := (Spec.applies_iff hf).mp happ
  obtain ⟨hg, hn⟩ := and_e (Cond.before_iff.mp (show (Jvm.Cond.and given_1 narrow_1).before args s = true from hpre))
  obtain ⟨hcnt, hz0⟩ := and_e hg
  obtain ⟨hi0, hz1⟩ := and_e hz0
  obtain ⟨hi1, hz2⟩ := and_e hz1
  have hi2 := hz2
  obtain ⟨w0, w1, w2, rfl⟩ : ∃ w0 w1 w2 : Value, args = #[w0, w1, w2] := by
    have hs : args.size = 3 := by simpa [Cond.value, given_1] using hcnt
    obtain ⟨L⟩ := args
    match L, hs with
    | [w0, w1, w2], _ => exact ⟨w0, w1, w2, rfl⟩
  have hw := fun d (hd : d ∈ tables_1) => atoms_spec (ws := Jvm.Cond.code x code maxLocals ret :: tables_1) hat d (List.mem_cons_of_mem _ hd)
  obtain ⟨hsets, hown0⟩ := atoms_of _ (rest_1_c_eq ▸ (show rest_1_c.before _ s = true from hrest))
  obtain ⟨i0, e0⟩ := is_v hi0
  obtain rfl : w0 = (.int i0) := Option.some.inj e0
  obtain ⟨i1, e1⟩ := is_v hi1
  obtain rfl : w1 = (.int i1) := Option.some.inj e1
  obtain ⟨i2, e2⟩ := is_v hi2
  obtain rfl : w2 = (.int i2) := Option.some.inj e2
  have nz := not_v (Cond.before_iff.mp (hsets _ (List.mem_of_getElem? (i := 2) rfl)))
  obtain ⟨cz, ecz⟩ := is_v (Cond.before_iff.mp (hsets _ (List.mem_of_getElem? (i := 1) rfl)))
  have Scz : Sta s s.heap "java/lang/String" "COMPACT_STRINGS" "Z" (.int cz) := Sta.start ecz (Or.inl (hsets _ (List.mem_of_getElem? (i := 0) rfl)))
  have hcz : ¬ (cz = (0 : Int32)) := gotF (Cond.eq_ints ecz (Term.int_eval (0))) nz
  have hEW : EW s #[(.int i0), (.int i1), (.int i2)] els := by
    exact (EW.cons (hw _ (List.mem_of_getElem? (i := 212) rfl)) (by decide) (EW.cons (hw _ (List.mem_of_getElem? (i := 114) rfl)) (by decide) (EW.cons (hw _ (List.mem_of_getElem? (i := 215) rfl)) (by decide) (EW.cons (hw _ (List.mem_of_getElem? (i := 0) rfl)) (by decide) (EW.cons (hw _ (List.mem_of_getElem? (i := 198) rfl)) (by decide) (EW.cons (hw _ (List.mem_of_getElem? (i := 214) rfl)) (by decide) (EW.cons (hw _ (List.mem_of_getElem? (i := 242) rfl)) (by decide) (EW.cons (hw _ (List.mem_of_getElem? (i := 24) rfl)) (by decide) EW.nil))))))))
  have hCH : CHv s els s.vm s.heap := CHv.start hEW (fun p hp => hcalls.1 p hp) (hsets _ (List.mem_of_getElem? (i := 2) rfl)) (hw _ (List.mem_of_getElem? (i := 3) rfl)) (hw _ (List.mem_of_getElem? (i := 2) rfl))
  have H : Gl tables_1 els (l, s, #[(.int i0), (.int i1), (.int i2)], els) := ⟨hw, rfl, hEW, fun d hd => hw d ((by decide +kernel : ∀ d ∈ Bundle.stringAtoms, d ∈ tables_1) d hd), cz, Scz, hcz⟩
  obtain ⟨vf0, evf0, hvf0⟩ := isR_v (Cond.before_iff.mp (hsets _ (List.mem_of_getElem? (i := 8) rfl)))
  have hF0 : ∃ vf : Value, Sta s s.heap "jdk/internal/util/Preconditions" "SIOOBE_FORMATTER" "Ljava/util/function/BiFunction;" vf ∧ vf.isRef = true := ⟨vf0, Sta.start evf0 (Or.inl (hsets _ (List.mem_of_getElem? (i := 7) rfl))), hvf0⟩
  obtain ⟨n, o, k1, k2, k3, v, L, rfl, ⟨rfl, N, hext⟩, hC, hq⟩ := law_ok (G := (l, s, #[(.int i0), (.int i1), (.int i2)], els)) H hF0 p e ha hc hk s m _ below hf ((Spec.applies_iff_loose hf).mp happ).1 ⟨rfl, State.Warmed39.refl s, rfl, hCH, Ext.rf _, fun _ q => nomatch q⟩ trivial
  refine ⟨n, _, k1, k2, k3, hpost _ _ _ _ _ _ ⟨Cond.after_iff.mpr rfl, Cond.after_iff.mpr (eq_i res_at (Term.int_eval (1)) rfl), trivial⟩ ?_⟩
  obtain ⟨q1, q2, q3, q4⟩ := hq
  exact ⟨q1, q2, q3, (q4.sift fun y hy => Or.inr (N y hy)).mono (by decide) (by decide)⟩
theorem main_1_1 : Claimed_1_1 := comes_1 fun _ _ _ _ _ _ h hF => ⟨h.1, hF⟩
theorem main_1_2 : Claimed_1_2 := comes_1 fun _ _ _ _ _ _ h hF => ⟨h.2.1, hF⟩
end Jvm.Pilot.@@N@@
namespace Jvm.Pilot.@@N@@
open Jvm Jvm.ClassFile Sem Op Lib Jvm.Free Jvm.Stand Jvm.Pilot.@@N@@.Jvm.D
/-! MADE BY PROGRAM (witnessworld.py) out of the Statement's table words and the real class files: 28 classes; the members and pool entries that the words name. The judged class is class 1, her method 1. -/
namespace start1
open Jvm.ClassFile
def u (s : String) : CpInfo := .utf8 (stringToUtf16 s)
/-- a pool by its gaps: so many unusable entries, then the entry; so many at the end -/
def gap : Nat → List CpInfo → List CpInfo
  | 0, r => r
  | n + 1, r => .unusable :: gap n r
def poolList (es : List (Nat × CpInfo)) (last : Nat) : List CpInfo := es.foldr (fun e r => gap e.1 (e.2 :: r)) (gap last [])
def pool (es : List (Nat × CpInfo)) (last : Nat) : Array CpInfo := ⟨poolList es last⟩
def fileOf (pool : Array CpInfo) (this : Nat) (attrs : Array Attribute := #[]) (ms : Array MethodInfo := #[]) (fl : Nat := 33) (sup : Nat := 0) (ifs : Array Nat := #[]) (fds : Array FieldInfo := #[]) : ClassFile where
  minorVersion := 0
  majorVersion := 65
  constantPool := pool
  accessFlags := fl
  thisClass := this
  superClass := sup
  interfaces := ifs
  fields := fds
  methods := ms
  attributes := attrs
def plain (name : String) (sup : Option ClassId) : Class where
  name := name
  kind := .ordinary
  loader := none
  accessFlags := 33
  super := sup
  interfaces := #[]
  cf := none
  fields := #[]
  methods := #[]
  instanceTypes := #[]
  staticTypes := #[]
  resolved := #[]
  callSites := []
  init := .initialized
  statics := none
  mirror := none

def pool0 : Array CpInfo := pool [(5, u "<init>"), (0, u "()V"), (1, .class_ 10), (1, u "java/lang/Object"), (85, u "clone"), (0, u "()Ljava/lang/Object;")] 26

def k0c0 : Code := { maxStack := 0, maxLocals := 1, code := object_method_1_code, exceptionTable := #[], attributes := #[] }
def k0m0 : Method := { name := "<init>", desc := "()V", sig := { parameters := [], returnType := none }, accessFlags := 1, code := some k0c0 }
def k0m1 : Method := { name := "clone", desc := "()Ljava/lang/Object;", sig := { parameters := [], returnType := some (.object "java/lang/Object") }, accessFlags := 260, code := none }
/-- java/lang/Object -/
def k0 : Class := { plain "java/lang/Object" none with
  accessFlags := 33
  interfaces := #[]
  cf := some (fileOf pool0 8 #[] #[{ accessFlags := 1, nameIndex := 5, descriptorIndex := 6, attributes := #[] }, { accessFlags := 260, nameIndex := 96, descriptorIndex := 97, attributes := #[] }] 33 0 #[] #[])
  fields := #[]
  methods := #[k0m0, k0m1]
  instanceTypes := #[]
  staticTypes := #[]
  resolved := Array.replicate 124 none
  statics := none }

def pool1 : Array CpInfo := pool [(2, .class_ 4), (1, u "java/lang/Object"), (0, u "<init>"), (0, u "()V"), (0, .string 8), (0, u "struct"), (0, .string 10), (0, u "union"), (0, .string 12), (0, u "enum"), (0, .methodref 14 15), (0, .class_ 16), (0, .nameAndType 17 18), (0, u "com/example/penelope/penelope/frontend/TaggedSpellingPinLaw"), (0, u "mk"), (0, u "(ICCC)Ljava/lang/String;"), (0, .class_ 20), (0, u "com/example/penelope/penelope/frontend/CType$Tagged"), (0, .methodref 19 22), (0, .nameAndType 5 23), (0, u "(Ljava/lang/String;Ljava/lang/String;)V"), (0, .methodref 19 25), (0, .nameAndType 26 27), (0, u "spelling"), (0, u "(Ljava/lang/String;)Ljava/lang/String;"), (0, .string 29), (0, u "<anonymous>"), (0, .methodref 31 32), (0, .class_ 33), (0, .nameAndType 34 35), (0, u "java/lang/String"), (0, u "length"), (0, u "()I"), (0, .methodref 14 37), (0, .nameAndType 38 39), (0, u "match"), (0, u "(Ljava/lang/String;ILjava/lang/String;)Z"), (0, .methodref 31 41), (0, .nameAndType 42 43), (0, u "charAt"), (0, u "(I)C"), (0, .methodref 31 45), (0, .nameAndType 5 46), (0, u "([C)V"), (0, .methodref 14 48), (0, .nameAndType 49 50), (0, u "eqAt"), (0, u "(Ljava/lang/String;ILjava/lang/String;I)Z"), (2, u "law"), (0, u "(III)Z")] 7

def k1m0 : Method := { name := "<init>", desc := "()V", sig := { parameters := [], returnType := none }, accessFlags := 1, code := none }
def k1c1 : Code := { maxStack := 5, maxLocals := 16, code := code, exceptionTable := #[], attributes := #[] }
def k1m1 : Method := { name := "law", desc := "(III)Z", sig := { parameters := [.int, .int, .int], returnType := some .boolean }, accessFlags := 9, code := some k1c1 }
def k1c2 : Code := { maxStack := 6, maxLocals := 4, code := method_3_code, exceptionTable := #[], attributes := #[] }
def k1m2 : Method := { name := "mk", desc := "(ICCC)Ljava/lang/String;", sig := { parameters := [.int, .char, .char, .char], returnType := some (.object "java/lang/String") }, accessFlags := 10, code := some k1c2 }
def k1c3 : Code := { maxStack := 3, maxLocals := 4, code := method_4_code, exceptionTable := #[], attributes := #[] }
def k1m3 : Method := { name := "eqAt", desc := "(Ljava/lang/String;ILjava/lang/String;I)Z", sig := { parameters := [(.object "java/lang/String"), .int, (.object "java/lang/String"), .int], returnType := some .boolean }, accessFlags := 10, code := some k1c3 }
def k1c4 : Code := { maxStack := 4, maxLocals := 3, code := method_5_code, exceptionTable := #[], attributes := #[] }
def k1m4 : Method := { name := "match", desc := "(Ljava/lang/String;ILjava/lang/String;)Z", sig := { parameters := [(.object "java/lang/String"), .int, (.object "java/lang/String")], returnType := some .boolean }, accessFlags := 10, code := some k1c4 }
/-- com/example/penelope/penelope/frontend/TaggedSpellingPinLaw -/
def k1 : Class := { plain "com/example/penelope/penelope/frontend/TaggedSpellingPinLaw" (some 0) with
  accessFlags := 49
  interfaces := #[]
  cf := some (fileOf pool1 14 #[] #[{ accessFlags := 1, nameIndex := 5, descriptorIndex := 6, attributes := #[] }, { accessFlags := 9, nameIndex := 53, descriptorIndex := 54, attributes := #[] }, { accessFlags := 10, nameIndex := 17, descriptorIndex := 18, attributes := #[] }, { accessFlags := 10, nameIndex := 49, descriptorIndex := 50, attributes := #[] }, { accessFlags := 10, nameIndex := 38, descriptorIndex := 39, attributes := #[] }] 49 2 #[] #[])
  fields := #[]
  methods := #[k1m0, k1m1, k1m2, k1m3, k1m4]
  instanceTypes := #[]
  staticTypes := #[]
  resolved := Array.replicate 62 none
  statics := none }

def pool2 : Array CpInfo := pool [(1, .class_ 2), (0, u "java/io/Serializable"), (0, .class_ 4), (0, u "java/lang/Object")] 2

/-- java/io/Serializable -/
def k2 : Class := { plain "java/io/Serializable" (some 0) with
  accessFlags := 1537
  interfaces := #[]
  cf := some (fileOf pool2 1 #[] #[] 1537 3 #[] #[])
  fields := #[]
  methods := #[]
  instanceTypes := #[]
  staticTypes := #[]
  resolved := Array.replicate 7 none
  statics := none }

def pool3 : Array CpInfo := pool [(1, .class_ 2), (0, u "java/lang/Comparable"), (0, .class_ 4), (0, u "java/lang/Object")] 7

/-- java/lang/Comparable -/
def k3 : Class := { plain "java/lang/Comparable" (some 0) with
  accessFlags := 1537
  interfaces := #[]
  cf := some (fileOf pool3 1 #[] #[] 1537 3 #[] #[])
  fields := #[]
  methods := #[]
  instanceTypes := #[]
  staticTypes := #[]
  resolved := Array.replicate 12 none
  statics := none }

def pool4 : Array CpInfo := pool [(2, .class_ 4), (1, u "java/lang/CharSequence"), (42, .class_ 48), (0, u "java/lang/CharSequence$1CodePointIterator"), (10, .class_ 60), (0, u "java/lang/CharSequence$1CharIterator"), (5, .class_ 67), (0, u "java/lang/Object")] 63

/-- java/lang/CharSequence -/
def k4 : Class := { plain "java/lang/CharSequence" (some 0) with
  accessFlags := 1537
  interfaces := #[]
  cf := some (fileOf pool4 2 #[.nestMembers #[47, 59]] #[] 1537 66 #[] #[])
  fields := #[]
  methods := #[]
  instanceTypes := #[]
  staticTypes := #[]
  resolved := Array.replicate 131 none
  statics := none }

def pool5 : Array CpInfo := pool [(1, .class_ 2), (0, u "java/lang/constant/Constable"), (0, .class_ 4), (0, u "java/lang/Object")] 6

/-- java/lang/constant/Constable -/
def k5 : Class := { plain "java/lang/constant/Constable" (some 0) with
  accessFlags := 1537
  interfaces := #[]
  cf := some (fileOf pool5 1 #[] #[] 1537 3 #[] #[])
  fields := #[]
  methods := #[]
  instanceTypes := #[]
  staticTypes := #[]
  resolved := Array.replicate 11 none
  statics := none }

def pool6 : Array CpInfo := pool [(1, .class_ 2), (0, u "java/lang/constant/ConstantDesc"), (0, .class_ 4), (0, u "java/lang/Object")] 32

/-- java/lang/constant/ConstantDesc -/
def k6 : Class := { plain "java/lang/constant/ConstantDesc" (some 0) with
  accessFlags := 1537
  interfaces := #[]
  cf := some (fileOf pool6 1 #[] #[] 1537 3 #[] #[])
  fields := #[]
  methods := #[]
  instanceTypes := #[]
  staticTypes := #[]
  resolved := Array.replicate 37 none
  statics := none }

def pool7 : Array CpInfo := pool [(1, .methodref 2 3), (0, .class_ 4), (0, .nameAndType 5 6), (0, u "java/lang/Object"), (0, u "<init>"), (0, u "()V"), (0, .string 8), (0, u ""), (0, .fieldref 10 11), (0, .class_ 12), (0, .nameAndType 13 14), (0, u "java/lang/String"), (0, u "value"), (0, u "[B"), (0, .fieldref 10 16), (0, .nameAndType 17 18), (0, u "coder"), (0, u "B"), (2, u "hash"), (0, u "I"), (2, u "hashIsZero"), (0, u "Z"), (0, .methodref 10 28), (0, .nameAndType 5 29), (0, u "([CIILjava/lang/Void;)V"), (8, .fieldref 10 39), (0, .nameAndType 40 26), (0, u "COMPACT_STRINGS"), (1, .class_ 44), (1, u "java/lang/StringUTF16"), (0, u "compress"), (1, .methodref 42 48), (0, .nameAndType 49 50), (0, u "coderFromArrayLen"), (0, u "([BI)B"), (3, .methodref 55 56), (0, .class_ 57), (0, .nameAndType 58 59), (0, u "java/util/Arrays"), (0, u "copyOfRange"), (0, u "([BII)[B"), (47, .class_ 109), (1, u "java/lang/StringLatin1"), (32, u "()Z"), (34, .methodref 42 178), (0, .nameAndType 45 179), (0, u "([CII)[B"), (13, .class_ 195), (1, u "java/lang/System"), (16, .methodref 193 213), (0, .nameAndType 214 215), (0, u "arraycopy"), (0, u "(Ljava/lang/Object;ILjava/lang/Object;II)V"), (118, u "()I"), (0, .methodref 10 336), (0, .nameAndType 17 337), (0, u "()B"), (2, u "()[B"), (22, u "([BI)C"), (27, u "(II)V"), (35, u "(I)C"), (61, .methodref 10 490), (0, .nameAndType 5 491), (0, u "(Ljava/lang/AbstractStringBuilder;Ljava/lang/Void;)V"), (0, .methodref 10 493), (0, .nameAndType 494 142), (0, u "isLatin1"), (0, .methodref 107 496), (0, .nameAndType 497 363), (0, u "charAt"), (3, u "checkIndex"), (4, .nameAndType 507 334), (0, u "length"), (24, u "getBytes"), (16, .methodref 550 506), (0, .class_ 551), (0, u "java/lang/AbstractStringBuilder"), (0, .methodref 550 553), (0, .nameAndType 554 340), (0, u "getValue"), (20, .class_ 576), (0, u "java/lang/CharSequence"), (22, u "CASE_INSENSITIVE_ORDER"), (0, u "Ljava/util/Comparator;"), (91, u "isEmpty"), (128, u "([BIB)V"), (188, u "([C)V"), (36, .methodref 550 493), (5, .fieldref 1054 1055), (0, .class_ 1056), (0, .nameAndType 1057 1058), (0, u "jdk/internal/util/Preconditions"), (0, u "SIOOBE_FORMATTER"), (0, u "Ljava/util/function/BiFunction;"), (0, .methodref 1054 1060), (0, .nameAndType 501 1061), (0, u "(IILjava/util/function/BiFunction;)I"), (39, u "serialPersistentFields"), (0, u "[Ljava/io/ObjectStreamField;"), (0, .class_ 1104), (0, u "java/lang/String$CaseInsensitiveComparator"), (1, .class_ 1107), (0, u "java/io/Serializable"), (0, .class_ 1109), (0, u "java/lang/Comparable"), (0, .class_ 1111), (0, u "java/lang/constant/Constable"), (0, .class_ 1113), (0, u "java/lang/constant/ConstantDesc"), (2, u "serialVersionUID"), (0, u "J"), (3, u "REPL"), (0, u "C"), (2, u "LATIN1"), (1, u "UTF16"), (105, u "(Ljava/lang/StringBuilder;)V")] 217

def k7m0 : Method := { name := "<init>", desc := "()V", sig := { parameters := [], returnType := none }, accessFlags := 1, code := none }
def k7c1 : Code := { maxStack := 5, maxLocals := 2, code := jdk_42_method_3_code, exceptionTable := #[], attributes := #[] }
def k7m1 : Method := { name := "<init>", desc := "([C)V", sig := { parameters := [(.array .char)], returnType := none }, accessFlags := 1, code := some k7c1 }
def k7c2 : Code := { maxStack := 3, maxLocals := 2, code := jdk_42_method_53_code, exceptionTable := #[], attributes := #[] }
def k7m2 : Method := { name := "<init>", desc := "(Ljava/lang/StringBuilder;)V", sig := { parameters := [(.object "java/lang/StringBuilder")], returnType := none }, accessFlags := 1, code := some k7c2 }
def k7c3 : Code := { maxStack := 2, maxLocals := 1, code := jdk_42_method_54_code, exceptionTable := #[], attributes := #[] }
def k7m3 : Method := { name := "length", desc := "()I", sig := { parameters := [], returnType := some .int }, accessFlags := 1, code := some k7c3 }
def k7c4 : Code := { maxStack := 1, maxLocals := 1, code := jdk_42_method_55_code, exceptionTable := #[], attributes := #[] }
def k7m4 : Method := { name := "isEmpty", desc := "()Z", sig := { parameters := [], returnType := some .boolean }, accessFlags := 1, code := some k7c4 }
def k7c5 : Code := { maxStack := 2, maxLocals := 2, code := jdk_42_method_56_code, exceptionTable := #[], attributes := #[] }
def k7m5 : Method := { name := "charAt", desc := "(I)C", sig := { parameters := [.int], returnType := some .char }, accessFlags := 1, code := some k7c5 }
def k7c6 : Code := { maxStack := 5, maxLocals := 4, code := jdk_42_method_147_code, exceptionTable := #[], attributes := #[] }
def k7m6 : Method := { name := "getBytes", desc := "([BIB)V", sig := { parameters := [(.array .byte), .int, .byte], returnType := none }, accessFlags := 0, code := some k7c6 }
def k7c7 : Code := { maxStack := 4, maxLocals := 6, code := jdk_42_method_149_code, exceptionTable := #[], attributes := #[] }
def k7m7 : Method := { name := "<init>", desc := "([CIILjava/lang/Void;)V", sig := { parameters := [(.array .char), .int, .int, (.object "java/lang/Void")], returnType := none }, accessFlags := 2, code := some k7c7 }
def k7c8 : Code := { maxStack := 5, maxLocals := 5, code := jdk_42_method_150_code, exceptionTable := #[], attributes := #[] }
def k7m8 : Method := { name := "<init>", desc := "(Ljava/lang/AbstractStringBuilder;Ljava/lang/Void;)V", sig := { parameters := [(.object "java/lang/AbstractStringBuilder"), (.object "java/lang/Void")], returnType := none }, accessFlags := 0, code := some k7c8 }
def k7c9 : Code := { maxStack := 1, maxLocals := 1, code := jdk_42_method_152_code, exceptionTable := #[], attributes := #[] }
def k7m9 : Method := { name := "coder", desc := "()B", sig := { parameters := [], returnType := some .byte }, accessFlags := 0, code := some k7c9 }
def k7c10 : Code := { maxStack := 1, maxLocals := 1, code := jdk_42_method_154_code, exceptionTable := #[], attributes := #[] }
def k7m10 : Method := { name := "isLatin1", desc := "()Z", sig := { parameters := [], returnType := some .boolean }, accessFlags := 0, code := some k7c10 }
def k7c11 : Code := { maxStack := 3, maxLocals := 2, code := jdk_42_method_155_code, exceptionTable := #[], attributes := #[] }
def k7m11 : Method := { name := "checkIndex", desc := "(II)V", sig := { parameters := [.int, .int], returnType := none }, accessFlags := 8, code := some k7c11 }
/-- java/lang/String -/
def k7 : Class := { plain "java/lang/String" (some 0) with
  accessFlags := 49
  interfaces := #[2, 3, 4, 5, 6]
  cf := some (fileOf pool7 10 #[.nestMembers #[1103]] #[{ accessFlags := 1, nameIndex := 5, descriptorIndex := 6, attributes := #[] }, { accessFlags := 1, nameIndex := 5, descriptorIndex := 1010, attributes := #[] }, { accessFlags := 1, nameIndex := 5, descriptorIndex := 1233, attributes := #[] }, { accessFlags := 1, nameIndex := 507, descriptorIndex := 334, attributes := #[] }, { accessFlags := 1, nameIndex := 692, descriptorIndex := 142, attributes := #[] }, { accessFlags := 1, nameIndex := 497, descriptorIndex := 427, attributes := #[] }, { accessFlags := 0, nameIndex := 532, descriptorIndex := 821, attributes := #[] }, { accessFlags := 2, nameIndex := 5, descriptorIndex := 29, attributes := #[] }, { accessFlags := 0, nameIndex := 5, descriptorIndex := 491, attributes := #[] }, { accessFlags := 0, nameIndex := 17, descriptorIndex := 337, attributes := #[] }, { accessFlags := 0, nameIndex := 494, descriptorIndex := 142, attributes := #[] }, { accessFlags := 8, nameIndex := 501, descriptorIndex := 391, attributes := #[] }] 49 2 #[1106, 1108, 575, 1110, 1112] #[{ accessFlags := 18, nameIndex := 13, descriptorIndex := 14, attributes := #[] }, { accessFlags := 18, nameIndex := 17, descriptorIndex := 18, attributes := #[] }, { accessFlags := 2, nameIndex := 21, descriptorIndex := 22, attributes := #[] }, { accessFlags := 2, nameIndex := 25, descriptorIndex := 26, attributes := #[] }, { accessFlags := 26, nameIndex := 1116, descriptorIndex := 1117, attributes := #[] }, { accessFlags := 24, nameIndex := 40, descriptorIndex := 26, attributes := #[] }, { accessFlags := 26, nameIndex := 1101, descriptorIndex := 1102, attributes := #[] }, { accessFlags := 26, nameIndex := 1121, descriptorIndex := 1122, attributes := #[] }, { accessFlags := 25, nameIndex := 599, descriptorIndex := 600, attributes := #[] }, { accessFlags := 24, nameIndex := 1125, descriptorIndex := 18, attributes := #[] }, { accessFlags := 24, nameIndex := 1127, descriptorIndex := 18, attributes := #[] }])
  fields := #[{ name := "value", type := (.array .byte), accessFlags := 18, slot := 0, constantValue := 0 }, { name := "coder", type := .byte, accessFlags := 18, slot := 1, constantValue := 0 }, { name := "hash", type := .int, accessFlags := 2, slot := 2, constantValue := 0 }, { name := "hashIsZero", type := .boolean, accessFlags := 2, slot := 3, constantValue := 0 }, { name := "serialVersionUID", type := .long, accessFlags := 26, slot := 0, constantValue := 0 }, { name := "COMPACT_STRINGS", type := .boolean, accessFlags := 24, slot := 1, constantValue := 0 }, { name := "serialPersistentFields", type := (.array (.object "java/io/ObjectStreamField")), accessFlags := 26, slot := 2, constantValue := 0 }, { name := "REPL", type := .char, accessFlags := 26, slot := 3, constantValue := 0 }, { name := "CASE_INSENSITIVE_ORDER", type := (.object "java/util/Comparator"), accessFlags := 25, slot := 4, constantValue := 0 }, { name := "LATIN1", type := .byte, accessFlags := 24, slot := 5, constantValue := 0 }, { name := "UTF16", type := .byte, accessFlags := 24, slot := 6, constantValue := 0 }]
  methods := #[k7m0, k7m1, k7m2, k7m3, k7m4, k7m5, k7m6, k7m7, k7m8, k7m9, k7m10, k7m11]
  instanceTypes := #[(.array .byte), .byte, .int, .boolean]
  staticTypes := #[.long, .boolean, (.array (.object "java/io/ObjectStreamField")), .char, (.object "java/util/Comparator"), .byte, .byte]
  resolved := Array.replicate 1451 none
  statics := some 0 }

def pool8 : Array CpInfo := pool [(1, .methodref 2 3), (0, .class_ 4), (0, .nameAndType 5 6), (0, u "java/lang/Object"), (0, u "<init>"), (0, u "()V"), (0, .class_ 8), (0, u "java/lang/Record")] 13

def k8c0 : Code := { maxStack := 1, maxLocals := 1, code := jdk_30_method_1_code, exceptionTable := #[], attributes := #[] }
def k8m0 : Method := { name := "<init>", desc := "()V", sig := { parameters := [], returnType := none }, accessFlags := 4, code := some k8c0 }
/-- java/lang/Record -/
def k8 : Class := { plain "java/lang/Record" (some 0) with
  accessFlags := 1057
  interfaces := #[]
  cf := some (fileOf pool8 7 #[] #[{ accessFlags := 4, nameIndex := 5, descriptorIndex := 6, attributes := #[] }] 1057 2 #[] #[])
  fields := #[]
  methods := #[k8m0]
  instanceTypes := #[]
  staticTypes := #[]
  resolved := Array.replicate 22 none
  statics := none }

def pool9 : Array CpInfo := pool [(10, .class_ 12), (1, u "com/example/penelope/penelope/frontend/CType"), (2, .methodref 16 17), (0, .class_ 18), (0, .nameAndType 19 20), (0, u "java/lang/String"), (0, u "isEmpty"), (0, u "()Z"), (0, .class_ 22), (0, u "java/lang/StringBuilder"), (0, .methodref 21 24), (0, .nameAndType 25 26), (0, u "<init>"), (0, u "()V"), (0, .methodref 21 28), (0, .nameAndType 29 30), (0, u "append"), (0, u "(Ljava/lang/String;)Ljava/lang/StringBuilder;"), (0, .string 32), (0, u " "), (0, .methodref 21 34), (0, .nameAndType 35 36), (0, u "toString"), (0, u "()Ljava/lang/String;"), (0, .class_ 38), (0, u "java/lang/Object"), (6, u "declaring"), (0, u "(Ljava/lang/String;Ljava/lang/String;)Ljava/lang/String;"), (4, .class_ 52), (0, u "com/example/penelope/penelope/frontend/CType$Function"), (0, .class_ 54), (0, u "com/example/penelope/penelope/frontend/CType$Array"), (0, .class_ 56), (0, u "com/example/penelope/penelope/frontend/CType$Attributed"), (0, .class_ 58), (0, u "com/example/penelope/penelope/frontend/CType$Pointer"), (0, .class_ 60), (0, u "com/example/penelope/penelope/frontend/CType$Tagged"), (0, .class_ 62), (0, u "com/example/penelope/penelope/frontend/CType$Basic")] 8

def k9c0 : Code := { maxStack := 2, maxLocals := 2, code := prog_51_method_5_code, exceptionTable := #[], attributes := #[] }
def k9m0 : Method := { name := "declaring", desc := "(Ljava/lang/String;Ljava/lang/String;)Ljava/lang/String;", sig := { parameters := [(.object "java/lang/String"), (.object "java/lang/String")], returnType := some (.object "java/lang/String") }, accessFlags := 10, code := some k9c0 }
/-- com/example/penelope/penelope/frontend/CType -/
def k9 : Class := { plain "com/example/penelope/penelope/frontend/CType" (some 0) with
  accessFlags := 1536
  interfaces := #[]
  cf := some (fileOf pool9 10 #[.nestMembers #[51, 53, 55, 57, 59, 61]] #[{ accessFlags := 10, nameIndex := 45, descriptorIndex := 46, attributes := #[] }] 1536 37 #[] #[])
  fields := #[]
  methods := #[k9m0]
  instanceTypes := #[]
  staticTypes := #[]
  resolved := Array.replicate 71 none
  statics := none }

def pool10 : Array CpInfo := pool [(1, .methodref 2 3), (0, .class_ 4), (0, .nameAndType 5 6), (0, u "java/lang/Record"), (0, u "<init>"), (0, u "()V"), (0, .fieldref 8 9), (0, .class_ 10), (0, .nameAndType 11 12), (0, u "com/example/penelope/penelope/frontend/CType$Tagged"), (0, u "keyword"), (0, u "Ljava/lang/String;"), (0, .fieldref 8 14), (0, .nameAndType 15 12), (0, u "tag"), (0, .class_ 17), (0, u "java/lang/StringBuilder"), (0, .methodref 16 3), (0, .methodref 16 20), (0, .nameAndType 21 22), (0, u "append"), (0, u "(Ljava/lang/String;)Ljava/lang/StringBuilder;"), (0, .string 24), (0, u " "), (0, .string 26), (0, u "<anonymous>"), (0, .methodref 16 28), (0, .nameAndType 29 30), (0, u "toString"), (0, u "()Ljava/lang/String;"), (0, .interfaceMethodref 32 33), (0, .class_ 34), (0, .nameAndType 35 36), (0, u "com/example/penelope/penelope/frontend/CType"), (0, u "declaring"), (0, u "(Ljava/lang/String;Ljava/lang/String;)Ljava/lang/String;"), (11, u "(Ljava/lang/String;Ljava/lang/String;)V"), (3, u "spelling"), (0, u "(Ljava/lang/String;)Ljava/lang/String;")] 28

def k10c0 : Code := { maxStack := 2, maxLocals := 3, code := prog_57_method_1_code, exceptionTable := #[], attributes := #[] }
def k10m0 : Method := { name := "<init>", desc := "(Ljava/lang/String;Ljava/lang/String;)V", sig := { parameters := [(.object "java/lang/String"), (.object "java/lang/String")], returnType := none }, accessFlags := 1, code := some k10c0 }
def k10c1 : Code := { maxStack := 2, maxLocals := 2, code := prog_57_method_2_code, exceptionTable := #[], attributes := #[] }
def k10m1 : Method := { name := "spelling", desc := "(Ljava/lang/String;)Ljava/lang/String;", sig := { parameters := [(.object "java/lang/String")], returnType := some (.object "java/lang/String") }, accessFlags := 1, code := some k10c1 }
/-- com/example/penelope/penelope/frontend/CType$Tagged -/
def k10 : Class := { plain "com/example/penelope/penelope/frontend/CType$Tagged" (some 8) with
  accessFlags := 49
  interfaces := #[9]
  cf := some (fileOf pool10 8 #[.nestHost 32] #[{ accessFlags := 1, nameIndex := 5, descriptorIndex := 48, attributes := #[] }, { accessFlags := 1, nameIndex := 52, descriptorIndex := 53, attributes := #[] }] 49 2 #[32] #[{ accessFlags := 18, nameIndex := 11, descriptorIndex := 12, attributes := #[] }, { accessFlags := 18, nameIndex := 15, descriptorIndex := 12, attributes := #[] }])
  fields := #[{ name := "keyword", type := (.object "java/lang/String"), accessFlags := 18, slot := 0, constantValue := 0 }, { name := "tag", type := (.object "java/lang/String"), accessFlags := 18, slot := 1, constantValue := 0 }]
  methods := #[k10m0, k10m1]
  instanceTypes := #[(.object "java/lang/String"), (.object "java/lang/String")]
  staticTypes := #[]
  resolved := Array.replicate 82 none
  statics := none }

def pool11 : Array CpInfo := pool [(1, .class_ 2), (0, u "java/lang/Appendable"), (0, .class_ 4), (0, u "java/lang/Object")] 9

/-- java/lang/Appendable -/
def k11 : Class := { plain "java/lang/Appendable" (some 0) with
  accessFlags := 1537
  interfaces := #[]
  cf := some (fileOf pool11 1 #[] #[] 1537 3 #[] #[])
  fields := #[]
  methods := #[]
  instanceTypes := #[]
  staticTypes := #[]
  resolved := Array.replicate 14 none
  statics := none }

def pool12 : Array CpInfo := pool [(1, .class_ 2), (0, u "java/lang/String"), (0, .methodref 4 5), (0, .class_ 6), (0, .nameAndType 7 8), (0, u "java/lang/Object"), (0, u "<init>"), (0, u "()V"), (1, .class_ 12), (1, u "java/lang/AbstractStringBuilder"), (0, u "EMPTYVALUE"), (0, u "[B"), (0, .fieldref 10 16), (0, .nameAndType 17 14), (0, u "value"), (0, .fieldref 1 19), (0, .nameAndType 20 21), (0, u "COMPACT_STRINGS"), (0, u "Z"), (0, .fieldref 10 23), (0, .nameAndType 24 25), (0, u "coder"), (0, u "B"), (6, .methodref 1 33), (0, .nameAndType 34 35), (0, u "length"), (0, u "()I"), (3, .integer 2147483647), (0, .methodref 1 41), (0, .nameAndType 24 42), (0, u "()B"), (2, u "append"), (0, u "(Ljava/lang/String;)Ljava/lang/AbstractStringBuilder;"), (1, .class_ 49), (0, u "java/lang/CharSequence"), (19, u "(Ljava/lang/String;)V"), (5, u "maybeLatin1"), (3, .fieldref 10 80), (0, .nameAndType 81 82), (0, u "count"), (0, u "I"), (2, u "isLatin1"), (0, u "()Z"), (13, .methodref 10 101), (0, .nameAndType 102 103), (0, u "ensureCapacityInternal"), (0, u "(I)V"), (0, .methodref 10 105), (0, .nameAndType 106 107), (0, u "newCapacity"), (0, u "(I)I"), (0, .methodref 109 110), (0, .class_ 111), (0, .nameAndType 112 113), (0, u "java/util/Arrays"), (0, u "copyOf"), (0, u "([BI)[B"), (0, .methodref 115 116), (0, .class_ 117), (0, .nameAndType 118 119), (0, u "jdk/internal/util/ArraysSupport"), (0, u "newLength"), (0, u "(III)I"), (88, .methodref 10 209), (0, .nameAndType 210 211), (0, u "putStringAt"), (0, u "(ILjava/lang/String;)V"), (5, u "inflateIfNeededFor"), (2, .nameAndType 221 222), (0, u "getBytes"), (0, u "([BIB)V"), (174, .methodref 10 398), (0, .nameAndType 217 69), (0, .methodref 1 220), (3, u "()[B"), (40, .class_ 445), (0, u "java/lang/Appendable"), (106, u "getValue")] 56

def k12m0 : Method := { name := "<init>", desc := "()V", sig := { parameters := [], returnType := none }, accessFlags := 0, code := none }
def k12c1 : Code := { maxStack := 2, maxLocals := 2, code := jdk_68_method_2_code, exceptionTable := #[], attributes := #[] }
def k12m1 : Method := { name := "<init>", desc := "(I)V", sig := { parameters := [.int], returnType := none }, accessFlags := 0, code := some k12c1 }
def k12c2 : Code := { maxStack := 1, maxLocals := 1, code := jdk_68_method_6_code, exceptionTable := #[], attributes := #[] }
def k12m2 : Method := { name := "length", desc := "()I", sig := { parameters := [], returnType := some .int }, accessFlags := 1, code := some k12c2 }
def k12c3 : Code := { maxStack := 4, maxLocals := 3, code := jdk_68_method_9_code, exceptionTable := #[], attributes := #[] }
def k12m3 : Method := { name := "ensureCapacityInternal", desc := "(I)V", sig := { parameters := [.int], returnType := none }, accessFlags := 2, code := some k12c3 }
def k12c4 : Code := { maxStack := 5, maxLocals := 6, code := jdk_68_method_10_code, exceptionTable := #[], attributes := #[] }
def k12m4 : Method := { name := "newCapacity", desc := "(I)I", sig := { parameters := [.int], returnType := some .int }, accessFlags := 2, code := some k12c4 }
def k12c5 : Code := { maxStack := 3, maxLocals := 3, code := jdk_68_method_22_code, exceptionTable := #[], attributes := #[] }
def k12m5 : Method := { name := "append", desc := "(Ljava/lang/String;)Ljava/lang/AbstractStringBuilder;", sig := { parameters := [(.object "java/lang/String")], returnType := some (.object "java/lang/AbstractStringBuilder") }, accessFlags := 1, code := some k12c5 }
def k12c6 : Code := { maxStack := 1, maxLocals := 1, code := jdk_68_method_64_code, exceptionTable := #[], attributes := #[] }
def k12m6 : Method := { name := "getValue", desc := "()[B", sig := { parameters := [], returnType := some (.array .byte) }, accessFlags := 16, code := some k12c6 }
def k12c7 : Code := { maxStack := 1, maxLocals := 1, code := jdk_68_method_68_code, exceptionTable := #[], attributes := #[] }
def k12m7 : Method := { name := "isLatin1", desc := "()Z", sig := { parameters := [], returnType := some .boolean }, accessFlags := 16, code := some k12c7 }
def k12c8 : Code := { maxStack := 2, maxLocals := 2, code := jdk_68_method_71_code, exceptionTable := #[], attributes := #[] }
def k12m8 : Method := { name := "inflateIfNeededFor", desc := "(Ljava/lang/String;)V", sig := { parameters := [(.object "java/lang/String")], returnType := none }, accessFlags := 2, code := some k12c8 }
def k12c9 : Code := { maxStack := 4, maxLocals := 3, code := jdk_68_method_73_code, exceptionTable := #[], attributes := #[] }
def k12m9 : Method := { name := "putStringAt", desc := "(ILjava/lang/String;)V", sig := { parameters := [.int, (.object "java/lang/String")], returnType := none }, accessFlags := 2, code := some k12c9 }
/-- java/lang/AbstractStringBuilder -/
def k12 : Class := { plain "java/lang/AbstractStringBuilder" (some 0) with
  accessFlags := 1056
  interfaces := #[11, 4]
  cf := some (fileOf pool12 10 #[] #[{ accessFlags := 0, nameIndex := 7, descriptorIndex := 8, attributes := #[] }, { accessFlags := 0, nameIndex := 7, descriptorIndex := 103, attributes := #[] }, { accessFlags := 1, nameIndex := 34, descriptorIndex := 35, attributes := #[] }, { accessFlags := 2, nameIndex := 102, descriptorIndex := 103, attributes := #[] }, { accessFlags := 2, nameIndex := 106, descriptorIndex := 107, attributes := #[] }, { accessFlags := 1, nameIndex := 45, descriptorIndex := 46, attributes := #[] }, { accessFlags := 16, nameIndex := 552, descriptorIndex := 403, attributes := #[] }, { accessFlags := 16, nameIndex := 85, descriptorIndex := 86, attributes := #[] }, { accessFlags := 2, nameIndex := 217, descriptorIndex := 69, attributes := #[] }, { accessFlags := 2, nameIndex := 210, descriptorIndex := 211, attributes := #[] }] 1056 4 #[444, 48] #[{ accessFlags := 0, nameIndex := 17, descriptorIndex := 14, attributes := #[] }, { accessFlags := 0, nameIndex := 24, descriptorIndex := 25, attributes := #[] }, { accessFlags := 0, nameIndex := 75, descriptorIndex := 21, attributes := #[] }, { accessFlags := 0, nameIndex := 81, descriptorIndex := 82, attributes := #[] }, { accessFlags := 26, nameIndex := 13, descriptorIndex := 14, attributes := #[] }])
  fields := #[{ name := "value", type := (.array .byte), accessFlags := 0, slot := 0, constantValue := 0 }, { name := "coder", type := .byte, accessFlags := 0, slot := 1, constantValue := 0 }, { name := "maybeLatin1", type := .boolean, accessFlags := 0, slot := 2, constantValue := 0 }, { name := "count", type := .int, accessFlags := 0, slot := 3, constantValue := 0 }, { name := "EMPTYVALUE", type := (.array .byte), accessFlags := 26, slot := 0, constantValue := 0 }]
  methods := #[k12m0, k12m1, k12m2, k12m3, k12m4, k12m5, k12m6, k12m7, k12m8, k12m9]
  instanceTypes := #[(.array .byte), .byte, .boolean, .int]
  staticTypes := #[(.array .byte)]
  resolved := Array.replicate 609 none
  statics := none }

def pool13 : Array CpInfo := pool [(1, .methodref 2 3), (0, .class_ 4), (0, .nameAndType 5 6), (0, u "java/lang/AbstractStringBuilder"), (0, u "<init>"), (0, u "(I)V"), (11, .class_ 20), (1, u "java/lang/String"), (3, .class_ 26), (1, u "java/lang/StringBuilder"), (0, u "append"), (0, u "(Ljava/lang/String;)Ljava/lang/StringBuilder;"), (0, .methodref 2 30), (0, .nameAndType 27 31), (0, u "(Ljava/lang/String;)Ljava/lang/AbstractStringBuilder;"), (105, .methodref 18 138), (0, .nameAndType 5 139), (0, u "(Ljava/lang/StringBuilder;)V"), (5, u "()V"), (10, u "()I"), (186, .methodref 2 344), (0, .nameAndType 345 156), (0, u "length"), (3, .class_ 350), (0, u "java/lang/Appendable"), (0, .class_ 352), (0, u "java/io/Serializable"), (0, .class_ 354), (0, u "java/lang/Comparable"), (0, .class_ 356), (0, u "java/lang/CharSequence"), (0, u "serialVersionUID"), (0, u "J"), (40, u "toString"), (0, u "()Ljava/lang/String;")] 21

def k13c0 : Code := { maxStack := 2, maxLocals := 1, code := jdk_67_method_1_code, exceptionTable := #[], attributes := #[] }
def k13m0 : Method := { name := "<init>", desc := "()V", sig := { parameters := [], returnType := none }, accessFlags := 1, code := some k13c0 }
def k13c1 : Code := { maxStack := 2, maxLocals := 2, code := jdk_67_method_7_code, exceptionTable := #[], attributes := #[] }
def k13m1 : Method := { name := "append", desc := "(Ljava/lang/String;)Ljava/lang/StringBuilder;", sig := { parameters := [(.object "java/lang/String")], returnType := some (.object "java/lang/StringBuilder") }, accessFlags := 1, code := some k13c1 }
def k13c2 : Code := { maxStack := 3, maxLocals := 1, code := jdk_67_method_42_code, exceptionTable := #[], attributes := #[] }
def k13m2 : Method := { name := "toString", desc := "()Ljava/lang/String;", sig := { parameters := [], returnType := some (.object "java/lang/String") }, accessFlags := 1, code := some k13c2 }
def k13c3 : Code := { maxStack := 1, maxLocals := 1, code := jdk_67_method_93_code, exceptionTable := #[], attributes := #[] }
def k13m3 : Method := { name := "length", desc := "()I", sig := { parameters := [], returnType := some .int }, accessFlags := 4161, code := some k13c3 }
/-- java/lang/StringBuilder -/
def k13 : Class := { plain "java/lang/StringBuilder" (some 12) with
  accessFlags := 49
  interfaces := #[11, 2, 3, 4]
  cf := some (fileOf pool13 24 #[] #[{ accessFlags := 1, nameIndex := 5, descriptorIndex := 145, attributes := #[] }, { accessFlags := 1, nameIndex := 27, descriptorIndex := 28, attributes := #[] }, { accessFlags := 1, nameIndex := 399, descriptorIndex := 400, attributes := #[] }, { accessFlags := 4161, nameIndex := 345, descriptorIndex := 156, attributes := #[] }] 49 2 #[349, 351, 353, 355] #[{ accessFlags := 24, nameIndex := 357, descriptorIndex := 358, attributes := #[] }])
  fields := #[{ name := "serialVersionUID", type := .long, accessFlags := 24, slot := 0, constantValue := 0 }]
  methods := #[k13m0, k13m1, k13m2, k13m3]
  instanceTypes := #[(.array .byte), .byte, .boolean, .int]
  staticTypes := #[.long]
  resolved := Array.replicate 422 none
  statics := none }

def pool14 : Array CpInfo := pool [(2, .class_ 4), (1, u "java/lang/Object"), (0, u "<init>"), (0, u "()V"), (1, .class_ 10), (1, u "java/lang/System"), (0, u "allowSecurityManager"), (0, u "I"), (16, u "cons"), (0, u "Ljava/io/Console;"), (77, .class_ 110), (1, u "java/lang/System$CallersHolder"), (43, u "initialErrStream"), (0, u "Ljava/io/PrintStream;"), (19, u "security"), (0, u "Ljava/lang/SecurityManager;"), (31, .class_ 209), (0, u "java/lang/System$1"), (7, u "props"), (0, u "Ljava/util/Properties;"), (2, u "lineSeparator"), (0, u "Ljava/lang/String;"), (96, .class_ 321), (1, u "java/lang/System$LoggerFinder"), (5, .class_ 328), (0, u "java/lang/System$Logger"), (67, u "err"), (2, u "out"), (91, u "notSupportedJnuEncoding"), (15, u "in"), (17, u "initialIn"), (0, u "Ljava/io/InputStream;"), (35, u "bootLayer"), (0, u "Ljava/lang/ModuleLayer;"), (99, .class_ 664), (0, u "java/lang/System$2"), (9, u "NEVER"), (2, u "MAYBE"), (49, u "arraycopy"), (0, u "(Ljava/lang/Object;ILjava/lang/Object;II)V"), (72, .class_ 802), (0, u "java/lang/System$Logger$Level")] 31

def k14m0 : Method := { name := "<init>", desc := "()V", sig := { parameters := [], returnType := none }, accessFlags := 2, code := none }
def k14m1 : Method := { name := "arraycopy", desc := "(Ljava/lang/Object;ILjava/lang/Object;II)V", sig := { parameters := [(.object "java/lang/Object"), .int, (.object "java/lang/Object"), .int, .int], returnType := none }, accessFlags := 265, code := none }
/-- java/lang/System -/
def k14 : Class := { plain "java/lang/System" (some 0) with
  accessFlags := 49
  interfaces := #[]
  cf := some (fileOf pool14 8 #[.nestMembers #[319, 327, 801, 108, 663, 208]] #[{ accessFlags := 2, nameIndex := 5, descriptorIndex := 6, attributes := #[] }, { accessFlags := 265, nameIndex := 727, descriptorIndex := 728, attributes := #[] }] 49 2 #[] #[{ accessFlags := 25, nameIndex := 507, descriptorIndex := 526, attributes := #[] }, { accessFlags := 25, nameIndex := 399, descriptorIndex := 155, attributes := #[] }, { accessFlags := 25, nameIndex := 396, descriptorIndex := 155, attributes := #[] }, { accessFlags := 10, nameIndex := 525, descriptorIndex := 526, attributes := #[] }, { accessFlags := 26, nameIndex := 674, descriptorIndex := 12, attributes := #[] }, { accessFlags := 26, nameIndex := 677, descriptorIndex := 12, attributes := #[] }, { accessFlags := 10, nameIndex := 11, descriptorIndex := 12, attributes := #[] }, { accessFlags := 74, nameIndex := 175, descriptorIndex := 176, attributes := #[] }, { accessFlags := 10, nameIndex := 491, descriptorIndex := 222, attributes := #[] }, { accessFlags := 74, nameIndex := 29, descriptorIndex := 30, attributes := #[] }, { accessFlags := 74, nameIndex := 154, descriptorIndex := 155, attributes := #[] }, { accessFlags := 10, nameIndex := 217, descriptorIndex := 218, attributes := #[] }, { accessFlags := 10, nameIndex := 221, descriptorIndex := 222, attributes := #[] }, { accessFlags := 8, nameIndex := 562, descriptorIndex := 563, attributes := #[] }])
  fields := #[{ name := "in", type := (.object "java/io/InputStream"), accessFlags := 25, slot := 0, constantValue := 0 }, { name := "out", type := (.object "java/io/PrintStream"), accessFlags := 25, slot := 1, constantValue := 0 }, { name := "err", type := (.object "java/io/PrintStream"), accessFlags := 25, slot := 2, constantValue := 0 }, { name := "initialIn", type := (.object "java/io/InputStream"), accessFlags := 10, slot := 3, constantValue := 0 }, { name := "NEVER", type := .int, accessFlags := 26, slot := 4, constantValue := 0 }, { name := "MAYBE", type := .int, accessFlags := 26, slot := 5, constantValue := 0 }, { name := "allowSecurityManager", type := .int, accessFlags := 10, slot := 6, constantValue := 0 }, { name := "security", type := (.object "java/lang/SecurityManager"), accessFlags := 74, slot := 7, constantValue := 0 }, { name := "notSupportedJnuEncoding", type := (.object "java/lang/String"), accessFlags := 10, slot := 8, constantValue := 0 }, { name := "cons", type := (.object "java/io/Console"), accessFlags := 74, slot := 9, constantValue := 0 }, { name := "initialErrStream", type := (.object "java/io/PrintStream"), accessFlags := 74, slot := 10, constantValue := 0 }, { name := "props", type := (.object "java/util/Properties"), accessFlags := 10, slot := 11, constantValue := 0 }, { name := "lineSeparator", type := (.object "java/lang/String"), accessFlags := 10, slot := 12, constantValue := 0 }, { name := "bootLayer", type := (.object "java/lang/ModuleLayer"), accessFlags := 8, slot := 13, constantValue := 0 }]
  methods := #[k14m0, k14m1]
  instanceTypes := #[]
  staticTypes := #[(.object "java/io/InputStream"), (.object "java/io/PrintStream"), (.object "java/io/PrintStream"), (.object "java/io/InputStream"), .int, .int, .int, (.object "java/lang/SecurityManager"), (.object "java/lang/String"), (.object "java/io/Console"), (.object "java/io/PrintStream"), (.object "java/util/Properties"), (.object "java/lang/String"), (.object "java/lang/ModuleLayer")]
  resolved := Array.replicate 834 none
  statics := none }

def pool15 : Array CpInfo := pool [(2, .class_ 4), (1, u "java/lang/Object"), (0, u "<init>"), (0, u "()V"), (7, .class_ 16), (1, u "java/util/Arrays"), (57, .class_ 76), (1, u "java/util/Arrays$NaturalOrder"), (32, u "()Ljava/lang/Object;"), (3, .class_ 115), (1, u "java/util/Arrays$LegacyMergeSort"), (1, u "Z"), (10, .nameAndType 129 109), (0, u "clone"), (9, u "copyOfRange"), (10, .methodref 151 152), (0, .class_ 153), (0, .nameAndType 154 155), (0, u "java/lang/System"), (0, u "arraycopy"), (0, u "(Ljava/lang/Object;ILjava/lang/Object;II)V"), (146, u "copyOf"), (1, .methodref 305 306), (0, .class_ 307), (0, .nameAndType 308 309), (0, u "java/lang/Math"), (0, u "min"), (0, u "(II)I"), (0, .methodref 311 128), (0, .class_ 312), (0, u "[B"), (26, .methodref 14 340), (0, .nameAndType 341 342), (0, u "copyOfRangeByte"), (0, u "([BII)[B"), (0, .methodref 14 344), (0, .nameAndType 345 346), (0, u "checkLength"), (0, u "(II)V"), (28, .class_ 376), (0, u "java/util/Arrays$ArrayList"), (68, u "$assertionsDisabled"), (269, u "MIN_ARRAY_SORT_GRAN"), (0, u "I"), (2, u "INSERTIONSORT_THRESHOLD"), (149, u "([BI)[B"), (105, .class_ 976), (0, u "java/util/Arrays$ArrayItr")] 52

def k15m0 : Method := { name := "<init>", desc := "()V", sig := { parameters := [], returnType := none }, accessFlags := 2, code := none }
def k15c1 : Code := { maxStack := 6, maxLocals := 3, code := jdk_65_method_121_code, exceptionTable := #[], attributes := #[] }
def k15m1 : Method := { name := "copyOf", desc := "([BI)[B", sig := { parameters := [(.array .byte), .int], returnType := some (.array .byte) }, accessFlags := 9, code := some k15c1 }
def k15c2 : Code := { maxStack := 4, maxLocals := 2, code := jdk_65_method_131_code, exceptionTable := #[], attributes := #[] }
def k15m2 : Method := { name := "checkLength", desc := "(II)V", sig := { parameters := [.int, .int], returnType := none }, accessFlags := 10, code := some k15c2 }
def k15c3 : Code := { maxStack := 3, maxLocals := 3, code := jdk_65_method_132_code, exceptionTable := #[], attributes := #[] }
def k15m3 : Method := { name := "copyOfRange", desc := "([BII)[B", sig := { parameters := [(.array .byte), .int, .int], returnType := some (.array .byte) }, accessFlags := 9, code := some k15c3 }
def k15c4 : Code := { maxStack := 6, maxLocals := 5, code := jdk_65_method_133_code, exceptionTable := #[], attributes := #[] }
def k15m4 : Method := { name := "copyOfRangeByte", desc := "([BII)[B", sig := { parameters := [(.array .byte), .int, .int], returnType := some (.array .byte) }, accessFlags := 10, code := some k15c4 }
/-- java/util/Arrays -/
def k15 : Class := { plain "java/util/Arrays" (some 0) with
  accessFlags := 49
  interfaces := #[]
  cf := some (fileOf pool15 14 #[.nestMembers #[975, 375, 113, 74]] #[{ accessFlags := 2, nameIndex := 5, descriptorIndex := 6, attributes := #[] }, { accessFlags := 9, nameIndex := 302, descriptorIndex := 869, attributes := #[] }, { accessFlags := 10, nameIndex := 345, descriptorIndex := 346, attributes := #[] }, { accessFlags := 9, nameIndex := 139, descriptorIndex := 342, attributes := #[] }, { accessFlags := 10, nameIndex := 341, descriptorIndex := 342, attributes := #[] }] 49 2 #[] #[{ accessFlags := 26, nameIndex := 715, descriptorIndex := 716, attributes := #[] }, { accessFlags := 26, nameIndex := 719, descriptorIndex := 716, attributes := #[] }, { accessFlags := 4120, nameIndex := 445, descriptorIndex := 117, attributes := #[] }])
  fields := #[{ name := "MIN_ARRAY_SORT_GRAN", type := .int, accessFlags := 26, slot := 0, constantValue := 0 }, { name := "INSERTIONSORT_THRESHOLD", type := .int, accessFlags := 26, slot := 1, constantValue := 0 }, { name := "$assertionsDisabled", type := .boolean, accessFlags := 4120, slot := 2, constantValue := 0 }]
  methods := #[k15m0, k15m1, k15m2, k15m3, k15m4]
  instanceTypes := #[]
  staticTypes := #[.int, .int, .boolean]
  resolved := Array.replicate 1029 none
  statics := none }

def pool16 : Array CpInfo := pool [(1, .class_ 2), (0, u "java/lang/Math"), (1, .class_ 6), (1, u "java/lang/Object"), (0, u "<init>"), (0, u "()V"), (89, .class_ 100), (1, u "java/lang/Math$RandomNumberGeneratorHolder"), (71, u "negativeZeroFloatBits"), (0, u "J"), (2, u "negativeZeroDoubleBits"), (21, u "max"), (2, u "min"), (43, u "$assertionsDisabled"), (0, u "Z"), (88, u "(II)I"), (2, u "twoToTheDoubleScaleDown"), (0, u "D"), (4, u "twoToTheDoubleScaleUp"), (9, u "E"), (3, u "PI"), (2, u "TAU"), (2, u "DEGREES_TO_RADIANS"), (0, u "RADIANS_TO_DEGREES")] 94

def k16m0 : Method := { name := "<init>", desc := "()V", sig := { parameters := [], returnType := none }, accessFlags := 2, code := none }
def k16c1 : Code := { maxStack := 2, maxLocals := 2, code := jdk_29_method_65_code, exceptionTable := #[], attributes := #[] }
def k16m1 : Method := { name := "max", desc := "(II)I", sig := { parameters := [.int, .int], returnType := some .int }, accessFlags := 9, code := some k16c1 }
def k16c2 : Code := { maxStack := 2, maxLocals := 2, code := jdk_29_method_69_code, exceptionTable := #[], attributes := #[] }
def k16m2 : Method := { name := "min", desc := "(II)I", sig := { parameters := [.int, .int], returnType := some .int }, accessFlags := 9, code := some k16c2 }
/-- java/lang/Math -/
def k16 : Class := { plain "java/lang/Math" (some 0) with
  accessFlags := 49
  interfaces := #[]
  cf := some (fileOf pool16 1 #[.nestMembers #[98]] #[{ accessFlags := 2, nameIndex := 7, descriptorIndex := 8, attributes := #[] }, { accessFlags := 9, nameIndex := 198, descriptorIndex := 335, attributes := #[] }, { accessFlags := 9, nameIndex := 201, descriptorIndex := 335, attributes := #[] }] 49 4 #[] #[{ accessFlags := 25, nameIndex := 354, descriptorIndex := 339, attributes := #[] }, { accessFlags := 25, nameIndex := 358, descriptorIndex := 339, attributes := #[] }, { accessFlags := 25, nameIndex := 361, descriptorIndex := 339, attributes := #[] }, { accessFlags := 26, nameIndex := 364, descriptorIndex := 339, attributes := #[] }, { accessFlags := 26, nameIndex := 365, descriptorIndex := 339, attributes := #[] }, { accessFlags := 26, nameIndex := 172, descriptorIndex := 173, attributes := #[] }, { accessFlags := 26, nameIndex := 176, descriptorIndex := 173, attributes := #[] }, { accessFlags := 8, nameIndex := 344, descriptorIndex := 339, attributes := #[] }, { accessFlags := 8, nameIndex := 338, descriptorIndex := 339, attributes := #[] }, { accessFlags := 4120, nameIndex := 245, descriptorIndex := 246, attributes := #[] }])
  fields := #[{ name := "E", type := .double, accessFlags := 25, slot := 0, constantValue := 0 }, { name := "PI", type := .double, accessFlags := 25, slot := 1, constantValue := 0 }, { name := "TAU", type := .double, accessFlags := 25, slot := 2, constantValue := 0 }, { name := "DEGREES_TO_RADIANS", type := .double, accessFlags := 26, slot := 3, constantValue := 0 }, { name := "RADIANS_TO_DEGREES", type := .double, accessFlags := 26, slot := 4, constantValue := 0 }, { name := "negativeZeroFloatBits", type := .long, accessFlags := 26, slot := 5, constantValue := 0 }, { name := "negativeZeroDoubleBits", type := .long, accessFlags := 26, slot := 6, constantValue := 0 }, { name := "twoToTheDoubleScaleUp", type := .double, accessFlags := 8, slot := 7, constantValue := 0 }, { name := "twoToTheDoubleScaleDown", type := .double, accessFlags := 8, slot := 8, constantValue := 0 }, { name := "$assertionsDisabled", type := .boolean, accessFlags := 4120, slot := 9, constantValue := 0 }]
  methods := #[k16m0, k16m1, k16m2]
  instanceTypes := #[]
  staticTypes := #[.double, .double, .double, .double, .double, .long, .long, .double, .double, .boolean]
  resolved := Array.replicate 460 none
  statics := none }

def pool17 : Array CpInfo := pool [(1, .class_ 2), (0, u "java/lang/String"), (1, .class_ 6), (1, u "java/lang/Object"), (0, u "<init>"), (0, u "()V"), (0, .methodref 1 10), (0, .nameAndType 11 12), (0, u "checkIndex"), (0, u "(II)V"), (1, .class_ 16), (1, u "java/lang/StringLatin1"), (36, u "([BI)C"), (67, u "$assertionsDisabled"), (0, u "Z"), (98, .class_ 223), (1, u "java/lang/StringLatin1$LinesSpliterator"), (28, u "charAt"), (137, .class_ 391), (0, u "java/lang/StringLatin1$CharsSpliterator")] 3

def k17m0 : Method := { name := "<init>", desc := "()V", sig := { parameters := [], returnType := none }, accessFlags := 0, code := none }
def k17c1 : Code := { maxStack := 2, maxLocals := 2, code := jdk_43_method_2_code, exceptionTable := #[], attributes := #[] }
def k17m1 : Method := { name := "charAt", desc := "([BI)C", sig := { parameters := [(.array .byte), .int], returnType := some .char }, accessFlags := 9, code := some k17c1 }
/-- java/lang/StringLatin1 -/
def k17 : Class := { plain "java/lang/StringLatin1" (some 0) with
  accessFlags := 48
  interfaces := #[]
  cf := some (fileOf pool17 14 #[.nestMembers #[390, 221]] #[{ accessFlags := 0, nameIndex := 7, descriptorIndex := 8, attributes := #[] }, { accessFlags := 9, nameIndex := 252, descriptorIndex := 53, attributes := #[] }] 48 4 #[] #[{ accessFlags := 4120, nameIndex := 121, descriptorIndex := 122, attributes := #[] }])
  fields := #[{ name := "$assertionsDisabled", type := .boolean, accessFlags := 4120, slot := 0, constantValue := 0 }]
  methods := #[k17m0, k17m1]
  instanceTypes := #[]
  staticTypes := #[.boolean]
  resolved := Array.replicate 395 none
  statics := none }

def pool18 : Array CpInfo := pool [(2, .class_ 4), (1, u "java/lang/Object"), (0, u "<init>"), (0, u "()V"), (17, .class_ 26), (1, u "jdk/internal/util/Preconditions"), (6, u "checkIndex"), (21, .class_ 56), (0, u "jdk/internal/util/Preconditions$4"), (57, .class_ 115), (0, u "jdk/internal/util/Preconditions$1"), (7, u "SIOOBE_FORMATTER"), (0, u "Ljava/util/function/BiFunction;"), (0, .class_ 126), (0, u "jdk/internal/util/Preconditions$2"), (3, u "AIOOBE_FORMATTER"), (0, .class_ 132), (0, u "jdk/internal/util/Preconditions$3"), (3, u "IOOBE_FORMATTER"), (41, u "(IILjava/util/function/BiFunction;)I")] 15

def k18m0 : Method := { name := "<init>", desc := "()V", sig := { parameters := [], returnType := none }, accessFlags := 1, code := none }
def k18c1 : Code := { maxStack := 3, maxLocals := 3, code := jdk_41_method_11_code, exceptionTable := #[], attributes := #[] }
def k18m1 : Method := { name := "checkIndex", desc := "(IILjava/util/function/BiFunction;)I", sig := { parameters := [.int, .int, (.object "java/util/function/BiFunction")], returnType := some .int }, accessFlags := 9, code := some k18c1 }
/-- jdk/internal/util/Preconditions -/
def k18 : Class := { plain "jdk/internal/util/Preconditions" (some 0) with
  accessFlags := 33
  interfaces := #[]
  cf := some (fileOf pool18 24 #[.nestMembers #[55, 131, 125, 114]] #[{ accessFlags := 1, nameIndex := 5, descriptorIndex := 6, attributes := #[] }, { accessFlags := 9, nameIndex := 33, descriptorIndex := 178, attributes := #[] }] 33 2 #[] #[{ accessFlags := 25, nameIndex := 123, descriptorIndex := 124, attributes := #[] }, { accessFlags := 25, nameIndex := 130, descriptorIndex := 124, attributes := #[] }, { accessFlags := 25, nameIndex := 136, descriptorIndex := 124, attributes := #[] }])
  fields := #[{ name := "SIOOBE_FORMATTER", type := (.object "java/util/function/BiFunction"), accessFlags := 25, slot := 0, constantValue := 0 }, { name := "AIOOBE_FORMATTER", type := (.object "java/util/function/BiFunction"), accessFlags := 25, slot := 1, constantValue := 0 }, { name := "IOOBE_FORMATTER", type := (.object "java/util/function/BiFunction"), accessFlags := 25, slot := 2, constantValue := 0 }]
  methods := #[k18m0, k18m1]
  instanceTypes := #[]
  staticTypes := #[(.object "java/util/function/BiFunction"), (.object "java/util/function/BiFunction"), (.object "java/util/function/BiFunction")]
  resolved := Array.replicate 194 none
  statics := some 1 }

def pool19 : Array CpInfo := pool [(6, .class_ 8), (1, u "java/lang/Object"), (0, u "<init>"), (0, u "()V"), (1, .class_ 14), (1, u "java/lang/StringUTF16"), (31, u "$assertionsDisabled"), (0, u "Z"), (13, u "HI_BYTE_SHIFT"), (0, u "I"), (2, u "LO_BYTE_SHIFT"), (49, .methodref 12 116), (0, .nameAndType 117 118), (0, u "compress"), (0, u "([CI[BII)I"), (3, u "([CII)[B"), (138, u "coderFromArrayLen"), (0, u "([BI)B"), (106, .class_ 371), (1, u "java/lang/StringUTF16$LinesSpliterator"), (58, u "MAX_LENGTH"), (196, .class_ 628), (0, u "java/lang/StringUTF16$CodePointsSpliterator"), (0, .class_ 630), (0, u "java/lang/StringUTF16$CharsSpliterator")] 4

def k19m0 : Method := { name := "<init>", desc := "()V", sig := { parameters := [], returnType := none }, accessFlags := 0, code := none }
def k19c1 : Code := { maxStack := 2, maxLocals := 2, code := jdk_52_method_15_code, exceptionTable := #[], attributes := #[] }
def k19m1 : Method := { name := "coderFromArrayLen", desc := "([BI)B", sig := { parameters := [(.array .byte), .int], returnType := some .byte }, accessFlags := 8, code := some k19c1 }
def k19c2 : Code := { maxStack := 5, maxLocals := 6, code := jdk_52_method_16_code, exceptionTable := #[], attributes := #[] }
def k19m2 : Method := { name := "compress", desc := "([CII)[B", sig := { parameters := [(.array .char), .int, .int], returnType := some (.array .byte) }, accessFlags := 9, code := some k19c2 }
def k19c3 : Code := { maxStack := 3, maxLocals := 7, code := jdk_52_method_21_code, exceptionTable := #[], attributes := #[] }
def k19m3 : Method := { name := "compress", desc := "([CI[BII)I", sig := { parameters := [(.array .char), .int, (.array .byte), .int, .int], returnType := some .int }, accessFlags := 9, code := some k19c3 }
/-- java/lang/StringUTF16 -/
def k19 : Class := { plain "java/lang/StringUTF16" (some 0) with
  accessFlags := 48
  interfaces := #[]
  cf := some (fileOf pool19 12 #[.nestMembers #[627, 629, 369]] #[{ accessFlags := 0, nameIndex := 9, descriptorIndex := 10, attributes := #[] }, { accessFlags := 8, nameIndex := 261, descriptorIndex := 262, attributes := #[] }, { accessFlags := 9, nameIndex := 117, descriptorIndex := 122, attributes := #[] }, { accessFlags := 9, nameIndex := 117, descriptorIndex := 118, attributes := #[] }] 48 6 #[] #[{ accessFlags := 26, nameIndex := 61, descriptorIndex := 62, attributes := #[] }, { accessFlags := 26, nameIndex := 65, descriptorIndex := 62, attributes := #[] }, { accessFlags := 24, nameIndex := 430, descriptorIndex := 62, attributes := #[] }, { accessFlags := 4120, nameIndex := 46, descriptorIndex := 47, attributes := #[] }])
  fields := #[{ name := "HI_BYTE_SHIFT", type := .int, accessFlags := 26, slot := 0, constantValue := 0 }, { name := "LO_BYTE_SHIFT", type := .int, accessFlags := 26, slot := 1, constantValue := 0 }, { name := "MAX_LENGTH", type := .int, accessFlags := 24, slot := 2, constantValue := 0 }, { name := "$assertionsDisabled", type := .boolean, accessFlags := 4120, slot := 3, constantValue := 0 }]
  methods := #[k19m0, k19m1, k19m2, k19m3]
  instanceTypes := #[]
  staticTypes := #[.int, .int, .int, .boolean]
  resolved := Array.replicate 635 none
  statics := none }

def pool20 : Array CpInfo := pool [(1, .class_ 2), (0, u "java/lang/Cloneable"), (0, .class_ 4), (0, u "java/lang/Object")] 2

/-- java/lang/Cloneable -/
def k20 : Class := { plain "java/lang/Cloneable" (some 0) with
  accessFlags := 1537
  interfaces := #[]
  cf := some (fileOf pool20 1 #[] #[] 1537 3 #[] #[])
  fields := #[]
  methods := #[]
  instanceTypes := #[]
  staticTypes := #[]
  resolved := Array.replicate 7 none
  statics := none }

def pool21 : Array CpInfo := pool [(9, u "<init>"), (6, .class_ 18), (1, u "java/lang/Object"), (0, u "()V"), (1, .class_ 23), (1, u "jdk/internal/util/ArraysSupport"), (0, u "LOG2_ARRAY_LONG_INDEX_SCALE"), (0, u "I"), (2, u "U"), (0, u "Ljdk/internal/misc/Unsafe;"), (8, u "BIG_ENDIAN"), (0, u "Z"), (8, u "LOG2_BYTE_BIT_SIZE"), (4, u "LOG2_ARRAY_INT_INDEX_SCALE"), (54, u "JLA"), (0, u "Ljdk/internal/access/JavaLangAccess;"), (11, u "LOG2_ARRAY_BOOLEAN_INDEX_SCALE"), (9, u "LOG2_ARRAY_BYTE_INDEX_SCALE"), (5, u "LOG2_ARRAY_CHAR_INDEX_SCALE"), (5, u "LOG2_ARRAY_SHORT_INDEX_SCALE"), (18, u "LOG2_ARRAY_FLOAT_INDEX_SCALE"), (24, u "LOG2_ARRAY_DOUBLE_INDEX_SCALE"), (6, .methodref 195 196), (0, .class_ 197), (0, .nameAndType 198 199), (0, u "java/lang/Math"), (0, u "max"), (0, u "(II)I"), (0, .integer 2147483639), (76, u "T_BOOLEAN"), (2, u "T_CHAR"), (1, u "T_FLOAT"), (1, u "T_DOUBLE"), (1, u "T_BYTE"), (1, u "T_SHORT"), (1, u "T_INT"), (1, u "T_LONG"), (1, u "SOFT_MAX_ARRAY_LENGTH"), (56, u "newLength"), (0, u "(III)I")] 25

def k21m0 : Method := { name := "<init>", desc := "()V", sig := { parameters := [], returnType := none }, accessFlags := 2, code := none }
def k21c1 : Code := { maxStack := 3, maxLocals := 4, code := jdk_48_method_27_code, exceptionTable := #[], attributes := #[] }
def k21m1 : Method := { name := "newLength", desc := "(III)I", sig := { parameters := [.int, .int, .int], returnType := some .int }, accessFlags := 9, code := some k21c1 }
/-- jdk/internal/util/ArraysSupport -/
def k21 : Class := { plain "jdk/internal/util/ArraysSupport" (some 0) with
  accessFlags := 33
  interfaces := #[]
  cf := some (fileOf pool21 21 #[] #[{ accessFlags := 2, nameIndex := 9, descriptorIndex := 19, attributes := #[] }, { accessFlags := 9, nameIndex := 351, descriptorIndex := 352, attributes := #[] }] 33 16 #[] #[{ accessFlags := 24, nameIndex := 28, descriptorIndex := 29, attributes := #[] }, { accessFlags := 26, nameIndex := 38, descriptorIndex := 39, attributes := #[] }, { accessFlags := 25, nameIndex := 121, descriptorIndex := 25, attributes := #[] }, { accessFlags := 25, nameIndex := 131, descriptorIndex := 25, attributes := #[] }, { accessFlags := 25, nameIndex := 137, descriptorIndex := 25, attributes := #[] }, { accessFlags := 25, nameIndex := 143, descriptorIndex := 25, attributes := #[] }, { accessFlags := 25, nameIndex := 53, descriptorIndex := 25, attributes := #[] }, { accessFlags := 25, nameIndex := 24, descriptorIndex := 25, attributes := #[] }, { accessFlags := 25, nameIndex := 162, descriptorIndex := 25, attributes := #[] }, { accessFlags := 25, nameIndex := 187, descriptorIndex := 25, attributes := #[] }, { accessFlags := 26, nameIndex := 48, descriptorIndex := 25, attributes := #[] }, { accessFlags := 25, nameIndex := 277, descriptorIndex := 25, attributes := #[] }, { accessFlags := 25, nameIndex := 280, descriptorIndex := 25, attributes := #[] }, { accessFlags := 25, nameIndex := 282, descriptorIndex := 25, attributes := #[] }, { accessFlags := 25, nameIndex := 284, descriptorIndex := 25, attributes := #[] }, { accessFlags := 25, nameIndex := 286, descriptorIndex := 25, attributes := #[] }, { accessFlags := 25, nameIndex := 288, descriptorIndex := 25, attributes := #[] }, { accessFlags := 25, nameIndex := 290, descriptorIndex := 25, attributes := #[] }, { accessFlags := 25, nameIndex := 292, descriptorIndex := 25, attributes := #[] }, { accessFlags := 26, nameIndex := 108, descriptorIndex := 109, attributes := #[] }, { accessFlags := 25, nameIndex := 294, descriptorIndex := 25, attributes := #[] }])
  fields := #[{ name := "U", type := (.object "jdk/internal/misc/Unsafe"), accessFlags := 24, slot := 0, constantValue := 0 }, { name := "BIG_ENDIAN", type := .boolean, accessFlags := 26, slot := 1, constantValue := 0 }, { name := "LOG2_ARRAY_BOOLEAN_INDEX_SCALE", type := .int, accessFlags := 25, slot := 2, constantValue := 0 }, { name := "LOG2_ARRAY_BYTE_INDEX_SCALE", type := .int, accessFlags := 25, slot := 3, constantValue := 0 }, { name := "LOG2_ARRAY_CHAR_INDEX_SCALE", type := .int, accessFlags := 25, slot := 4, constantValue := 0 }, { name := "LOG2_ARRAY_SHORT_INDEX_SCALE", type := .int, accessFlags := 25, slot := 5, constantValue := 0 }, { name := "LOG2_ARRAY_INT_INDEX_SCALE", type := .int, accessFlags := 25, slot := 6, constantValue := 0 }, { name := "LOG2_ARRAY_LONG_INDEX_SCALE", type := .int, accessFlags := 25, slot := 7, constantValue := 0 }, { name := "LOG2_ARRAY_FLOAT_INDEX_SCALE", type := .int, accessFlags := 25, slot := 8, constantValue := 0 }, { name := "LOG2_ARRAY_DOUBLE_INDEX_SCALE", type := .int, accessFlags := 25, slot := 9, constantValue := 0 }, { name := "LOG2_BYTE_BIT_SIZE", type := .int, accessFlags := 26, slot := 10, constantValue := 0 }, { name := "T_BOOLEAN", type := .int, accessFlags := 25, slot := 11, constantValue := 0 }, { name := "T_CHAR", type := .int, accessFlags := 25, slot := 12, constantValue := 0 }, { name := "T_FLOAT", type := .int, accessFlags := 25, slot := 13, constantValue := 0 }, { name := "T_DOUBLE", type := .int, accessFlags := 25, slot := 14, constantValue := 0 }, { name := "T_BYTE", type := .int, accessFlags := 25, slot := 15, constantValue := 0 }, { name := "T_SHORT", type := .int, accessFlags := 25, slot := 16, constantValue := 0 }, { name := "T_INT", type := .int, accessFlags := 25, slot := 17, constantValue := 0 }, { name := "T_LONG", type := .int, accessFlags := 25, slot := 18, constantValue := 0 }, { name := "JLA", type := (.object "jdk/internal/access/JavaLangAccess"), accessFlags := 26, slot := 19, constantValue := 0 }, { name := "SOFT_MAX_ARRAY_LENGTH", type := .int, accessFlags := 25, slot := 20, constantValue := 0 }]
  methods := #[k21m0, k21m1]
  instanceTypes := #[]
  staticTypes := #[(.object "jdk/internal/misc/Unsafe"), .boolean, .int, .int, .int, .int, .int, .int, .int, .int, .int, .int, .int, .int, .int, .int, .int, .int, .int, (.object "jdk/internal/access/JavaLangAccess"), .int]
  resolved := Array.replicate 378 none
  statics := none }

/-- the primitive byte -/
def k22 : Class := { plain "byte" none with kind := .primitive 'B', accessFlags := 0x411 }
/-- [B -/
def k23 : Class := { plain "[B" (some 0) with kind := .array 22 .byte, interfaces := #[20, 2], accessFlags := 1041 }

/-- the primitive char -/
def k24 : Class := { plain "char" none with kind := .primitive 'C', accessFlags := 0x411 }
/-- [C -/
def k25 : Class := { plain "[C" (some 0) with kind := .array 24 .char, interfaces := #[20, 2], accessFlags := 1041 }

/-- the primitive int -/
def k26 : Class := { plain "int" none with kind := .primitive 'I', accessFlags := 0x411 }
/-- [I -/
def k27 : Class := { plain "[I" (some 0) with kind := .array 26 .int, interfaces := #[20, 2], accessFlags := 1041 }

def heap : Heap := #[{ cls := 7, slots := #[.long 0, .int 1, .null, .int 0, .null, .int 0, .int 0], vm := .statics 7 },
  { cls := 18, slots := #[.null, .null, .null], vm := .statics 18 }]
def classes : Array Class := #[k0, k1, k2, k3, k4, k5, k6, k7, k8, k9, k10, k11, k12, k13, k14, k15, k16, k17, k18, k19, k20, k21, k22, k23, k24, k25, k26, k27]
def interned : List (Array UInt16 × Addr) := []
def slotsUsed : Nat := 10
def theMethod : MethodId := ⟨1, 1⟩
def args0 : Array Value := #[.int 5, .int 5, .int 5]
def aboutOver (below : List Frame) : State where
  vm := { classes := classes, interned := interned.toArray }
  heap := heap
  slotsUsed := slotsUsed
  threads := #[{ frames := .invoking theMethod args0 :: below }]
def below0 : List Frame := [.native { method := ⟨0, 0⟩, args := #[] }]
def about1 : State := aboutOver below0
def p0 : Program := .bare "" "" ""
def e0 : Env := launch0.env 0 0 0
theorem w_frames : about1.frames = Frame.invoking theMethod args0 :: below0 := rfl
set_option maxRecDepth 65536 in
theorem w_args : argsFit about1.vm theMethod args0 = true := by decide +kernel
set_option maxRecDepth 65536 in
theorem w_heap : heapFits about1 = true := by decide +kernel
set_option maxRecDepth 65536 in
theorem w_runnable : about1.curStatus? = some .runnable := by decide +kernel
set_option maxRecDepth 65536 in
theorem w_alone : about1.alone = true := by decide +kernel
set_option maxRecDepth 65536 in
theorem w_named : about1.methodNamed? x = some theMethod := by decide +kernel
set_option maxRecDepth 65536 in
theorem w_hears : about1.hears theMethod below0 = true := by decide +kernel
set_option maxRecDepth 65536 in
theorem w_ripe : about1.ripe theMethod args0 below0 = true := by decide +kernel
theorem w_running : about1.status = .running := rfl
set_option maxRecDepth 65536 in
theorem w_room : about1.hasRoom e0.platform room_1 = true :=
  launch0.hasRoom_least _ room_1 (by decide +kernel) (by decide +kernel) (by decide +kernel) (by decide +kernel) (by decide +kernel) (by decide +kernel)
theorem allAtoms_all (ts : List Jvm.Cond) (a : Array Jvm.Value) (st : Jvm.State) : (allAtoms ts).before a st = ts.all (fun c => c.before a st) := by
  induction ts with
  | nil => rfl
  | cons c t ih =>
    show (Jvm.Cond.and c (allAtoms t)).before a st = _
    rw [Jvm.Cond.before_and, ih, List.all_cons]
def words1 : List Jvm.Cond := Jvm.Cond.code x code maxLocals ret :: tables_1
/-- a 'code' word, met by the world's own term for the bytes: nothing is compared byte by byte -/
theorem code_word {y : MethodName} {bytes : ByteArray} {mx : Nat} {rt : Option FieldType} {a : Array Value} {s : State} {m : MethodId} {meth : Method} {c : Code} (h1 : s.methodNamed? y = some m) (h2 : s.vm.method? m = some meth) (h3 : meth.code = some c) (h4 : c.code = bytes)
    (h5 : (c.maxLocals == mx && c.exceptionTable.isEmpty && decide (c.maxStack ≤ mostOperands) && decide (meth.sig.returnType = rt) && !meth.locks && decide (parseMethodDescriptor y.desc = some meth.sig)) = true) : (Jvm.Cond.code y bytes mx rt).before a s = true := by
  simp only [Bool.and_eq_true, beq_iff_eq, Bool.not_eq_true', decide_eq_true_eq] at h5
  obtain ⟨⟨⟨⟨⟨g1, g2⟩, g3⟩, g4⟩, g5⟩, g6⟩ := h5
  simp [Cond.before, Cond.holds, Cond.value, h1, h2, h3, h4, g1, g2, g3, g4, g5, g6]
def isCode : Jvm.Cond → Bool
  | .code _ _ _ _ => true
  | _ => false
theorem all_split {L : List Jvm.Cond} {P : Jvm.Cond → Bool} (h1 : L.all (fun c => isCode c || P c) = true) (h2 : ∀ c ∈ L.filter isCode, P c = true) : L.all P = true := by
  refine List.all_eq_true.mpr fun c hc => ?_
  have h := List.all_eq_true.mp h1 c hc
  rcases Bool.eq_false_or_eq_true (isCode c) with hi | hi
  · exact h2 c (List.mem_filter.mpr ⟨hc, hi⟩)
  · simpa [hi] using h
set_option maxRecDepth 65536 in
theorem w_c0 : (Jvm.Cond.code x code maxLocals ret).before args0 about1 = true := code_word (m := ⟨1, 1⟩) (meth := k1m1) (c := k1c1) (by decide +kernel) rfl rfl rfl (by decide +kernel)
set_option maxRecDepth 65536 in
theorem w_c1 : (Jvm.Cond.code ({ cls := "com/example/penelope/penelope/frontend/TaggedSpellingPinLaw", name := "mk", desc := "(ICCC)Ljava/lang/String;" } : Jvm.MethodName) method_3_code (4 : Nat) (Option.some (Jvm.ClassFile.FieldType.object "java/lang/String"))).before args0 about1 = true := code_word (m := ⟨1, 2⟩) (meth := k1m2) (c := k1c2) (by decide +kernel) rfl rfl rfl (by decide +kernel)
set_option maxRecDepth 65536 in
theorem w_c2 : (Jvm.Cond.code ({ cls := "java/lang/String", name := "<init>", desc := "([C)V" } : Jvm.MethodName) jdk_42_method_3_code (2 : Nat) (Option.none : Option Jvm.ClassFile.FieldType)).before args0 about1 = true := code_word (m := ⟨7, 1⟩) (meth := k7m1) (c := k7c1) (by decide +kernel) rfl rfl rfl (by decide +kernel)
set_option maxRecDepth 65536 in
theorem w_c3 : (Jvm.Cond.code ({ cls := "java/lang/String", name := "<init>", desc := "([CIILjava/lang/Void;)V" } : Jvm.MethodName) jdk_42_method_149_code (6 : Nat) (Option.none : Option Jvm.ClassFile.FieldType)).before args0 about1 = true := code_word (m := ⟨7, 7⟩) (meth := k7m7) (c := k7c7) (by decide +kernel) rfl rfl rfl (by decide +kernel)
set_option maxRecDepth 65536 in
theorem w_c4 : (Jvm.Cond.code ({ cls := "java/lang/Object", name := "<init>", desc := "()V" } : Jvm.MethodName) object_method_1_code (1 : Nat) (Option.none : Option Jvm.ClassFile.FieldType)).before args0 about1 = true := code_word (m := ⟨0, 0⟩) (meth := k0m0) (c := k0c0) (by decide +kernel) rfl rfl rfl (by decide +kernel)
set_option maxRecDepth 65536 in
theorem w_c5 : (Jvm.Cond.code ({ cls := "com/example/penelope/penelope/frontend/CType$Tagged", name := "<init>", desc := "(Ljava/lang/String;Ljava/lang/String;)V" } : Jvm.MethodName) prog_57_method_1_code (3 : Nat) (Option.none : Option Jvm.ClassFile.FieldType)).before args0 about1 = true := code_word (m := ⟨10, 0⟩) (meth := k10m0) (c := k10c0) (by decide +kernel) rfl rfl rfl (by decide +kernel)
set_option maxRecDepth 65536 in
theorem w_c6 : (Jvm.Cond.code ({ cls := "java/lang/Record", name := "<init>", desc := "()V" } : Jvm.MethodName) jdk_30_method_1_code (1 : Nat) (Option.none : Option Jvm.ClassFile.FieldType)).before args0 about1 = true := code_word (m := ⟨8, 0⟩) (meth := k8m0) (c := k8c0) (by decide +kernel) rfl rfl rfl (by decide +kernel)
set_option maxRecDepth 65536 in
theorem w_c7 : (Jvm.Cond.code ({ cls := "com/example/penelope/penelope/frontend/CType$Tagged", name := "spelling", desc := "(Ljava/lang/String;)Ljava/lang/String;" } : Jvm.MethodName) prog_57_method_2_code (2 : Nat) (Option.some (Jvm.ClassFile.FieldType.object "java/lang/String"))).before args0 about1 = true := code_word (m := ⟨10, 1⟩) (meth := k10m1) (c := k10c1) (by decide +kernel) rfl rfl rfl (by decide +kernel)
set_option maxRecDepth 65536 in
theorem w_c8 : (Jvm.Cond.code ({ cls := "java/lang/StringBuilder", name := "<init>", desc := "()V" } : Jvm.MethodName) jdk_67_method_1_code (1 : Nat) (Option.none : Option Jvm.ClassFile.FieldType)).before args0 about1 = true := code_word (m := ⟨13, 0⟩) (meth := k13m0) (c := k13c0) (by decide +kernel) rfl rfl rfl (by decide +kernel)
set_option maxRecDepth 65536 in
theorem w_c9 : (Jvm.Cond.code ({ cls := "java/lang/AbstractStringBuilder", name := "<init>", desc := "(I)V" } : Jvm.MethodName) jdk_68_method_2_code (2 : Nat) (Option.none : Option Jvm.ClassFile.FieldType)).before args0 about1 = true := code_word (m := ⟨12, 1⟩) (meth := k12m1) (c := k12c1) (by decide +kernel) rfl rfl rfl (by decide +kernel)
set_option maxRecDepth 65536 in
theorem w_c10 : (Jvm.Cond.code ({ cls := "java/lang/StringBuilder", name := "append", desc := "(Ljava/lang/String;)Ljava/lang/StringBuilder;" } : Jvm.MethodName) jdk_67_method_7_code (2 : Nat) (Option.some (Jvm.ClassFile.FieldType.object "java/lang/StringBuilder"))).before args0 about1 = true := code_word (m := ⟨13, 1⟩) (meth := k13m1) (c := k13c1) (by decide +kernel) rfl rfl rfl (by decide +kernel)
set_option maxRecDepth 65536 in
theorem w_c11 : (Jvm.Cond.code ({ cls := "java/lang/AbstractStringBuilder", name := "append", desc := "(Ljava/lang/String;)Ljava/lang/AbstractStringBuilder;" } : Jvm.MethodName) jdk_68_method_22_code (3 : Nat) (Option.some (Jvm.ClassFile.FieldType.object "java/lang/AbstractStringBuilder"))).before args0 about1 = true := code_word (m := ⟨12, 5⟩) (meth := k12m5) (c := k12c5) (by decide +kernel) rfl rfl rfl (by decide +kernel)
set_option maxRecDepth 65536 in
theorem w_c12 : (Jvm.Cond.code ({ cls := "java/lang/String", name := "length", desc := "()I" } : Jvm.MethodName) jdk_42_method_54_code (1 : Nat) (Option.some Jvm.ClassFile.FieldType.int)).before args0 about1 = true := code_word (m := ⟨7, 3⟩) (meth := k7m3) (c := k7c3) (by decide +kernel) rfl rfl rfl (by decide +kernel)
set_option maxRecDepth 65536 in
theorem w_c13 : (Jvm.Cond.code ({ cls := "java/lang/String", name := "coder", desc := "()B" } : Jvm.MethodName) jdk_42_method_152_code (1 : Nat) (Option.some Jvm.ClassFile.FieldType.byte)).before args0 about1 = true := code_word (m := ⟨7, 9⟩) (meth := k7m9) (c := k7c9) (by decide +kernel) rfl rfl rfl (by decide +kernel)
set_option maxRecDepth 65536 in
theorem w_c14 : (Jvm.Cond.code ({ cls := "java/lang/AbstractStringBuilder", name := "ensureCapacityInternal", desc := "(I)V" } : Jvm.MethodName) jdk_68_method_9_code (3 : Nat) (Option.none : Option Jvm.ClassFile.FieldType)).before args0 about1 = true := code_word (m := ⟨12, 3⟩) (meth := k12m3) (c := k12c3) (by decide +kernel) rfl rfl rfl (by decide +kernel)
set_option maxRecDepth 65536 in
theorem w_c15 : (Jvm.Cond.code ({ cls := "java/lang/AbstractStringBuilder", name := "putStringAt", desc := "(ILjava/lang/String;)V" } : Jvm.MethodName) jdk_68_method_73_code (3 : Nat) (Option.none : Option Jvm.ClassFile.FieldType)).before args0 about1 = true := code_word (m := ⟨12, 9⟩) (meth := k12m9) (c := k12c9) (by decide +kernel) rfl rfl rfl (by decide +kernel)
set_option maxRecDepth 65536 in
theorem w_c16 : (Jvm.Cond.code ({ cls := "java/lang/AbstractStringBuilder", name := "inflateIfNeededFor", desc := "(Ljava/lang/String;)V" } : Jvm.MethodName) jdk_68_method_71_code (2 : Nat) (Option.none : Option Jvm.ClassFile.FieldType)).before args0 about1 = true := code_word (m := ⟨12, 8⟩) (meth := k12m8) (c := k12c8) (by decide +kernel) rfl rfl rfl (by decide +kernel)
set_option maxRecDepth 65536 in
theorem w_c17 : (Jvm.Cond.code ({ cls := "java/lang/String", name := "getBytes", desc := "([BIB)V" } : Jvm.MethodName) jdk_42_method_147_code (4 : Nat) (Option.none : Option Jvm.ClassFile.FieldType)).before args0 about1 = true := code_word (m := ⟨7, 6⟩) (meth := k7m6) (c := k7c6) (by decide +kernel) rfl rfl rfl (by decide +kernel)
set_option maxRecDepth 65536 in
theorem w_c18 : (Jvm.Cond.code ({ cls := "java/lang/StringBuilder", name := "toString", desc := "()Ljava/lang/String;" } : Jvm.MethodName) jdk_67_method_42_code (1 : Nat) (Option.some (Jvm.ClassFile.FieldType.object "java/lang/String"))).before args0 about1 = true := code_word (m := ⟨13, 2⟩) (meth := k13m2) (c := k13c2) (by decide +kernel) rfl rfl rfl (by decide +kernel)
set_option maxRecDepth 65536 in
theorem w_c19 : (Jvm.Cond.code ({ cls := "java/lang/String", name := "<init>", desc := "(Ljava/lang/StringBuilder;)V" } : Jvm.MethodName) jdk_42_method_53_code (2 : Nat) (Option.none : Option Jvm.ClassFile.FieldType)).before args0 about1 = true := code_word (m := ⟨7, 2⟩) (meth := k7m2) (c := k7c2) (by decide +kernel) rfl rfl rfl (by decide +kernel)
set_option maxRecDepth 65536 in
theorem w_c20 : (Jvm.Cond.code ({ cls := "java/lang/String", name := "<init>", desc := "(Ljava/lang/AbstractStringBuilder;Ljava/lang/Void;)V" } : Jvm.MethodName) jdk_42_method_150_code (5 : Nat) (Option.none : Option Jvm.ClassFile.FieldType)).before args0 about1 = true := code_word (m := ⟨7, 8⟩) (meth := k7m8) (c := k7c8) (by decide +kernel) rfl rfl rfl (by decide +kernel)
set_option maxRecDepth 65536 in
theorem w_c21 : (Jvm.Cond.code ({ cls := "java/lang/AbstractStringBuilder", name := "getValue", desc := "()[B" } : Jvm.MethodName) jdk_68_method_64_code (1 : Nat) (Option.some (Jvm.ClassFile.FieldType.array Jvm.ClassFile.FieldType.byte))).before args0 about1 = true := code_word (m := ⟨12, 6⟩) (meth := k12m6) (c := k12c6) (by decide +kernel) rfl rfl rfl (by decide +kernel)
set_option maxRecDepth 65536 in
theorem w_c22 : (Jvm.Cond.code ({ cls := "java/lang/StringBuilder", name := "length", desc := "()I" } : Jvm.MethodName) jdk_67_method_93_code (1 : Nat) (Option.some Jvm.ClassFile.FieldType.int)).before args0 about1 = true := code_word (m := ⟨13, 3⟩) (meth := k13m3) (c := k13c3) (by decide +kernel) rfl rfl rfl (by decide +kernel)
set_option maxRecDepth 65536 in
theorem w_c23 : (Jvm.Cond.code ({ cls := "java/lang/AbstractStringBuilder", name := "length", desc := "()I" } : Jvm.MethodName) jdk_68_method_6_code (1 : Nat) (Option.some Jvm.ClassFile.FieldType.int)).before args0 about1 = true := code_word (m := ⟨12, 2⟩) (meth := k12m2) (c := k12c2) (by decide +kernel) rfl rfl rfl (by decide +kernel)
set_option maxRecDepth 65536 in
theorem w_c24 : (Jvm.Cond.code ({ cls := "java/lang/AbstractStringBuilder", name := "isLatin1", desc := "()Z" } : Jvm.MethodName) jdk_68_method_68_code (1 : Nat) (Option.some Jvm.ClassFile.FieldType.boolean)).before args0 about1 = true := code_word (m := ⟨12, 7⟩) (meth := k12m7) (c := k12c7) (by decide +kernel) rfl rfl rfl (by decide +kernel)
set_option maxRecDepth 65536 in
theorem w_c25 : (Jvm.Cond.code ({ cls := "java/util/Arrays", name := "copyOfRange", desc := "([BII)[B" } : Jvm.MethodName) jdk_65_method_132_code (3 : Nat) (Option.some (Jvm.ClassFile.FieldType.array Jvm.ClassFile.FieldType.byte))).before args0 about1 = true := code_word (m := ⟨15, 3⟩) (meth := k15m3) (c := k15c3) (by decide +kernel) rfl rfl rfl (by decide +kernel)
set_option maxRecDepth 65536 in
theorem w_c26 : (Jvm.Cond.code ({ cls := "java/util/Arrays", name := "copyOfRangeByte", desc := "([BII)[B" } : Jvm.MethodName) jdk_65_method_133_code (5 : Nat) (Option.some (Jvm.ClassFile.FieldType.array Jvm.ClassFile.FieldType.byte))).before args0 about1 = true := code_word (m := ⟨15, 4⟩) (meth := k15m4) (c := k15c4) (by decide +kernel) rfl rfl rfl (by decide +kernel)
set_option maxRecDepth 65536 in
theorem w_c27 : (Jvm.Cond.code ({ cls := "java/util/Arrays", name := "checkLength", desc := "(II)V" } : Jvm.MethodName) jdk_65_method_131_code (2 : Nat) (Option.none : Option Jvm.ClassFile.FieldType)).before args0 about1 = true := code_word (m := ⟨15, 2⟩) (meth := k15m2) (c := k15c2) (by decide +kernel) rfl rfl rfl (by decide +kernel)
set_option maxRecDepth 65536 in
theorem w_c28 : (Jvm.Cond.code ({ cls := "java/lang/Math", name := "min", desc := "(II)I" } : Jvm.MethodName) jdk_29_method_69_code (2 : Nat) (Option.some Jvm.ClassFile.FieldType.int)).before args0 about1 = true := code_word (m := ⟨16, 2⟩) (meth := k16m2) (c := k16c2) (by decide +kernel) rfl rfl rfl (by decide +kernel)
set_option maxRecDepth 65536 in
theorem w_c29 : (Jvm.Cond.code ({ cls := "com/example/penelope/penelope/frontend/CType", name := "declaring", desc := "(Ljava/lang/String;Ljava/lang/String;)Ljava/lang/String;" } : Jvm.MethodName) prog_51_method_5_code (2 : Nat) (Option.some (Jvm.ClassFile.FieldType.object "java/lang/String"))).before args0 about1 = true := code_word (m := ⟨9, 0⟩) (meth := k9m0) (c := k9c0) (by decide +kernel) rfl rfl rfl (by decide +kernel)
set_option maxRecDepth 65536 in
theorem w_c30 : (Jvm.Cond.code ({ cls := "java/lang/String", name := "isEmpty", desc := "()Z" } : Jvm.MethodName) jdk_42_method_55_code (1 : Nat) (Option.some Jvm.ClassFile.FieldType.boolean)).before args0 about1 = true := code_word (m := ⟨7, 4⟩) (meth := k7m4) (c := k7c4) (by decide +kernel) rfl rfl rfl (by decide +kernel)
set_option maxRecDepth 65536 in
theorem w_c31 : (Jvm.Cond.code ({ cls := "com/example/penelope/penelope/frontend/TaggedSpellingPinLaw", name := "match", desc := "(Ljava/lang/String;ILjava/lang/String;)Z" } : Jvm.MethodName) method_5_code (3 : Nat) (Option.some Jvm.ClassFile.FieldType.boolean)).before args0 about1 = true := code_word (m := ⟨1, 4⟩) (meth := k1m4) (c := k1c4) (by decide +kernel) rfl rfl rfl (by decide +kernel)
set_option maxRecDepth 65536 in
theorem w_c32 : (Jvm.Cond.code ({ cls := "com/example/penelope/penelope/frontend/TaggedSpellingPinLaw", name := "eqAt", desc := "(Ljava/lang/String;ILjava/lang/String;I)Z" } : Jvm.MethodName) method_4_code (4 : Nat) (Option.some Jvm.ClassFile.FieldType.boolean)).before args0 about1 = true := code_word (m := ⟨1, 3⟩) (meth := k1m3) (c := k1c3) (by decide +kernel) rfl rfl rfl (by decide +kernel)
set_option maxRecDepth 65536 in
theorem w_c33 : (Jvm.Cond.code ({ cls := "java/lang/String", name := "charAt", desc := "(I)C" } : Jvm.MethodName) jdk_42_method_56_code (2 : Nat) (Option.some Jvm.ClassFile.FieldType.char)).before args0 about1 = true := code_word (m := ⟨7, 5⟩) (meth := k7m5) (c := k7c5) (by decide +kernel) rfl rfl rfl (by decide +kernel)
set_option maxRecDepth 65536 in
theorem w_c34 : (Jvm.Cond.code ({ cls := "java/lang/String", name := "isLatin1", desc := "()Z" } : Jvm.MethodName) jdk_42_method_154_code (1 : Nat) (Option.some Jvm.ClassFile.FieldType.boolean)).before args0 about1 = true := code_word (m := ⟨7, 10⟩) (meth := k7m10) (c := k7c10) (by decide +kernel) rfl rfl rfl (by decide +kernel)
set_option maxRecDepth 65536 in
theorem w_c35 : (Jvm.Cond.code ({ cls := "java/lang/StringLatin1", name := "charAt", desc := "([BI)C" } : Jvm.MethodName) jdk_43_method_2_code (2 : Nat) (Option.some Jvm.ClassFile.FieldType.char)).before args0 about1 = true := code_word (m := ⟨17, 1⟩) (meth := k17m1) (c := k17c1) (by decide +kernel) rfl rfl rfl (by decide +kernel)
set_option maxRecDepth 65536 in
theorem w_c36 : (Jvm.Cond.code ({ cls := "java/lang/String", name := "checkIndex", desc := "(II)V" } : Jvm.MethodName) jdk_42_method_155_code (2 : Nat) (Option.none : Option Jvm.ClassFile.FieldType)).before args0 about1 = true := code_word (m := ⟨7, 11⟩) (meth := k7m11) (c := k7c11) (by decide +kernel) rfl rfl rfl (by decide +kernel)
set_option maxRecDepth 65536 in
theorem w_c37 : (Jvm.Cond.code ({ cls := "jdk/internal/util/Preconditions", name := "checkIndex", desc := "(IILjava/util/function/BiFunction;)I" } : Jvm.MethodName) jdk_41_method_11_code (3 : Nat) (Option.some Jvm.ClassFile.FieldType.int)).before args0 about1 = true := code_word (m := ⟨18, 1⟩) (meth := k18m1) (c := k18c1) (by decide +kernel) rfl rfl rfl (by decide +kernel)
set_option maxRecDepth 65536 in
theorem w_c38 : (Jvm.Cond.code ({ cls := "java/lang/StringUTF16", name := "compress", desc := "([CII)[B" } : Jvm.MethodName) jdk_52_method_16_code (6 : Nat) (Option.some (Jvm.ClassFile.FieldType.array Jvm.ClassFile.FieldType.byte))).before args0 about1 = true := code_word (m := ⟨19, 2⟩) (meth := k19m2) (c := k19c2) (by decide +kernel) rfl rfl rfl (by decide +kernel)
set_option maxRecDepth 65536 in
theorem w_c39 : (Jvm.Cond.code ({ cls := "java/lang/StringUTF16", name := "compress", desc := "([CI[BII)I" } : Jvm.MethodName) jdk_52_method_21_code (7 : Nat) (Option.some Jvm.ClassFile.FieldType.int)).before args0 about1 = true := code_word (m := ⟨19, 3⟩) (meth := k19m3) (c := k19c3) (by decide +kernel) rfl rfl rfl (by decide +kernel)
set_option maxRecDepth 65536 in
theorem w_c40 : (Jvm.Cond.code ({ cls := "java/lang/StringUTF16", name := "coderFromArrayLen", desc := "([BI)B" } : Jvm.MethodName) jdk_52_method_15_code (2 : Nat) (Option.some Jvm.ClassFile.FieldType.byte)).before args0 about1 = true := code_word (m := ⟨19, 1⟩) (meth := k19m1) (c := k19c1) (by decide +kernel) rfl rfl rfl (by decide +kernel)
set_option maxRecDepth 65536 in
theorem w_c41 : (Jvm.Cond.code ({ cls := "java/lang/AbstractStringBuilder", name := "newCapacity", desc := "(I)I" } : Jvm.MethodName) jdk_68_method_10_code (6 : Nat) (Option.some Jvm.ClassFile.FieldType.int)).before args0 about1 = true := code_word (m := ⟨12, 4⟩) (meth := k12m4) (c := k12c4) (by decide +kernel) rfl rfl rfl (by decide +kernel)
set_option maxRecDepth 65536 in
theorem w_c42 : (Jvm.Cond.code ({ cls := "jdk/internal/util/ArraysSupport", name := "newLength", desc := "(III)I" } : Jvm.MethodName) jdk_48_method_27_code (4 : Nat) (Option.some Jvm.ClassFile.FieldType.int)).before args0 about1 = true := code_word (m := ⟨21, 1⟩) (meth := k21m1) (c := k21c1) (by decide +kernel) rfl rfl rfl (by decide +kernel)
set_option maxRecDepth 65536 in
theorem w_c43 : (Jvm.Cond.code ({ cls := "java/lang/Math", name := "max", desc := "(II)I" } : Jvm.MethodName) jdk_29_method_65_code (2 : Nat) (Option.some Jvm.ClassFile.FieldType.int)).before args0 about1 = true := code_word (m := ⟨16, 1⟩) (meth := k16m1) (c := k16c1) (by decide +kernel) rfl rfl rfl (by decide +kernel)
set_option maxRecDepth 65536 in
theorem w_c44 : (Jvm.Cond.code ({ cls := "java/util/Arrays", name := "copyOf", desc := "([BI)[B" } : Jvm.MethodName) jdk_65_method_121_code (3 : Nat) (Option.some (Jvm.ClassFile.FieldType.array Jvm.ClassFile.FieldType.byte))).before args0 about1 = true := code_word (m := ⟨15, 1⟩) (meth := k15m1) (c := k15c1) (by decide +kernel) rfl rfl rfl (by decide +kernel)
def codes1 : List Jvm.Cond := [Jvm.Cond.code x code maxLocals ret, Jvm.Cond.code ({ cls := "com/example/penelope/penelope/frontend/TaggedSpellingPinLaw", name := "mk", desc := "(ICCC)Ljava/lang/String;" } : Jvm.MethodName) method_3_code (4 : Nat) (Option.some (Jvm.ClassFile.FieldType.object "java/lang/String")), Jvm.Cond.code ({ cls := "java/lang/String", name := "<init>", desc := "([C)V" } : Jvm.MethodName) jdk_42_method_3_code (2 : Nat) (Option.none : Option Jvm.ClassFile.FieldType), Jvm.Cond.code ({ cls := "java/lang/String", name := "<init>", desc := "([CIILjava/lang/Void;)V" } : Jvm.MethodName) jdk_42_method_149_code (6 : Nat) (Option.none : Option Jvm.ClassFile.FieldType), Jvm.Cond.code ({ cls := "java/lang/Object", name := "<init>", desc := "()V" } : Jvm.MethodName) object_method_1_code (1 : Nat) (Option.none : Option Jvm.ClassFile.FieldType), Jvm.Cond.code ({ cls := "com/example/penelope/penelope/frontend/CType$Tagged", name := "<init>", desc := "(Ljava/lang/String;Ljava/lang/String;)V" } : Jvm.MethodName) prog_57_method_1_code (3 : Nat) (Option.none : Option Jvm.ClassFile.FieldType), Jvm.Cond.code ({ cls := "java/lang/Record", name := "<init>", desc := "()V" } : Jvm.MethodName) jdk_30_method_1_code (1 : Nat) (Option.none : Option Jvm.ClassFile.FieldType), Jvm.Cond.code ({ cls := "com/example/penelope/penelope/frontend/CType$Tagged", name := "spelling", desc := "(Ljava/lang/String;)Ljava/lang/String;" } : Jvm.MethodName) prog_57_method_2_code (2 : Nat) (Option.some (Jvm.ClassFile.FieldType.object "java/lang/String")), Jvm.Cond.code ({ cls := "java/lang/StringBuilder", name := "<init>", desc := "()V" } : Jvm.MethodName) jdk_67_method_1_code (1 : Nat) (Option.none : Option Jvm.ClassFile.FieldType), Jvm.Cond.code ({ cls := "java/lang/AbstractStringBuilder", name := "<init>", desc := "(I)V" } : Jvm.MethodName) jdk_68_method_2_code (2 : Nat) (Option.none : Option Jvm.ClassFile.FieldType), Jvm.Cond.code ({ cls := "java/lang/StringBuilder", name := "append", desc := "(Ljava/lang/String;)Ljava/lang/StringBuilder;" } : Jvm.MethodName) jdk_67_method_7_code (2 : Nat) (Option.some (Jvm.ClassFile.FieldType.object "java/lang/StringBuilder")), Jvm.Cond.code ({ cls := "java/lang/AbstractStringBuilder", name := "append", desc := "(Ljava/lang/String;)Ljava/lang/AbstractStringBuilder;" } : Jvm.MethodName) jdk_68_method_22_code (3 : Nat) (Option.some (Jvm.ClassFile.FieldType.object "java/lang/AbstractStringBuilder")), Jvm.Cond.code ({ cls := "java/lang/String", name := "length", desc := "()I" } : Jvm.MethodName) jdk_42_method_54_code (1 : Nat) (Option.some Jvm.ClassFile.FieldType.int), Jvm.Cond.code ({ cls := "java/lang/String", name := "coder", desc := "()B" } : Jvm.MethodName) jdk_42_method_152_code (1 : Nat) (Option.some Jvm.ClassFile.FieldType.byte), Jvm.Cond.code ({ cls := "java/lang/AbstractStringBuilder", name := "ensureCapacityInternal", desc := "(I)V" } : Jvm.MethodName) jdk_68_method_9_code (3 : Nat) (Option.none : Option Jvm.ClassFile.FieldType), Jvm.Cond.code ({ cls := "java/lang/AbstractStringBuilder", name := "putStringAt", desc := "(ILjava/lang/String;)V" } : Jvm.MethodName) jdk_68_method_73_code (3 : Nat) (Option.none : Option Jvm.ClassFile.FieldType), Jvm.Cond.code ({ cls := "java/lang/AbstractStringBuilder", name := "inflateIfNeededFor", desc := "(Ljava/lang/String;)V" } : Jvm.MethodName) jdk_68_method_71_code (2 : Nat) (Option.none : Option Jvm.ClassFile.FieldType), Jvm.Cond.code ({ cls := "java/lang/String", name := "getBytes", desc := "([BIB)V" } : Jvm.MethodName) jdk_42_method_147_code (4 : Nat) (Option.none : Option Jvm.ClassFile.FieldType), Jvm.Cond.code ({ cls := "java/lang/StringBuilder", name := "toString", desc := "()Ljava/lang/String;" } : Jvm.MethodName) jdk_67_method_42_code (1 : Nat) (Option.some (Jvm.ClassFile.FieldType.object "java/lang/String")), Jvm.Cond.code ({ cls := "java/lang/String", name := "<init>", desc := "(Ljava/lang/StringBuilder;)V" } : Jvm.MethodName) jdk_42_method_53_code (2 : Nat) (Option.none : Option Jvm.ClassFile.FieldType), Jvm.Cond.code ({ cls := "java/lang/String", name := "<init>", desc := "(Ljava/lang/AbstractStringBuilder;Ljava/lang/Void;)V" } : Jvm.MethodName) jdk_42_method_150_code (5 : Nat) (Option.none : Option Jvm.ClassFile.FieldType), Jvm.Cond.code ({ cls := "java/lang/AbstractStringBuilder", name := "getValue", desc := "()[B" } : Jvm.MethodName) jdk_68_method_64_code (1 : Nat) (Option.some (Jvm.ClassFile.FieldType.array Jvm.ClassFile.FieldType.byte)), Jvm.Cond.code ({ cls := "java/lang/StringBuilder", name := "length", desc := "()I" } : Jvm.MethodName) jdk_67_method_93_code (1 : Nat) (Option.some Jvm.ClassFile.FieldType.int), Jvm.Cond.code ({ cls := "java/lang/AbstractStringBuilder", name := "length", desc := "()I" } : Jvm.MethodName) jdk_68_method_6_code (1 : Nat) (Option.some Jvm.ClassFile.FieldType.int), Jvm.Cond.code ({ cls := "java/lang/AbstractStringBuilder", name := "isLatin1", desc := "()Z" } : Jvm.MethodName) jdk_68_method_68_code (1 : Nat) (Option.some Jvm.ClassFile.FieldType.boolean), Jvm.Cond.code ({ cls := "java/util/Arrays", name := "copyOfRange", desc := "([BII)[B" } : Jvm.MethodName) jdk_65_method_132_code (3 : Nat) (Option.some (Jvm.ClassFile.FieldType.array Jvm.ClassFile.FieldType.byte)), Jvm.Cond.code ({ cls := "java/util/Arrays", name := "copyOfRangeByte", desc := "([BII)[B" } : Jvm.MethodName) jdk_65_method_133_code (5 : Nat) (Option.some (Jvm.ClassFile.FieldType.array Jvm.ClassFile.FieldType.byte)), Jvm.Cond.code ({ cls := "java/util/Arrays", name := "checkLength", desc := "(II)V" } : Jvm.MethodName) jdk_65_method_131_code (2 : Nat) (Option.none : Option Jvm.ClassFile.FieldType), Jvm.Cond.code ({ cls := "java/lang/Math", name := "min", desc := "(II)I" } : Jvm.MethodName) jdk_29_method_69_code (2 : Nat) (Option.some Jvm.ClassFile.FieldType.int), Jvm.Cond.code ({ cls := "com/example/penelope/penelope/frontend/CType", name := "declaring", desc := "(Ljava/lang/String;Ljava/lang/String;)Ljava/lang/String;" } : Jvm.MethodName) prog_51_method_5_code (2 : Nat) (Option.some (Jvm.ClassFile.FieldType.object "java/lang/String")), Jvm.Cond.code ({ cls := "java/lang/String", name := "isEmpty", desc := "()Z" } : Jvm.MethodName) jdk_42_method_55_code (1 : Nat) (Option.some Jvm.ClassFile.FieldType.boolean), Jvm.Cond.code ({ cls := "com/example/penelope/penelope/frontend/TaggedSpellingPinLaw", name := "match", desc := "(Ljava/lang/String;ILjava/lang/String;)Z" } : Jvm.MethodName) method_5_code (3 : Nat) (Option.some Jvm.ClassFile.FieldType.boolean), Jvm.Cond.code ({ cls := "com/example/penelope/penelope/frontend/TaggedSpellingPinLaw", name := "eqAt", desc := "(Ljava/lang/String;ILjava/lang/String;I)Z" } : Jvm.MethodName) method_4_code (4 : Nat) (Option.some Jvm.ClassFile.FieldType.boolean), Jvm.Cond.code ({ cls := "java/lang/String", name := "charAt", desc := "(I)C" } : Jvm.MethodName) jdk_42_method_56_code (2 : Nat) (Option.some Jvm.ClassFile.FieldType.char), Jvm.Cond.code ({ cls := "java/lang/String", name := "isLatin1", desc := "()Z" } : Jvm.MethodName) jdk_42_method_154_code (1 : Nat) (Option.some Jvm.ClassFile.FieldType.boolean), Jvm.Cond.code ({ cls := "java/lang/StringLatin1", name := "charAt", desc := "([BI)C" } : Jvm.MethodName) jdk_43_method_2_code (2 : Nat) (Option.some Jvm.ClassFile.FieldType.char), Jvm.Cond.code ({ cls := "java/lang/String", name := "checkIndex", desc := "(II)V" } : Jvm.MethodName) jdk_42_method_155_code (2 : Nat) (Option.none : Option Jvm.ClassFile.FieldType), Jvm.Cond.code ({ cls := "jdk/internal/util/Preconditions", name := "checkIndex", desc := "(IILjava/util/function/BiFunction;)I" } : Jvm.MethodName) jdk_41_method_11_code (3 : Nat) (Option.some Jvm.ClassFile.FieldType.int), Jvm.Cond.code ({ cls := "java/lang/StringUTF16", name := "compress", desc := "([CII)[B" } : Jvm.MethodName) jdk_52_method_16_code (6 : Nat) (Option.some (Jvm.ClassFile.FieldType.array Jvm.ClassFile.FieldType.byte)), Jvm.Cond.code ({ cls := "java/lang/StringUTF16", name := "compress", desc := "([CI[BII)I" } : Jvm.MethodName) jdk_52_method_21_code (7 : Nat) (Option.some Jvm.ClassFile.FieldType.int), Jvm.Cond.code ({ cls := "java/lang/StringUTF16", name := "coderFromArrayLen", desc := "([BI)B" } : Jvm.MethodName) jdk_52_method_15_code (2 : Nat) (Option.some Jvm.ClassFile.FieldType.byte), Jvm.Cond.code ({ cls := "java/lang/AbstractStringBuilder", name := "newCapacity", desc := "(I)I" } : Jvm.MethodName) jdk_68_method_10_code (6 : Nat) (Option.some Jvm.ClassFile.FieldType.int), Jvm.Cond.code ({ cls := "jdk/internal/util/ArraysSupport", name := "newLength", desc := "(III)I" } : Jvm.MethodName) jdk_48_method_27_code (4 : Nat) (Option.some Jvm.ClassFile.FieldType.int), Jvm.Cond.code ({ cls := "java/lang/Math", name := "max", desc := "(II)I" } : Jvm.MethodName) jdk_29_method_65_code (2 : Nat) (Option.some Jvm.ClassFile.FieldType.int), Jvm.Cond.code ({ cls := "java/util/Arrays", name := "copyOf", desc := "([BI)[B" } : Jvm.MethodName) jdk_65_method_121_code (3 : Nat) (Option.some (Jvm.ClassFile.FieldType.array Jvm.ClassFile.FieldType.byte))]
set_option maxRecDepth 65536 in
theorem codes_eq : words1.filter isCode = codes1 := rfl
theorem w_codes : ∀ c ∈ words1.filter isCode, c.before args0 about1 = true := by
  rw [codes_eq]
  intro c hc
  simp only [codes1, List.mem_cons, List.not_mem_nil, or_false] at hc
  rcases hc with rfl | rfl | rfl | rfl | rfl | rfl | rfl | rfl | rfl | rfl | rfl | rfl | rfl | rfl | rfl | rfl | rfl | rfl | rfl | rfl | rfl | rfl | rfl | rfl | rfl | rfl | rfl | rfl | rfl | rfl | rfl | rfl | rfl | rfl | rfl | rfl | rfl | rfl | rfl | rfl | rfl | rfl | rfl | rfl | rfl
  · exact w_c0
  · exact w_c1
  · exact w_c2
  · exact w_c3
  · exact w_c4
  · exact w_c5
  · exact w_c6
  · exact w_c7
  · exact w_c8
  · exact w_c9
  · exact w_c10
  · exact w_c11
  · exact w_c12
  · exact w_c13
  · exact w_c14
  · exact w_c15
  · exact w_c16
  · exact w_c17
  · exact w_c18
  · exact w_c19
  · exact w_c20
  · exact w_c21
  · exact w_c22
  · exact w_c23
  · exact w_c24
  · exact w_c25
  · exact w_c26
  · exact w_c27
  · exact w_c28
  · exact w_c29
  · exact w_c30
  · exact w_c31
  · exact w_c32
  · exact w_c33
  · exact w_c34
  · exact w_c35
  · exact w_c36
  · exact w_c37
  · exact w_c38
  · exact w_c39
  · exact w_c40
  · exact w_c41
  · exact w_c42
  · exact w_c43
  · exact w_c44
set_option maxRecDepth 65536 in
theorem w_t1 : (words1.take 24).all (fun c => isCode c || c.before args0 about1) = true := by decide +kernel
set_option maxRecDepth 65536 in
theorem w_t2 : ((words1.drop 24).take 24).all (fun c => isCode c || c.before args0 about1) = true := by decide +kernel
set_option maxRecDepth 65536 in
theorem w_t3 : (((words1.drop 24).drop 24).take 24).all (fun c => isCode c || c.before args0 about1) = true := by decide +kernel
set_option maxRecDepth 65536 in
theorem w_t4 : ((((words1.drop 24).drop 24).drop 24).take 24).all (fun c => isCode c || c.before args0 about1) = true := by decide +kernel
set_option maxRecDepth 65536 in
theorem w_t5 : (((((words1.drop 24).drop 24).drop 24).drop 24).take 24).all (fun c => isCode c || c.before args0 about1) = true := by decide +kernel
set_option maxRecDepth 65536 in
theorem w_t6 : ((((((words1.drop 24).drop 24).drop 24).drop 24).drop 24).take 24).all (fun c => isCode c || c.before args0 about1) = true := by decide +kernel
set_option maxRecDepth 65536 in
theorem w_t7 : (((((((words1.drop 24).drop 24).drop 24).drop 24).drop 24).drop 24).take 24).all (fun c => isCode c || c.before args0 about1) = true := by decide +kernel
set_option maxRecDepth 65536 in
theorem w_t8 : ((((((((words1.drop 24).drop 24).drop 24).drop 24).drop 24).drop 24).drop 24).take 24).all (fun c => isCode c || c.before args0 about1) = true := by decide +kernel
set_option maxRecDepth 65536 in
theorem w_t9 : (((((((((words1.drop 24).drop 24).drop 24).drop 24).drop 24).drop 24).drop 24).drop 24).take 24).all (fun c => isCode c || c.before args0 about1) = true := by decide +kernel
set_option maxRecDepth 65536 in
theorem w_t10 : ((((((((((words1.drop 24).drop 24).drop 24).drop 24).drop 24).drop 24).drop 24).drop 24).drop 24).take 24).all (fun c => isCode c || c.before args0 about1) = true := by decide +kernel
set_option maxRecDepth 65536 in
theorem w_t11 : ((((((((((words1.drop 24).drop 24).drop 24).drop 24).drop 24).drop 24).drop 24).drop 24).drop 24).drop 24).all (fun c => isCode c || c.before args0 about1) = true := by decide +kernel
theorem w_tables : (allAtoms (Jvm.Cond.code x code maxLocals ret :: tables_1)).before args0 about1 = true := by
  rw [allAtoms_all]
  show words1.all (fun c => c.before args0 about1) = true
  refine all_split ?_ w_codes
  rw [← List.take_append_drop 24 words1, List.all_append, w_t1, ← List.take_append_drop 24 (words1.drop 24), List.all_append, w_t2, ← List.take_append_drop 24 ((words1.drop 24).drop 24), List.all_append, w_t3, ← List.take_append_drop 24 (((words1.drop 24).drop 24).drop 24), List.all_append, w_t4, ← List.take_append_drop 24 ((((words1.drop 24).drop 24).drop 24).drop 24), List.all_append, w_t5, ← List.take_append_drop 24 (((((words1.drop 24).drop 24).drop 24).drop 24).drop 24), List.all_append, w_t6, ← List.take_append_drop 24 ((((((words1.drop 24).drop 24).drop 24).drop 24).drop 24).drop 24), List.all_append, w_t7, ← List.take_append_drop 24 (((((((words1.drop 24).drop 24).drop 24).drop 24).drop 24).drop 24).drop 24), List.all_append, w_t8, ← List.take_append_drop 24 ((((((((words1.drop 24).drop 24).drop 24).drop 24).drop 24).drop 24).drop 24).drop 24), List.all_append, w_t9, ← List.take_append_drop 24 (((((((((words1.drop 24).drop 24).drop 24).drop 24).drop 24).drop 24).drop 24).drop 24).drop 24), List.all_append, w_t10, w_t11]
  rfl
set_option maxRecDepth 65536 in
theorem w_rest : rest_1_c.before args0 about1 = true := by decide +kernel
set_option maxRecDepth 65536 in
theorem w_case : (Jvm.Cond.and given_1 narrow_1).before args0 about1 = true := by decide +kernel
set_option maxRecDepth 65536 in
theorem w_consts : constsHeld consts_1 about1 := Jvm.Lit.constsHeldB_iff.mp (by decide +kernel)
theorem w_applies : (headSpec (Jvm.Cond.code x code maxLocals ret :: tables_1) room_1).applies x e0.platform about1 = true :=
  (Spec.applies_iff w_frames).mpr ⟨w_running, w_runnable, w_alone, w_named, w_hears, w_ripe, w_room, w_tables⟩
theorem atStart : AtStart classFile x code maxLocals ret World_1 tables_1 room_1 Calls_1 rest_1 Pre_1 launch0 p0 e0 about1 theMethod args0 below0 :=
  ⟨lists_1, trivial, launch0.admits_env _ _ _, launch0.least_env, fairChoices_fair.cas, fairChoices_fair.clock, w_frames, w_args, w_heap, w_applies, ⟨w_consts, trivial⟩, w_rest, w_case⟩
end start1
theorem witness_1 : WitnessClaimed_1 := ⟨start1.p0, start1.e0, start1.about1, start1.theMethod, start1.args0, start1.below0, start1.atStart⟩
end Jvm.Pilot.@@N@@
