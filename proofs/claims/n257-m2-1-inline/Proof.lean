import JvmDerived
import JvmDerived.Pilot.@@N@@Statement
import JvmDerived.Pilot.@@N@@Code
set_option linter.unusedVariables false
set_option linter.unusedSimpArgs false
namespace Jvm.OwnW
open Sem ClassFile Op Lib Bundle Jvm.Stand Jvm.Free Jvm.LawKit Jvm.RoadKit
/-! OwnW: a walk as one goal. Go: 'from every state of the walk that stands over this heap, with this frame, the method comes to its end with Q'. Each step is one lemma; tables, written places, rebased starts and booked constants ride inside. -/
abbrev Gb : Type := Launch × State × Array Value × List (String × Nat)
abbrev Gb.l (G : Gb) : Launch := G.1
abbrev Gb.Z (G : Gb) : State := G.2.1
abbrev Gb.a0 (G : Gb) : Array Value := G.2.2.1
abbrev Gb.EL (G : Gb) : List (String × Nat) := G.2.2.2
abbrev Cx : Type := (Program × Env × State × MethodId) × (Array Value × List Frame × Method × Code)
abbrev Cx.p (B : Cx) : Program := B.1.1
abbrev Cx.e (B : Cx) : Env := B.1.2.1
abbrev Cx.s (B : Cx) : State := B.1.2.2.1
abbrev Cx.m (B : Cx) : MethodId := B.1.2.2.2
abbrev Cx.as (B : Cx) : Array Value := B.2.1
abbrev Cx.bl (B : Cx) : List Frame := B.2.2.1
abbrev Cx.mt (B : Cx) : Method := B.2.2.2.1
abbrev Cx.c (B : Cx) : Code := B.2.2.2.2
abbrev Mt : Type := (String × String × Room) × (List (Nat × Instr × Nat) × Nat × Option FieldType)
abbrev Mt.own (M : Mt) : String := M.1.1
abbrev Mt.nm (M : Mt) : String := M.1.2.1
abbrev Mt.R (M : Mt) : Room := M.1.2.2
abbrev Mt.P (M : Mt) : List (Nat × Instr × Nat) := M.2.1
abbrev Mt.maxL (M : Mt) : Nat := M.2.2.1
abbrev Mt.ret (M : Mt) : Option FieldType := M.2.2.2
abbrev Wd (G : Gb) (d : Jvm.Cond) : Prop := d.before G.a0 G.Z = true
def Wo (G : Gb) (B : Cx) (own : String) (R : Room) (h : Heap) (sf : List Addr) (cells slots : Nat) (T : State) (vm0 : Vm) (k0 : Nat) (locs : List Loc) : Prop :=
  Stand B.p G.l B.e R (B.s.setVm vm0) B.m B.as B.bl B.mt B.c T locs cells slots ∧ T.heap = h ∧ B.s.Since vm0 k0 ∧ k0 ≤ h.size ∧
  G.Z.Warmed39 vm0 ∧ vm0.findClass own = some B.m.cls ∧ Fr G.Z.heap.size locs ∧ Ext G.Z.heap h ∧ CHr G.Z G.EL B.s.vm B.s.heap vm0 h ∧
  ∀ x ∈ sf, Safe G.Z G.EL vm0 h x ∧ x < h.size
def Fin (G : Gb) (B : Cx) (R : Room) (Q : Option Value → Heap → (Addr → Prop) → Prop) (u : State) : Prop :=
  ∃ (t : State) (v : Option Value) (L : List Loc), Steps B.p.tables B.e B.bl u t ∧ t.status = .running ∧ Ended t B.bl (.returned v) ∧ Q v t.heap (fun x => Safe G.Z G.EL t.vm t.heap x ∧ x < t.heap.size) ∧ Fr G.Z.heap.size L ∧ Ext G.Z.heap t.heap ∧
    CHr G.Z G.EL B.s.vm B.s.heap t.vm t.heap ∧ ReturnedEndW B.s (.returned v) t L R.cells R.slots
def Go (G : Gb) (B : Cx) (M : Mt) (Q : Option Value → Heap → (Addr → Prop) → Prop) (h : Heap) (sf : List Addr) (cells slots pc : Nat) (Ls : Array Slot) (st : List Value) : Prop :=
  ∀ T vm0 k0 locs, Wo G B M.own M.R h sf cells slots T vm0 k0 locs → Fin G B M.R Q (T.setTop (mkF B.m pc Ls st))
def Kd (G : Gb) (B : Cx) (M : Mt) : Prop :=
  B.p.tables.exec = Jvm.exec ∧ (∀ q ∈ M.P, decode B.c.code q.1 = .ok q.2) ∧ B.c.maxLocals = M.maxL ∧ B.mt.sig.returnType = M.ret ∧ B.mt.locks = false ∧ B.mt.name = M.nm ∧ EW G.Z G.a0 G.EL
/-- a contract: from these arguments over this heap it returns, and Q holds of what is returned and of the heap behind -/
def Ctr (G : Gb) (ws : List Jvm.Cond) (y : MethodName) (bytes : ByteArray) (maxL : Nat) (ret : Option FieldType) (rm : Room) (as' : Array Value) (h : Heap) (sf : List Addr) (Q : Option Value → Heap → (Addr → Prop) → Prop) : Prop :=
  MetFree G.l y (head1 (Jvm.Cond.code y bytes maxL ret :: ws) rm)
    (fun a U => a = as' ∧ G.Z.Warmed39 U.vm ∧ U.heap = h ∧ CHv G.Z G.EL U.vm h ∧ Ext G.Z.heap h ∧ ∀ x ∈ sf, Safe G.Z G.EL U.vm h x ∧ x < h.size) (fun _ _ _ _ _ => True)
    (fun _ U o U' => ∃ v L, o = .returned v ∧ (Q v U'.heap (fun x => Safe G.Z G.EL U'.vm U'.heap x ∧ x < U'.heap.size) ∧ Fr G.Z.heap.size L ∧ Ext G.Z.heap U'.heap) ∧ CHr G.Z G.EL U.vm U.heap U'.vm U'.heap ∧ ReturnedEndW U o U' L rm.cells rm.slots)
section Base
variable {G : Gb} {B : Cx} {M : Mt} {R : Room} {Q : Option Value → Heap → (Addr → Prop) → Prop} {h : Heap} {sf : List Addr} {cells slots pc : Nat} {Ls : Array Slot} {st : List Value}
theorem Fin.pre {u u' : State} (f : Fin G B R Q u') (k : ∀ target, Steps B.p.tables B.e B.bl u' target → Steps B.p.tables B.e B.bl u target) : Fin G B R Q u := by
  obtain ⟨t, v, L, s, r⟩ := f
  exact ⟨t, v, L, k _ s, r⟩
theorem ef_ok {m : MethodId} {as' : Array Value} {n : Nat} {Ls : Array Slot} (q : argsToLocals as' n = Ls) : entryFrame m as' n = mkF m 0 Ls [] := by
  subst q
  rfl
theorem Kd.dec (K : Kd G B M) {k : Nat} {i : Instr} {len : Nat} (hd : M.P[k]? = some (pc, i, len)) : decode B.c.code pc = .ok (i, len) := K.2.1 (pc, i, len) (List.mem_of_getElem? hd)
/-! ### plain steps -/
def intAt (Ls : Array Slot) (k : Nat) : Option Int32 := match Ls[k]? with | some (.val (.int v)) => some v | _ => none
def longAt (Ls : Array Slot) (k : Nat) : Option Int64 := match Ls[k]? with | some (.val (.long v)) => some v | _ => none
def refAt (Ls : Array Slot) (k : Nat) : Option Value := match Ls[k]? with | some (.val (.ref a)) => some (.ref a) | some (.val .null) => some .null | _ => none
theorem intAt_ok {k : Nat} {v : Int32} (q : intAt Ls k = some v) : Ls[k]? = some (.val (.int v)) := by
  unfold intAt at q; split at q
  · rename_i u; cases q; exact u
  · cases q
theorem longAt_ok {k : Nat} {v : Int64} (q : longAt Ls k = some v) : Ls[k]? = some (.val (.long v)) := by
  unfold longAt at q; split at q
  · rename_i u; cases q; exact u
  · cases q
theorem refAt_ok {k : Nat} {v : Value} (q : refAt Ls k = some v) : Ls[k]? = some (.val v) ∧ v.isRef = true := by
  unfold refAt at q; split at q
  · rename_i u; cases q; exact ⟨u, rfl⟩
  · rename_i u; cases q; exact ⟨u, rfl⟩
  · cases q
def sem1 (i : Instr) (n pc : Nat) (Ls : Array Slot) (st : List Value) : Option (Nat × Array Slot × List Value) :=
  match i, n, st with
  | .aconst_null, 1, st => some (pc + 1, Ls, .null :: st)
  | .iconst z, 1, st => some (pc + 1, Ls, .int (Int32.ofInt z) :: st)
  | .bipush z, 2, st => some (pc + 2, Ls, .int (Int8.ofInt z).toInt32 :: st)
  | .sipush z, 3, st => some (pc + 3, Ls, .int (Int16.ofInt z).toInt32 :: st)
  | .iload k, 2, st => (intAt Ls k).map fun v => (pc + 2, Ls, .int v :: st)
  | .iload_n k, 1, st => (intAt Ls k.val).map fun v => (pc + 1, Ls, .int v :: st)
  | .lload k, 2, st => (longAt Ls k).map fun v => (pc + 2, Ls, .long v :: st)
  | .lload_n k, 1, st => (longAt Ls k.val).map fun v => (pc + 1, Ls, .long v :: st)
  | .aload k, 2, st => (refAt Ls k).map fun v => (pc + 2, Ls, v :: st)
  | .aload_n k, 1, st => (refAt Ls k.val).map fun v => (pc + 1, Ls, v :: st)
  | .istore k, 2, .int x :: st => (storeLocals Ls k (.int x)).map fun l => (pc + 2, l, st)
  | .istore_n k, 1, .int x :: st => (storeLocals Ls k.val (.int x)).map fun l => (pc + 1, l, st)
  | .astore k, 2, .ref x :: st => (storeLocals Ls k (.ref x)).map fun l => (pc + 2, l, st)
  | .astore k, 2, .null :: st => (storeLocals Ls k .null).map fun l => (pc + 2, l, st)
  | .astore_n k, 1, .ref x :: st => (storeLocals Ls k.val (.ref x)).map fun l => (pc + 1, l, st)
  | .astore_n k, 1, .null :: st => (storeLocals Ls k.val .null).map fun l => (pc + 1, l, st)
  | .pop, 1, x :: st => if x.category = 1 then some (pc + 1, Ls, st) else none
  | .dup, 1, x :: st => if x.category = 1 then some (pc + 1, Ls, x :: x :: st) else none
  | .dup_x1, 1, x :: y :: st => if x.category = 1 then (if y.category = 1 then some (pc + 1, Ls, x :: y :: x :: st) else none) else none
  | .iadd, 1, .int y :: .int x :: st => some (pc + 1, Ls, .int (x + y) :: st)
  | .isub, 1, .int y :: .int x :: st => some (pc + 1, Ls, .int (x - y) :: st)
  | .imul, 1, .int y :: .int x :: st => some (pc + 1, Ls, .int (x * y) :: st)
  | .iand, 1, .int y :: .int x :: st => some (pc + 1, Ls, .int (x &&& y) :: st)
  | .ior, 1, .int y :: .int x :: st => some (pc + 1, Ls, .int (x ||| y) :: st)
  | .ixor, 1, .int y :: .int x :: st => some (pc + 1, Ls, .int (x ^^^ y) :: st)
  | .ishl, 1, .int y :: .int x :: st => some (pc + 1, Ls, .int (x <<< (y &&& 31)) :: st)
  | .ishr, 1, .int y :: .int x :: st => some (pc + 1, Ls, .int (x >>> (y &&& 31)) :: st)
  | .iushr, 1, .int y :: .int x :: st => some (pc + 1, Ls, .int (XT.ushr x y) :: st)
  | .lushr, 1, .int y :: .long x :: st => some (pc + 1, Ls, .long (XT.ushrL x y) :: st)
  | .i2l, 1, .int x :: st => some (pc + 1, Ls, .long x.toInt64 :: st)
  | .l2i, 1, .long x :: st => some (pc + 1, Ls, .int x.toInt32 :: st)
  | .i2b, 1, .int x :: st => some (pc + 1, Ls, .int x.toInt8.toInt32 :: st)
  | .i2c, 1, .int x :: st => some (pc + 1, Ls, .int x.toUInt32.toUInt16.toUInt32.toInt32 :: st)
  | .lcmp, 1, .long y :: .long x :: st => some (pc + 1, Ls, .int (XT.cmpL x y) :: st)
  | .iinc k z, 3, st => (intAt Ls k).bind fun x => (storeLocals Ls k (.int (x + Int32.ofInt z))).map fun l => (pc + 3, l, st)
  | .goto o, 3, st => if 0 ≤ (pc : Int) + o then some (((pc : Int) + o).toNat, Ls, st) else none
  | _, _, _ => none
theorem sem1_ok {tb : Tables} [Ours tb] {e : Env} {below : List Frame} {T target : State} {m : MethodId} {c : Code} (h : At T m c below) (hx : tb.exec = Jvm.exec) {i : Instr} {n : Nat} {f : Nat × Array Slot × List Value}
    (hd : decode c.code pc = .ok (i, n)) (hs : sem1 i n pc Ls st = some f) (hr : Steps tb e below (T.setTop (mkF m f.1 f.2.1 f.2.2)) target) : Steps tb e below (T.setTop (mkF m pc Ls st)) target := by
  unfold sem1 at hs
  split at hs
  · cases hs; exact XS.aconstNull h hx rfl hd hr
  · cases hs; exact XS.iconst h hx rfl hd hr
  · cases hs; exact XS.bipush h hx rfl hd hr
  · cases hs; exact XS.sipush h hx rfl hd hr
  · obtain ⟨v, q, rfl⟩ := Option.map_eq_some_iff.mp hs; exact XS.iload h hx rfl hd (intAt_ok q) hr
  · obtain ⟨v, q, rfl⟩ := Option.map_eq_some_iff.mp hs; exact XS.iloadN h hx rfl hd (intAt_ok q) hr
  · obtain ⟨v, q, rfl⟩ := Option.map_eq_some_iff.mp hs; exact XT.lload h hx rfl hd (longAt_ok q) hr
  · obtain ⟨v, q, rfl⟩ := Option.map_eq_some_iff.mp hs; exact XT.lloadN h hx rfl hd (longAt_ok q) hr
  · obtain ⟨v, q, rfl⟩ := Option.map_eq_some_iff.mp hs; exact XS.aload h hx rfl hd (refAt_ok q).1 (refAt_ok q).2 hr
  · obtain ⟨v, q, rfl⟩ := Option.map_eq_some_iff.mp hs; exact XS.aloadN h hx rfl hd (refAt_ok q).1 (refAt_ok q).2 hr
  · obtain ⟨v, q, rfl⟩ := Option.map_eq_some_iff.mp hs; exact XS.istore h hx rfl hd rfl q hr
  · obtain ⟨v, q, rfl⟩ := Option.map_eq_some_iff.mp hs; exact XS.istoreN h hx rfl hd rfl q hr
  · obtain ⟨v, q, rfl⟩ := Option.map_eq_some_iff.mp hs; exact XS.astore h hx rfl hd rfl rfl q hr
  · obtain ⟨v, q, rfl⟩ := Option.map_eq_some_iff.mp hs; exact XS.astore h hx rfl hd rfl rfl q hr
  · obtain ⟨v, q, rfl⟩ := Option.map_eq_some_iff.mp hs; exact XS.astoreN h hx rfl hd rfl rfl q hr
  · obtain ⟨v, q, rfl⟩ := Option.map_eq_some_iff.mp hs; exact XS.astoreN h hx rfl hd rfl rfl q hr
  · split at hs
    · rename_i q; cases hs; exact XT.pop h hx rfl hd rfl q hr
    · cases hs
  · split at hs
    · rename_i q; cases hs; exact XS.dup h hx rfl hd rfl q hr
    · cases hs
  · split at hs
    · rename_i q
      split at hs
      · rename_i q'; cases hs; exact XT.dupX1 h hx rfl hd rfl q q' hr
      · cases hs
    · cases hs
  · cases hs; exact XS.iadd h hx rfl hd rfl hr
  · cases hs; exact XS.isub h hx rfl hd rfl hr
  · cases hs; exact XS.imul h hx rfl hd rfl hr
  · cases hs; exact XS.iand h hx rfl hd rfl hr
  · cases hs; exact XT.ior h hx rfl hd rfl hr
  · cases hs; exact XT.ixor h hx rfl hd rfl hr
  · cases hs; exact XT.ishl h hx rfl hd rfl hr
  · cases hs; exact XT.ishr h hx rfl hd rfl hr
  · cases hs; exact XT.iushr h hx rfl hd rfl hr
  · cases hs; exact XT.lushr h hx rfl hd rfl hr
  · cases hs; exact XT.i2l h hx rfl hd rfl hr
  · cases hs; exact XT.l2i h hx rfl hd rfl hr
  · cases hs; exact XT.i2b h hx rfl hd rfl hr
  · cases hs; exact XT.i2c h hx rfl hd rfl hr
  · cases hs; exact XT.lcmp h hx rfl hd rfl hr
  · obtain ⟨x, q, hs⟩ := Option.bind_eq_some_iff.mp hs
    obtain ⟨v, q', rfl⟩ := Option.map_eq_some_iff.mp hs; exact XS.iinc h hx rfl hd (intAt_ok q) q' hr
  · split at hs
    · rename_i q; cases hs; exact XS.goto h hx rfl (pc0 := pc) rfl hd q rfl hr
    · cases hs
  · cases hs
def runs : Nat → List (Nat × Instr × Nat) → Nat × Array Slot × List Value → Option (Nat × Array Slot × List Value)
  | 0, _, f => some f
  | _ + 1, [], _ => none
  | n + 1, q :: P, f => if q.1 = f.1 then (sem1 q.2.1 q.2.2 f.1 f.2.1 f.2.2).bind fun f' => runs n P f' else none
theorem runs_ok {tb : Tables} [Ours tb] {e : Env} {below : List Frame} {T target : State} {m : MethodId} {c : Code} (h : At T m c below) (hx : tb.exec = Jvm.exec) : ∀ (n : Nat) (P : List (Nat × Instr × Nat)) (f f' : Nat × Array Slot × List Value),
    (∀ q ∈ P, decode c.code q.1 = .ok q.2) → runs n P f = some f' → Steps tb e below (T.setTop (mkF m f'.1 f'.2.1 f'.2.2)) target → Steps tb e below (T.setTop (mkF m f.1 f.2.1 f.2.2)) target
  | 0, _, f, f', _, hs, hr => by cases hs; exact hr
  | _ + 1, [], _, _, _, hs, _ => by cases hs
  | n + 1, q :: P, f, f', hP, hs, hr => by
    simp only [runs] at hs
    split at hs
    · rename_i u
      obtain ⟨g, q1, q2⟩ := Option.bind_eq_some_iff.mp hs
      exact sem1_ok h hx (by rw [← u]; exact hP q (List.mem_cons_self ..)) q1 (runs_ok h hx n P g f' (fun z hz => hP z (List.mem_cons_of_mem _ hz)) q2 hr)
    · cases hs
theorem go_run (K : Kd G B M) (k n : Nat) {pc' : Nat} {Ls' : Array Slot} {st' : List Value} (hr : runs n (M.P.drop k) (pc, Ls, st) = some (pc', Ls', st')) (g : Go G B M Q h sf cells slots pc' Ls' st') : Go G B M Q h sf cells slots pc Ls st := by
  intro T vm0 k0 locs W
  exact (g T vm0 k0 locs W).pre fun target q => runs_ok W.1.here K.1 n _ (pc, Ls, st) (pc', Ls', st') (fun z hz => K.2.1 z (List.mem_of_mem_drop hz)) hr q
/-! ### branches -/
theorem go_if2 (K : Kd G B M) {k : Nat} {cd : ClassFile.Cond} {o : Int} {x : Int32} (hd : M.P[k]? = some (pc, .ifCond cd o, 3)) {pc' : Nat} (ho : 0 ≤ (pc : Int) + o ∧ ((pc : Int) + o).toNat = pc') {A : Prop} [Decidable A] (hA : A → ifCond.holds cd x = true) (hN : ¬ A → ifCond.holds cd x = false)
    (gT : A → Go G B M Q h sf cells slots pc' Ls st) (gF : ¬ A → Go G B M Q h sf cells slots (pc + 3) Ls st) : Go G B M Q h sf cells slots pc Ls (.int x :: st) := by
  intro T vm0 k0 locs W
  by_cases a : A
  · exact (gT a T vm0 k0 locs W).pre fun target hr => XS.ifYes W.1.here K.1 rfl (pc0 := pc) (pc' := pc') rfl (K.dec hd) rfl (hA a) ho.1 ho.2 hr
  · exact (gF a T vm0 k0 locs W).pre fun target hr => XS.ifNo W.1.here K.1 rfl (K.dec hd) rfl (hN a) hr
theorem go_icmp2 (K : Kd G B M) {k : Nat} {cd : ClassFile.Cond} {o : Int} {x y : Int32} (hd : M.P[k]? = some (pc, .if_icmp cd o, 3)) {pc' : Nat} (ho : 0 ≤ (pc : Int) + o ∧ ((pc : Int) + o).toNat = pc') {A : Prop} [Decidable A] (hA : A → if_icmp.holds cd x y = true) (hN : ¬ A → if_icmp.holds cd x y = false)
    (gT : A → Go G B M Q h sf cells slots pc' Ls st) (gF : ¬ A → Go G B M Q h sf cells slots (pc + 3) Ls st) : Go G B M Q h sf cells slots pc Ls (.int y :: .int x :: st) := by
  intro T vm0 k0 locs W
  by_cases a : A
  · exact (gT a T vm0 k0 locs W).pre fun target hr => XS.icmpYes W.1.here K.1 rfl (pc0 := pc) (pc' := pc') rfl (K.dec hd) rfl (hA a) ho.1 ho.2 hr
  · exact (gF a T vm0 k0 locs W).pre fun target hr => XS.icmpNo W.1.here K.1 rfl (K.dec hd) rfl (hN a) hr
theorem go_ifeq (K : Kd G B M) {k : Nat} {o : Int} {x : Int32} (hd : M.P[k]? = some (pc, .ifCond .eq o, 3)) {pc' : Nat} (ho : 0 ≤ (pc : Int) + o ∧ ((pc : Int) + o).toNat = pc') (gT : x = 0 → Go G B M Q h sf cells slots pc' Ls st) (gF : ¬ x = 0 → Go G B M Q h sf cells slots (pc + 3) Ls st) : Go G B M Q h sf cells slots pc Ls (.int x :: st) :=
  go_if2 K hd ho (fun q => by rw [if0]; exact (teq q).1) (fun q => by rw [if0]; exact (feq q).1) gT gF
theorem go_ifne (K : Kd G B M) {k : Nat} {o : Int} {x : Int32} (hd : M.P[k]? = some (pc, .ifCond .ne o, 3)) {pc' : Nat} (ho : 0 ≤ (pc : Int) + o ∧ ((pc : Int) + o).toNat = pc') (gT : ¬ x = 0 → Go G B M Q h sf cells slots pc' Ls st) (gF : x = 0 → Go G B M Q h sf cells slots (pc + 3) Ls st) : Go G B M Q h sf cells slots pc Ls (.int x :: st) :=
  go_if2 K hd ho (A := ¬ x = 0) (fun q => by rw [if0]; exact (feq q).2) (fun q => by rw [if0]; exact (teq (Decidable.not_not.mp q)).2) gT (fun q => gF (Decidable.not_not.mp q))
theorem go_iflt (K : Kd G B M) {k : Nat} {o : Int} {x : Int32} (hd : M.P[k]? = some (pc, .ifCond .lt o, 3)) {pc' : Nat} (ho : 0 ≤ (pc : Int) + o ∧ ((pc : Int) + o).toNat = pc') (gT : x < 0 → Go G B M Q h sf cells slots pc' Ls st) (gF : ¬ x < 0 → Go G B M Q h sf cells slots (pc + 3) Ls st) : Go G B M Q h sf cells slots pc Ls (.int x :: st) :=
  go_if2 K hd ho (fun q => by rw [if0]; exact (tlt q).1) (fun q => by rw [if0]; exact (flt q).1) gT gF
theorem go_ifge (K : Kd G B M) {k : Nat} {o : Int} {x : Int32} (hd : M.P[k]? = some (pc, .ifCond .ge o, 3)) {pc' : Nat} (ho : 0 ≤ (pc : Int) + o ∧ ((pc : Int) + o).toNat = pc') (gT : ¬ x < 0 → Go G B M Q h sf cells slots pc' Ls st) (gF : x < 0 → Go G B M Q h sf cells slots (pc + 3) Ls st) : Go G B M Q h sf cells slots pc Ls (.int x :: st) :=
  go_if2 K hd ho (A := ¬ x < 0) (fun q => by rw [if0]; exact (flt q).2.1) (fun q => by rw [if0]; exact (tlt (Decidable.not_not.mp q)).2.1) gT (fun q => gF (Decidable.not_not.mp q))
theorem go_ifgt (K : Kd G B M) {k : Nat} {o : Int} {x : Int32} (hd : M.P[k]? = some (pc, .ifCond .gt o, 3)) {pc' : Nat} (ho : 0 ≤ (pc : Int) + o ∧ ((pc : Int) + o).toNat = pc') (gT : 0 < x → Go G B M Q h sf cells slots pc' Ls st) (gF : ¬ 0 < x → Go G B M Q h sf cells slots (pc + 3) Ls st) : Go G B M Q h sf cells slots pc Ls (.int x :: st) :=
  go_if2 K hd ho (fun q => by rw [if0]; exact (tlt q).2.2.1) (fun q => by rw [if0]; exact (flt q).2.2.1) gT gF
theorem go_ifle (K : Kd G B M) {k : Nat} {o : Int} {x : Int32} (hd : M.P[k]? = some (pc, .ifCond .le o, 3)) {pc' : Nat} (ho : 0 ≤ (pc : Int) + o ∧ ((pc : Int) + o).toNat = pc') (gT : ¬ 0 < x → Go G B M Q h sf cells slots pc' Ls st) (gF : 0 < x → Go G B M Q h sf cells slots (pc + 3) Ls st) : Go G B M Q h sf cells slots pc Ls (.int x :: st) :=
  go_if2 K hd ho (A := ¬ 0 < x) (fun q => by rw [if0]; exact (flt q).2.2.2) (fun q => by rw [if0]; exact (tlt (Decidable.not_not.mp q)).2.2.2) gT (fun q => gF (Decidable.not_not.mp q))
theorem go_icmpeq (K : Kd G B M) {k : Nat} {o : Int} {x y : Int32} (hd : M.P[k]? = some (pc, .if_icmp .eq o, 3)) {pc' : Nat} (ho : 0 ≤ (pc : Int) + o ∧ ((pc : Int) + o).toNat = pc') (gT : x = y → Go G B M Q h sf cells slots pc' Ls st) (gF : ¬ x = y → Go G B M Q h sf cells slots (pc + 3) Ls st) : Go G B M Q h sf cells slots pc Ls (.int y :: .int x :: st) :=
  go_icmp2 K hd ho (fun q => (teq q).1) (fun q => (feq q).1) gT gF
theorem go_icmpne (K : Kd G B M) {k : Nat} {o : Int} {x y : Int32} (hd : M.P[k]? = some (pc, .if_icmp .ne o, 3)) {pc' : Nat} (ho : 0 ≤ (pc : Int) + o ∧ ((pc : Int) + o).toNat = pc') (gT : ¬ x = y → Go G B M Q h sf cells slots pc' Ls st) (gF : x = y → Go G B M Q h sf cells slots (pc + 3) Ls st) : Go G B M Q h sf cells slots pc Ls (.int y :: .int x :: st) :=
  go_icmp2 K hd ho (A := ¬ x = y) (fun q => (feq q).2) (fun q => (teq (Decidable.not_not.mp q)).2) gT (fun q => gF (Decidable.not_not.mp q))
theorem go_icmplt (K : Kd G B M) {k : Nat} {o : Int} {x y : Int32} (hd : M.P[k]? = some (pc, .if_icmp .lt o, 3)) {pc' : Nat} (ho : 0 ≤ (pc : Int) + o ∧ ((pc : Int) + o).toNat = pc') (gT : x < y → Go G B M Q h sf cells slots pc' Ls st) (gF : ¬ x < y → Go G B M Q h sf cells slots (pc + 3) Ls st) : Go G B M Q h sf cells slots pc Ls (.int y :: .int x :: st) :=
  go_icmp2 K hd ho (fun q => (tlt q).1) (fun q => (flt q).1) gT gF
theorem go_icmpge (K : Kd G B M) {k : Nat} {o : Int} {x y : Int32} (hd : M.P[k]? = some (pc, .if_icmp .ge o, 3)) {pc' : Nat} (ho : 0 ≤ (pc : Int) + o ∧ ((pc : Int) + o).toNat = pc') (gT : ¬ x < y → Go G B M Q h sf cells slots pc' Ls st) (gF : x < y → Go G B M Q h sf cells slots (pc + 3) Ls st) : Go G B M Q h sf cells slots pc Ls (.int y :: .int x :: st) :=
  go_icmp2 K hd ho (A := ¬ x < y) (fun q => (flt q).2.1) (fun q => (tlt (Decidable.not_not.mp q)).2.1) gT (fun q => gF (Decidable.not_not.mp q))
theorem go_icmpgt (K : Kd G B M) {k : Nat} {o : Int} {x y : Int32} (hd : M.P[k]? = some (pc, .if_icmp .gt o, 3)) {pc' : Nat} (ho : 0 ≤ (pc : Int) + o ∧ ((pc : Int) + o).toNat = pc') (gT : y < x → Go G B M Q h sf cells slots pc' Ls st) (gF : ¬ y < x → Go G B M Q h sf cells slots (pc + 3) Ls st) : Go G B M Q h sf cells slots pc Ls (.int y :: .int x :: st) :=
  go_icmp2 K hd ho (fun q => (tlt q).2.2.1) (fun q => (flt q).2.2.1) gT gF
theorem go_icmple (K : Kd G B M) {k : Nat} {o : Int} {x y : Int32} (hd : M.P[k]? = some (pc, .if_icmp .le o, 3)) {pc' : Nat} (ho : 0 ≤ (pc : Int) + o ∧ ((pc : Int) + o).toNat = pc') (gT : ¬ y < x → Go G B M Q h sf cells slots pc' Ls st) (gF : y < x → Go G B M Q h sf cells slots (pc + 3) Ls st) : Go G B M Q h sf cells slots pc Ls (.int y :: .int x :: st) :=
  go_icmp2 K hd ho (A := ¬ y < x) (fun q => (flt q).2.2.2) (fun q => (tlt (Decidable.not_not.mp q)).2.2.2) gT (fun q => gF (Decidable.not_not.mp q))
theorem go_ifnullY (K : Kd G B M) {k : Nat} {o : Int} (hd : M.P[k]? = some (pc, .ifnull o, 3)) {pc' : Nat} (ho : 0 ≤ (pc : Int) + o ∧ ((pc : Int) + o).toNat = pc') (g : Go G B M Q h sf cells slots pc' Ls st) : Go G B M Q h sf cells slots pc Ls (.null :: st) := by
  intro T vm0 k0 locs W
  exact (g T vm0 k0 locs W).pre fun target hr => XS.ifnullYes W.1.here K.1 rfl (pc0 := pc) (pc' := pc') rfl (K.dec hd) rfl ho.1 ho.2 hr
theorem go_ifnullN (K : Kd G B M) {k : Nat} {o : Int} {a : Addr} (hd : M.P[k]? = some (pc, .ifnull o, 3)) (g : Go G B M Q h sf cells slots (pc + 3) Ls st) : Go G B M Q h sf cells slots pc Ls (.ref a :: st) := by
  intro T vm0 k0 locs W
  exact (g T vm0 k0 locs W).pre fun target hr => XS.ifnullNo W.1.here K.1 rfl (K.dec hd) rfl hr
theorem go_ifnonY (K : Kd G B M) {k : Nat} {o : Int} {a : Addr} (hd : M.P[k]? = some (pc, .ifnonnull o, 3)) {pc' : Nat} (ho : 0 ≤ (pc : Int) + o ∧ ((pc : Int) + o).toNat = pc') (g : Go G B M Q h sf cells slots pc' Ls st) : Go G B M Q h sf cells slots pc Ls (.ref a :: st) := by
  intro T vm0 k0 locs W
  exact (g T vm0 k0 locs W).pre fun target hr => XT.ifnonnullYes W.1.here K.1 rfl (pc0 := pc) (pc' := pc') rfl (K.dec hd) rfl ho.1 ho.2 hr
theorem go_ifnonN (K : Kd G B M) {k : Nat} {o : Int} (hd : M.P[k]? = some (pc, .ifnonnull o, 3)) (g : Go G B M Q h sf cells slots (pc + 3) Ls st) : Go G B M Q h sf cells slots pc Ls (.null :: st) := by
  intro T vm0 k0 locs W
  exact (g T vm0 k0 locs W).pre fun target hr => XT.ifnonnullNo W.1.here K.1 rfl (K.dec hd) rfl hr
theorem go_acmp (K : Kd G B M) {k : Nat} {cd : ACond} {o : Int} {x y : Value} (hd : M.P[k]? = some (pc, .if_acmp cd o, 3)) (h1 : x.isRef = true) (h2 : y.isRef = true) {same : Bool} (hq : decide (x = y) = same) {pc' : Nat} (ho : 0 ≤ (pc : Int) + o) (hp : pc' = if acV cd same = true then ((pc : Int) + o).toNat else pc + 3)
    (g : Go G B M Q h sf cells slots pc' Ls st) : Go G B M Q h sf cells slots pc Ls (y :: x :: st) := by
  intro T vm0 k0 locs W
  exact (g T vm0 k0 locs W).pre fun target hr => RoadKit.acmp W.1 K.1 rfl h1 h2 (pc0 := pc) rfl (K.dec hd) rfl hq ho hp hr
theorem go_irem (K : Kd G B M) {k : Nat} {x y : Int32} (hd : M.P[k]? = some (pc, .irem, 1)) (hy : y ≠ 0) (g : Go G B M Q h sf cells slots (pc + 1) Ls (.int (x % y) :: st)) : Go G B M Q h sf cells slots pc Ls (.int y :: .int x :: st) := by
  intro T vm0 k0 locs W
  exact (g T vm0 k0 locs W).pre fun target hr => iremM W.1 K.1 rfl (K.dec hd) rfl hy hr
/-! ### the end -/
theorem go_leave (K : Kd G B M) {v : Option Value} (hv : M.ret = none → v = none) (q : ∀ Sf : Addr → Prop, (∀ x ∈ sf, Sf x) → Q v h Sf)
    (rt : ∀ (T : State) (vm0 : Vm) (locs : List Loc) (fs : List Frame), Stand B.p G.l B.e M.R (B.s.setVm vm0) B.m B.as B.bl B.mt B.c T locs cells slots →
      (∀ (f : JFrame) (acts : List Action), f.method = B.m → f.locked = none → f.entered = [] → (doReturn B.e (T.setTop f) acts v).1 = T.setFrames fs) → Steps B.p.tables B.e B.bl (T.setTop (mkF B.m pc Ls st)) (T.setFrames fs))
    (hc : cells ≤ M.R.cells) (hs : slots ≤ M.R.slots) : Go G B M Q h sf cells slots pc Ls st := by
  intro T vm0 k0 locs W
  obtain ⟨X, eT, hS, hk, hZ, hown, hF, hE, hC, hs0⟩ := W
  obtain ⟨fs, hr, hrun, hend, hW⟩ := X.leaveW hS (by rw [eT]; exact hk) (v := v) (fun z => hv (by rw [← K.2.2.2.1]; exact z)) K.2.2.2.2.1
  obtain ⟨w1, w2, w3, w4⟩ := hW
  have A := CHv.at X hZ K.2.2.2.2.2.2 hC.1
  refine ⟨_, v, locs, rt T vm0 locs fs X hr, hrun, hend, ?_, hF, ?_, ?_, w1, w2, w3, w4.mono hc hs⟩
  · show Q v T.heap (fun x => Safe G.Z G.EL T.vm T.heap x ∧ x < T.heap.size)
    rw [eT]
    exact q _ fun x hx => ⟨A.safe (hs0 x hx).2 (hs0 x hx).1, (hs0 x hx).2⟩
  · show Ext G.Z.heap T.heap
    rw [eT]; exact hE
  · show CHr G.Z G.EL B.s.vm B.s.heap T.vm T.heap
    rw [eT]; exact hC.trans A
theorem go_return (K : Kd G B M) {k : Nat} (hd : M.P[k]? = some (pc, .return_, 1)) (hr : M.ret = none) (hc : Nat.ble cells M.R.cells = true) (hs : Nat.ble slots M.R.slots = true) (q : ∀ Sf : Addr → Prop, (∀ x ∈ sf, Sf x) → Q none h Sf) : Go G B M Q h sf cells slots pc Ls [] :=
  go_leave K (fun _ => rfl) q (fun T vm0 locs fs X hl => X.returnOut K.1 (K.2.2.2.1.trans hr) (K.dec hd) hl) (Nat.le_of_ble_eq_true hc) (Nat.le_of_ble_eq_true hs)
theorem go_ret (K : Kd G B M) {k : Nat} {i : Instr} {t : FieldType} {w : Value} (hd : M.P[k]? = some (pc, i, 1)) (hr : M.ret = some t) (hn : narrow t w = w)
    (hi : (i = .ireturn ∧ (t = .int ∨ t = .boolean ∨ t = .byte ∨ t = .char ∨ t = .short) ∧ ∃ z, w = .int z) ∨ (i = .lreturn ∧ t = .long ∧ ∃ z, w = .long z) ∨ (i = .dreturn ∧ t = .double ∧ ∃ z, w = .double z) ∨ (i = .freturn ∧ t = .float ∧ ∃ z, w = .float z) ∨ (i = .areturn ∧ t.isReference = true ∧ w.isRef = true))
    (hc : Nat.ble cells M.R.cells = true) (hs : Nat.ble slots M.R.slots = true) (q : ∀ Sf : Addr → Prop, (∀ x ∈ sf, Sf x) → Q (some w) h Sf) : Go G B M Q h sf cells slots pc Ls (w :: st) :=
  go_leave K (fun z => by rw [hr] at z; cases z) q (fun T vm0 locs fs X hl => retOut X K.1 (K.2.2.2.1.trans hr) hn hi (K.dec hd) hl) (Nat.le_of_ble_eq_true hc) (Nat.le_of_ble_eq_true hs)
theorem go_ireturn (K : Kd G B M) {k : Nat} {t : FieldType} {z : Int32} (hd : M.P[k]? = some (pc, .ireturn, 1)) (hr : M.ret = some t) (ht : t = .int ∨ t = .boolean ∨ t = .byte ∨ t = .char ∨ t = .short) (hn : narrow t (.int z) = .int z) (hc : Nat.ble cells M.R.cells = true) (hs : Nat.ble slots M.R.slots = true) (q : ∀ Sf : Addr → Prop, (∀ x ∈ sf, Sf x) → Q (some (.int z)) h Sf) : Go G B M Q h sf cells slots pc Ls (.int z :: st) :=
  go_ret K hd hr hn (Or.inl ⟨rfl, ht, z, rfl⟩) hc hs q
theorem go_areturn (K : Kd G B M) {k : Nat} {t : FieldType} {w : Value} (hd : M.P[k]? = some (pc, .areturn, 1)) (hr : M.ret = some t) (ht : t.isReference = true) (hw : w.isRef = true) (hn : narrow t w = w) (hc : Nat.ble cells M.R.cells = true) (hs : Nat.ble slots M.R.slots = true) (q : ∀ Sf : Addr → Prop, (∀ x ∈ sf, Sf x) → Q (some w) h Sf) : Go G B M Q h sf cells slots pc Ls (w :: st) :=
  go_ret K hd hr hn (Or.inr (Or.inr (Or.inr (Or.inr ⟨rfl, ht, hw⟩)))) hc hs q
theorem go_lreturn (K : Kd G B M) {k : Nat} {z : Int64} (hd : M.P[k]? = some (pc, .lreturn, 1)) (hr : M.ret = some .long) (hc : Nat.ble cells M.R.cells = true) (hs : Nat.ble slots M.R.slots = true) (q : ∀ Sf : Addr → Prop, (∀ x ∈ sf, Sf x) → Q (some (.long z)) h Sf) : Go G B M Q h sf cells slots pc Ls (.long z :: st) :=
  go_ret K hd hr rfl (Or.inr (Or.inl ⟨rfl, rfl, z, rfl⟩)) hc hs q
end Base
end Jvm.OwnW
namespace Jvm.OwnW
open Sem ClassFile Op Lib Bundle Jvm.Stand Jvm.Free Jvm.LawKit Jvm.RoadKit
section Heap
variable {G : Gb} {B : Cx} {M : Mt} {R : Room} {Q : Option Value → Heap → (Addr → Prop) → Prop} {h : Heap} {sf : List Addr} {cells slots pc : Nat} {Ls : Array Slot} {st : List Value}
theorem go_getfield (K : Kd G B M) {k ix : Nat} {R0 O n d host : String} {a : Addr} {v : Value} (hd : M.P[k]? = some (pc, .getfield ix, 3)) (w : Wd G (.fieldLink M.own ix R0 n d) ∨ Wd G (.fieldLinkNest M.own ix R0 n d host)) (via : Via G.Z R0 O n d) (F : Fld G.Z h a O n d v)
    (g : Go G B M Q h sf cells slots (pc + 3) Ls (v :: st)) : Go G B M Q h sf cells slots pc Ls (.ref a :: st) := by
  intro T vm0 k0 locs W
  obtain ⟨X, eT, hS, hk, hZ, hown, hF, hE, hC, hs⟩ := W
  obtain ⟨T', X', e', st'⟩ := RoadKit.getF X K.1 hZ hown w via eT F (g := mkF B.m pc Ls (.ref a :: st)) rfl rfl (K.dec hd)
  exact (g T' vm0 k0 locs ⟨X', e', hS, hk, hZ, hown, hF, hE, hC, hs⟩).pre st'
theorem go_getstatic (K : Kd G B M) {k ix : Nat} {R0 O n d host : String} {v : Value} (hd : M.P[k]? = some (pc, .getstatic ix, 3)) (w : Wd G (.fieldLink M.own ix R0 n d) ∨ Wd G (.fieldLinkNest M.own ix R0 n d host)) (via : Via G.Z R0 O n d) (F : Sta G.Z G.Z.heap O n d v)
    (g : Go G B M Q h sf cells slots (pc + 3) Ls (v :: st)) : Go G B M Q h sf cells slots pc Ls st := by
  intro T vm0 k0 locs W
  obtain ⟨X, eT, hS, hk, hZ, hown, hF, hE, hC, hs⟩ := W
  obtain ⟨T', X', e', st'⟩ := getS2 X K.1 hZ hown w via eT (F.ext hE) (g := mkF B.m pc Ls st) rfl (K.dec hd)
  exact (g T' vm0 k0 locs ⟨X', e', hS, hk, hZ, hown, hF, hE, hC, hs⟩).pre st'
theorem go_new (K : Kd G B M) {k ix n : Nat} {C : String} (hd : M.P[k]? = some (pc, .new ix, 3)) (w : Wd G (.classLink M.own ix C)) (wi : Wd G (.instantiable C n)) (wz : Wd G (.initialized C)) (hc : Nat.ble (cells + 1) M.R.cells = true) (hl : Nat.ble (slots + n) M.R.slots = true)
    (g : ∀ (h' : Heap) (a : Addr), a = h.size → G.Z.heap.size ≤ a → Ext h h' → Exa G.Z h' a C → (∀ {O nm d : String} {ty : FieldType}, Laid G.Z G.a0 C O nm d → parseFieldDescriptor d = some ty → Fld G.Z h' a O nm d (defaultValue ty)) → Go G B M Q h' (a :: sf) (cells + 1) (slots + n) (pc + 3) Ls (.ref a :: st)) : Go G B M Q h sf cells slots pc Ls st := by
  intro T vm0 k0 locs W
  obtain ⟨X, eT, hS, hk, hZ, hown, hF, hE, hC, hs⟩ := W
  obtain ⟨T', h', X', e', E', A', D', -, st'⟩ := newO X K.1 hZ hown w wi wz eT (g := mkF B.m pc Ls st) rfl (K.dec hd) (Nat.le_of_ble_eq_true hc) (Nat.le_of_ble_eq_true hl)
  refine (g h' h.size rfl hE.1 E' A' D' T' vm0 k0 locs ⟨X', e', hS, Nat.le_trans hk E'.1, hZ, hown, hF, ⟨Nat.le_trans hE.1 E'.1, fun x c q => E'.2 x c (hE.2 x c q)⟩, hC.trans (CHr.ext E' hC.1), fun x hx => ?_⟩).pre st'
  rcases List.mem_cons.mp hx with rfl | hx
  · exact ⟨Safe.ext E' hC.1 (Safe.new (Nat.le_refl _)), A'.lt⟩
  · exact ⟨Safe.ext E' hC.1 (hs x hx).1, Nat.lt_of_lt_of_le (hs x hx).2 E'.1⟩
theorem go_wr (K : Kd G B M) {a : Addr} {sl pc' : Nat} {v : Value} {st' : List Value} (ha : G.Z.heap.size ≤ a) (hsf : a ∈ sf ∨ ∀ vm0 : Vm, G.Z.vm.Alike vm0 → Safe G.Z G.EL vm0 h a)
    (law : ∀ (T : State) (vm0 : Vm) (locs : List Loc), Stand B.p G.l B.e M.R (B.s.setVm vm0) B.m B.as B.bl B.mt B.c T locs cells slots → T.heap = h → G.Z.Warmed39 vm0 → vm0.findClass M.own = some B.m.cls →
      ∃ (T' : State) (h' : Heap), Stand B.p G.l B.e M.R (B.s.setVm vm0) B.m B.as B.bl B.mt B.c T' (locs ++ [⟨a, sl⟩]) cells slots ∧ T'.heap = h' ∧ Wr h h' a sl v ∧ ∀ target, Steps B.p.tables B.e B.bl (T'.setTop (mkF B.m pc' Ls st')) target → Steps B.p.tables B.e B.bl (T.setTop (mkF B.m pc Ls st)) target)
    (g : ∀ h' : Heap, Wr h h' a sl v → Go G B M Q h' sf cells slots pc' Ls st') : Go G B M Q h sf cells slots pc Ls st := by
  intro T vm0 k0 locs W
  obtain ⟨X, eT, hS, hk, hZ, hown, hF, hE, hC, hs⟩ := W
  obtain ⟨T', h', X', e', W', st''⟩ := law T vm0 locs X eT hZ hown
  have S : Safe G.Z G.EL vm0 h a := hsf.elim (fun q => (hs a q).1) (fun q => q vm0 hZ.alike)
  exact (g h' W' T' vm0 k0 _ ⟨X', e', hS, by rw [W'.size]; exact hk, hZ, hown, Fr.snoc X' hF ha, (Old.wr (n0 := G.Z.heap.size) ⟨rfl, hE⟩ W' ha).2, hC.trans (CHr.wr W' S hC.1), fun x hx => ⟨Safe.wr W' S hC.1 (hs x hx).1, by rw [W'.size]; exact (hs x hx).2⟩⟩).pre st''
theorem go_putfield (K : Kd G B M) {k ix kk : Nat} {R0 O n d host C : String} {ty : FieldType} {a : Addr} {v old : Value} (hd : M.P[k]? = some (pc, .putfield ix, 3)) (w : Wd G (.fieldLink M.own ix R0 n d) ∨ Wd G (.fieldLinkNest M.own ix R0 n d host)) (via : Via G.Z R0 O n d) (F : Fld G.Z h a O n d old) (E : Exa G.Z h a C)
    (L : Wd G (.lays C O n d) ∨ (Wd G (.laysFinal C O n d) ∧ M.own = O ∧ M.nm = "<init>")) (wi : Wd G (.instantiable C kk)) (hty : parseFieldDescriptor d = some ty) (hn : narrow ty v = v) (hf : fits ty v = true) (ha : G.Z.heap.size ≤ a) (hsf : a ∈ sf ∨ (C ≠ "java/lang/String" ∧ C ≠ "[B"))
    (g : ∀ h' : Heap, Wr h h' a (RoadKit.slotOf G.Z O n d) v → Go G B M Q h' sf cells slots (pc + 3) Ls st) : Go G B M Q h sf cells slots pc Ls (v :: .ref a :: st) :=
  go_wr K ha (hsf.imp id fun q vm0 hal => Safe.exa hal E q.1 q.2) (fun T vm0 locs X eT hZ hown => RoadKit.putF X K.1 hZ hown w via eT F E (L.imp id fun q => ⟨q.1, q.2.1, K.2.2.2.2.2.1.trans q.2.2⟩) wi hty hn hf (g := mkF B.m pc Ls (v :: .ref a :: st)) rfl rfl (K.dec hd)) g
theorem go_newarray (K : Kd G B M) {k cap : Nat} {aty : ArrayType} {n : Int32} (hd : M.P[k]? = some (pc, .newarray aty, 2)) (w : Wd G (.arrayClass (newarray.typeOf aty))) (hn : ¬ n < 0) (hcap : n.toNatClampNeg ≤ cap) (hb : Nat.ble (cap * 8) 536870912 = true) (hc : Nat.ble (cells + 1) M.R.cells = true) (hl : Nat.ble (slots + cap) M.R.slots = true)
    (g : ∀ (h' : Heap) (a : Addr) (kA : ClassId), a = h.size → G.Z.heap.size ≤ a → Ext h h' → Arv G.Z h' a kA (newarray.typeOf aty) n [] (defaultValue (newarray.typeOf aty)) → Go G B M Q h' (a :: sf) (cells + 1) (slots + cap) (pc + 2) Ls (.ref a :: st)) : Go G B M Q h sf cells slots pc Ls (.int n :: st) := by
  intro T vm0 k0 locs W
  obtain ⟨X, eT, hS, hk, hZ, hown, hF, hE, hC, hs⟩ := W
  obtain ⟨T', h', cA, X', e', E', A', st'⟩ := newP X K.1 hZ w eT (g := mkF B.m pc Ls (.int n :: st)) rfl (K.dec hd) rfl hn hcap (Nat.le_of_ble_eq_true hb) (Nat.le_of_ble_eq_true hc) (Nat.le_of_ble_eq_true hl)
  refine (g h' h.size cA rfl hE.1 E' (Arv.new A' hn) T' vm0 k0 locs ⟨X', e', hS, Nat.le_trans hk E'.1, hZ, hown, hF, ⟨Nat.le_trans hE.1 E'.1, fun x c q => E'.2 x c (hE.2 x c q)⟩, hC.trans (CHr.ext E' hC.1), fun x hx => ?_⟩).pre st'
  rcases List.mem_cons.mp hx with rfl | hx
  · exact ⟨Safe.ext E' hC.1 (Safe.new (Nat.le_refl _)), A'.lt⟩
  · exact ⟨Safe.ext E' hC.1 (hs x hx).1, Nat.lt_of_lt_of_le (hs x hx).2 E'.1⟩
theorem go_castore (K : Kd G B M) {k i : Nat} {a : Addr} {kA : ClassId} {z j x : Int32} {vs : List Value} {dv : Value} (hd : M.P[k]? = some (pc, .castore, 1)) (A : Arv G.Z h a kA .char z vs dv) (hj : ¬ j < 0 ∧ j < z) (hi : j.toNatClampNeg = i) (hl : i < vs.length) (ha : G.Z.heap.size ≤ a)
    (g : ∀ h' : Heap, Wr h h' a j.toNatClampNeg (.int (nar .char x)) → Arv G.Z h' a kA .char z (vs.set i (.int (nar .char x))) dv → Go G B M Q h' sf cells slots (pc + 1) Ls st) : Go G B M Q h sf cells slots pc Ls (.int x :: .int j :: .ref a :: st) := by
  obtain ⟨c, A1, q1, S, q3, H, Gf⟩ := A
  exact go_wr K ha (Or.inr fun vm0 hal => Safe.arr hal A1 (by decide)) (fun T vm0 locs X eT hZ hown => stC X K.1 hZ eT A1 (inb_of S hj) (g := mkF B.m pc Ls (.int x :: .int j :: .ref a :: st)) rfl rfl (K.dec hd)) fun h' W => g h' W (Arv.set A1 q1 S q3 H Gf (fits_nar_char _) W i hi hl)
theorem go_bastore (K : Kd G B M) {k i : Nat} {a : Addr} {kA : ClassId} {z j x : Int32} {vs : List Value} {dv : Value} (hd : M.P[k]? = some (pc, .bastore, 1)) (A : Arv G.Z h a kA .byte z vs dv) (hj : ¬ j < 0 ∧ j < z) (hi : j.toNatClampNeg = i) (hl : i < vs.length) (ha : G.Z.heap.size ≤ a) (hsf : a ∈ sf)
    (g : ∀ h' : Heap, Wr h h' a j.toNatClampNeg (.int (nar .byte x)) → Arv G.Z h' a kA .byte z (vs.set i (.int (nar .byte x))) dv → Go G B M Q h' sf cells slots (pc + 1) Ls st) : Go G B M Q h sf cells slots pc Ls (.int x :: .int j :: .ref a :: st) := by
  obtain ⟨c, A1, q1, S, q3, H, Gf⟩ := A
  exact go_wr K ha (Or.inl hsf) (fun T vm0 locs X eT hZ hown => stB X K.1 hZ eT A1 (inb_of S hj) (g := mkF B.m pc Ls (.int x :: .int j :: .ref a :: st)) rfl rfl (K.dec hd)) fun h' W => g h' W (Arv.set A1 q1 S q3 H Gf (fits_nar_byte _) W i hi hl)
theorem go_iastore (K : Kd G B M) {k i : Nat} {a : Addr} {kA : ClassId} {z j x : Int32} {vs : List Value} {dv : Value} (hd : M.P[k]? = some (pc, .iastore, 1)) (A : Arv G.Z h a kA .int z vs dv) (hj : ¬ j < 0 ∧ j < z) (hi : j.toNatClampNeg = i) (hl : i < vs.length) (ha : G.Z.heap.size ≤ a)
    (g : ∀ h' : Heap, Wr h h' a j.toNatClampNeg (.int x) → Arv G.Z h' a kA .int z (vs.set i (.int x)) dv → Go G B M Q h' sf cells slots (pc + 1) Ls st) : Go G B M Q h sf cells slots pc Ls (.int x :: .int j :: .ref a :: st) := by
  obtain ⟨c, A1, q1, S, q3, H, Gf⟩ := A
  exact go_wr K ha (Or.inr fun vm0 hal => Safe.arr hal A1 (by decide)) (fun T vm0 locs X eT hZ hown => stI X K.1 hZ eT A1 (inb_of S hj) (g := mkF B.m pc Ls (.int x :: .int j :: .ref a :: st)) rfl rfl (K.dec hd)) fun h' W => g h' W (Arv.set A1 q1 S q3 H Gf rfl W i hi hl)
theorem go_caload (K : Kd G B M) {k : Nat} {a : Addr} {kA : ClassId} {z j : Int32} {vs : List Value} {v dv : Value} (hd : M.P[k]? = some (pc, .caload, 1)) (A : Arv G.Z h a kA .char z vs dv) (hj : ¬ j < 0 ∧ j < z) (hv : vs.getD j.toNatClampNeg dv = v)
    (g : Go G B M Q h sf cells slots (pc + 1) Ls (v :: st)) : Go G B M Q h sf cells slots pc Ls (.int j :: .ref a :: st) := by
  intro T vm0 k0 locs W
  obtain ⟨c, A1, q1, S, q3, H, Gf⟩ := A
  have X := W.1
  exact (g T vm0 k0 locs W).pre fun target hr => X.caload K.1 (j := j) (v := v) (by rw [W.2.1]; exact A1.1) (State.isArrayOf_alike W.2.2.2.2.1.alike A1.2.1) A1.2.2 (inb_of S hj) (H.at (inb_of S hj) hv) (g := mkF B.m pc Ls (.int j :: .ref a :: st)) rfl rfl (K.dec hd) _ hr
theorem go_baload (K : Kd G B M) {k : Nat} {a : Addr} {kA : ClassId} {z j : Int32} {vs : List Value} {v dv : Value} (hd : M.P[k]? = some (pc, .baload, 1)) (A : Arv G.Z h a kA .byte z vs dv) (hj : ¬ j < 0 ∧ j < z) (hv : vs.getD j.toNatClampNeg dv = v)
    (g : Go G B M Q h sf cells slots (pc + 1) Ls (v :: st)) : Go G B M Q h sf cells slots pc Ls (.int j :: .ref a :: st) := by
  intro T vm0 k0 locs W
  obtain ⟨c, A1, q1, S, q3, H, Gf⟩ := A
  have X := W.1
  exact (g T vm0 k0 locs W).pre fun target hr => X.baloadBytes K.1 (j := j) (v := v) (by rw [W.2.1]; exact A1.1) (State.isArrayOf_alike W.2.2.2.2.1.alike A1.2.1) A1.2.2 (inb_of S hj) (H.at (inb_of S hj) hv) (g := mkF B.m pc Ls (.int j :: .ref a :: st)) rfl rfl (K.dec hd) _ hr
theorem go_iaload (K : Kd G B M) {k : Nat} {a : Addr} {kA : ClassId} {z j : Int32} {vs : List Value} {v dv : Value} (hd : M.P[k]? = some (pc, .iaload, 1)) (A : Arv G.Z h a kA .int z vs dv) (hj : ¬ j < 0 ∧ j < z) (hv : vs.getD j.toNatClampNeg dv = v)
    (g : Go G B M Q h sf cells slots (pc + 1) Ls (v :: st)) : Go G B M Q h sf cells slots pc Ls (.int j :: .ref a :: st) := by
  intro T vm0 k0 locs W
  obtain ⟨c, A1, q1, S, q3, H, Gf⟩ := A
  have X := W.1
  exact (g T vm0 k0 locs W).pre fun target hr => X.iaload K.1 (j := j) (v := v) (by rw [W.2.1]; exact A1.1) (State.isArrayOf_alike W.2.2.2.2.1.alike A1.2.1) A1.2.2 (inb_of S hj) (H.at (inb_of S hj) hv) (g := mkF B.m pc Ls (.int j :: .ref a :: st)) rfl rfl (K.dec hd) _ hr
theorem go_aaload (K : Kd G B M) {k : Nat} {a : Addr} {kA : ClassId} {ty : FieldType} {z j : Int32} {vs : List Value} {v dv : Value} (hd : M.P[k]? = some (pc, .aaload, 1)) (A : Arv G.Z h a kA ty z vs dv) (hty : ty.isReference = true) (hj : ¬ j < 0 ∧ j < z) (hv : vs.getD j.toNatClampNeg dv = v)
    (g : Go G B M Q h sf cells slots (pc + 1) Ls (v :: st)) : Go G B M Q h sf cells slots pc Ls (.int j :: .ref a :: st) := by
  intro T vm0 k0 locs W
  obtain ⟨c, A1, q1, S, q3, H, Gf⟩ := A
  have X := W.1
  exact (g T vm0 k0 locs W).pre fun target hr => X.aaload K.1 (j := j) (v := v) (by rw [W.2.1]; exact A1.1) (State.isArrayOf_alike W.2.2.2.2.1.alike A1.2.1) hty A1.2.2 (inb_of S hj) (H.at (inb_of S hj) hv) (g := mkF B.m pc Ls (.int j :: .ref a :: st)) rfl rfl (K.dec hd) _ hr
theorem go_arraylength (K : Kd G B M) {k : Nat} {a : Addr} {kA : ClassId} {ty : FieldType} {z : Int32} {vs : List Value} {dv : Value} (hd : M.P[k]? = some (pc, .arraylength, 1)) (A : Arv G.Z h a kA ty z vs dv)
    (g : Go G B M Q h sf cells slots (pc + 1) Ls (.int z :: st)) : Go G B M Q h sf cells slots pc Ls (.ref a :: st) := by
  intro T vm0 k0 locs W
  obtain ⟨c, A1, q1, S, q3, H, Gf⟩ := A
  have X := W.1
  exact (g T vm0 k0 locs W).pre fun target hr => X.arraylength K.1 (by rw [W.2.1]; exact A1.1) (State.isArrayOf_alike W.2.2.2.2.1.alike A1.2.1) (g := mkF B.m pc Ls (.ref a :: st)) rfl rfl (K.dec hd) _ (by rw [len_of S q3]; exact hr)
theorem go_cast (K : Kd G B M) {k ix : Nat} {C : String} {a : Addr} (hd : M.P[k]? = some (pc, .checkcast ix, 3)) (w : Wd G (.classLink M.own ix C)) (F : Ins G.Z h a C true)
    (g : Go G B M Q h sf cells slots (pc + 3) Ls (.ref a :: st)) : Go G B M Q h sf cells slots pc Ls (.ref a :: st) := by
  intro T vm0 k0 locs W
  obtain ⟨X, eT, hS, hk, hZ, hown, hF, hE, hC, hs⟩ := W
  obtain ⟨T', X', e', st'⟩ := castY X K.1 hZ hown w eT F (g := mkF B.m pc Ls (.ref a :: st)) rfl rfl (K.dec hd)
  exact (g T' vm0 k0 locs ⟨X', e', hS, hk, hZ, hown, hF, hE, hC, hs⟩).pre st'
theorem go_instY (K : Kd G B M) {k ix : Nat} {C : String} {a : Addr} (hd : M.P[k]? = some (pc, .instanceof ix, 3)) (w : Wd G (.classLink M.own ix C)) (F : Ins G.Z h a C true)
    (g : Go G B M Q h sf cells slots (pc + 3) Ls (.int 1 :: st)) : Go G B M Q h sf cells slots pc Ls (.ref a :: st) := by
  intro T vm0 k0 locs W
  obtain ⟨X, eT, hS, hk, hZ, hown, hF, hE, hC, hs⟩ := W
  obtain ⟨T', X', e', st'⟩ := instY X K.1 hZ hown w eT F (g := mkF B.m pc Ls (.ref a :: st)) rfl rfl (K.dec hd)
  exact (g T' vm0 k0 locs ⟨X', e', hS, hk, hZ, hown, hF, hE, hC, hs⟩).pre st'
theorem go_instN (K : Kd G B M) {k ix : Nat} {C D : String} {a : Addr} (hd : M.P[k]? = some (pc, .instanceof ix, 3)) (w : Wd G (.classLink M.own ix C)) (E : Exa G.Z h a D) (F : ∃ c t, G.Z.vm.findClass D = some c ∧ G.Z.vm.findClass C = some t ∧ G.Z.vm.assignable c t = false)
    (g : Go G B M Q h sf cells slots (pc + 3) Ls (.int 0 :: st)) : Go G B M Q h sf cells slots pc Ls (.ref a :: st) := by
  intro T vm0 k0 locs W
  obtain ⟨X, eT, hS, hk, hZ, hown, hF, hE, hC, hs⟩ := W
  obtain ⟨T', X', e', st'⟩ := instNo X K.1 hZ hown w eT E F (g := mkF B.m pc Ls (.ref a :: st)) rfl rfl (K.dec hd)
  exact (g T' vm0 k0 locs ⟨X', e', hS, hk, hZ, hown, hF, hE, hC, hs⟩).pre st'
theorem go_inst0 (K : Kd G B M) {k ix : Nat} (hd : M.P[k]? = some (pc, .instanceof ix, 3)) (g : Go G B M Q h sf cells slots (pc + 3) Ls (.int 0 :: st)) : Go G B M Q h sf cells slots pc Ls (.null :: st) := by
  intro T vm0 k0 locs W
  exact (g T vm0 k0 locs W).pre fun target hr => W.1.instanceofNull K.1 (g := mkF B.m pc Ls (.null :: st)) rfl rfl (K.dec hd) target hr
theorem go_init0 (K : Kd G B M) {k ix : Nat} {a : Addr} (hd : M.P[k]? = some (pc, .invokespecial ix, 3)) (w1 : Wd G (.methodLink M.own ix Lib.objectInit)) (w2 : Wd G (.instanceMethod Lib.objectInit)) (w3 : Wd G (.code Lib.objectInit ⟨#[0xb1]⟩ 1 none)) (hsz : Ls.size = M.maxL)
    (hf : Nat.ble 1 M.R.frames = true) (hl : Nat.ble ((st.map fun v => v.category).sum + 12) M.R.locals = true) (g : Go G B M Q h sf cells slots (pc + 3) Ls st) : Go G B M Q h sf cells slots pc Ls (.ref a :: st) := by
  intro T vm0 k0 locs W
  obtain ⟨X, eT, hS, hk, hZ, hown, hF, hE, hC, hs⟩ := W
  obtain ⟨T', X', e', st'⟩ := initO X K.1 hZ hown w1 w2 w3 eT (g := mkF B.m pc Ls (.ref a :: st)) rfl (hsz.trans K.2.2.1.symm) rfl (K.dec hd) (Nat.le_of_ble_eq_true hf) (W := (st.map fun v => v.category).sum) (by show 2 * 0 + _ ≤ _; omega) (Nat.le_of_ble_eq_true hl)
  exact (g T' vm0 k0 locs ⟨X', e', hS, hk, hZ, hown, hF, hE, hC, hs⟩).pre st'
theorem go_ldcI (K : Kd G B M) {k ix : Nat} {v : Int32} (hd : M.P[k]? = some (pc, .ldc ix, 2)) (w : Wd G (.constant M.own ix v)) (g : Go G B M Q h sf cells slots (pc + 2) Ls (.int v :: st)) : Go G B M Q h sf cells slots pc Ls st := by
  intro T vm0 k0 locs W
  obtain ⟨X, eT, hS, hk, hZ, hown, hF, hE, hC, hs⟩ := id W
  exact (g T vm0 k0 locs W).pre (X.ldcInt K.1 hown (mv hZ w) (g := mkF B.m pc Ls st) rfl (K.dec hd))
/-- 'ldc' of a String constant, of which nothing is asked -/
theorem go_ldc (K : Kd G B M) {k ix n : Nat} {text : String} (hd : M.P[k]? = some (pc, .ldc ix, 2)) (w : Wd G (.stringLink M.own ix text)) (wS : ∀ d ∈ Bundle.stringAtoms, Wd G d) (hn : Nat.ble (4 * text.toList.length) n = true) (hb : Nat.ble n 536870912 = true) (hc : Nat.ble (cells + 2) M.R.cells = true) (hl : Nat.ble (slots + (n + 4)) M.R.slots = true)
    (g : ∀ (h' : Heap) (a : Addr), Ext h h' → Go G B M Q h' sf (cells + 2) (slots + (n + 4)) (pc + 2) Ls (.ref a :: st)) : Go G B M Q h sf cells slots pc Ls st := by
  intro T vm0 k0 locs W
  obtain ⟨X, eT, hS, hk, hZ, hown, hF, hE, hC, hs⟩ := W
  obtain ⟨a, T', h', k1, X', e', E', hS', hk', hZ', hown', hC', -, st'⟩ := ldcOH X K.1 hZ hown w wS eT hS hk K.2.2.2.2.2.2 hC.1 (g := mkF B.m pc Ls st) rfl (K.dec hd) (Nat.le_of_ble_eq_true hn) (Nat.le_of_ble_eq_true hb) (Nat.le_of_ble_eq_true hc) (Nat.le_of_ble_eq_true hl)
  exact (g h' a E' T' T'.vm k1 locs ⟨X', e', hS', hk', hZ', hown', hF, ⟨Nat.le_trans hE.1 E'.1, fun x c q => E'.2 x c (hE.2 x c q)⟩, hC.trans hC', fun x hx => ⟨hC'.safe (hs x hx).2 (hs x hx).1, Nat.lt_of_lt_of_le (hs x hx).2 E'.1⟩⟩).pre st'
/-- 'ldc' of a String constant whose text is known -/
theorem go_ldcS (K : Kd G B M) {k ix n : Nat} {text : String} (hd : M.P[k]? = some (pc, .ldc ix, 2)) (w : Wd G (.stringLink M.own ix text)) (wS : ∀ d ∈ Bundle.stringAtoms, Wd G d) (hmem : (M.own, ix) ∈ G.EL)
    {vs : List Value} {z : Int32} (ht : (∀ c ∈ text.toList, c.toNat < 256) ∧ text.toList.map (fun c => Value.int (Jvm.Lit.byteI c.toNat.toUInt16)) = vs) (hz : ¬ z < 0) (hzl : z.toNatClampNeg = vs.length)
    (hn : Nat.ble (4 * text.toList.length) n = true) (hb : Nat.ble n 536870912 = true) (hc : Nat.ble (cells + 2) M.R.cells = true) (hl : Nat.ble (slots + (n + 4)) M.R.slots = true)
    (g : ∀ (h' : Heap) (a b : Addr) (kb : ClassId), Ext h h' → Exa G.Z h' a "java/lang/String" → Fld G.Z h' a "java/lang/String" "coder" "B" (.int 0) → Fld G.Z h' a "java/lang/String" "value" "[B" (.ref b) → Arv G.Z h' b kb .byte z vs (.int 0) → (∀ x ∈ sf, x ≠ a ∧ x ≠ b) →
      Go G B M Q h' sf (cells + 2) (slots + (n + 4)) (pc + 2) Ls (.ref a :: st)) : Go G B M Q h sf cells slots pc Ls st := by
  intro T vm0 k0 locs W
  obtain ⟨X, eT, hS, hk, hZ, hown, hF, hE, hC, hs⟩ := W
  obtain ⟨a, T', h', k1, b, kb, X', e', E', hS', hk', hZ', hown', A1, A2, A3, A4, -, -, hC', -, hne, st'⟩ := ldcCH X K.1 hZ hown w wS eT hS hk K.2.2.2.2.2.2 hmem hC.1 ht hz hzl (g := mkF B.m pc Ls st) rfl (K.dec hd) (Nat.le_of_ble_eq_true hn) (Nat.le_of_ble_eq_true hb) (Nat.le_of_ble_eq_true hc) (Nat.le_of_ble_eq_true hl)
  have hsf : ∀ x ∈ sf, Safe G.Z G.EL T'.vm h' x ∧ x < h'.size := fun x hx => ⟨hC'.safe (hs x hx).2 (hs x hx).1, Nat.lt_of_lt_of_le (hs x hx).2 E'.1⟩
  exact (g h' a b kb E' A1 A2 A3 A4 (fun x hx => hne x (hsf x hx).1) T' T'.vm k1 locs ⟨X', e', hS', hk', hZ', hown', hF, ⟨Nat.le_trans hE.1 E'.1, fun x c q => E'.2 x c (hE.2 x c q)⟩, hC.trans hC', hsf⟩).pre st'
end Heap
/-! ### contracts and calls -/
section Calls
variable {G : Gb} {B : Cx} {M : Mt} {R : Room} {Q : Option Value → Heap → (Addr → Prop) → Prop} {h : Heap} {sf : List Addr} {cells slots pc : Nat} {Ls : Array Slot} {st : List Value}
theorem ctr_of (M : Mt) {ws : List Jvm.Cond} {y : MethodName} {bytes : ByteArray} {as' : Array Value} (ho : M.own = y.cls) (hnm : M.nm = y.name) (pf : plainFor y = true) (hP : ∀ q ∈ M.P, decode bytes q.1 = .ok q.2) (hEL : EW G.Z G.a0 G.EL) {Ls : Array Slot} (ef : ∀ m, entryFrame m as' M.maxL = mkF m 0 Ls [])
    (H : ∀ B : Cx, Kd G B M → Ext G.Z.heap h → Go G B M Q h sf 0 0 0 Ls []) : Ctr G ws y bytes M.maxL M.ret M.R as' h sf Q := by
  refine MetFree.of_bodySF pf hisR ?_
  intro p e s m args below meth c s₁ Bd hml hP' hK
  obtain ⟨rfl, hZ, hh, hCH, hE, hs⟩ := hP'
  have hK : Kd G ((p, e, s, m), (args, below, meth, c)) M := ⟨Bd.exec, fun q hq => by show decode c.code q.1 = _; rw [Bd.bytes]; exact hP q hq, hml, Bd.returns, Bd.notSynchronized, (name_of_methodNamed Bd.named Bd.method).1.trans hnm.symm, hEL⟩
  have X0 : Stand p G.l e M.R s m args below meth c s₁ [] 0 0 := Stand.of_body Bd
  have X1 : Stand p G.l e M.R (s.setVm s.vm) m args below meth c s₁ [] 0 0 := X0
  have e0 : s₁.heap = h := by rw [← hh, Bd.state]; rfl
  have hown : s.vm.findClass M.own = some m.cls := by rw [ho]; exact findClass_of_methodNamed Bd.named
  have hb : CHr G.Z G.EL s.vm s.heap s.vm h := by rw [hh]; exact CHr.refl hCH
  obtain ⟨t, v, L, k1, k2, k3, k4, k5, k6, k7, k8⟩ := H ((p, e, s, m), (args, below, meth, c)) hK hE s₁ s.vm 0 [] ⟨X1, e0, (State.WarmedH.refl s).since 0, Nat.zero_le _, hZ, hown, Fr.nil _, hE, hb, hs⟩
  refine ⟨t, .returned v, ?_, k2, k3, v, L, rfl, ⟨k4, k5, k6⟩, k7, k8⟩
  rw [ef m]
  exact k1
theorem backG {y : MethodName} {bytes : ByteArray} {maxL : Nat} {ret : Option FieldType} {rm : Room} {len W : Nat} {as' : Array Value} {Qc : Option Value → Heap → (Addr → Prop) → Prop} {sf' : List Addr} {p : Program} {e : Env} {below : List Frame} {s : State} {args : Array Value} {vm0 : Vm}
    (C : Ctr G [] y bytes maxL ret rm as' h sf' Qc) (hZ : G.Z.Warmed39 vm0) (wc : Wd G (.code y bytes maxL ret)) (wz : Wd G (.initialized y.cls)) (hf : rm.frames + 1 ≤ R.frames) (hl : W + (maxL + 11) + rm.locals ≤ R.locals) (hEL : EW G.Z G.a0 G.EL) (H : CHv G.Z G.EL vm0 h) (hE : Ext G.Z.heap h) (hs : ∀ x ∈ sf', Safe G.Z G.EL vm0 h x ∧ x < h.size) :
    BackS G.l R p e below (s.setVm vm0) args y len W (fun A a => a = as' ∧ A.U.heap = h ∧ A.cells + rm.cells ≤ R.cells ∧ A.slots + rm.slots ≤ R.slots)
      (fun A _ v B => ∃ L, (Qc v B.U.heap (fun x => Safe G.Z G.EL B.U.vm B.U.heap x ∧ x < B.U.heap.size) ∧ Fr G.Z.heap.size L ∧ Ext G.Z.heap B.U.heap) ∧ B.locs = A.locs ++ L ∧ B.cells = A.cells + rm.cells ∧ B.slots = A.slots + rm.slots ∧ CHr G.Z G.EL vm0 h B.U.vm B.U.heap) := by
  refine BackS.of_freeW (bytes := bytes) (maxL := maxL) (ret := ret) (E := fun _ first o t L k n => k = rm.cells ∧ n = rm.slots ∧ (∃ v, o = .returned v ∧ Qc v t.heap (fun x => Safe G.Z G.EL t.vm t.heap x ∧ x < t.heap.size) ∧ Fr G.Z.heap.size L ∧ Ext G.Z.heap t.heap) ∧ CHr G.Z G.EL first.vm first.heap t.vm t.heap) C hf hl ?_ ?_ ?_ ?_ ?_
  · intro m meth c A a Y hp
    have hU : G.Z.Warmed39 A.U.vm := wtrans (s := s.setVm vm0) hZ Y.warmed
    refine ⟨?_, mv hU wc, mv hU wz, hp.2.2.1, hp.2.2.2⟩
    show (Jvm.Cond.and _ .tt).before a A.U = true
    rw [Cond.before_and, mv hU wc]; rfl
  · intro m meth c A a g mk Y hp
    have A1 := CHv.at Y hZ hEL H
    exact ⟨hp.1, wtrans (s := s.setVm vm0) hZ Y.warmed, hp.2.1, A1.1, hE, fun x hx => ⟨A1.safe (hs x hx).2 (hs x hx).1, (hs x hx).2⟩⟩
  · intros; trivial
  · intro _ _ _ _ q
    obtain ⟨v, L, h1, h2, h3, h4⟩ := q
    exact ⟨L, _, _, h4, rfl, rfl, ⟨v, h1, h2⟩, h3⟩
  · intro m meth c A a g mk v t L k n Y hp _ _ q
    obtain ⟨e1, e2, ⟨v', e3, e4⟩, e5⟩ := q
    cases e3; subst e1 e2
    refine ⟨L, e4, rfl, rfl, rfl, (CHv.at Y hZ hEL H).trans ?_⟩
    rw [← hp.2.1]; exact e5
/-- the room that a call asks of its maker -/
def rok (R : Room) (rest : List Value) (maxL : Nat) (rm : Room) (cells slots : Nat) : Bool :=
  Nat.ble (rm.frames + 1) R.frames && (Nat.ble ((rest.map fun v => v.category).sum + (maxL + 11) + rm.locals) R.locals && (Nat.ble (cells + rm.cells) R.cells && Nat.ble (slots + rm.slots) R.slots))
theorem rok_ok {rest : List Value} {maxL : Nat} {rm : Room} (q : rok R rest maxL rm cells slots = true) : rm.frames + 1 ≤ R.frames ∧ (rest.map fun v => v.category).sum + (maxL + 11) + rm.locals ≤ R.locals ∧ cells + rm.cells ≤ R.cells ∧ slots + rm.slots ≤ R.slots := by
  simp only [rok, Bool.and_eq_true] at q
  exact ⟨Nat.le_of_ble_eq_true q.1, Nat.le_of_ble_eq_true q.2.1, Nat.le_of_ble_eq_true q.2.2.1, Nat.le_of_ble_eq_true q.2.2.2⟩
/-- behind any call: the walk goes on -/
theorem call_on {rm : Room} {Qc : Option Value → Heap → (Addr → Prop) → Prop} {pc' : Nat} {rest : List Value} {T : State} {vm0 : Vm} {k0 : Nat} {locs : List Loc} (W : Wo G B M.own M.R h sf cells slots T vm0 k0 locs)
    (call : ∃ (v : Option Value) (vm₁ : Vm) (A : Pt), (B.s.setVm vm0).WarmedH vm₁ ∧ Stand B.p G.l B.e M.R ((B.s.setVm vm0).setVm A.U.vm) B.m B.as B.bl B.mt B.c A.U A.locs A.cells A.slots ∧ (B.s.setVm vm0).Since A.U.vm A.U.heap.size ∧ T.heap.size ≤ A.U.heap.size ∧
      (∃ L, (Qc v A.U.heap (fun x => Safe G.Z G.EL A.U.vm A.U.heap x ∧ x < A.U.heap.size) ∧ Fr G.Z.heap.size L ∧ Ext G.Z.heap A.U.heap) ∧ A.locs = locs ++ L ∧ A.cells = cells + rm.cells ∧ A.slots = slots + rm.slots ∧ CHr G.Z G.EL vm0 h A.U.vm A.U.heap) ∧
      Steps B.p.tables B.e B.bl (T.setTop (mkF B.m pc Ls st)) (A.U.setTop (mkF B.m pc' Ls (v.toList ++ rest))))
    (g : ∀ (v : Option Value) (h' : Heap) (Sf : Addr → Prop), h.size ≤ h'.size → Qc v h' Sf → ∃ nw : List Addr, (∀ x ∈ nw, Sf x) ∧ Go G B M Q h' (nw ++ sf) (cells + rm.cells) (slots + rm.slots) pc' Ls (v.toList ++ rest)) : Fin G B M.R Q (T.setTop (mkF B.m pc Ls st)) := by
  obtain ⟨X, eT, hS, hk, hZ, hown, hF, hE, hC, hs⟩ := W
  obtain ⟨v, vm₁, ⟨U, L0, c0, n0⟩, -, X', hS', hgr, ⟨L, ⟨hq, hfr, hext⟩, e1, e2, e3, hC'⟩, stp⟩ := call
  dsimp only [Pt.U, Pt.locs, Pt.cells, Pt.slots] at X' hS' hgr hq hfr hext e1 e2 e3 hC' stp
  subst e1 e2 e3
  rw [eT] at hgr
  obtain ⟨nw, n1, n2⟩ := g v U.heap _ hgr hq
  refine (n2 U U.vm U.heap.size _ ⟨X', rfl, hS.trans hS' (Nat.le_trans hk hgr), Nat.le_refl _, State.Warmed39.trans (t := B.s.setVm vm0) hZ hS'.1, (hS'.1.alike.findClass _ _).trans hown, hF.app hfr, hext, hC.trans hC', fun x hx => ?_⟩).pre fun target hr => stp.trans hr
  rcases List.mem_append.mp hx with hx | hx
  · exact n1 x hx
  · exact ⟨hC'.safe (hs x hx).2 (hs x hx).1, Nat.lt_of_lt_of_le (hs x hx).2 hgr⟩
theorem go_staticN (K : Kd G B M) {k ix : Nat} {y : MethodName} {bytes : ByteArray} {maxL : Nat} {ret : Option FieldType} {rm : Room} {argsL rest : List Value} {ps : List FieldType} {rt : Option FieldType} {sf' : List Addr} {Qc : Option Value → Heap → (Addr → Prop) → Prop} (hd : M.P[k]? = some (pc, .invokestatic ix, 3))
    (w1 : Wd G (.methodLink M.own ix y)) (w2 : Wd G (.static y)) (w3 : Wd G (.initialized y.cls)) (w4 : Wd G (.code y bytes maxL ret)) (hy : y.cls ≠ "java/lang/invoke/MethodHandle" ∧ y.cls ≠ "java/lang/invoke/VarHandle") (pd : parseMethodDescriptor y.desc = some ⟨ps, rt⟩)
    (C : Ctr G [] y bytes maxL ret rm argsL.toArray h sf' Qc) (hst : st = argsL.reverse ++ rest) (hlen : argsL.length = ps.length) (hsz : Ls.size = M.maxL) (hsub : ∀ x ∈ sf', x ∈ sf) (hrm : rok M.R rest maxL rm cells slots = true)
    (g : ∀ (v : Option Value) (h' : Heap) (Sf : Addr → Prop), h.size ≤ h'.size → Qc v h' Sf → ∃ nw : List Addr, (∀ x ∈ nw, Sf x) ∧ Go G B M Q h' (nw ++ sf) (cells + rm.cells) (slots + rm.slots) (pc + 3) Ls (v.toList ++ rest)) : Go G B M Q h sf cells slots pc Ls st := by
  intro T vm0 k0 locs W
  obtain ⟨r1, r2, r3, r4⟩ := rok_ok hrm
  obtain ⟨X, eT, hS, hk, hZ, hown, hF, hE, hC, hs⟩ := id W
  subst hst
  exact call_on W (callSS X K.1 hown (mv hZ w1) (mv hZ w2) (mv hZ w3) (mv hZ w4) hy (backG (W := (rest.map fun v => v.category).sum) C hZ w4 w3 r1 r2 K.2.2.2.2.2.2 hC.1 hE (fun x hx => hs x (hsub x hx))) (g := mkF B.m pc Ls (argsL.reverse ++ rest)) rfl (hsz.trans K.2.2.1.symm) (argsL := argsL) (rest := rest) (lenOf pd hlen) rfl (by show 2 * 0 + _ ≤ _; omega) (K.dec hd) (fun vm₁ _ => ⟨rfl, eT, r3, r4⟩)) g
theorem go_static (K : Kd G B M) {k ix : Nat} {y : MethodName} {bytes : ByteArray} {maxL : Nat} {ret : Option FieldType} {rm : Room} {argsL rest : List Value} {ps : List FieldType} {rt : Option FieldType} {sf' : List Addr} {Qc : Option Value → Heap → (Addr → Prop) → Prop} (hd : M.P[k]? = some (pc, .invokestatic ix, 3))
    (w1 : Wd G (.methodLink M.own ix y)) (w2 : Wd G (.static y)) (w3 : Wd G (.initialized y.cls)) (w4 : Wd G (.code y bytes maxL ret)) (hy : y.cls ≠ "java/lang/invoke/MethodHandle" ∧ y.cls ≠ "java/lang/invoke/VarHandle") (pd : parseMethodDescriptor y.desc = some ⟨ps, rt⟩)
    (C : Ctr G [] y bytes maxL ret rm argsL.toArray h sf' Qc) (hst : st = argsL.reverse ++ rest) (hlen : argsL.length = ps.length) (hsz : Ls.size = M.maxL) (hsub : ∀ x ∈ sf', x ∈ sf) (hrm : rok M.R rest maxL rm cells slots = true)
    (g : ∀ (v : Option Value) (h' : Heap) (Sf : Addr → Prop), h.size ≤ h'.size → Qc v h' Sf → Go G B M Q h' sf (cells + rm.cells) (slots + rm.slots) (pc + 3) Ls (v.toList ++ rest)) : Go G B M Q h sf cells slots pc Ls st :=
  go_staticN K hd w1 w2 w3 w4 hy pd C hst hlen hsz hsub hrm fun v h' Sf z q => ⟨[], (fun _ u => nomatch u), g v h' Sf z q⟩
theorem go_specialN (K : Kd G B M) {k ix : Nat} {y : MethodName} {bytes : ByteArray} {maxL : Nat} {rm : Room} {a : Addr} {argsL rest : List Value} {ps : List FieldType} {rt : Option FieldType} {sf' : List Addr} {Qc : Option Value → Heap → (Addr → Prop) → Prop} (hd : M.P[k]? = some (pc, .invokespecial ix, 3)) (hy1 : y.name = "<init>")
    (w1 : Wd G (.methodLink M.own ix y)) (w2 : Wd G (.instanceMethod y)) (w3 : Wd G (.initialized y.cls)) (w4 : Wd G (.code y bytes maxL none)) (hy : y.cls ≠ "java/lang/invoke/MethodHandle" ∧ y.cls ≠ "java/lang/invoke/VarHandle") (pd : parseMethodDescriptor y.desc = some ⟨ps, rt⟩)
    (C : Ctr G [] y bytes maxL none rm (.ref a :: argsL).toArray h sf' Qc) (hst : st = argsL.reverse ++ .ref a :: rest) (hlen : argsL.length = ps.length) (hsz : Ls.size = M.maxL) (hsub : ∀ x ∈ sf', x ∈ sf) (hrm : rok M.R rest maxL rm cells slots = true)
    (g : ∀ (v : Option Value) (h' : Heap) (Sf : Addr → Prop), h.size ≤ h'.size → Qc v h' Sf → ∃ nw : List Addr, (∀ x ∈ nw, Sf x) ∧ Go G B M Q h' (nw ++ sf) (cells + rm.cells) (slots + rm.slots) (pc + 3) Ls (v.toList ++ rest)) : Go G B M Q h sf cells slots pc Ls st := by
  intro T vm0 k0 locs W
  obtain ⟨r1, r2, r3, r4⟩ := rok_ok hrm
  obtain ⟨X, eT, hS, hk, hZ, hown, hF, hE, hC, hs⟩ := id W
  subst hst
  exact call_on W (X.specialBackS K.1 hy1 hown (mv hZ w1) (mv hZ w2) (mv hZ w4) hy (backG (W := (rest.map fun v => v.category).sum) C hZ w4 w3 r1 r2 K.2.2.2.2.2.2 hC.1 hE (fun x hx => hs x (hsub x hx))) (g := mkF B.m pc Ls (argsL.reverse ++ .ref a :: rest)) rfl (hsz.trans K.2.2.1.symm) (Steps.refl _) (a := a) (argsL := argsL) (rest := rest) (lenOf pd hlen) rfl (by show 2 * 0 + _ ≤ _; omega) (K.dec hd) (fun vm₁ _ => ⟨rfl, eT, r3, r4⟩)) g
theorem go_special (K : Kd G B M) {k ix : Nat} {y : MethodName} {bytes : ByteArray} {maxL : Nat} {rm : Room} {a : Addr} {argsL rest : List Value} {ps : List FieldType} {rt : Option FieldType} {sf' : List Addr} {Qc : Option Value → Heap → (Addr → Prop) → Prop} (hd : M.P[k]? = some (pc, .invokespecial ix, 3)) (hy1 : y.name = "<init>")
    (w1 : Wd G (.methodLink M.own ix y)) (w2 : Wd G (.instanceMethod y)) (w3 : Wd G (.initialized y.cls)) (w4 : Wd G (.code y bytes maxL none)) (hy : y.cls ≠ "java/lang/invoke/MethodHandle" ∧ y.cls ≠ "java/lang/invoke/VarHandle") (pd : parseMethodDescriptor y.desc = some ⟨ps, rt⟩)
    (C : Ctr G [] y bytes maxL none rm (.ref a :: argsL).toArray h sf' Qc) (hst : st = argsL.reverse ++ .ref a :: rest) (hlen : argsL.length = ps.length) (hsz : Ls.size = M.maxL) (hsub : ∀ x ∈ sf', x ∈ sf) (hrm : rok M.R rest maxL rm cells slots = true)
    (g : ∀ (v : Option Value) (h' : Heap) (Sf : Addr → Prop), h.size ≤ h'.size → Qc v h' Sf → Go G B M Q h' sf (cells + rm.cells) (slots + rm.slots) (pc + 3) Ls (v.toList ++ rest)) : Go G B M Q h sf cells slots pc Ls st :=
  go_specialN K hd hy1 w1 w2 w3 w4 hy pd C hst hlen hsz hsub hrm fun v h' Sf z q => ⟨[], (fun _ u => nomatch u), g v h' Sf z q⟩
theorem go_virtualN (K : Kd G B M) {k ix : Nat} {y z : MethodName} {bytes : ByteArray} {maxL : Nat} {ret : Option FieldType} {rm : Room} {C : String} {a : Addr} {argsL rest : List Value} {ps : List FieldType} {rt : Option FieldType} {sf' : List Addr} {Qc : Option Value → Heap → (Addr → Prop) → Prop} (hd : M.P[k]? = some (pc, .invokevirtual ix, 3))
    (w1 : Wd G (.methodLink M.own ix y)) (w2 : Wd G (.declares y)) (w3 : Wd G (.selects C y z)) (w4 : Wd G (.instanceMethod z)) (w5 : Wd G (.initialized z.cls)) (w6 : Wd G (.code z bytes maxL ret)) (hy : y.cls ≠ "java/lang/invoke/MethodHandle" ∧ y.cls ≠ "java/lang/invoke/VarHandle") (pd : parseMethodDescriptor y.desc = some ⟨ps, rt⟩) (E : Exa G.Z h a C)
    (nf : ∀ vm0 : Vm, G.Z.Warmed39 vm0 → NotFace (B.s.setVm vm0) y)
    (Ct : Ctr G [] z bytes maxL ret rm (.ref a :: argsL).toArray h sf' Qc) (hst : st = argsL.reverse ++ .ref a :: rest) (hlen : argsL.length = ps.length) (hsz : Ls.size = M.maxL) (hsub : ∀ x ∈ sf', x ∈ sf) (hrm : rok M.R rest maxL rm cells slots = true)
    (g : ∀ (v : Option Value) (h' : Heap) (Sf : Addr → Prop), h.size ≤ h'.size → Qc v h' Sf → ∃ nw : List Addr, (∀ x ∈ nw, Sf x) ∧ Go G B M Q h' (nw ++ sf) (cells + rm.cells) (slots + rm.slots) (pc + 3) Ls (v.toList ++ rest)) : Go G B M Q h sf cells slots pc Ls st := by
  intro T vm0 k0 locs W
  obtain ⟨r1, r2, r3, r4⟩ := rok_ok hrm
  obtain ⟨X, eT, hS, hk, hZ, hown, hF, hE, hC, hs⟩ := id W
  obtain ⟨cB, kB, i1, i2, i3⟩ := isOf (s := B.s.setVm vm0) hZ eT E
  subst hst
  exact call_on W (X.virtualBackS K.1 hown (mv hZ w1) (mv hZ w2) (nf vm0 hZ) (mv hZ w3) (mv hZ w4) hy (backG (W := (rest.map fun v => v.category).sum) Ct hZ w6 w5 r1 r2 K.2.2.2.2.2.2 hC.1 hE (fun x hx => hs x (hsub x hx))) i1 i3 (g := mkF B.m pc Ls (argsL.reverse ++ .ref a :: rest)) rfl (hsz.trans K.2.2.1.symm) (Steps.refl _) (argsL := argsL) (rest := rest) (lenOf pd hlen) rfl (by show 2 * 0 + _ ≤ _; omega) (K.dec hd) (fun vm₁ _ => ⟨rfl, eT, r3, r4⟩)) g
theorem go_virtual (K : Kd G B M) {k ix : Nat} {y z : MethodName} {bytes : ByteArray} {maxL : Nat} {ret : Option FieldType} {rm : Room} {C : String} {a : Addr} {argsL rest : List Value} {ps : List FieldType} {rt : Option FieldType} {sf' : List Addr} {Qc : Option Value → Heap → (Addr → Prop) → Prop} (hd : M.P[k]? = some (pc, .invokevirtual ix, 3))
    (w1 : Wd G (.methodLink M.own ix y)) (w2 : Wd G (.declares y)) (w3 : Wd G (.selects C y z)) (w4 : Wd G (.instanceMethod z)) (w5 : Wd G (.initialized z.cls)) (w6 : Wd G (.code z bytes maxL ret)) (hy : y.cls ≠ "java/lang/invoke/MethodHandle" ∧ y.cls ≠ "java/lang/invoke/VarHandle") (pd : parseMethodDescriptor y.desc = some ⟨ps, rt⟩) (E : Exa G.Z h a C)
    (nf : ∀ vm0 : Vm, G.Z.Warmed39 vm0 → NotFace (B.s.setVm vm0) y)
    (Ct : Ctr G [] z bytes maxL ret rm (.ref a :: argsL).toArray h sf' Qc) (hst : st = argsL.reverse ++ .ref a :: rest) (hlen : argsL.length = ps.length) (hsz : Ls.size = M.maxL) (hsub : ∀ x ∈ sf', x ∈ sf) (hrm : rok M.R rest maxL rm cells slots = true)
    (g : ∀ (v : Option Value) (h' : Heap) (Sf : Addr → Prop), h.size ≤ h'.size → Qc v h' Sf → Go G B M Q h' sf (cells + rm.cells) (slots + rm.slots) (pc + 3) Ls (v.toList ++ rest)) : Go G B M Q h sf cells slots pc Ls st :=
  go_virtualN K hd w1 w2 w3 w4 w5 w6 hy pd E nf Ct hst hlen hsz hsub hrm fun v h' Sf z q => ⟨[], (fun _ u => nomatch u), g v h' Sf z q⟩
end Calls
end Jvm.OwnW
namespace Jvm.OwnW
open Sem ClassFile Op Lib Bundle Jvm.Stand Jvm.Free Jvm.LawKit Jvm.RoadKit
section Small
variable {G : Gb} {B : Cx} {M : Mt} {Q : Option Value → Heap → (Addr → Prop) → Prop} {h h0 h1 h2 : Heap} {sf : List Addr} {cells slots pc : Nat} {Ls : Array Slot} {st : List Value} {a b : Addr}
theorem Ext.rf (h : Heap) : Ext h h := ⟨Nat.le_refl _, fun _ _ q => q⟩
theorem Ext.tr (E : Ext h0 h1) (F : Ext h1 h2) : Ext h0 h2 := ⟨Nat.le_trans E.1 F.1, fun x c q => F.2 x c (E.2 x c q)⟩
theorem Ext.keepN {ws : List Addr} (E : Ext h0 h1) (K : Keep h1 h2 ws) (q : ∀ x ∈ ws, h0.size ≤ x) : Ext h0 h2 :=
  ⟨Nat.le_trans E.1 K.1, fun x c r => K.2.1 x c (E.2 x c r) fun z => absurd (Array.getElem?_eq_some_iff.mp r).1 (Nat.not_lt.mpr (q x z))⟩
theorem Ext.wrN {sl : Nat} {v : Value} (E : Ext h0 h1) (W : Wr h1 h2 a sl v) (q : h0.size ≤ a) : Ext h0 h2 := Ext.keepN E (Keep.of_wr W) (allS q all0)
theorem Ext.keep0 {ws : List Addr} (E : Ext h0 h1) : Keep h0 h1 ws := (Keep.refl h0 ws).ext E
theorem sub0 : ∀ x ∈ ([] : List Addr), x ∈ sf := fun _ q => nomatch q
theorem subS {L : List Addr} (m : a ∈ sf) (r : ∀ x ∈ L, x ∈ sf) : ∀ x ∈ a :: L, x ∈ sf := fun x q => (List.mem_cons.mp q).elim (fun u => u ▸ m) (r x)
theorem nfS {C : String} {y : MethodName} {s : State} (w : Wd G (.selects C y y)) : ∀ vm0 : Vm, G.Z.Warmed39 vm0 → NotFace (s.setVm vm0) y := fun vm0 hZ => notFace_of_selects (args := #[]) (mv (s := s.setVm vm0) hZ w)
/-- the sheet's words, the constants whose text is asked, what the String laws ask -/
def Gl (ts : List Jvm.Cond) (el : List (String × Nat)) (G : Gb) : Prop := (∀ d ∈ ts, Wd G d) ∧ G.EL = el ∧ EW G.Z G.a0 G.EL ∧ (∀ d ∈ Bundle.stringAtoms, Wd G d) ∧ ∃ z : Int32, Sta G.Z G.Z.heap "java/lang/String" "COMPACT_STRINGS" "Z" (.int z) ∧ ¬ z = 0
variable {ts : List Jvm.Cond} {es : List (String × Nat)}
theorem Gl.w (H : Gl ts es G) {d : Jvm.Cond} (k : Nat) (q : ts[k]? = some d) : Wd G d := H.1 d (List.mem_of_getElem? q)
theorem Gl.el (H : Gl ts es G) : EW G.Z G.a0 G.EL := H.2.2.1
theorem Gl.ws (H : Gl ts es G) : ∀ d ∈ Bundle.stringAtoms, Wd G d := H.2.2.2.1
theorem Gl.cs (H : Gl ts es G) : ∃ z : Int32, Sta G.Z G.Z.heap "java/lang/String" "COMPACT_STRINGS" "Z" (.int z) ∧ ¬ z = 0 := H.2.2.2.2
theorem Gl.mem (H : Gl ts es G) {p : String × Nat} (q : p ∈ es) : p ∈ G.EL := H.2.1 ▸ q
/-! ### Strings -/
def by8 (cs : List Int32) : List Value := cs.map fun c => Value.int c.toInt8.toInt32
def Lat (cs : List Int32) : Prop := cs.length ≤ 4000 ∧ ∀ c ∈ cs, ¬ c < 0 ∧ ¬ (255 : Int32) < c
def Str (G : Gb) (h : Heap) (a : Addr) (cs : List Int32) : Prop := ∃ (t : Addr) (kb : ClassId), Exa G.Z h a "java/lang/String" ∧ Fld G.Z h a "java/lang/String" "coder" "B" (.int 0) ∧ Fld G.Z h a "java/lang/String" "value" "[B" (.ref t) ∧ Arv G.Z h t kb .byte cs.length.toInt32 (by8 cs) (.int 0)
variable {cs ds : List Int32}
theorem Str.exa (S : Str G h a cs) : Exa G.Z h a "java/lang/String" := by obtain ⟨t, kb, h1, -⟩ := S; exact h1
theorem Str.lt (S : Str G h a cs) : a < h.size := S.exa.lt
theorem Str.ext (S : Str G h a cs) (E : Ext h h1) : Str G h1 a cs := by
  obtain ⟨t, kb, e1, e2, e3, e4⟩ := S
  exact ⟨t, kb, Exa.ext E e1, Fld.ext E e2, Fld.ext E e3, e4.ext E⟩
theorem by8_len : (by8 cs).length = cs.length := by simp [by8]
theorem len_nn {n : Nat} (q : n < 2 ^ 31) : ¬ n.toInt32 < 0 := by
  rw [Int32.lt_iff_toInt_lt, len_toInt q]; have : (0 : Int32).toInt = 0 := rfl
  omega
theorem len_nat {n : Nat} (q : n < 2 ^ 31) : n.toInt32.toNatClampNeg = n := by
  simp only [Int32.toNatClampNeg, len_toInt q]; rfl
theorem len_lt {i n : Nat} (hn : n < 2 ^ 31) (q : i < n) : i.toInt32 < n.toInt32 := by
  rw [Int32.lt_iff_toInt_lt, len_toInt hn, len_toInt (Nat.lt_trans q hn)]; omega
theorem len_nlt {i n : Nat} (hi : i < 2 ^ 31) (q : n ≤ i) : ¬ i.toInt32 < n.toInt32 := by
  rw [Int32.lt_iff_toInt_lt, len_toInt hi, len_toInt (Nat.lt_of_le_of_lt q hi)]; omega
theorem len_succ (i : Nat) : i.toInt32 + Int32.ofInt 1 = (i + 1).toInt32 := by
  rw [show Int32.ofInt 1 = (1 : Nat).toInt32 from rfl]
  exact (Int32.ofNat_add i 1).symm
theorem lat_lt (q : Lat cs) : cs.length < 2 ^ 31 := Nat.lt_of_le_of_lt q.1 (by decide)
/-- 'ldc' of a constant whose text is asked, as a Str -/
theorem go_ldcT (K : Kd G B M) {k ix n : Nat} {text : String} (hd : M.P[k]? = some (pc, .ldc ix, 2)) (w : Wd G (.stringLink M.own ix text)) (wS : ∀ d ∈ Bundle.stringAtoms, Wd G d) (hmem : (M.own, ix) ∈ G.EL)
    (ht : (∀ c ∈ text.toList, c.toNat < 256) ∧ text.toList.map (fun c => Value.int (Jvm.Lit.byteI c.toNat.toUInt16)) = by8 cs) (hz : cs.length < 2 ^ 31)
    (hn : Nat.ble (4 * text.toList.length) n = true) (hb : Nat.ble n 536870912 = true) (hc : Nat.ble (cells + 2) M.R.cells = true) (hl : Nat.ble (slots + (n + 4)) M.R.slots = true)
    (g : ∀ (h' : Heap) (a : Addr), Ext h h' → Str G h' a cs → Go G B M Q h' sf (cells + 2) (slots + (n + 4)) (pc + 2) Ls (.ref a :: st)) : Go G B M Q h sf cells slots pc Ls st :=
  go_ldcS K hd w wS hmem ht (len_nn hz) (by rw [len_nat hz, by8_len]) hn hb hc hl fun h' a b kb E1 e1 e2 e3 e4 _ => g h' a E1 ⟨b, kb, e1, e2, e3, e4⟩
theorem c8_lat (x : Int32) : ¬ (x &&& 255) < 0 ∧ ¬ (255 : Int32) < (x &&& 255) := by
  have q := c_and x 255 (by decide)
  simp only [Int32.lt_iff_toInt_lt]
  have e1 : (255 : Int32).toInt = 255 := by decide
  have e0 : (0 : Int32).toInt = 0 := by decide
  rw [e1] at q ⊢; rw [e0]; omega
theorem nar_c8 (x : Int32) : nar .char (x &&& 255) = x &&& 255 := i2c_mask x
theorem nar_i2c8 (x : Int32) : nar .char (x &&& 255).toUInt32.toUInt16.toUInt32.toInt32 = x &&& 255 := by rw [i2c_mask]; exact i2c_mask x
theorem i8_idem (x : Int32) : x.toInt8.toInt32.toInt8.toInt32 = x.toInt8.toInt32 := by rw [Int8.toInt8_toInt32]
theorem Arv.ty_ne {k1 k2 : ClassId} {t1 t2 : FieldType} {z1 z2 : Int32} {v1 v2 : List Value} {d1 d2 : Value} (A : Arv G.Z h a k1 t1 z1 v1 d1) (A' : Arv G.Z h b k2 t2 z2 v2 d2) (q : t1 ≠ t2) : a ≠ b := fun e => by
  subst e
  obtain ⟨c1, ⟨x1, ⟨-, kk, y1, p1, z1⟩, -⟩, -⟩ := A
  obtain ⟨c2, ⟨x2, ⟨-, kk', y2, p2, z2⟩, -⟩, -⟩ := A'
  cases x1.symm.trans x2
  cases y1.symm.trans y2
  have := z1.symm.trans z2
  injection this with _ e
  exact q e
end Small
end Jvm.OwnW
namespace Jvm.OwnW
open Sem ClassFile Op Lib Bundle Jvm.Stand Jvm.Free Jvm.LawKit Jvm.RoadKit
section Small2
variable {G : Gb} {h h1 : Heap} {a b : Addr} {cs ds : List Int32}
theorem Str.wrO {C : String} {n sl : Nat} {v : Value} (S : Str G h b cs) (E : Exa G.Z h a C) (hC : C ≠ "java/lang/String") (wi : Wd G (.instantiable C n)) (W : Wr h h1 a sl v) : Str G h1 b cs := by
  obtain ⟨t, kb, e1, e2, e3, e4⟩ := S
  have n1 : b ≠ a := fun q => (Exa.ne E e1 hC) q.symm
  have n2 : t ≠ a := (Exa.neArv E e4 wi).symm
  exact ⟨t, kb, Exa.wr W e1, Fld.other W e2 (Or.inl n1), Fld.other W e3 (Or.inl n1), e4.other W n2⟩
theorem get_map {i : Nat} (q : i < cs.length) : (cs.map Value.int).getD i (.int 0) = .int cs[i] := by
  simp [List.getD_eq_getElem?_getD, q]
theorem get_by8 {i : Nat} (q : i < cs.length) : (by8 cs).getD i (.int 0) = .int cs[i].toInt8.toInt32 := by
  simp [by8, List.getD_eq_getElem?_getD, q]
theorem set_by8 {i k : Nat} (q : i < cs.length) : (by8 (cs.take i) ++ List.replicate (k + 1) (Value.int 0)).set i (.int (nar .byte cs[i].toInt8.toInt32)) = by8 (cs.take (i + 1)) ++ List.replicate k (Value.int 0) := by
  have e : nar .byte cs[i].toInt8.toInt32 = cs[i].toInt8.toInt32 := i8_idem _
  have l : (by8 (cs.take i)).length = i := by rw [by8_len, List.length_take]; omega
  rw [e, List.set_append_right _ _ (Nat.le_of_eq l), l, Nat.sub_self, List.replicate_succ, List.set_cons_zero, List.take_succ_eq_append_getElem q]
  show _ = List.map _ (cs.take i ++ [cs[i]]) ++ _
  rw [List.map_append, List.append_assoc]
  rfl
theorem len_zero {n : Nat} (hn : n < 2 ^ 31) (q : n.toInt32 = 0) : n = 0 := by
  have e := congrArg Int32.toInt q
  rw [len_toInt hn] at e
  have : (0 : Int32).toInt = 0 := rfl
  omega
theorem len_inj {n m : Nat} (hn : n < 2 ^ 31) (hm : m < 2 ^ 31) (q : n.toInt32 = m.toInt32) : n = m := by
  have e := congrArg Int32.toInt q
  rw [len_toInt hn, len_toInt hm] at e
  omega
/-- the low byte, as signed, tells a char of 0 to 255 -/
theorem i8_inj {x y : Int32} (hx : ¬ x < 0 ∧ ¬ (255 : Int32) < x) (hy : ¬ y < 0 ∧ ¬ (255 : Int32) < y) (q : x.toInt8.toInt32 = y.toInt8.toInt32) : x = y := by
  have e := congrArg Int32.toInt q
  have a1 := c_i2b x
  have a2 := c_i2b y
  simp only [Int32.lt_iff_toInt_lt] at hx hy
  have e0 : (0 : Int32).toInt = 0 := by decide
  have e1 : (255 : Int32).toInt = 255 := by decide
  rw [e0, e1] at hx hy
  apply Int32.toInt_inj.mp
  omega
theorem by8_inj : ∀ {cs ds : List Int32}, (∀ c ∈ cs, ¬ c < 0 ∧ ¬ (255 : Int32) < c) → (∀ c ∈ ds, ¬ c < 0 ∧ ¬ (255 : Int32) < c) → by8 cs = by8 ds → cs = ds
  | [], [], _, _, _ => rfl
  | [], _ :: _, _, _, q => by cases q
  | _ :: _, [], _, _, q => by cases q
  | c :: cs, d :: ds, h1, h2, q => by
    simp only [by8, List.map_cons, List.cons.injEq, Value.int.injEq] at q
    rw [i8_inj (h1 c (List.mem_cons_self ..)) (h2 d (List.mem_cons_self ..)) q.1, by8_inj (fun x hx => h1 x (List.mem_cons_of_mem _ hx)) (fun x hx => h2 x (List.mem_cons_of_mem _ hx)) q.2]
/-- one String, one text -/
theorem Str.inj (hl : Lat cs) (hl' : Lat ds) (S : Str G h a cs) (S' : Str G h a ds) : cs = ds := by
  obtain ⟨t, kb, -, -, e3, c, A, -, z1, -, H, -⟩ := S
  obtain ⟨t', kb', -, -, f3, c', A', -, z2, -, H', -⟩ := S'
  have et : t = t' := by
    by_cases u : (Value.ref t) = .ref t'
    · exact Value.ref.inj u
    · exact absurd rfl (Fld.ne e3 f3 u)
  subst et
  cases A.1.symm.trans A'.1
  have n1 := lat_lt hl
  have n2 := lat_lt hl'
  rw [len_nat n1] at z1
  rw [len_nat n2] at z2
  refine by8_inj hl.2 hl'.2 (List.ext_getElem (by rw [by8_len, by8_len]; omega) fun i q1 q2 => ?_)
  have u1 := H i (by rw [by8_len] at q1; omega)
  have u2 := H' i (by rw [by8_len] at q1; omega)
  have := Option.some.inj (u1.symm.trans u2)
  rw [List.getD_eq_getElem?_getD, List.getD_eq_getElem?_getD, List.getElem?_eq_getElem q1, List.getElem?_eq_getElem q2] at this
  exact this
end Small2
end Jvm.OwnW
namespace Jvm.OwnW
open Sem ClassFile Op Lib Bundle Jvm.Stand Jvm.Free Jvm.LawKit Jvm.RoadKit
theorem bool_n {b : Int32} (q : b = 0 ∨ b = 1) : narrow .boolean (.int b) = .int b := by rcases q with rfl | rfl <;> rfl
theorem bool_f {b : Int32} (q : b = 0 ∨ b = 1) : fits .boolean (.int b) = true := by rcases q with rfl | rfl <;> rfl
theorem lat1 {x : Int32} (q : ¬ x < 0 ∧ ¬ (255 : Int32) < x) : Lat [x] := ⟨(by simp), fun c hc => by cases List.mem_singleton.mp hc; exact q⟩
theorem lat0 : Lat [] := ⟨(by decide), fun c hc => nomatch hc⟩
theorem latC {x : Int32} {cs : List Int32} (q : ¬ x < 0 ∧ ¬ (255 : Int32) < x) (l : Lat cs) (hn : cs.length + 1 ≤ 4000) : Lat (x :: cs) := ⟨hn, fun c hc => by
  rcases List.mem_cons.mp hc with rfl | hc
  · exact q
  · exact l.2 c hc⟩
end Jvm.OwnW
namespace Jvm.OwnW
open Sem ClassFile Op Lib Bundle Jvm.Stand Jvm.Free Jvm.LawKit Jvm.RoadKit
theorem shr0 (x : Int32) : x >>> ((0 : Int32) &&& 31) = x := by
  have e := c_ishr x 0 0 (by decide)
  apply Int32.toInt_inj.mp
  rw [e]; simp
theorem c8_id {c : Int32} (q : ¬ c < 0 ∧ ¬ (255 : Int32) < c) : c &&& 255 = c := by
  apply Int32.toInt_inj.mp
  rw [c_mask c 255 8 (by decide) (by decide)]
  simp only [Int32.lt_iff_toInt_lt] at q
  have e0 : (0 : Int32).toInt = 0 := by decide
  have e1 : (255 : Int32).toInt = 255 := by decide
  rw [e0, e1] at q
  have : ((2 ^ 8 : Nat) : Int) = 256 := by decide
  rw [this]; omega
theorem nar_id {c : Int32} (q : ¬ c < 0 ∧ ¬ (255 : Int32) < c) : nar .char c = c := by
  have e := nar_c8 c
  rw [c8_id q] at e
  exact e
theorem char_n {c : Int32} (q : ¬ c < 0 ∧ ¬ (255 : Int32) < c) : narrow .char (.int c) = .int c := congrArg Value.int (nar_id q)
theorem b8_char {c : Int32} (q : ¬ c < 0 ∧ ¬ (255 : Int32) < c) : (c.toInt8.toInt32 &&& (255 : Int32)).toUInt32.toUInt16.toUInt32.toInt32 = c := by
  rw [i2c_mask]
  apply Int32.toInt_inj.mp
  rw [c_mask _ 255 8 (by decide) (by decide)]
  have a1 := c_i2b c
  simp only [Int32.lt_iff_toInt_lt] at q
  have e0 : (0 : Int32).toInt = 0 := by decide
  have e1 : (255 : Int32).toInt = 255 := by decide
  rw [e0, e1] at q
  have : ((2 ^ 8 : Nat) : Int) = 256 := by decide
  rw [this]; omega
end Jvm.OwnW
namespace Jvm.OwnW
open Sem ClassFile Op Lib Bundle Jvm.Stand Jvm.Free Jvm.LawKit Jvm.RoadKit
theorem Str.keepO {G : Gb} {h h1 : Heap} {a b : Addr} {cs : List Int32} {C : String} {n : Nat} (S : Str G h b cs) (E : Exa G.Z h a C) (hC : C ≠ "java/lang/String") (wi : Wd G (.instantiable C n)) (K : Keep h h1 [a]) : Str G h1 b cs := by
  obtain ⟨t, kb, e1, e2, e3, e4⟩ := S
  have n1 : b ≠ a := fun q => (Exa.ne E e1 hC) q.symm
  have n2 : t ≠ a := (Exa.neArv E e4 wi).symm
  exact ⟨t, kb, e1.keep K, e2.keep K (ninS n1 nin0), e3.keep K (ninS n1 nin0), e4.keep K (ninS n2 nin0)⟩
end Jvm.OwnW
namespace Jvm.OwnW
theorem cmpL_self (x : Int64) : Jvm.Free.XT.cmpL x x = 0 := by simp [Jvm.Free.XT.cmpL]
end Jvm.OwnW
namespace Jvm.OwnW
open Sem ClassFile Op Lib Bundle Jvm.Stand Jvm.Free Jvm.LawKit Jvm.RoadKit
theorem rem3 (x : Int32) : (x &&& 3) % 3 = 0 ∨ (x &&& 3) % 3 = 1 ∨ (x &&& 3) % 3 = 2 := by
  have a := c_and x 3 (by decide)
  have b := (c_irem (x &&& 3) 3 3 (by decide)).1 a.1
  have e0 : (0 : Int32).toInt = 0 := by decide
  have e1 : (1 : Int32).toInt = 1 := by decide
  have e2 : (2 : Int32).toInt = 2 := by decide
  rcases (by omega : (x &&& 3).toInt % 3 = 0 ∨ (x &&& 3).toInt % 3 = 1 ∨ (x &&& 3).toInt % 3 = 2) with q | q | q
  · exact Or.inl (Int32.toInt_inj.mp (by rw [b, q, e0]))
  · exact Or.inr (Or.inl (Int32.toInt_inj.mp (by rw [b, q, e1])))
  · exact Or.inr (Or.inr (Int32.toInt_inj.mp (by rw [b, q, e2])))
theorem tok_fin {r kk s : Int32} {A B C : Prop} (sp : (r = 1 ∧ A ∧ B) ∨ (r = 0 ∧ ¬ (A ∧ B))) (hk : (kk = 1 ∧ C) ∨ (kk = 0 ∧ ¬ C)) (hs : (s = 1 ∧ B) ∨ (s = 0 ∧ ¬ B)) (hc : A ↔ C) : r = if kk = 0 then 0 else if s = 0 then 0 else 1 := by
  rcases hk with ⟨rfl, c⟩ | ⟨rfl, c⟩
  · rcases hs with ⟨rfl, b⟩ | ⟨rfl, b⟩
    · rcases sp with ⟨u, -⟩ | ⟨-, u⟩
      · rw [u]; simp
      · exact absurd ⟨hc.mpr c, b⟩ u
    · rcases sp with ⟨-, -, u⟩ | ⟨u, -⟩
      · exact absurd u b
      · rw [u]; simp
  · rcases sp with ⟨-, u, -⟩ | ⟨u, -⟩
    · exact absurd (hc.mp u) c
    · rw [u]; simp
/-- the text that a maker of Strings of up to two chars makes -/
def Mk2 (n c0 c1 : Int32) (cs : List Int32) : Prop := (n = 0 ∧ cs = []) ∨ (¬ n = 0 ∧ n = 1 ∧ cs = [c0]) ∨ (¬ n = 0 ∧ ¬ n = 1 ∧ cs = [c0, c1])
theorem Mk2.zero {c0 c1 : Int32} {cs : List Int32} (q : Mk2 0 c0 c1 cs) : cs = [] := by rcases q with ⟨-, q⟩ | ⟨q, -⟩ | ⟨q, -⟩ <;> first | exact q | exact absurd rfl q
theorem Mk2.one {c0 c1 : Int32} {cs : List Int32} (q : Mk2 1 c0 c1 cs) : cs = [c0] := by rcases q with ⟨q, -⟩ | ⟨-, -, q⟩ | ⟨-, q, -⟩ <;> first | exact q | exact absurd rfl q | exact absurd q (by decide)
theorem Mk2.two {c0 c1 : Int32} {cs : List Int32} (q : Mk2 2 c0 c1 cs) : cs = [c0, c1] := by rcases q with ⟨q, -⟩ | ⟨-, q, -⟩ | ⟨-, -, q⟩ <;> first | exact q | exact absurd q (by decide)
/-- two such texts -/
theorem Mk2.same {n m c0 c1 d0 d1 : Int32} {cs ds : List Int32} (hn : n = 0 ∨ n = 1 ∨ n = 2) (hm : m = 0 ∨ m = 1 ∨ m = 2) (q : Mk2 n c0 c1 cs) (r : Mk2 m d0 d1 ds) : cs = ds ↔ (n = m ∧ (n < 1 ∨ c0 = d0) ∧ (n < 2 ∨ c1 = d1)) := by
  rcases hn with rfl | rfl | rfl <;> rcases hm with rfl | rfl | rfl <;> (first | rw [q.zero] | rw [q.one] | rw [q.two]) <;> (first | rw [r.zero] | rw [r.one] | rw [r.two]) <;> simp
end Jvm.OwnW
namespace Jvm.OwnW
open Sem ClassFile Op Lib Bundle Jvm.Stand Jvm.Free Jvm.LawKit Jvm.RoadKit
theorem nar_ii {c : Int32} (q : ¬ c < 0 ∧ ¬ (255 : Int32) < c) : nar .char c.toUInt32.toUInt16.toUInt32.toInt32 = c := by
  have e : c.toUInt32.toUInt16.toUInt32.toInt32 = c := nar_id q
  rw [e]; exact nar_id q
theorem x8_lat (x y : Int32) : ¬ ((x &&& 255) ^^^ (y &&& 255)) < 0 ∧ ¬ (255 : Int32) < ((x &&& 255) ^^^ (y &&& 255)) := by
  have e : (x &&& 255) ^^^ (y &&& 255) = (x ^^^ y) &&& 255 := by
    apply Int32.toBitVec_inj.mp
    simp only [Int32.toBitVec_xor, Int32.toBitVec_and]
    apply BitVec.eq_of_getLsbD_eq
    intro i hi
    simp only [BitVec.getLsbD_and, BitVec.getLsbD_xor]
    cases x.toBitVec.getLsbD i <;> cases y.toBitVec.getLsbD i <;> cases (255 : Int32).toBitVec.getLsbD i <;> rfl
  rw [e]; exact c8_lat _
/-- a class under Object alone can't be cast to another one that is no interface -/
theorem noCast {G : Gb} {C O K : String} {n : Nat} (w : Wd G (.superclass C O)) (w0 : Wd G (.noSuperclass O)) (wi : Wd G (.instantiable K n)) (h1 : C ≠ K) (h2 : O ≠ K) : ∃ c t, G.Z.vm.findClass C = some c ∧ G.Z.vm.findClass K = some t ∧ G.Z.vm.assignable c t = false := by
  obtain ⟨c, hc⟩ := found_sup w
  obtain ⟨p, k, kp, a1, a2, a3, a4, a5, -, a7⟩ := Cond.superclass_spec hc w
  obtain ⟨o, ko, b1, b2, b3, -, -⟩ := Cond.noSuperclass_spec w0
  cases b1.symm.trans a1
  obtain ⟨t, kt, c1, c2, c3, c4, c5, -⟩ := Cond.instantiable_spec wi
  have n1 := ids_ne hc c1 h1
  have n2 := ids_ne b1 c1 h2
  have c4' := (Bool.or_eq_false_iff.mp c4).1
  refine ⟨c, t, hc, c1, ?_⟩
  show G.Z.vm.assignableAux (255 + 1) c t = false
  simp [Vm.assignableAux, n1, a2, c2, a5, c3, c4', Vm.isSubclass, Vm.isSubclassAux, a4]
  generalize G.Z.vm.classes.size = f
  cases f <;> simp [Vm.isSubclassAux, n2, b2, b3]
end Jvm.OwnW
namespace Jvm.OwnW
open Jvm.RoadKit
theorem fld_apart {args : Array Value} {s : State} {t u : Term} {C n d : String} {a b : Addr} {i j : Value} (e1 : t.eval args s none [] s = some (.ref a)) (e2 : u.eval args s none [] s = some (.ref b)) (f1 : (Term.field t C n d).eval args s none [] s = some i) (f2 : (Term.field u C n d).eval args s none [] s = some j) (q : i ≠ j) : a ≠ b := fun e => by
  subst e
  rw [fld_at e1] at f1
  rw [fld_at e2] at f2
  exact q (Option.some.inj (f1.symm.trans f2))
end Jvm.OwnW
namespace Jvm.OwnW
open Sem ClassFile Op Lib Bundle Jvm.Stand Jvm.Free Jvm.LawKit Jvm.RoadKit
section More
variable {G : Gb} {B : Cx} {M : Mt} {R : Room} {Q : Option Value → Heap → (Addr → Prop) → Prop} {h : Heap} {sf : List Addr} {cells slots pc : Nat} {Ls : Array Slot} {st : List Value}
theorem sameM {y z : MethodName} {C : String} (wd : Wd G (.declares y)) (ws : Wd G (.selects C z z)) (hc : y.cls = z.cls) (hy : y.cls ≠ "java/lang/invoke/MethodHandle" ∧ y.cls ≠ "java/lang/invoke/VarHandle") : Wd G (.sameMethod y.cls y.cls y.name y.desc) := by
  obtain ⟨r0, r, hn, -⟩ := Cond.declares_spec wd
  obtain ⟨c2, r2, m2, q1, q2, q3, q4, kP, hkP, hkPi⟩ := Cond.selects_spec ws
  have e1 := findClass_of_methodNamed hn
  have e2 := findClass_of_methodNamed q3
  rw [← hc] at e2
  have e3 : m2.cls = r0.cls := Option.some.inj (e2.symm.trans e1)
  have e4 := State.methodFound?_of_named hn hy
  have e5 : G.Z.methodNamed? ⟨y.cls, y.name, y.desc⟩ = some r0 := hn
  rw [e3] at hkP
  show (Jvm.Cond.sameMethod y.cls y.cls y.name y.desc).before G.a0 G.Z = true
  simp [Cond.before, Cond.holds, Cond.value, e1, e4, e5, hkP, hkPi]
/-- a method's class is no interface, told by another method of it -/
theorem nfO {C : String} {y z : MethodName} {s : State} (w : Wd G (.selects C z z)) (hc : y.cls = z.cls) : ∀ vm0 : Vm, G.Z.Warmed39 vm0 → NotFace (s.setVm vm0) y := fun vm0 hZ r0 h0 => by
  obtain ⟨c2, r2, m2, q1, q2, q3, q4, kP, hkP, hkPi⟩ := Cond.selects_spec (mv (s := s.setVm vm0) (args := #[]) hZ w)
  have e1 := findClass_of_methodNamed h0
  have e2 := findClass_of_methodNamed q3
  rw [hc] at e1
  have e3 : m2.cls = r0.cls := Option.some.inj (e2.symm.trans e1)
  exact ⟨kP, by rw [← e3]; exact hkP, hkPi⟩
theorem go_superN (K : Kd G B M) {k ix : Nat} {y : MethodName} {bytes : ByteArray} {maxL : Nat} {ret : Option FieldType} {rm : Room} {C : String} {a : Addr} {argsL rest : List Value} {ps : List FieldType} {rt : Option FieldType} {sf' : List Addr} {Qc : Option Value → Heap → (Addr → Prop) → Prop} (hd : M.P[k]? = some (pc, .invokespecial ix, 3))
    (w1 : Wd G (.methodLink M.own ix y)) (w2 : Wd G (.sameMethod y.cls y.cls y.name y.desc)) (w3 : Wd G (.instanceMethod y)) (w4 : Wd G (.superclass M.own y.cls)) (w5 : Wd G (.initialized y.cls)) (w6 : Wd G (.code y bytes maxL ret)) (hn : y.name ≠ "<init>") (pd : parseMethodDescriptor y.desc = some ⟨ps, rt⟩) (E : Exa G.Z h a C)
    (Ct : Ctr G [] y bytes maxL ret rm (.ref a :: argsL).toArray h sf' Qc) (hst : st = argsL.reverse ++ .ref a :: rest) (hlen : argsL.length = ps.length) (hsz : Ls.size = M.maxL) (hsub : ∀ x ∈ sf', x ∈ sf) (hrm : rok M.R rest maxL rm cells slots = true)
    (g : ∀ (v : Option Value) (h' : Heap) (Sf : Addr → Prop), h.size ≤ h'.size → Qc v h' Sf → ∃ nw : List Addr, (∀ x ∈ nw, Sf x) ∧ Go G B M Q h' (nw ++ sf) (cells + rm.cells) (slots + rm.slots) (pc + 3) Ls (v.toList ++ rest)) : Go G B M Q h sf cells slots pc Ls st := by
  intro T vm0 k0 locs W
  obtain ⟨r1, r2, r3, r4⟩ := rok_ok hrm
  obtain ⟨X, eT, hS, hk, hZ, hown, hF, hE, hC, hs⟩ := id W
  subst hst
  exact call_on W (superBackS X K.1 hZ hown w1 w2 w3 w4 hn (backG (W := (rest.map fun v => v.category).sum) Ct hZ w6 w5 r1 r2 K.2.2.2.2.2.2 hC.1 hE (fun x hx => hs x (hsub x hx))) eT (Ins.self E) (g := mkF B.m pc Ls (argsL.reverse ++ .ref a :: rest)) rfl (hsz.trans K.2.2.1.symm) w6 (argsL := argsL) (rest := rest) (lenOf pd hlen) rfl (by show 2 * 0 + _ ≤ _; omega) (K.dec hd) (fun vm₁ _ => ⟨rfl, eT, r3, r4⟩)) g
theorem go_super (K : Kd G B M) {k ix : Nat} {y : MethodName} {bytes : ByteArray} {maxL : Nat} {ret : Option FieldType} {rm : Room} {C : String} {a : Addr} {argsL rest : List Value} {ps : List FieldType} {rt : Option FieldType} {sf' : List Addr} {Qc : Option Value → Heap → (Addr → Prop) → Prop} (hd : M.P[k]? = some (pc, .invokespecial ix, 3))
    (w1 : Wd G (.methodLink M.own ix y)) (w2 : Wd G (.sameMethod y.cls y.cls y.name y.desc)) (w3 : Wd G (.instanceMethod y)) (w4 : Wd G (.superclass M.own y.cls)) (w5 : Wd G (.initialized y.cls)) (w6 : Wd G (.code y bytes maxL ret)) (hn : y.name ≠ "<init>") (pd : parseMethodDescriptor y.desc = some ⟨ps, rt⟩) (E : Exa G.Z h a C)
    (Ct : Ctr G [] y bytes maxL ret rm (.ref a :: argsL).toArray h sf' Qc) (hst : st = argsL.reverse ++ .ref a :: rest) (hlen : argsL.length = ps.length) (hsz : Ls.size = M.maxL) (hsub : ∀ x ∈ sf', x ∈ sf) (hrm : rok M.R rest maxL rm cells slots = true)
    (g : ∀ (v : Option Value) (h' : Heap) (Sf : Addr → Prop), h.size ≤ h'.size → Qc v h' Sf → Go G B M Q h' sf (cells + rm.cells) (slots + rm.slots) (pc + 3) Ls (v.toList ++ rest)) : Go G B M Q h sf cells slots pc Ls st :=
  go_superN K hd w1 w2 w3 w4 w5 w6 hn pd E Ct hst hlen hsz hsub hrm fun v h' Sf z q => ⟨[], (fun _ u => nomatch u), g v h' Sf z q⟩
/-- invokevirtual of a method that the receiver's class takes as it stands, the entry's own class declaring it: private ones too -/
theorem go_virt0N (K : Kd G B M) {k ix : Nat} {y : MethodName} {bytes : ByteArray} {maxL : Nat} {ret : Option FieldType} {rm : Room} {C : String} {a : Addr} {argsL rest : List Value} {ps : List FieldType} {rt : Option FieldType} {sf' : List Addr} {Qc : Option Value → Heap → (Addr → Prop) → Prop} (hd : M.P[k]? = some (pc, .invokevirtual ix, 3))
    (w1 : Wd G (.methodLink M.own ix y)) (w3 : Wd G (.selects C y y)) (w4 : Wd G (.instanceMethod y)) (w5 : Wd G (.initialized y.cls)) (w6 : Wd G (.code y bytes maxL ret)) (hy : y.cls ≠ "java/lang/invoke/MethodHandle" ∧ y.cls ≠ "java/lang/invoke/VarHandle") (pd : parseMethodDescriptor y.desc = some ⟨ps, rt⟩) (E : Exa G.Z h a C)
    (Ct : Ctr G [] y bytes maxL ret rm (.ref a :: argsL).toArray h sf' Qc) (hst : st = argsL.reverse ++ .ref a :: rest) (hlen : argsL.length = ps.length) (hsz : Ls.size = M.maxL) (hsub : ∀ x ∈ sf', x ∈ sf) (hrm : rok M.R rest maxL rm cells slots = true)
    (g : ∀ (v : Option Value) (h' : Heap) (Sf : Addr → Prop), h.size ≤ h'.size → Qc v h' Sf → ∃ nw : List Addr, (∀ x ∈ nw, Sf x) ∧ Go G B M Q h' (nw ++ sf) (cells + rm.cells) (slots + rm.slots) (pc + 3) Ls (v.toList ++ rest)) : Go G B M Q h sf cells slots pc Ls st := by
  intro T vm0 k0 locs W
  obtain ⟨r1, r2, r3, r4⟩ := rok_ok hrm
  obtain ⟨X, eT, hS, hk, hZ, hown, hF, hE, hC, hs⟩ := id W
  obtain ⟨cB, kB, i1, i2, cellB, i3, i4, i5⟩ := isOf (s := B.s.setVm vm0) hZ eT E
  subst hst
  have v3 : (Jvm.Cond.selects C y y).before B.as (B.s.setVm vm0) = true := mv hZ w3
  have v4 : (Jvm.Cond.instanceMethod y).before B.as (B.s.setVm vm0) = true := mv hZ w4
  have v6 : (Jvm.Cond.code y bytes maxL ret).before B.as (B.s.setVm vm0) = true := mv hZ w6
  obtain ⟨mk, methM, hnamed, hmethM, hstM, habM⟩ := Cond.instanceMethod_spec v4
  obtain ⟨methM', cM, hmethM', -, -, -, -, -, -, hsigM⟩ := Cond.code_spec hnamed v6
  cases hmethM.symm.trans hmethM'
  obtain ⟨c2, r2', m2, q1, q2, q3, q4, kP, hkP, hkPi⟩ := Cond.selects_spec v3
  cases i1.symm.trans q1
  cases (State.methodFound?_of_named hnamed hy).symm.trans q2
  cases hnamed.symm.trans q3
  have hselP : selectMethod B.e.platform (B.s.setVm vm0).vm cellB.cls mk = .method mk := by rw [Launch.admits_selectMethod X.admits, i4]; exact q4
  have hlen' : ∀ sig, parseMethodDescriptor y.desc = some sig → argsL.length = sig.parameters.length := lenOf pd hlen
  have hK := backG (R := M.R) (p := B.p) (e := B.e) (below := B.bl) (s := B.s) (args := B.as) (len := 3) (W := (rest.map fun v => v.category).sum) Ct hZ w6 w5 r1 r2 K.2.2.2.2.2.2 hC.1 hE (fun x hx => hs x (hsub x hx))
  refine call_on W ?_ g
  obtain ⟨vm₁, X₁, hstep₁⟩ := X.invokevirtual K.1 hown (mv hZ w1) hnamed hmethM hstM hkP hkPi hy (a := a) (cell := cellB) i3 (fun z u => by rw [u] at i5; cases i5) hselP hmethM habM hkP hkPi (g := mkF B.m pc Ls (argsL.reverse ++ .ref a :: rest)) rfl (argsL := argsL) (rest := rest) (hlen' _ hsigM) rfl (K.dec hd)
  obtain ⟨v, A, X', hS', hgr, hpost, hsteps⟩ := hK B.m B.mt B.c ⟨T.setVm vm₁, locs, cells, slots⟩ { mkF B.m pc Ls (argsL.reverse ++ .ref a :: rest) with stack := rest } (.invokevirtual ix) mk (.ref a :: argsL).toArray X₁ rfl (hsz.trans K.2.2.1.symm) (K.dec hd) (by show 2 * 0 + (rest.map fun v => v.category).sum ≤ _; omega) (X₁.named hnamed) ⟨rfl, eT, r3, r4⟩
  exact ⟨v, vm₁, A, X₁.warmed, X', hS', hgr, hpost, (hstep₁ _ fun acts => by rw [doInvoke_state]; exact Steps.refl _).trans hsteps⟩
theorem go_virt0 (K : Kd G B M) {k ix : Nat} {y : MethodName} {bytes : ByteArray} {maxL : Nat} {ret : Option FieldType} {rm : Room} {C : String} {a : Addr} {argsL rest : List Value} {ps : List FieldType} {rt : Option FieldType} {sf' : List Addr} {Qc : Option Value → Heap → (Addr → Prop) → Prop} (hd : M.P[k]? = some (pc, .invokevirtual ix, 3))
    (w1 : Wd G (.methodLink M.own ix y)) (w3 : Wd G (.selects C y y)) (w4 : Wd G (.instanceMethod y)) (w5 : Wd G (.initialized y.cls)) (w6 : Wd G (.code y bytes maxL ret)) (hy : y.cls ≠ "java/lang/invoke/MethodHandle" ∧ y.cls ≠ "java/lang/invoke/VarHandle") (pd : parseMethodDescriptor y.desc = some ⟨ps, rt⟩) (E : Exa G.Z h a C)
    (Ct : Ctr G [] y bytes maxL ret rm (.ref a :: argsL).toArray h sf' Qc) (hst : st = argsL.reverse ++ .ref a :: rest) (hlen : argsL.length = ps.length) (hsz : Ls.size = M.maxL) (hsub : ∀ x ∈ sf', x ∈ sf) (hrm : rok M.R rest maxL rm cells slots = true)
    (g : ∀ (v : Option Value) (h' : Heap) (Sf : Addr → Prop), h.size ≤ h'.size → Qc v h' Sf → Go G B M Q h' sf (cells + rm.cells) (slots + rm.slots) (pc + 3) Ls (v.toList ++ rest)) : Go G B M Q h sf cells slots pc Ls st :=
  go_virt0N K hd w1 w3 w4 w5 w6 hy pd E Ct hst hlen hsz hsub hrm fun v h' Sf z q => ⟨[], (fun _ u => nomatch u), g v h' Sf z q⟩
/-- System.arraycopy between arrays of one primitive kind -/
theorem go_arraycopy (K : Kd G B M) {k ix : Nat} {a b : Addr} {kA kB : ClassId} {ty : FieldType} {z z' sp dp nn : Int32} {vs vd us : List Value} {dv dd : Value} (hd : M.P[k]? = some (pc, .invokestatic ix, 3))
    (w1 : Wd G (.methodLink M.own ix Jvm.Stand.acN)) (w2 : Wd G (.native Jvm.Stand.acN)) (w3 : Wd G (.static Jvm.Stand.acN)) (w4 : Wd G (.initialized "java/lang/System")) (A : Arv G.Z h a kA ty z vs dv) (A' : Arv G.Z h b kB ty z' vd dd) (hp : refKind ty = false)
    (h1 : ¬ sp < 0) (h2 : ¬ dp < 0) (h3 : ¬ nn < 0) (h4 : sp.toNatClampNeg + nn.toNatClampNeg ≤ z.toNatClampNeg) (h5 : dp.toNatClampNeg + nn.toNatClampNeg ≤ z'.toNatClampNeg)
    (hus : us = (List.range nn.toNatClampNeg).map fun i => vs.getD (sp.toNatClampNeg + i) dv) (hl : dp.toNatClampNeg + nn.toNatClampNeg ≤ vd.length) (ge : G.Z.heap.size ≤ b) (hsf : b ∈ sf ∨ ty ≠ .byte) (hsz : Ls.size = M.maxL)
    (hf : Nat.ble 1 M.R.frames = true) (hlo : Nat.ble ((st.map fun v => v.category).sum + (nativeFrameWords "java/lang/System" "arraycopy" 5 + 11)) M.R.locals = true)
    (g : ∀ h' : Heap, Keep h h' [b] → Arv G.Z h' b kB ty z' (vd.take dp.toNatClampNeg ++ us ++ vd.drop (dp.toNatClampNeg + nn.toNatClampNeg)) dd → Go G B M Q h' sf cells slots (pc + 3) Ls st) : Go G B M Q h sf cells slots pc Ls (.int nn :: .int dp :: .ref b :: .int sp :: .ref a :: st) := by
  intro T vm0 k0 locs W
  obtain ⟨X, eT, hS, hk, hZ, hown, hF, hE, hC, hs⟩ := W
  have S : Safe G.Z G.EL vm0 h b := hsf.elim (fun q => (hs b q).1) (fun q => Safe.arv hZ.alike A' q)
  obtain ⟨T', h', L, X', e', N', K', A2, st'⟩ := cpA X K.1 hZ hown w1 w2 w3 w4 eT A A' (Or.inl ⟨rfl, hp⟩) h1 h2 h3 h4 h5 hus hl hF ge (g := mkF B.m pc Ls (.int nn :: .int dp :: .ref b :: .int sp :: .ref a :: st)) rfl (hsz.trans K.2.2.1.symm) rfl (K.dec hd) (Nat.le_of_ble_eq_true hf) (W := (st.map fun v => v.category).sum) (by show 2 * 0 + _ ≤ _; omega) (Nat.le_of_ble_eq_true hlo)
  have sa : ∀ x ∈ [b], Safe G.Z G.EL vm0 h x := allS S all0
  exact (g h' K' A2 T' vm0 k0 L ⟨X', e', hS, Nat.le_trans hk K'.1, hZ, hown, N', (Old.keep (n0 := G.Z.heap.size) ⟨rfl, hE⟩ K' (allS ge all0)).2, hC.trans (CHr.keep K' sa hC.1), fun x hx => ⟨Safe.keep K' sa hC.1 (hs x hx).1, Nat.lt_of_lt_of_le (hs x hx).2 K'.1⟩⟩).pre st'
end More
end Jvm.OwnW
namespace Jvm.OwnW
open Sem ClassFile Op Lib Bundle Jvm.Stand Jvm.Free Jvm.LawKit Jvm.RoadKit
section Bld
variable {G : Gb} {h h1 : Heap} {a t : Addr} {kb : ClassId} {cs ds : List Int32} {m : Nat}
/-- a StringBuilder a over the byte[] t of m bytes, holding the chars cs -/
def Sb (G : Gb) (h : Heap) (a t : Addr) (kb : ClassId) (cs : List Int32) (m : Nat) : Prop :=
  Exa G.Z h a "java/lang/StringBuilder" ∧ Fld G.Z h a "java/lang/AbstractStringBuilder" "value" "[B" (.ref t) ∧ Fld G.Z h a "java/lang/AbstractStringBuilder" "coder" "B" (.int 0) ∧
  Fld G.Z h a "java/lang/AbstractStringBuilder" "count" "I" (.int cs.length.toInt32) ∧ Arv G.Z h t kb .byte m.toInt32 (by8 cs ++ List.replicate (m - cs.length) (.int 0)) (.int 0) ∧ cs.length ≤ m ∧ m < 2 ^ 31
theorem Sb.ext (S : Sb G h a t kb cs m) (E : Ext h h1) : Sb G h1 a t kb cs m := by
  obtain ⟨e1, e2, e3, e4, e5, e6⟩ := S
  exact ⟨Exa.ext E e1, Fld.ext E e2, Fld.ext E e3, Fld.ext E e4, e5.ext E, e6⟩
theorem Sb.exa (S : Sb G h a t kb cs m) : Exa G.Z h a "java/lang/StringBuilder" := S.1
theorem Str.keep2 {C : String} {n : Nat} {b : Addr} (S : Str G h b cs) (E : Exa G.Z h a C) (hC : C ≠ "java/lang/String") (wi : Wd G (.instantiable C n)) (ws : Wd G (.instantiable "java/lang/String" 4)) (A : Arv G.Z h t kb .byte m.toInt32 ((by8 ds) ++ List.replicate (m - ds.length) (.int 0)) (.int 0)) (hne : ∀ u, Fld G.Z h b "java/lang/String" "value" "[B" (.ref u) → u ≠ t) (K : Keep h h1 [a, t]) : Str G h1 b cs := by
  obtain ⟨u, ku, e1, e2, e3, e4⟩ := S
  have n1 : b ≠ a := fun q => (Exa.ne E e1 hC) q.symm
  have n2 : u ≠ a := (Exa.neArv E e4 wi).symm
  have n3 : b ≠ t := Exa.neArv e1 A ws
  have n4 : u ≠ t := hne u e3
  exact ⟨u, ku, e1.keep K, e2.keep K (ninS n1 (ninS n3 nin0)), e3.keep K (ninS n1 (ninS n3 nin0)), e4.keep K (ninS n2 (ninS n4 nin0))⟩
theorem shl0 (x : Int32) : x <<< ((0 : Int32) &&& 31) = x := by
  rw [shlm (m := 1) (by decide)]; simp
theorem add_len (n k : Nat) : n.toInt32 + k.toInt32 = (n + k).toInt32 := (Int32.ofNat_add n k).symm
theorem sub_len {n k : Nat} (q : k ≤ n) : n.toInt32 - k.toInt32 = (n - k).toInt32 := by
  have e := add_len (n - k) k
  rw [Nat.sub_add_cancel q] at e
  rw [← e, Int32.add_sub_cancel]
theorem le_len {n k : Nat} (hk : k < 2 ^ 31) (q : n ≤ k) : ¬ 0 < n.toInt32 - k.toInt32 := by
  have h1 := len_toInt (Nat.lt_of_le_of_lt q hk)
  have h2 := len_toInt hk
  have h3 := c_isub n.toInt32 k.toInt32
  have h4 := rng32 (n.toInt32 - k.toInt32)
  rw [h1, h2] at h3
  rw [Int32.lt_iff_toInt_lt]
  have e0 : (0 : Int32).toInt = 0 := rfl
  rw [e0]; omega
theorem len_ge {p q : Nat} (hp : p < 2 ^ 31) (hq : q < 2 ^ 31) (h : q ≤ p) (u : ¬ q.toInt32 < p.toInt32) : p.toInt32 = q.toInt32 := by
  rcases Nat.lt_or_ge q p with v | v
  · exact absurd (len_lt hp v) u
  · rw [Nat.le_antisymm v h]
theorem map_range {vs : List Value} {d : Value} {i n : Nat} (q : i + n ≤ vs.length) : (List.range n).map (fun k => vs.getD (i + k) d) = (vs.drop i).take n := by
  apply List.ext_getElem
  · simp; omega
  · intro j p1 p2
    have hj : i + j < vs.length := by simp at p1; omega
    simp [List.getD_eq_getElem?_getD, hj]
theorem by8_app : by8 (cs ++ ds) = by8 cs ++ by8 ds := by simp [by8]
theorem by8_take {n : Nat} : by8 (cs.take n) = (by8 cs).take n := by simp [by8, List.map_take]
theorem by8_drop {n : Nat} : by8 (cs.drop n) = (by8 cs).drop n := by simp [by8, List.map_drop]
/-- the chars ds put behind cs -/
theorem sb_put (q : cs.length + ds.length ≤ m) : (by8 cs ++ List.replicate (m - cs.length) (Value.int 0)).take cs.length ++ by8 ds ++ (by8 cs ++ List.replicate (m - cs.length) (Value.int 0)).drop (cs.length + ds.length) = by8 (cs ++ ds) ++ List.replicate (m - (cs ++ ds).length) (Value.int 0) := by
  have l : (by8 cs).length = cs.length := by8_len
  rw [List.take_append_of_le_length (by omega), List.take_of_length_le (by omega), List.drop_append, List.drop_of_length_le (by omega), List.nil_append, l, by8_app, List.length_append]
  congr 1
  rw [List.drop_replicate]
  congr 1
  omega
end Bld
end Jvm.OwnW
namespace Jvm.OwnW
open Sem ClassFile Op Lib Bundle Jvm.Stand Jvm.Free Jvm.LawKit Jvm.RoadKit
section More
variable {G : Gb} {B : Cx} {M : Mt} {Q : Option Value → Heap → (Addr → Prop) → Prop} {h : Heap} {sf : List Addr} {cells slots pc : Nat} {Ls : Array Slot} {st : List Value}
/-- 'getfield' over an entry that is resolved -/
theorem go_getfieldR (K : Kd G B M) {k ix : Nat} {O n d : String} {a : Addr} {v : Value} (hd : M.P[k]? = some (pc, .getfield ix, 3)) (w : Wd G (.fieldRef M.own ix O n d)) (F : Fld G.Z h a O n d v)
    (g : Go G B M Q h sf cells slots (pc + 3) Ls (v :: st)) : Go G B M Q h sf cells slots pc Ls (.ref a :: st) := by
  intro T vm0 k0 locs W
  obtain ⟨X, eT, hS, hk, hZ, hown, hF, hE, hC, hs⟩ := W
  have hW : G.Z.Warmed39 T.vm := wtrans hZ X.warmed
  have w' := Cond.fieldRef_warmed39 hW w
  have hcur : T.vm.findClass M.own = some B.m.cls := by
    rw [X.warmed.alike.findClass]; exact hown
  obtain ⟨c, k1, i, f, hi, hr⟩ := Cond.fieldRef_spec (cur := B.m.cls) (s := G.Z.setVm T.vm) hcur w'
  obtain ⟨cell, cf, k2, i2, f2, h1, h2, h3, h4, -, -, h7⟩ := F
  obtain ⟨k', hi', -⟩ := State.fieldFound?_setVm (s := G.Z) hW.alike h2
  cases hi.symm.trans hi'
  refine (g T vm0 k0 locs ⟨X, eT, hS, hk, hZ, hown, hF, hE, hC, hs⟩).pre (fun target hrest => ?_)
  have hd' := K.dec hd
  jvm_step X.here [K.1, hd', getfield.wp_ready (e := B.e) (s := T) (f := mkF B.m pc Ls (.ref a :: st)) X.here.top hr h3 rfl (show T.heap[a]? = some cell by rw [eT]; exact h1) h4 h7]
  exact hrest
/-- invokeinterface; the entry's own interface declares the method -/
theorem go_interfaceN (K : Kd G B M) {k ix cnt : Nat} {xi y : MethodName} {bytes : ByteArray} {maxL : Nat} {ret : Option FieldType} {rm : Room} {C : String} {a : Addr} {argsL rest : List Value} {ps : List FieldType} {rt : Option FieldType} {sf' : List Addr} {Qc : Option Value → Heap → (Addr → Prop) → Prop} (hd : M.P[k]? = some (pc, .invokeinterface ix cnt, 5))
    (w1 : Wd G (.methodLink M.own ix xi)) (w2 : Wd G (.declares xi)) (w3 : Wd G (.interfaceMethod xi.cls xi.cls xi.name xi.desc)) (w4 : Wd G (.selects C xi y)) (w5 : Wd G (.instanceMethod y)) (w6 : Wd G (.publicMethod y)) (w7 : Wd G (.unhidden C xi.name xi.desc)) (w8 : Wd G (.castable C xi.cls)) (w9 : Wd G (.initialized y.cls)) (w10 : Wd G (.code y bytes maxL ret)) (hfa : ((Jvm.Cond.interfaceMethod xi.cls xi.cls xi.name xi.desc).onTables && (Jvm.Cond.interfaceMethod xi.cls xi.cls xi.name xi.desc).keepsFace) = true)
    (hy : xi.cls ≠ "java/lang/invoke/MethodHandle" ∧ xi.cls ≠ "java/lang/invoke/VarHandle") (pd : parseMethodDescriptor xi.desc = some ⟨ps, rt⟩) (E : Exa G.Z h a C)
    (Ct : Ctr G [] y bytes maxL ret rm (.ref a :: argsL).toArray h sf' Qc) (hst : st = argsL.reverse ++ .ref a :: rest) (hlen : argsL.length = ps.length) (hsz : Ls.size = M.maxL) (hsub : ∀ x ∈ sf', x ∈ sf) (hrm : rok M.R rest maxL rm cells slots = true)
    (g : ∀ (v : Option Value) (h' : Heap) (Sf : Addr → Prop), h.size ≤ h'.size → Qc v h' Sf → ∃ nw : List Addr, (∀ x ∈ nw, Sf x) ∧ Go G B M Q h' (nw ++ sf) (cells + rm.cells) (slots + rm.slots) (pc + 5) Ls (v.toList ++ rest)) : Go G B M Q h sf cells slots pc Ls st := by
  intro T vm0 k0 locs W
  obtain ⟨r1, r2, r3, r4⟩ := rok_ok hrm
  obtain ⟨X, eT, hS, hk, hZ, hown, hF, hE, hC, hs⟩ := id W
  obtain ⟨cB, kB, i1, i2, i3⟩ := isOf (s := B.s.setVm vm0) hZ eT E
  subst hst
  exact call_on W (X.interfaceBackS K.1 hown (mv hZ w1) (mv hZ w2) (mv hZ w3 hfa) (mv hZ w4) (mv hZ w5) (mv hZ w6) (mv hZ w7) (mv hZ w8) hy (backG (W := (rest.map fun v => v.category).sum) Ct hZ w10 w9 r1 r2 K.2.2.2.2.2.2 hC.1 hE (fun x hx => hs x (hsub x hx))) i1 i2 i3 (g := mkF B.m pc Ls (argsL.reverse ++ .ref a :: rest)) rfl (hsz.trans K.2.2.1.symm) (Steps.refl _) (argsL := argsL) (rest := rest) (lenOf pd hlen) rfl (by show 2 * 0 + _ ≤ _; omega) (K.dec hd) (fun vm₁ _ => ⟨rfl, eT, r3, r4⟩)) g
theorem go_interface (K : Kd G B M) {k ix cnt : Nat} {xi y : MethodName} {bytes : ByteArray} {maxL : Nat} {ret : Option FieldType} {rm : Room} {C : String} {a : Addr} {argsL rest : List Value} {ps : List FieldType} {rt : Option FieldType} {sf' : List Addr} {Qc : Option Value → Heap → (Addr → Prop) → Prop} (hd : M.P[k]? = some (pc, .invokeinterface ix cnt, 5))
    (w1 : Wd G (.methodLink M.own ix xi)) (w2 : Wd G (.declares xi)) (w3 : Wd G (.interfaceMethod xi.cls xi.cls xi.name xi.desc)) (w4 : Wd G (.selects C xi y)) (w5 : Wd G (.instanceMethod y)) (w6 : Wd G (.publicMethod y)) (w7 : Wd G (.unhidden C xi.name xi.desc)) (w8 : Wd G (.castable C xi.cls)) (w9 : Wd G (.initialized y.cls)) (w10 : Wd G (.code y bytes maxL ret)) (hfa : ((Jvm.Cond.interfaceMethod xi.cls xi.cls xi.name xi.desc).onTables && (Jvm.Cond.interfaceMethod xi.cls xi.cls xi.name xi.desc).keepsFace) = true)
    (hy : xi.cls ≠ "java/lang/invoke/MethodHandle" ∧ xi.cls ≠ "java/lang/invoke/VarHandle") (pd : parseMethodDescriptor xi.desc = some ⟨ps, rt⟩) (E : Exa G.Z h a C)
    (Ct : Ctr G [] y bytes maxL ret rm (.ref a :: argsL).toArray h sf' Qc) (hst : st = argsL.reverse ++ .ref a :: rest) (hlen : argsL.length = ps.length) (hsz : Ls.size = M.maxL) (hsub : ∀ x ∈ sf', x ∈ sf) (hrm : rok M.R rest maxL rm cells slots = true)
    (g : ∀ (v : Option Value) (h' : Heap) (Sf : Addr → Prop), h.size ≤ h'.size → Qc v h' Sf → Go G B M Q h' sf (cells + rm.cells) (slots + rm.slots) (pc + 5) Ls (v.toList ++ rest)) : Go G B M Q h sf cells slots pc Ls st :=
  go_interfaceN K hd w1 w2 w3 w4 w5 w6 w7 w8 w9 w10 hfa hy pd E Ct hst hlen hsz hsub hrm fun v h' Sf z q => ⟨[], (fun _ u => nomatch u), g v h' Sf z q⟩
end More
theorem lt_len {i n : Nat} (hn : n < 2 ^ 31) (hi : i < 2 ^ 31) (q : i.toInt32 < n.toInt32) : i < n := by
  rcases Nat.lt_or_ge i n with u | u
  · exact u
  · exact absurd q (len_nlt hi u)
theorem lat_app {cs ds : List Int32} (p : Lat cs) (q : Lat ds) (hn : cs.length + ds.length ≤ 4000) : Lat (cs ++ ds) :=
  ⟨by rw [List.length_append]; exact hn, fun c hc => (List.mem_append.mp hc).elim (p.2 c) (q.2 c)⟩
theorem out_len (n k : Nat) : (n + (k + 1)).toInt32 = n.toInt32 + 1 + k.toInt32 := by
  rw [show n.toInt32 + 1 = (n + 1).toInt32 from add_len n 1, add_len]
  congr 1
  omega
theorem and3 (x : Int32) : x &&& 3 = 0 ∨ x &&& 3 = 1 ∨ x &&& 3 = 2 ∨ x &&& 3 = 3 := by
  have q := c_and x 3 (by decide)
  have h1 := rng32 (x &&& 3)
  have e3 : (3 : Int32).toInt = 3 := by decide
  rw [e3] at q
  have h2 : (x &&& 3).toInt = 0 ∨ (x &&& 3).toInt = 1 ∨ (x &&& 3).toInt = 2 ∨ (x &&& 3).toInt = 3 := by omega
  rcases h2 with u | u | u | u
  · exact Or.inl (Int32.toInt_inj.mp (u.trans (by decide)))
  · exact Or.inr (Or.inl (Int32.toInt_inj.mp (u.trans (by decide))))
  · exact Or.inr (Or.inr (Or.inl (Int32.toInt_inj.mp (u.trans (by decide)))))
  · exact Or.inr (Or.inr (Or.inr (Int32.toInt_inj.mp (u.trans (by decide)))))
end Jvm.OwnW
namespace Jvm.OwnW
open Sem ClassFile Op Lib Bundle Jvm.Stand Jvm.Free Jvm.LawKit Jvm.RoadKit
theorem len_small {s : State} {args : Array Value} {t : Term} {x : Addr} {cl : Cell} {v : Value} (ht : t.eval args s none [] s = some (.ref x)) (ha : s.arrayAt? x = some cl) (hl : (Term.length t).eval args s none [] s = some v) : cl.slots.size < 2 ^ 31 :=
  Decidable.byContradiction fun nq => by simp [Term.eval, ht, ha, nq] at hl
/-- a String that stands in the heap at the start, as a sheet's words say it -/
theorem str_start {G : Gb} {args : Array Value} {t : Term} {a : Addr} {cs : List Int32} (hf : Fit G.Z) (ev : t.eval args G.Z none [] G.Z = some (.ref a)) (hx : (Cond.exactly t "java/lang/String").value args G.Z none G.Z [] = some true)
    (hA : (Cond.arrayOf (.field t "java/lang/String" "value" "[B") .byte).value args G.Z none G.Z [] = some true) (hl : (Term.length (.field t "java/lang/String" "value" "[B")).eval args G.Z none [] G.Z = some (.int cs.length.toInt32))
    (hc : (Term.field t "java/lang/String" "coder" "B").eval args G.Z none [] G.Z = some (.int 0)) (hm : cs.length < 2 ^ 31)
    (he : ∀ (x : Addr) (cl : Cell), (Term.field t "java/lang/String" "value" "[B").eval args G.Z none [] G.Z = some (.ref x) → G.Z.heap[x]? = some cl → HasL cl 0 (by8 cs)) : Str G G.Z.heap a cs := by
  obtain ⟨x, ex⟩ := arr_v hA
  obtain ⟨cl, A⟩ := Arr.start ex hA
  have ha : G.Z.arrayAt? x = some cl := Arr.fin (Vm.Alike.refl _) A
  have q : cl.slots.size < 2 ^ 31 := Decidable.byContradiction fun nq => nq (len_small ex ha hl)
  have e : cl.slots.size.toInt32 = cs.length.toInt32 := by
    have u := (len_f ex ha q).symm.trans hl
    exact Value.int.inj (Option.some.inj u)
  refine ⟨x, cl.cls, Exa.start ev hx, Fld.start (by rw [← fld_at ev]; exact hc), Fld.start (by rw [← fld_at ev]; exact ex), Arv.start hf A q e (len_nn hm) (by rw [len_nat hm, by8_len]) (he x cl ex A.1)⟩
end Jvm.OwnW
namespace Jvm.OwnW
open Sem ClassFile Op Lib Bundle Jvm.Stand Jvm.Free Jvm.LawKit Jvm.RoadKit
theorem ushr1_nn (x : Int32) : 0 ≤ (XT.ushr x 1).toInt := by
  have q : (XT.ushr x 1).toInt = _ := c_iushr x 1 1 (by decide) (by decide)
  rw [q]
  exact Int.ediv_nonneg (Int.emod_nonneg _ (by decide)) (by decide)
theorem i32_eq {x : Int32} (k : Int32) (q : x.toInt = k.toInt) : x = k := Int32.toInt_inj.mp q
theorem rem4 (x : Int32) : XT.ushr x 1 % 4 = 0 ∨ XT.ushr x 1 % 4 = 1 ∨ XT.ushr x 1 % 4 = 2 ∨ XT.ushr x 1 % 4 = 3 := by
  have b := (c_irem (XT.ushr x 1) 4 4 (by decide)).1 (ushr1_nn x)
  rcases (by omega : (XT.ushr x 1).toInt % 4 = 0 ∨ (XT.ushr x 1).toInt % 4 = 1 ∨ (XT.ushr x 1).toInt % 4 = 2 ∨ (XT.ushr x 1).toInt % 4 = 3) with q | q | q | q
  · exact Or.inl (i32_eq 0 (b.trans q))
  · exact Or.inr (Or.inl (i32_eq 1 (b.trans q)))
  · exact Or.inr (Or.inr (Or.inl (i32_eq 2 (b.trans q))))
  · exact Or.inr (Or.inr (Or.inr (i32_eq 3 (b.trans q))))
theorem rem5 (x : Int32) : XT.ushr x 1 % 5 = 0 ∨ XT.ushr x 1 % 5 = 1 ∨ XT.ushr x 1 % 5 = 2 ∨ XT.ushr x 1 % 5 = 3 ∨ XT.ushr x 1 % 5 = 4 := by
  have b := (c_irem (XT.ushr x 1) 5 5 (by decide)).1 (ushr1_nn x)
  rcases (by omega : (XT.ushr x 1).toInt % 5 = 0 ∨ (XT.ushr x 1).toInt % 5 = 1 ∨ (XT.ushr x 1).toInt % 5 = 2 ∨ (XT.ushr x 1).toInt % 5 = 3 ∨ (XT.ushr x 1).toInt % 5 = 4) with q | q | q | q | q
  · exact Or.inl (i32_eq 0 (b.trans q))
  · exact Or.inr (Or.inl (i32_eq 1 (b.trans q)))
  · exact Or.inr (Or.inr (Or.inl (i32_eq 2 (b.trans q))))
  · exact Or.inr (Or.inr (Or.inr (Or.inl (i32_eq 3 (b.trans q)))))
  · exact Or.inr (Or.inr (Or.inr (Or.inr (i32_eq 4 (b.trans q)))))
end Jvm.OwnW
namespace Jvm.OwnW
open Sem ClassFile Op Lib Bundle Jvm.Stand Jvm.Free Jvm.LawKit Jvm.RoadKit
theorem url_len {us fs : List Int32} : (us ++ (35 : Int32) :: fs).length.toInt32 - fs.length.toInt32 - (1 : Int32) = us.length.toInt32 := by
  rw [sub_len (n := (us ++ (35 : Int32) :: fs).length) (k := fs.length) (by simp only [List.length_append, List.length_cons]; omega)]
  rw [show ((us ++ (35 : Int32) :: fs).length - fs.length).toInt32 - (1 : Int32) = ((us ++ (35 : Int32) :: fs).length - fs.length - 1).toInt32 from sub_len (k := 1) (by simp only [List.length_append, List.length_cons]; omega)]
  congr 1
  simp only [List.length_append, List.length_cons]
  omega
end Jvm.OwnW

namespace Jvm.Pilot.@@N@@
open Jvm Jvm.ClassFile Sem Op Lib Jvm.Free Jvm.Stand Jvm.LawKit Jvm.RoadKit Bundle Jvm.OwnW Jvm.Pilot.@@N@@.Jvm.D
abbrev els : List (String × Nat) := consts_1
theorem pd_0 : parseMethodDescriptor "([CI[BII)I" = some ⟨[(.array .char), .int, (.array .byte), .int, .int], (some .int)⟩ := by decide +kernel
theorem pd_1 : parseMethodDescriptor "([CII)[B" = some ⟨[(.array .char), .int, .int], (some (.array .byte))⟩ := by decide +kernel
theorem pd_2 : parseMethodDescriptor "([BI)B" = some ⟨[(.array .byte), .int], (some .byte)⟩ := by decide +kernel
theorem pd_3 : parseMethodDescriptor "([CIILjava/lang/Void;)V" = some ⟨[(.array .char), .int, .int, (.object "java/lang/Void")], none⟩ := by decide +kernel
theorem pd_4 : parseMethodDescriptor "(C)Z" = some ⟨[.char], (some .boolean)⟩ := by decide +kernel
theorem pd_5 : parseMethodDescriptor "(C)[B" = some ⟨[.char], (some (.array .byte))⟩ := by decide +kernel
theorem pd_6 : parseMethodDescriptor "([BB)V" = some ⟨[(.array .byte), .byte], none⟩ := by decide +kernel
theorem pd_7 : parseMethodDescriptor "()B" = some ⟨[], (some .byte)⟩ := by decide +kernel
theorem pd_8 : parseMethodDescriptor "(II)V" = some ⟨[.int, .int], none⟩ := by decide +kernel
theorem pd_9 : parseMethodDescriptor "(II)I" = some ⟨[.int, .int], (some .int)⟩ := by decide +kernel
theorem pd_10 : parseMethodDescriptor "([BII)[B" = some ⟨[(.array .byte), .int, .int], (some (.array .byte))⟩ := by decide +kernel
theorem pd_11 : parseMethodDescriptor "(Ljava/lang/String;)V" = some ⟨[(.object "java/lang/String")], none⟩ := by decide +kernel
theorem pd_12 : parseMethodDescriptor "([BIB)V" = some ⟨[(.array .byte), .int, .byte], none⟩ := by decide +kernel
theorem pd_13 : parseMethodDescriptor "()I" = some ⟨[], (some .int)⟩ := by decide +kernel
theorem pd_14 : parseMethodDescriptor "(I)V" = some ⟨[.int], none⟩ := by decide +kernel
theorem pd_15 : parseMethodDescriptor "(ILjava/lang/String;)V" = some ⟨[.int, (.object "java/lang/String")], none⟩ := by decide +kernel
theorem pd_16 : parseMethodDescriptor "(Ljava/lang/String;)Ljava/lang/AbstractStringBuilder;" = some ⟨[(.object "java/lang/String")], (some (.object "java/lang/AbstractStringBuilder"))⟩ := by decide +kernel
theorem pd_17 : parseMethodDescriptor "()[B" = some ⟨[], (some (.array .byte))⟩ := by decide +kernel
theorem pd_18 : parseMethodDescriptor "()Z" = some ⟨[], (some .boolean)⟩ := by decide +kernel
theorem pd_19 : parseMethodDescriptor "(Ljava/lang/AbstractStringBuilder;Ljava/lang/Void;)V" = some ⟨[(.object "java/lang/AbstractStringBuilder"), (.object "java/lang/Void")], none⟩ := by decide +kernel
theorem pd_20 : parseMethodDescriptor "(Ljava/lang/StringBuilder;)V" = some ⟨[(.object "java/lang/StringBuilder")], none⟩ := by decide +kernel
theorem pd_21 : parseMethodDescriptor "([B[B)Z" = some ⟨[(.array .byte), (.array .byte)], (some .boolean)⟩ := by decide +kernel
theorem pd_22 : parseMethodDescriptor "(IIILjava/util/function/BiFunction;)I" = some ⟨[.int, .int, .int, (.object "java/util/function/BiFunction")], (some .int)⟩ := by decide +kernel
theorem pd_23 : parseMethodDescriptor "(III)V" = some ⟨[.int, .int, .int], none⟩ := by decide +kernel
theorem pd_24 : parseMethodDescriptor "([BII)Ljava/lang/String;" = some ⟨[(.array .byte), .int, .int], (some (.object "java/lang/String"))⟩ := by decide +kernel
theorem pd_25 : parseMethodDescriptor "()V" = some ⟨[], none⟩ := by decide +kernel
theorem pd_26 : parseMethodDescriptor "(II)Ljava/lang/String;" = some ⟨[.int, .int], (some (.object "java/lang/String"))⟩ := by decide +kernel
theorem pd_27 : parseMethodDescriptor "(Ljava/lang/String;)Ljava/lang/StringBuilder;" = some ⟨[(.object "java/lang/String")], (some (.object "java/lang/StringBuilder"))⟩ := by decide +kernel
theorem pd_28 : parseMethodDescriptor "()Ljava/lang/String;" = some ⟨[], (some (.object "java/lang/String"))⟩ := by decide +kernel
theorem pd_29 : parseMethodDescriptor "(II)C" = some ⟨[.int, .int], (some .char)⟩ := by decide +kernel
theorem pd_30 : parseMethodDescriptor "([C)V" = some ⟨[(.array .char)], none⟩ := by decide +kernel
theorem pd_31 : parseMethodDescriptor "(Ljava/lang/String;Ljava/lang/String;ZLjava/lang/String;)V" = some ⟨[(.object "java/lang/String"), (.object "java/lang/String"), .boolean, (.object "java/lang/String")], none⟩ := by decide +kernel
theorem pd_32 : parseMethodDescriptor "(Ljava/lang/String;)Ljava/lang/String;" = some ⟨[(.object "java/lang/String")], (some (.object "java/lang/String"))⟩ := by decide +kernel
theorem pd_33 : parseMethodDescriptor "(Ljava/lang/Object;)Z" = some ⟨[(.object "java/lang/Object")], (some .boolean)⟩ := by decide +kernel
theorem pd_34 : parseMethodDescriptor "(C)Ljava/lang/String;" = some ⟨[.char], (some (.object "java/lang/String"))⟩ := by decide +kernel
theorem pn_0 : plainName "java/lang/StringUTF16" = true := by first | (simp [plainName, overriddenIn]; done) | decide +kernel
def P_cfal : List (Nat × Instr × Nat) := [(0, .iload_n 1, 1), (1, .aload_n 0, 1), (2, .arraylength, 1), (3, .isub, 1), (4, .bipush 31, 2), (6, .iushr, 1), (7, .i2b, 1), (8, .ireturn, 1)]
theorem L_cfal : ∀ q ∈ P_cfal, decode jdk_52_method_15_code q.1 = .ok q.2 := by decide +kernel
def M_cfal : Mt := (("java/lang/StringUTF16", "coderFromArrayLen", ({ frames := 0, cells := 0, slots := 0, locals := 0 } : Room)), P_cfal, 2, (some .byte))
set_option maxRecDepth 65536 in
set_option maxHeartbeats 40000000 in
theorem c_cfal {G : Gb} (H : Gl tables_1 els G) {h : Heap} {t : Addr} {kb : ClassId} {n : Int32} {vs : List Value} {dv : Value} (A : Arv G.Z h t kb .byte n vs dv) :
    Ctr G [] (⟨"java/lang/StringUTF16", "coderFromArrayLen", "([BI)B"⟩ : MethodName) jdk_52_method_15_code 2 (some .byte) ({ frames := 0, cells := 0, slots := 0, locals := 0 } : Room) #[.ref t, .int n] h [] (fun v h' Sf => v = some (.int 0) ∧ h = h') := by
  refine ctr_of M_cfal rfl rfl (plainFor_of_name pn_0) L_cfal H.el (Ls := #[.val (.ref t), .val (.int n)]) (fun m => ef_ok (by first | (simp [argsToLocals, Value.category]; done) | rfl)) ?_
  intro B K hE
  refine go_run K 0 2 (pc' := 2) (st' := [(.ref t), (.int n)]) rfl ?_
  refine go_arraylength K (k := 2) rfl A ?_
  refine go_run K 3 4 (pc' := 8) (st' := [(.int ((XT.ushr (n - n) (31 : Int32))).toInt8.toInt32)]) rfl ?_
  rw [show ((XT.ushr (n - n) (31 : Int32))).toInt8.toInt32 = (0 : Int32) from by rw [Int32.sub_self]; decide]
  refine go_ireturn K (k := 7) rfl rfl (by decide) rfl rfl rfl ?_
  intro Sf hSf
  exact ⟨rfl, rfl⟩
def P_cmp5 : List (Nat × Instr × Nat) := [(0, .iconst 0, 1), (1, .istore 5, 2), (3, .iload 5, 2), (5, .iload 4, 2), (7, .if_icmp .ge 37, 3), (10, .aload_n 0, 1), (11, .iload_n 1, 1), (12, .caload, 1), (13, .istore 6, 2), (15, .iload 6, 2), (17, .sipush 255, 3), (20, .if_icmp .le 6, 3), (23, .iload 5, 2), (25, .ireturn, 1), (26, .aload_n 2, 1), (27, .iload_n 3, 1), (28, .iload 6, 2), (30, .i2b, 1), (31, .bastore, 1), (32, .iinc 1 1, 3), (35, .iinc 3 1, 3), (38, .iinc 5 1, 3), (41, .goto (-38), 3), (44, .iload 4, 2), (46, .ireturn, 1)]
theorem L_cmp5 : ∀ q ∈ P_cmp5, decode jdk_52_method_21_code q.1 = .ok q.2 := by decide +kernel
def M_cmp5 : Mt := (("java/lang/StringUTF16", "compress", ({ frames := 0, cells := 0, slots := 0, locals := 0 } : Room)), P_cmp5, 7, (some .int))
set_option maxRecDepth 65536 in
set_option maxHeartbeats 40000000 in
theorem c_cmp5 {G : Gb} (H : Gl tables_1 els G) {h : Heap} {ca da : Addr} {kc kd : ClassId} {cs : List Int32} (hl : Lat cs) (Ac : Arv G.Z h ca kc .char cs.length.toInt32 (cs.map Value.int) (.int 0)) (Ad : Arv G.Z h da kd .byte cs.length.toInt32 (List.replicate cs.length (.int 0)) (.int 0)) (hd : G.Z.heap.size ≤ da) :
    Ctr G [] (⟨"java/lang/StringUTF16", "compress", "([CI[BII)I"⟩ : MethodName) jdk_52_method_21_code 7 (some .int) ({ frames := 0, cells := 0, slots := 0, locals := 0 } : Room) #[.ref ca, .int 0, .ref da, .int 0, .int cs.length.toInt32] h [da] (fun v h' Sf => v = some (.int cs.length.toInt32) ∧ Keep h h' [da] ∧ Arv G.Z h' da kd .byte cs.length.toInt32 (by8 cs) (.int 0)) := by
  refine ctr_of M_cmp5 rfl rfl (plainFor_of_name pn_0) L_cmp5 H.el (Ls := #[.val (.ref ca), .val (.int (0 : Int32)), .val (.ref da), .val (.int (0 : Int32)), .val (.int cs.length.toInt32), .unset, .unset]) (fun m => ef_ok (by first | (simp [argsToLocals, Value.category]; done) | rfl)) ?_
  intro B K hE
  have hlt := lat_lt hl
  refine go_run K 0 2 (pc' := 3) (Ls' := #[.val (.ref ca), .val (.int (0 : Int32)), .val (.ref da), .val (.int (0 : Int32)), .val (.int cs.length.toInt32), .val (.int (0 : Int32)), .unset]) (st' := []) rfl ?_
  have loop : ∀ (k i : Nat) (h1 : Heap) (o : Slot), i + k = cs.length → Keep h h1 [da] → Arv G.Z h1 ca kc .char cs.length.toInt32 (cs.map Value.int) (.int 0) → Arv G.Z h1 da kd .byte cs.length.toInt32 (by8 (cs.take i) ++ List.replicate k (.int 0)) (.int 0) → (o = .unset ∨ ∃ w, o = .val (.int w)) →
      Go G B M_cmp5 (fun v h' Sf => v = some (.int cs.length.toInt32) ∧ Keep h h' [da] ∧ Arv G.Z h' da kd .byte cs.length.toInt32 (by8 cs) (.int 0)) h1 [da] 0 0 3 #[.val (.ref ca), .val (.int i.toInt32), .val (.ref da), .val (.int i.toInt32), .val (.int cs.length.toInt32), .val (.int i.toInt32), o] [] := by
    intro k; induction k with
    | zero =>
      intro i h1 o hi hK Ac Ad ho
      refine go_run K 2 2 (pc' := 7) (st' := [(.int cs.length.toInt32), (.int i.toInt32)]) rfl ?_
      refine go_icmpge K (k := 4) rfl (pc' := 44) (by decide) (fun _ => ?_) (fun q => absurd q (len_nlt (by omega) (by omega)))
      refine go_run K 23 1 (pc' := 46) (st' := [(.int cs.length.toInt32)]) rfl ?_
      refine go_ireturn K (k := 24) rfl rfl (by decide) rfl rfl rfl ?_
      intro Sf hSf
      refine ⟨rfl, hK, ?_⟩
      rw [List.replicate_zero, List.append_nil, List.take_of_length_le (by omega)] at Ad
      exact Ad
    | succ k ih =>
      intro i h1 o hi hK Ac Ad ho
      have hin : i < cs.length := by omega
      have hc := hl.2 _ (List.getElem_mem hin)
      refine go_run K 2 2 (pc' := 7) (st' := [(.int cs.length.toInt32), (.int i.toInt32)]) rfl ?_
      refine go_icmpge K (k := 4) rfl (pc' := 44) (by decide) (fun q => absurd (len_lt hlt hin) q) (fun _ => ?_)
      refine go_run K 5 2 (pc' := 12) (st' := [(.int i.toInt32), (.ref ca)]) rfl ?_
      refine go_caload K (k := 7) rfl Ac ⟨len_nn (by omega), len_lt hlt hin⟩ (v := .int cs[i]) (by rw [len_nat (by omega)]; exact get_map hin) ?_
      obtain rfl | ⟨w0, rfl⟩ := ho
      all_goals
        refine go_run K 8 3 (pc' := 20) (Ls' := #[.val (.ref ca), .val (.int i.toInt32), .val (.ref da), .val (.int i.toInt32), .val (.int cs.length.toInt32), .val (.int i.toInt32), .val (.int cs[i])]) (st' := [(.int (255 : Int32)), (.int cs[i])]) rfl ?_
        refine go_icmple K (k := 11) rfl (pc' := 26) (by decide) (fun _ => ?_) (fun q => absurd q hc.2)
        refine go_run K 14 4 (pc' := 31) (st' := [(.int (cs[i]).toInt8.toInt32), (.int i.toInt32), (.ref da)]) rfl ?_
        refine go_bastore K (k := 18) rfl Ad (i := i) ⟨len_nn (by omega), len_lt hlt hin⟩ (len_nat (by omega)) (by rw [List.length_append, by8_len, List.length_take, List.length_replicate]; omega) hd (List.mem_cons_self ..) ?_
        intro h1 W2 A3
        refine go_run K 19 4 (pc' := 3) (Ls' := #[.val (.ref ca), .val (.int (i.toInt32 + Int32.ofInt 1)), .val (.ref da), .val (.int (i.toInt32 + Int32.ofInt 1)), .val (.int cs.length.toInt32), .val (.int (i.toInt32 + Int32.ofInt 1)), .val (.int cs[i])]) (st' := []) rfl ?_
        rw [len_succ i]
        refine ih (i + 1) h1 _ (by omega) (hK.wr W2 (Or.inl (List.mem_cons_self ..))) (Ac.other W2 (Arv.ty_ne Ac Ad (by decide))) ?_ (Or.inr ⟨_, rfl⟩)
        rw [set_by8 hin] at A3
        exact A3
  exact loop cs.length 0 h .unset (by omega) (Keep.refl _ _) Ac Ad (Or.inl rfl)
def P_cmp3 : List (Nat × Instr × Nat) := [(0, .iload_n 2, 1), (1, .newarray .byte, 2), (3, .astore_n 3, 1), (4, .aload_n 0, 1), (5, .iload_n 1, 1), (6, .aload_n 3, 1), (7, .iconst 0, 1), (8, .iload_n 2, 1), (9, .invokestatic 115, 3), (12, .istore 4, 2), (14, .iload 4, 2), (16, .iload_n 2, 1), (17, .if_icmp .eq 40, 3), (20, .aload_n 0, 1), (21, .iload_n 1, 1), (22, .iload_n 2, 1), (23, .invokestatic 119, 3), (26, .astore 5, 2), (28, .aload 5, 2), (30, .iload 4, 2), (32, .invokestatic 71, 3), (35, .sipush 255, 3), (38, .if_icmp .gt 16, 3), (41, .aload 5, 2), (43, .iconst 0, 1), (44, .aload_n 3, 1), (45, .iconst 0, 1), (46, .iload_n 2, 1), (47, .invokestatic 123, 3), (50, .iload_n 2, 1), (51, .if_icmp .eq 6, 3), (54, .aload 5, 2), (56, .areturn, 1), (57, .aload_n 3, 1), (58, .areturn, 1)]
theorem L_cmp3 : ∀ q ∈ P_cmp3, decode jdk_52_method_16_code q.1 = .ok q.2 := by decide +kernel
def M_cmp3 : Mt := (("java/lang/StringUTF16", "compress", ({ frames := 1, cells := 1, slots := 8, locals := 18 } : Room)), P_cmp3, 6, (some (.array .byte)))
set_option maxRecDepth 65536 in
set_option maxHeartbeats 40000000 in
theorem c_cmp3 {G : Gb} (H : Gl tables_1 els G) {h : Heap} {ca : Addr} {kc : ClassId} {cs : List Int32} (hl : Lat cs) (hcap : cs.length ≤ 8) (Ac : Arv G.Z h ca kc .char cs.length.toInt32 (cs.map Value.int) (.int 0)) :
    Ctr G [] (⟨"java/lang/StringUTF16", "compress", "([CII)[B"⟩ : MethodName) jdk_52_method_16_code 6 (some (.array .byte)) ({ frames := 1, cells := 1, slots := 8, locals := 18 } : Room) #[.ref ca, .int 0, .int cs.length.toInt32] h [] (fun v h' Sf => ∃ (t : Addr) (kb : ClassId), v = some (.ref t) ∧ Ext h h' ∧ Arv G.Z h' t kb .byte cs.length.toInt32 (by8 cs) (.int 0) ∧ G.Z.heap.size ≤ t) := by
  refine ctr_of M_cmp3 rfl rfl (plainFor_of_name pn_0) L_cmp3 H.el (Ls := #[.val (.ref ca), .val (.int (0 : Int32)), .val (.int cs.length.toInt32), .unset, .unset, .unset]) (fun m => ef_ok (by first | (simp [argsToLocals, Value.category]; done) | rfl)) ?_
  intro B K hE
  have hlt := lat_lt hl
  refine go_run K 0 1 (pc' := 1) (st' := [(.int cs.length.toInt32)]) rfl ?_
  refine go_newarray K (k := 1) rfl (H.w 19 rfl) (len_nn hlt) (cap := 8) (by rw [len_nat hlt]; exact hcap) rfl rfl rfl ?_
  intro h2 a1 k3 e4 g5 E6 A7
  have A7' : Arv G.Z h2 a1 k3 .byte cs.length.toInt32 (List.replicate cs.length (.int 0)) (.int 0) := Arv.pad A7 (pad_rep [] _ _)
  refine go_run K 2 6 (pc' := 9) (Ls' := #[.val (.ref ca), .val (.int (0 : Int32)), .val (.int cs.length.toInt32), .val (.ref a1), .unset, .unset]) (st' := [(.int cs.length.toInt32), (.int (0 : Int32)), (.ref a1), (.int (0 : Int32)), (.ref ca)]) rfl ?_
  have c8 := (Ac.ext E6)
  refine go_static K (k := 8) rfl (H.w 31 rfl) (H.w 32 rfl) (H.w 29 rfl) (H.w 33 rfl) (by decide) pd_0 (c_cmp5 (cs := cs) H hl c8 A7' g5) (argsL := [(.ref ca), (.int (0 : Int32)), (.ref a1), (.int (0 : Int32)), (.int cs.length.toInt32)]) (rest := []) rfl rfl rfl (subS (List.mem_cons_self ..) sub0) rfl ?_
  rintro _ h9 _ - ⟨rfl, K10, A11⟩
  show Go G B M_cmp3 _ h9 (a1 :: []) 1 8 12 #[.val (.ref ca), .val (.int (0 : Int32)), .val (.int cs.length.toInt32), .val (.ref a1), .unset, .unset] [(.int cs.length.toInt32)]
  refine go_run K 9 3 (pc' := 17) (Ls' := #[.val (.ref ca), .val (.int (0 : Int32)), .val (.int cs.length.toInt32), .val (.ref a1), .val (.int cs.length.toInt32), .unset]) (st' := [(.int cs.length.toInt32), (.int cs.length.toInt32)]) rfl ?_
  refine go_icmpeq K (k := 12) rfl (pc' := 57) (by decide) (fun _ => ?_) (fun q => absurd rfl q)
  refine go_run K 33 1 (pc' := 58) (st' := [(.ref a1)]) rfl ?_
  have X12 : Ext h h9 := (Ext.keepN E6 K10 (allS (Nat.le_trans (Nat.le_refl _) (Nat.le_of_eq e4.symm)) all0))
  refine go_areturn K (k := 34) rfl rfl rfl rfl rfl rfl rfl ?_
  intro Sf hSf
  exact ⟨_, _, rfl, X12, A11, g5⟩
theorem pn_1 : plainName "java/lang/String" = true := by first | (simp [plainName, overriddenIn]; done) | decide +kernel
def P_si4 : List (Nat × Instr × Nat) := [(0, .aload_n 0, 1), (1, .invokespecial 1, 3), (4, .iload_n 3, 1), (5, .ifCond .ne 22, 3), (8, .aload_n 0, 1), (9, .ldc 7, 2), (11, .getfield 9, 3), (14, .putfield 9, 3), (17, .aload_n 0, 1), (18, .ldc 7, 2), (20, .getfield 15, 3), (23, .putfield 15, 3), (26, .return_, 1), (27, .getstatic 38, 3), (30, .ifCond .eq 28, 3), (33, .aload_n 1, 1), (34, .iload_n 2, 1), (35, .iload_n 3, 1), (36, .invokestatic 177, 3), (39, .astore 5, 2), (41, .aload_n 0, 1), (42, .aload 5, 2), (44, .iload_n 3, 1), (45, .invokestatic 47, 3), (48, .putfield 15, 3), (51, .aload_n 0, 1), (52, .aload 5, 2), (54, .putfield 9, 3), (57, .return_, 1), (58, .aload_n 0, 1), (59, .iconst 1, 1), (60, .putfield 15, 3), (63, .aload_n 0, 1), (64, .aload_n 1, 1), (65, .iload_n 2, 1), (66, .iload_n 3, 1), (67, .invokestatic 180, 3), (70, .putfield 9, 3), (73, .return_, 1)]
theorem L_si4 : ∀ q ∈ P_si4, decode jdk_42_method_149_code q.1 = .ok q.2 := by decide +kernel
def M_si4 : Mt := (("java/lang/String", "<init>", ({ frames := 2, cells := 4, slots := 8, locals := 35 } : Room)), P_si4, 6, none)
set_option maxRecDepth 65536 in
set_option maxHeartbeats 40000000 in
theorem c_si4 {G : Gb} (H : Gl tables_1 els G) {h : Heap} {a ca : Addr} {kc : ClassId} {cs : List Int32} (hl : Lat cs) (hcap : cs.length ≤ 8) (E0 : Exa G.Z h a "java/lang/String") (V0 : Fld G.Z h a "java/lang/String" "value" "[B" .null) (C0 : Fld G.Z h a "java/lang/String" "coder" "B" (.int 0)) (g0 : G.Z.heap.size ≤ a) (Ac : Arv G.Z h ca kc .char cs.length.toInt32 (cs.map Value.int) (.int 0)) :
    Ctr G [] (⟨"java/lang/String", "<init>", "([CIILjava/lang/Void;)V"⟩ : MethodName) jdk_42_method_149_code 6 none ({ frames := 2, cells := 4, slots := 8, locals := 35 } : Room) #[.ref a, .ref ca, .int 0, .int cs.length.toInt32, .null] h [a] (fun v h' Sf => v = none ∧ Keep h h' [a] ∧ Str G h' a cs) := by
  refine ctr_of M_si4 rfl rfl (plainFor_of_name pn_1) L_si4 H.el (Ls := #[.val (.ref a), .val (.ref ca), .val (.int (0 : Int32)), .val (.int cs.length.toInt32), .val .null, .unset]) (fun m => ef_ok (by first | (simp [argsToLocals, Value.category]; done) | rfl)) ?_
  intro B K hE
  have hlt := lat_lt hl
  obtain ⟨cz, hcs, hcz⟩ := H.cs
  refine go_run K 0 1 (pc' := 1) (st' := [(.ref a)]) rfl ?_
  refine go_init0 K (k := 1) rfl (H.w 15 rfl) (H.w 16 rfl) (H.w 17 rfl) rfl rfl rfl ?_
  refine go_run K 2 1 (pc' := 5) (st' := [(.int cs.length.toInt32)]) rfl ?_
  refine go_ifne K (k := 3) rfl (pc' := 27) (by decide) (fun hne1 => ?_) (fun hz2 => ?_)
  · refine go_getstatic K (k := 13) rfl (host := "") (Or.inl (H.w 26 rfl)) Via.refl hcs ?_
    refine go_ifeq K (k := 14) rfl (pc' := 58) (by decide) (fun q => absurd q hcz) (fun _ => ?_)
    refine go_run K 15 3 (pc' := 36) (st' := [(.int cs.length.toInt32), (.int (0 : Int32)), (.ref ca)]) rfl ?_
    refine go_static K (k := 18) rfl (H.w 27 rfl) (H.w 28 rfl) (H.w 29 rfl) (H.w 30 rfl) (by decide) pd_1 (c_cmp3 (cs := cs) H hl hcap Ac) (argsL := [(.ref ca), (.int (0 : Int32)), (.int cs.length.toInt32)]) (rest := []) rfl rfl rfl sub0 rfl ?_
    rintro _ h28 _ - ⟨t29, k30, rfl, E31, A32, g33⟩
    show Go G B M_si4 _ h28 (a :: []) 1 8 39 #[.val (.ref a), .val (.ref ca), .val (.int (0 : Int32)), .val (.int cs.length.toInt32), .val .null, .unset] [(.ref t29)]
    refine go_run K 19 4 (pc' := 45) (Ls' := #[.val (.ref a), .val (.ref ca), .val (.int (0 : Int32)), .val (.int cs.length.toInt32), .val .null, .val (.ref t29)]) (st' := [(.int cs.length.toInt32), (.ref t29), (.ref a)]) rfl ?_
    refine go_static K (k := 23) rfl (H.w 34 rfl) (H.w 35 rfl) (H.w 29 rfl) (H.w 36 rfl) (by decide) pd_2 (c_cfal H A32) (argsL := [(.ref t29), (.int cs.length.toInt32)]) (rest := [(.ref a)]) rfl rfl rfl sub0 rfl ?_
    rintro _ _ _ - ⟨rfl, rfl⟩
    show Go G B M_si4 _ h28 (a :: []) 1 8 48 #[.val (.ref a), .val (.ref ca), .val (.int (0 : Int32)), .val (.int cs.length.toInt32), .val .null, .val (.ref t29)] [(.int (0 : Int32)), (.ref a)]
    have c34 := (C0.ext E31)
    have c35 := (E0.ext E31)
    refine go_putfield K (k := 24) rfl (host := "") (Or.inl (H.w 25 rfl)) Via.refl c34 c35 (Or.inr ⟨(H.w 21 rfl), rfl, rfl⟩) (H.w 5 rfl) (ty := .byte) (by decide) rfl rfl g0 (Or.inl (List.mem_cons_self ..)) ?_
    intro h36 W37
    have c38 := (V0.ext E31)
    have F39 : Exa G.Z h36 a "java/lang/String" := Exa.wr W37 c35
    have F40 : Fld G.Z h36 a "java/lang/String" "value" "[B" .null := Fld.other W37 c38 (Or.inr (slot_ne (Or.inr (H.w 20 rfl)) (Or.inr (H.w 21 rfl)) (by decide) (t := (.array .byte)) (t' := .byte) (by decide) (by decide)))
    have F41 : Fld G.Z h36 a "java/lang/String" "coder" "B" (.int (0 : Int32)) := Fld.same W37 c34
    refine go_run K 25 2 (pc' := 54) (st' := [(.ref t29), (.ref a)]) rfl ?_
    refine go_putfield K (k := 27) rfl (host := "") (Or.inl (H.w 24 rfl)) Via.refl F40 F39 (Or.inr ⟨(H.w 20 rfl), rfl, rfl⟩) (H.w 5 rfl) (ty := (.array .byte)) (by decide) rfl rfl g0 (Or.inl (List.mem_cons_self ..)) ?_
    intro h42 W43
    have F44 : Exa G.Z h42 a "java/lang/String" := Exa.wr W43 F39
    have F45 : Fld G.Z h42 a "java/lang/String" "value" "[B" (.ref t29) := Fld.same W43 F40
    have F46 : Fld G.Z h42 a "java/lang/String" "coder" "B" (.int (0 : Int32)) := Fld.other W43 F41 (Or.inr (slot_ne (Or.inr (H.w 21 rfl)) (Or.inr (H.w 20 rfl)) (by decide) (t := .byte) (t' := (.array .byte)) (by decide) (by decide)))
    have c47 := (Arv.other (Arv.other A32 W37 (Exa.neArv c35 A32 (H.w 5 rfl)).symm) W43 (Exa.neArv F39 (Arv.other A32 W37 (Exa.neArv c35 A32 (H.w 5 rfl)).symm) (H.w 5 rfl)).symm)
    refine go_return K (k := 28) rfl rfl rfl rfl ?_
    intro Sf hSf
    exact ⟨rfl, ((((Keep.refl _ [a]).ext E31).wr W37 (Or.inl (List.mem_cons_self ..))).wr W43 (Or.inl (List.mem_cons_self ..))), _, _, F44, F46, F45, c47⟩
  · have hnil : cs = [] := List.eq_nil_of_length_eq_zero (len_zero hlt hz2)
    refine go_run K 4 1 (pc' := 9) (st' := [(.ref a)]) rfl ?_
    refine go_ldcT K (k := 5) rfl (H.w 18 rfl) H.ws (H.mem (by decide)) (cs := []) (by decide) (by decide) (n := 0) rfl rfl rfl rfl ?_
    intro h4 a3 E5 S6
    obtain ⟨t1, k1, e1, e2, e3, e4⟩ := S6
    refine go_getfield K (k := 6) rfl (host := "") (Or.inl (H.w 24 rfl)) Via.refl e3 ?_
    have c7 := (V0.ext E5)
    have c8 := (E0.ext E5)
    refine go_putfield K (k := 7) rfl (host := "") (Or.inl (H.w 24 rfl)) Via.refl c7 c8 (Or.inr ⟨(H.w 20 rfl), rfl, rfl⟩) (H.w 5 rfl) (ty := (.array .byte)) (by decide) rfl rfl g0 (Or.inl (List.mem_cons_self ..)) ?_
    intro h9 W10
    have c11 := (C0.ext E5)
    have F12 : Exa G.Z h9 a "java/lang/String" := Exa.wr W10 c8
    have F13 : Fld G.Z h9 a "java/lang/String" "value" "[B" (.ref t1) := Fld.same W10 c7
    have F14 : Fld G.Z h9 a "java/lang/String" "coder" "B" (.int (0 : Int32)) := Fld.other W10 c11 (Or.inr (slot_ne (Or.inr (H.w 21 rfl)) (Or.inr (H.w 20 rfl)) (by decide) (t := .byte) (t' := (.array .byte)) (by decide) (by decide)))
    refine go_run K 8 1 (pc' := 18) (st' := [(.ref a)]) rfl ?_
    refine go_ldcT K (k := 9) rfl (H.w 18 rfl) H.ws (H.mem (by decide)) (cs := []) (by decide) (by decide) (n := 0) rfl rfl rfl rfl ?_
    intro h16 a15 E17 S18
    obtain ⟨t2, k2, f1, f2, f3, f4⟩ := S18
    refine go_getfield K (k := 10) rfl (host := "") (Or.inl (H.w 25 rfl)) Via.refl f2 ?_
    have c19 := (F14.ext E17)
    have c20 := (F12.ext E17)
    refine go_putfield K (k := 11) rfl (host := "") (Or.inl (H.w 25 rfl)) Via.refl c19 c20 (Or.inr ⟨(H.w 21 rfl), rfl, rfl⟩) (H.w 5 rfl) (ty := .byte) (by decide) rfl rfl g0 (Or.inl (List.mem_cons_self ..)) ?_
    intro h21 W22
    have c23 := (F13.ext E17)
    have F24 : Exa G.Z h21 a "java/lang/String" := Exa.wr W22 c20
    have F25 : Fld G.Z h21 a "java/lang/String" "value" "[B" (.ref t1) := Fld.other W22 c23 (Or.inr (slot_ne (Or.inr (H.w 20 rfl)) (Or.inr (H.w 21 rfl)) (by decide) (t := (.array .byte)) (t' := .byte) (by decide) (by decide)))
    have F26 : Fld G.Z h21 a "java/lang/String" "coder" "B" (.int (0 : Int32)) := Fld.same W22 c19
    have c27 := (Arv.other ((Arv.other e4 W10 (Exa.neArv c8 e4 (H.w 5 rfl)).symm).ext E17) W22 (Exa.neArv c20 ((Arv.other e4 W10 (Exa.neArv c8 e4 (H.w 5 rfl)).symm).ext E17) (H.w 5 rfl)).symm)
    refine go_return K (k := 12) rfl rfl rfl rfl ?_
    intro Sf hSf
    exact ⟨rfl, (((((Keep.refl _ [a]).ext E5).wr W10 (Or.inl (List.mem_cons_self ..))).ext E17).wr W22 (Or.inl (List.mem_cons_self ..))), _, _, F24, F26, F25, (by rw [hnil]; exact c27)⟩
def P_si : List (Nat × Instr × Nat) := [(0, .aload_n 0, 1), (1, .aload_n 1, 1), (2, .iconst 0, 1), (3, .aload_n 1, 1), (4, .arraylength, 1), (5, .aconst_null, 1), (6, .invokespecial 27, 3), (9, .return_, 1)]
theorem L_si : ∀ q ∈ P_si, decode jdk_42_method_3_code q.1 = .ok q.2 := by decide +kernel
def M_si : Mt := (("java/lang/String", "<init>", ({ frames := 3, cells := 4, slots := 8, locals := 52 } : Room)), P_si, 2, none)
set_option maxRecDepth 65536 in
set_option maxHeartbeats 40000000 in
theorem c_si {G : Gb} (H : Gl tables_1 els G) {h : Heap} {a ca : Addr} {kc : ClassId} {cs : List Int32} (hl : Lat cs) (hcap : cs.length ≤ 8) (E0 : Exa G.Z h a "java/lang/String") (V0 : Fld G.Z h a "java/lang/String" "value" "[B" .null) (C0 : Fld G.Z h a "java/lang/String" "coder" "B" (.int 0)) (g0 : G.Z.heap.size ≤ a) (Ac : Arv G.Z h ca kc .char cs.length.toInt32 (cs.map Value.int) (.int 0)) :
    Ctr G [] (⟨"java/lang/String", "<init>", "([C)V"⟩ : MethodName) jdk_42_method_3_code 2 none ({ frames := 3, cells := 4, slots := 8, locals := 52 } : Room) #[.ref a, .ref ca] h [a] (fun v h' Sf => v = none ∧ Keep h h' [a] ∧ Str G h' a cs) := by
  refine ctr_of M_si rfl rfl (plainFor_of_name pn_1) L_si H.el (Ls := #[.val (.ref a), .val (.ref ca)]) (fun m => ef_ok (by first | (simp [argsToLocals, Value.category]; done) | rfl)) ?_
  intro B K hE
  refine go_run K 0 4 (pc' := 4) (st' := [(.ref ca), (.int (0 : Int32)), (.ref ca), (.ref a)]) rfl ?_
  refine go_arraylength K (k := 4) rfl Ac ?_
  refine go_run K 5 1 (pc' := 6) (st' := [.null, (.int cs.length.toInt32), (.int (0 : Int32)), (.ref ca), (.ref a)]) rfl ?_
  refine go_special K (k := 6) rfl rfl (H.w 11 rfl) (H.w 12 rfl) (H.w 6 rfl) (H.w 14 rfl) (by decide) pd_3 (c_si4 (cs := cs) H hl hcap E0 V0 C0 g0 Ac) (argsL := [(.ref ca), (.int (0 : Int32)), (.int cs.length.toInt32), .null]) (rest := []) rfl rfl rfl (subS (List.mem_cons_self ..) sub0) rfl ?_
  rintro _ h1 _ - ⟨rfl, K2, S3⟩
  show Go G B M_si _ h1 (a :: []) 4 8 9 #[.val (.ref a), .val (.ref ca)] []
  refine go_return K (k := 7) rfl rfl rfl rfl ?_
  intro Sf hSf
  exact ⟨rfl, ((Keep.refl _ [a]).trans K2 (allS (Or.inl (List.mem_cons_self ..)) all0)), S3⟩
theorem pn_2 : plainName "java/lang/StringLatin1" = true := by first | (simp [plainName, overriddenIn]; done) | decide +kernel
def P_can : List (Nat × Instr × Nat) := [(0, .iload_n 0, 1), (1, .sipush 255, 3), (4, .if_icmp .gt 7, 3), (7, .iconst 1, 1), (8, .goto 4, 3), (11, .iconst 0, 1), (12, .ireturn, 1)]
theorem L_can : ∀ q ∈ P_can, decode jdk_43_method_3_code q.1 = .ok q.2 := by decide +kernel
def M_can : Mt := (("java/lang/StringLatin1", "canEncode", ({ frames := 0, cells := 0, slots := 0, locals := 0 } : Room)), P_can, 1, (some .boolean))
set_option maxRecDepth 65536 in
set_option maxHeartbeats 40000000 in
theorem c_can {G : Gb} (H : Gl tables_1 els G) {h : Heap} {x : Int32} (hx : ¬ x < 0 ∧ ¬ (255 : Int32) < x) :
    Ctr G [] (⟨"java/lang/StringLatin1", "canEncode", "(C)Z"⟩ : MethodName) jdk_43_method_3_code 1 (some .boolean) ({ frames := 0, cells := 0, slots := 0, locals := 0 } : Room) #[.int x] h [] (fun v h' Sf => v = some (.int 1) ∧ h = h') := by
  refine ctr_of M_can rfl rfl (plainFor_of_name pn_2) L_can H.el (Ls := #[.val (.int x)]) (fun m => ef_ok (by first | (simp [argsToLocals, Value.category]; done) | rfl)) ?_
  intro B K hE
  refine go_run K 0 2 (pc' := 4) (st' := [(.int (255 : Int32)), (.int x)]) rfl ?_
  refine go_icmpgt K (k := 2) rfl (pc' := 11) (by decide) (fun q => absurd q hx.2) (fun _ => ?_)
  refine go_run K 3 2 (pc' := 12) (st' := [(.int (1 : Int32))]) rfl ?_
  refine go_ireturn K (k := 6) rfl rfl (by decide) rfl rfl rfl ?_
  intro Sf hSf
  exact ⟨rfl, rfl⟩
def P_tob : List (Nat × Instr × Nat) := [(0, .iconst 1, 1), (1, .newarray .byte, 2), (3, .dup, 1), (4, .iconst 0, 1), (5, .iload_n 0, 1), (6, .i2b, 1), (7, .bastore, 1), (8, .areturn, 1)]
theorem L_tob : ∀ q ∈ P_tob, decode jdk_43_method_46_code q.1 = .ok q.2 := by decide +kernel
def M_tob : Mt := (("java/lang/StringLatin1", "toBytes", ({ frames := 0, cells := 1, slots := 1, locals := 0 } : Room)), P_tob, 1, (some (.array .byte)))
set_option maxRecDepth 65536 in
set_option maxHeartbeats 40000000 in
theorem c_tob {G : Gb} (H : Gl tables_1 els G) {h : Heap} {x : Int32} :
    Ctr G [] (⟨"java/lang/StringLatin1", "toBytes", "(C)[B"⟩ : MethodName) jdk_43_method_46_code 1 (some (.array .byte)) ({ frames := 0, cells := 1, slots := 1, locals := 0 } : Room) #[.int x] h [] (fun v h' Sf => ∃ (t : Addr) (kb : ClassId), v = some (.ref t) ∧ Ext h h' ∧ Arv G.Z h' t kb .byte (1 : Int32) (by8 [x]) (.int 0) ∧ G.Z.heap.size ≤ t) := by
  refine ctr_of M_tob rfl rfl (plainFor_of_name pn_2) L_tob H.el (Ls := #[.val (.int x)]) (fun m => ef_ok (by first | (simp [argsToLocals, Value.category]; done) | rfl)) ?_
  intro B K hE
  refine go_run K 0 1 (pc' := 1) (st' := [(.int (1 : Int32))]) rfl ?_
  refine go_newarray K (k := 1) rfl (H.w 19 rfl) (by decide) (cap := 1) (by decide) rfl rfl rfl ?_
  intro h2 a1 k3 e4 g5 E6 A7
  have A7' : Arv G.Z h2 a1 k3 .byte (1 : Int32) [(.int (0 : Int32))] (.int (0 : Int32)) := Arv.pad A7 (pad_rep [] (.int (0 : Int32)) 1)
  refine go_run K 2 4 (pc' := 7) (st' := [(.int (x).toInt8.toInt32), (.int (0 : Int32)), (.ref a1), (.ref a1)]) rfl ?_
  refine go_bastore K (k := 6) rfl A7' (i := 0) (by decide) rfl (Nat.le_of_ble_eq_true rfl) g5 (List.mem_cons_self ..) ?_
  intro h8 W9 A10
  have X11 : Ext h h8 := (Ext.wrN E6 W9 (Nat.le_trans (Nat.le_refl _) (Nat.le_of_eq e4.symm)))
  refine go_areturn K (k := 7) rfl rfl rfl rfl rfl rfl rfl ?_
  intro Sf hSf
  refine ⟨a1, k3, rfl, X11, ?_, g5⟩
  have e : nar .byte (x).toInt8.toInt32 = x.toInt8.toInt32 := i8_idem x
  rw [e] at A10
  exact A10
def P_sib : List (Nat × Instr × Nat) := [(0, .aload_n 0, 1), (1, .invokespecial 1, 3), (4, .aload_n 0, 1), (5, .aload_n 1, 1), (6, .putfield 9, 3), (9, .aload_n 0, 1), (10, .iload_n 2, 1), (11, .putfield 15, 3), (14, .return_, 1)]
theorem L_sib : ∀ q ∈ P_sib, decode jdk_42_method_151_code q.1 = .ok q.2 := by decide +kernel
def M_sib : Mt := (("java/lang/String", "<init>", ({ frames := 1, cells := 0, slots := 0, locals := 12 } : Room)), P_sib, 3, none)
set_option maxRecDepth 65536 in
set_option maxHeartbeats 40000000 in
theorem c_sib {G : Gb} (H : Gl tables_1 els G) {h : Heap} {a t : Addr} (E0 : Exa G.Z h a "java/lang/String") (V0 : Fld G.Z h a "java/lang/String" "value" "[B" .null) (C0 : Fld G.Z h a "java/lang/String" "coder" "B" (.int 0)) (g0 : G.Z.heap.size ≤ a) :
    Ctr G [] (⟨"java/lang/String", "<init>", "([BB)V"⟩ : MethodName) jdk_42_method_151_code 3 none ({ frames := 1, cells := 0, slots := 0, locals := 12 } : Room) #[.ref a, .ref t, .int 0] h [a] (fun v h' Sf => v = none ∧ Keep h h' [a] ∧ Exa G.Z h' a "java/lang/String" ∧ Fld G.Z h' a "java/lang/String" "coder" "B" (.int 0) ∧ Fld G.Z h' a "java/lang/String" "value" "[B" (.ref t)) := by
  refine ctr_of M_sib rfl rfl (plainFor_of_name pn_1) L_sib H.el (Ls := #[.val (.ref a), .val (.ref t), .val (.int (0 : Int32))]) (fun m => ef_ok (by first | (simp [argsToLocals, Value.category]; done) | rfl)) ?_
  intro B K hE
  refine go_run K 0 1 (pc' := 1) (st' := [(.ref a)]) rfl ?_
  refine go_init0 K (k := 1) rfl (H.w 15 rfl) (H.w 16 rfl) (H.w 17 rfl) rfl rfl rfl ?_
  refine go_run K 2 2 (pc' := 6) (st' := [(.ref t), (.ref a)]) rfl ?_
  refine go_putfield K (k := 4) rfl (host := "") (Or.inl (H.w 24 rfl)) Via.refl V0 E0 (Or.inr ⟨(H.w 20 rfl), rfl, rfl⟩) (H.w 5 rfl) (ty := (.array .byte)) (by decide) rfl rfl g0 (Or.inl (List.mem_cons_self ..)) ?_
  intro h1 W2
  have F3 : Exa G.Z h1 a "java/lang/String" := Exa.wr W2 E0
  have F4 : Fld G.Z h1 a "java/lang/String" "value" "[B" (.ref t) := Fld.same W2 V0
  have F5 : Fld G.Z h1 a "java/lang/String" "coder" "B" (.int (0 : Int32)) := Fld.other W2 C0 (Or.inr (slot_ne (Or.inr (H.w 21 rfl)) (Or.inr (H.w 20 rfl)) (by decide) (t := .byte) (t' := (.array .byte)) (by decide) (by decide)))
  refine go_run K 5 2 (pc' := 11) (st' := [(.int (0 : Int32)), (.ref a)]) rfl ?_
  refine go_putfield K (k := 7) rfl (host := "") (Or.inl (H.w 25 rfl)) Via.refl F5 F3 (Or.inr ⟨(H.w 21 rfl), rfl, rfl⟩) (H.w 5 rfl) (ty := .byte) (by decide) rfl rfl g0 (Or.inl (List.mem_cons_self ..)) ?_
  intro h6 W7
  have F8 : Exa G.Z h6 a "java/lang/String" := Exa.wr W7 F3
  have F9 : Fld G.Z h6 a "java/lang/String" "value" "[B" (.ref t) := Fld.other W7 F4 (Or.inr (slot_ne (Or.inr (H.w 20 rfl)) (Or.inr (H.w 21 rfl)) (by decide) (t := (.array .byte)) (t' := .byte) (by decide) (by decide)))
  have F10 : Fld G.Z h6 a "java/lang/String" "coder" "B" (.int (0 : Int32)) := Fld.same W7 F5
  refine go_return K (k := 8) rfl rfl rfl rfl ?_
  intro Sf hSf
  exact ⟨rfl, (((Keep.refl _ [a]).wr W2 (Or.inl (List.mem_cons_self ..))).wr W7 (Or.inl (List.mem_cons_self ..))), F8, F10, F9⟩
def P_vof : List (Nat × Instr × Nat) := [(0, .getstatic 38, 3), (3, .ifCond .eq 23, 3), (6, .iload_n 0, 1), (7, .invokestatic 1015, 3), (10, .ifCond .eq 16, 3), (13, .new 10, 3), (16, .dup, 1), (17, .iload_n 0, 1), (18, .invokestatic 1018, 3), (21, .iconst 0, 1), (22, .invokespecial 209, 3), (25, .areturn, 1), (26, .new 10, 3), (29, .dup, 1), (30, .iload_n 0, 1), (31, .invokestatic 1021, 3), (34, .iconst 1, 1), (35, .invokespecial 209, 3), (38, .areturn, 1)]
theorem L_vof : ∀ q ∈ P_vof, decode jdk_42_method_139_code q.1 = .ok q.2 := by decide +kernel
def M_vof : Mt := (("java/lang/String", "valueOf", ({ frames := 2, cells := 2, slots := 5, locals := 27 } : Room)), P_vof, 1, (some (.object "java/lang/String")))
set_option maxRecDepth 65536 in
set_option maxHeartbeats 40000000 in
theorem c_vof {G : Gb} (H : Gl tables_1 els G) {h : Heap} {x : Int32} (hx : ¬ x < 0 ∧ ¬ (255 : Int32) < x) :
    Ctr G [] (⟨"java/lang/String", "valueOf", "(C)Ljava/lang/String;"⟩ : MethodName) jdk_42_method_139_code 1 (some (.object "java/lang/String")) ({ frames := 2, cells := 2, slots := 5, locals := 27 } : Room) #[.int x] h [] (fun v h' Sf => ∃ a : Addr, v = some (.ref a) ∧ Ext h h' ∧ Str G h' a [x] ∧ G.Z.heap.size ≤ a) := by
  refine ctr_of M_vof rfl rfl (plainFor_of_name pn_1) L_vof H.el (Ls := #[.val (.int x)]) (fun m => ef_ok (by first | (simp [argsToLocals, Value.category]; done) | rfl)) ?_
  intro B K hE
  obtain ⟨cz, hcs, hcz⟩ := H.cs
  refine go_getstatic K (k := 0) rfl (host := "") (Or.inl (H.w 26 rfl)) Via.refl hcs ?_
  refine go_ifeq K (k := 1) rfl (pc' := 26) (by decide) (fun q => absurd q hcz) (fun _ => ?_)
  refine go_run K 2 1 (pc' := 7) (st' := [(.int x)]) rfl ?_
  refine go_static K (k := 3) rfl (H.w 216 rfl) (H.w 217 rfl) (H.w 94 rfl) (H.w 218 rfl) (by decide) pd_4 (c_can H hx) (argsL := [(.int x)]) (rest := []) rfl rfl rfl sub0 rfl ?_
  rintro _ _ _ - ⟨rfl, rfl⟩
  show Go G B M_vof _ h [] 0 0 10 #[.val (.int x)] [(.int (1 : Int32))]
  refine go_ifeq K (k := 4) rfl (pc' := 26) (by decide) (fun q => absurd q (by decide)) (fun _ => ?_)
  refine go_new K (k := 5) rfl (H.w 209 rfl) (H.w 5 rfl) (H.w 6 rfl) rfl rfl ?_
  intro h2 a1 e3 g4 E5 A6 D7
  have F8 : Fld G.Z h2 a1 "java/lang/String" "value" "[B" .null := D7 (Or.inr (H.w 20 rfl)) (ty := (.array .byte)) (by decide)
  have F9 : Fld G.Z h2 a1 "java/lang/String" "coder" "B" (.int (0 : Int32)) := D7 (Or.inr (H.w 21 rfl)) (ty := .byte) (by decide)
  refine go_run K 6 2 (pc' := 18) (st' := [(.int x), (.ref a1), (.ref a1)]) rfl ?_
  refine go_static K (k := 8) rfl (H.w 219 rfl) (H.w 220 rfl) (H.w 94 rfl) (H.w 221 rfl) (by decide) pd_5 (c_tob (x := x) H) (argsL := [(.int x)]) (rest := [(.ref a1), (.ref a1)]) rfl rfl rfl sub0 rfl ?_
  rintro _ h10 _ - ⟨t11, k12, rfl, E13, A14, g15⟩
  show Go G B M_vof _ h10 (a1 :: []) 2 5 21 #[.val (.int x)] [(.ref t11), (.ref a1), (.ref a1)]
  refine go_run K 9 1 (pc' := 22) (st' := [(.int (0 : Int32)), (.ref t11), (.ref a1), (.ref a1)]) rfl ?_
  have c16 := (A6.ext E13)
  have c17 := (F8.ext E13)
  have c18 := (F9.ext E13)
  refine go_special K (k := 10) rfl rfl (H.w 222 rfl) (H.w 116 rfl) (H.w 6 rfl) (H.w 117 rfl) (by decide) pd_6 (c_sib (t := t11) H c16 c17 c18 g4) (argsL := [(.ref t11), (.int (0 : Int32))]) (rest := [(.ref a1)]) rfl rfl rfl (subS (List.mem_cons_self ..) sub0) rfl ?_
  rintro _ h19 _ - ⟨rfl, K20, E21, F22, F23⟩
  show Go G B M_vof _ h19 (a1 :: []) 2 5 25 #[.val (.int x)] [(.ref a1)]
  have X24 : Ext h h10 := (Ext.tr E5 E13)
  have X25 : Ext h h19 := (Ext.keepN X24 K20 (allS (Nat.le_trans (Nat.le_refl _) (Nat.le_of_eq e3.symm)) all0))
  have c26 := (A14.keep K20 (ninS (Exa.neArv c16 A14 (H.w 5 rfl)).symm nin0))
  refine go_areturn K (k := 11) rfl rfl rfl rfl rfl rfl rfl ?_
  intro Sf hSf
  exact ⟨_, rfl, X25, ⟨_, _, E21, F22, F23, c26⟩, g4⟩
def P_cod : List (Nat × Instr × Nat) := [(0, .getstatic 38, 3), (3, .ifCond .eq 10, 3), (6, .aload_n 0, 1), (7, .getfield 15, 3), (10, .goto 4, 3), (13, .iconst 1, 1), (14, .ireturn, 1)]
theorem L_cod : ∀ q ∈ P_cod, decode jdk_42_method_152_code q.1 = .ok q.2 := by decide +kernel
def M_cod : Mt := (("java/lang/String", "coder", ({ frames := 0, cells := 0, slots := 0, locals := 0 } : Room)), P_cod, 1, (some .byte))
set_option maxRecDepth 65536 in
set_option maxHeartbeats 40000000 in
theorem c_cod {G : Gb} (H : Gl tables_1 els G) {h : Heap} {a : Addr} {cs : List Int32} (S1 : Str G h a cs) :
    Ctr G [] (⟨"java/lang/String", "coder", "()B"⟩ : MethodName) jdk_42_method_152_code 1 (some .byte) ({ frames := 0, cells := 0, slots := 0, locals := 0 } : Room) #[.ref a] h [] (fun v h' Sf => v = some (.int 0) ∧ h = h') := by
  refine ctr_of M_cod rfl rfl (plainFor_of_name pn_1) L_cod H.el (Ls := #[.val (.ref a)]) (fun m => ef_ok (by first | (simp [argsToLocals, Value.category]; done) | rfl)) ?_
  intro B K hE
  obtain ⟨cz, hcs, hcz⟩ := H.cs
  obtain ⟨t1, k2, e3, e4, e5, e6⟩ := id S1
  refine go_getstatic K (k := 0) rfl (host := "") (Or.inl (H.w 26 rfl)) Via.refl hcs ?_
  refine go_ifeq K (k := 1) rfl (pc' := 13) (by decide) (fun q => absurd q hcz) (fun _ => ?_)
  refine go_run K 2 1 (pc' := 7) (st' := [(.ref a)]) rfl ?_
  refine go_getfield K (k := 3) rfl (host := "") (Or.inl (H.w 25 rfl)) Via.refl e4 ?_
  refine go_run K 4 1 (pc' := 14) (st' := [(.int (0 : Int32))]) rfl ?_
  refine go_ireturn K (k := 6) rfl rfl (by decide) rfl rfl rfl ?_
  intro Sf hSf
  exact ⟨rfl, rfl⟩
def P_isl : List (Nat × Instr × Nat) := [(0, .getstatic 38, 3), (3, .ifCond .eq 14, 3), (6, .aload_n 0, 1), (7, .getfield 15, 3), (10, .ifCond .ne 7, 3), (13, .iconst 1, 1), (14, .goto 4, 3), (17, .iconst 0, 1), (18, .ireturn, 1)]
theorem L_isl : ∀ q ∈ P_isl, decode jdk_42_method_154_code q.1 = .ok q.2 := by decide +kernel
def M_isl : Mt := (("java/lang/String", "isLatin1", ({ frames := 0, cells := 0, slots := 0, locals := 0 } : Room)), P_isl, 1, (some .boolean))
set_option maxRecDepth 65536 in
set_option maxHeartbeats 40000000 in
theorem c_isl {G : Gb} (H : Gl tables_1 els G) {h : Heap} {a : Addr} {cs : List Int32} (S1 : Str G h a cs) :
    Ctr G [] (⟨"java/lang/String", "isLatin1", "()Z"⟩ : MethodName) jdk_42_method_154_code 1 (some .boolean) ({ frames := 0, cells := 0, slots := 0, locals := 0 } : Room) #[.ref a] h [] (fun v h' Sf => v = some (.int 1) ∧ h = h') := by
  refine ctr_of M_isl rfl rfl (plainFor_of_name pn_1) L_isl H.el (Ls := #[.val (.ref a)]) (fun m => ef_ok (by first | (simp [argsToLocals, Value.category]; done) | rfl)) ?_
  intro B K hE
  obtain ⟨cz, hcs, hcz⟩ := H.cs
  obtain ⟨t1, k2, e3, e4, e5, e6⟩ := id S1
  refine go_getstatic K (k := 0) rfl (host := "") (Or.inl (H.w 26 rfl)) Via.refl hcs ?_
  refine go_ifeq K (k := 1) rfl (pc' := 17) (by decide) (fun q => absurd q hcz) (fun _ => ?_)
  refine go_run K 2 1 (pc' := 7) (st' := [(.ref a)]) rfl ?_
  refine go_getfield K (k := 3) rfl (host := "") (Or.inl (H.w 25 rfl)) Via.refl e4 ?_
  refine go_ifne K (k := 4) rfl (pc' := 17) (by decide) (fun q => absurd rfl q) (fun _ => ?_)
  refine go_run K 5 2 (pc' := 18) (st' := [(.int (1 : Int32))]) rfl ?_
  refine go_ireturn K (k := 8) rfl rfl (by decide) rfl rfl rfl ?_
  intro Sf hSf
  exact ⟨rfl, rfl⟩
def P_len : List (Nat × Instr × Nat) := [(0, .aload_n 0, 1), (1, .getfield 9, 3), (4, .arraylength, 1), (5, .aload_n 0, 1), (6, .invokevirtual 335, 3), (9, .ishr, 1), (10, .ireturn, 1)]
theorem L_len : ∀ q ∈ P_len, decode jdk_42_method_54_code q.1 = .ok q.2 := by decide +kernel
def M_len : Mt := (("java/lang/String", "length", ({ frames := 1, cells := 0, slots := 0, locals := 13 } : Room)), P_len, 1, (some .int))
set_option maxRecDepth 65536 in
set_option maxHeartbeats 40000000 in
theorem c_len {G : Gb} (H : Gl tables_1 els G) {h : Heap} {a : Addr} {cs : List Int32} (S1 : Str G h a cs) :
    Ctr G [] (⟨"java/lang/String", "length", "()I"⟩ : MethodName) jdk_42_method_54_code 1 (some .int) ({ frames := 1, cells := 0, slots := 0, locals := 13 } : Room) #[.ref a] h [] (fun v h' Sf => v = some (.int cs.length.toInt32) ∧ h = h') := by
  refine ctr_of M_len rfl rfl (plainFor_of_name pn_1) L_len H.el (Ls := #[.val (.ref a)]) (fun m => ef_ok (by first | (simp [argsToLocals, Value.category]; done) | rfl)) ?_
  intro B K hE
  obtain ⟨t1, k2, e3, e4, e5, e6⟩ := id S1
  refine go_run K 0 1 (pc' := 1) (st' := [(.ref a)]) rfl ?_
  refine go_getfield K (k := 1) rfl (host := "") (Or.inl (H.w 24 rfl)) Via.refl e5 ?_
  refine go_arraylength K (k := 2) rfl e6 ?_
  refine go_run K 3 1 (pc' := 6) (st' := [(.ref a), (.int cs.length.toInt32)]) rfl ?_
  refine go_virt0 K (k := 4) rfl (H.w 68 rfl) (H.w 71 rfl) (H.w 70 rfl) (H.w 6 rfl) (H.w 72 rfl) (by decide) pd_7 S1.exa (c_cod H S1) (argsL := []) (rest := [(.int cs.length.toInt32)]) rfl rfl rfl sub0 rfl ?_
  rintro _ _ _ - ⟨rfl, rfl⟩
  show Go G B M_len _ h [] 0 0 9 #[.val (.ref a)] [(.int (0 : Int32)), (.int cs.length.toInt32)]
  refine go_run K 5 1 (pc' := 10) (st' := [(.int (cs.length.toInt32 >>> ((0 : Int32) &&& 31)))]) rfl ?_
  rw [shr0]
  refine go_ireturn K (k := 6) rfl rfl (by decide) rfl rfl rfl ?_
  intro Sf hSf
  exact ⟨rfl, rfl⟩
theorem pf_3 : plainFor (⟨"java/lang/Math", "min", "(II)I"⟩ : MethodName) = true := by decide +kernel
def P_min : List (Nat × Instr × Nat) := [(0, .iload_n 0, 1), (1, .iload_n 1, 1), (2, .if_icmp .gt 7, 3), (5, .iload_n 0, 1), (6, .goto 4, 3), (9, .iload_n 1, 1), (10, .ireturn, 1)]
theorem L_min : ∀ q ∈ P_min, decode jdk_29_method_69_code q.1 = .ok q.2 := by decide +kernel
def M_min : Mt := (("java/lang/Math", "min", ({ frames := 0, cells := 0, slots := 0, locals := 0 } : Room)), P_min, 2, (some .int))
set_option maxRecDepth 65536 in
set_option maxHeartbeats 40000000 in
theorem c_min {G : Gb} (H : Gl tables_1 els G) {h : Heap} {x y : Int32} :
    Ctr G [] (⟨"java/lang/Math", "min", "(II)I"⟩ : MethodName) jdk_29_method_69_code 2 (some .int) ({ frames := 0, cells := 0, slots := 0, locals := 0 } : Room) #[.int x, .int y] h [] (fun v h' Sf => ∃ r : Int32, v = some (.int r) ∧ h = h' ∧ ((r = x ∧ ¬ y < x) ∨ (r = y ∧ y < x))) := by
  refine ctr_of M_min rfl rfl pf_3 L_min H.el (Ls := #[.val (.int x), .val (.int y)]) (fun m => ef_ok (by first | (simp [argsToLocals, Value.category]; done) | rfl)) ?_
  intro B K hE
  refine go_run K 0 2 (pc' := 2) (st' := [(.int y), (.int x)]) rfl ?_
  refine go_icmpgt K (k := 2) rfl (pc' := 9) (by decide) (fun q1 => ?_) (fun q2 => ?_)
  · refine go_run K 5 1 (pc' := 10) (st' := [(.int y)]) rfl ?_
    refine go_ireturn K (k := 6) rfl rfl (by decide) rfl rfl rfl ?_
    intro Sf hSf
    exact ⟨y, rfl, rfl, Or.inr ⟨rfl, q1⟩⟩
  · refine go_run K 3 2 (pc' := 10) (st' := [(.int x)]) rfl ?_
    refine go_ireturn K (k := 6) rfl rfl (by decide) rfl rfl rfl ?_
    intro Sf hSf
    exact ⟨x, rfl, rfl, Or.inl ⟨rfl, q2⟩⟩
theorem pn_4 : plainName "java/util/Arrays" = true := by first | (simp [plainName, overriddenIn]; done) | decide +kernel
def P_ckl : List (Nat × Instr × Nat) := [(0, .iload_n 1, 1), (1, .iload_n 0, 1), (2, .if_icmp .ge 35, 3), (5, .new 43, 3), (8, .dup, 1), (9, .new 45, 3), (12, .dup, 1), (13, .invokespecial 47, 3), (16, .iload_n 0, 1), (17, .invokevirtual 54, 3), (20, .ldc_w 337, 3), (23, .invokevirtual 50, 3), (26, .iload_n 1, 1), (27, .invokevirtual 54, 3), (30, .invokevirtual 61, 3), (33, .invokespecial 65, 3), (36, .athrow, 1), (37, .return_, 1)]
theorem L_ckl : ∀ q ∈ P_ckl, decode jdk_65_method_131_code q.1 = .ok q.2 := by decide +kernel
def M_ckl : Mt := (("java/util/Arrays", "checkLength", ({ frames := 0, cells := 0, slots := 0, locals := 0 } : Room)), P_ckl, 2, none)
set_option maxRecDepth 65536 in
set_option maxHeartbeats 40000000 in
theorem c_ckl {G : Gb} (H : Gl tables_1 els G) {h : Heap} {x y : Int32} (hle : ¬ y < x) :
    Ctr G [] (⟨"java/util/Arrays", "checkLength", "(II)V"⟩ : MethodName) jdk_65_method_131_code 2 none ({ frames := 0, cells := 0, slots := 0, locals := 0 } : Room) #[.int x, .int y] h [] (fun v h' Sf => v = none ∧ h = h') := by
  refine ctr_of M_ckl rfl rfl (plainFor_of_name pn_4) L_ckl H.el (Ls := #[.val (.int x), .val (.int y)]) (fun m => ef_ok (by first | (simp [argsToLocals, Value.category]; done) | rfl)) ?_
  intro B K hE
  refine go_run K 0 2 (pc' := 2) (st' := [(.int x), (.int y)]) rfl ?_
  refine go_icmpge K (k := 2) rfl (pc' := 37) (by decide) (fun _ => ?_) (fun q => absurd q hle)
  refine go_return K (k := 17) rfl rfl rfl rfl ?_
  intro Sf hSf
  exact ⟨rfl, rfl⟩
def P_crb : List (Nat × Instr × Nat) := [(0, .iload_n 1, 1), (1, .iload_n 2, 1), (2, .invokestatic 343, 3), (5, .iload_n 2, 1), (6, .iload_n 1, 1), (7, .isub, 1), (8, .istore_n 3, 1), (9, .iload_n 3, 1), (10, .newarray .byte, 2), (12, .astore 4, 2), (14, .aload_n 0, 1), (15, .iload_n 1, 1), (16, .aload 4, 2), (18, .iconst 0, 1), (19, .aload_n 0, 1), (20, .arraylength, 1), (21, .iload_n 1, 1), (22, .isub, 1), (23, .iload_n 3, 1), (24, .invokestatic 304, 3), (27, .invokestatic 150, 3), (30, .aload 4, 2), (32, .areturn, 1)]
theorem L_crb : ∀ q ∈ P_crb, decode jdk_65_method_133_code q.1 = .ok q.2 := by decide +kernel
def M_crb : Mt := (("java/util/Arrays", "copyOfRangeByte", ({ frames := 1, cells := 1, slots := 16, locals := 18 } : Room)), P_crb, 5, (some (.array .byte)))
set_option maxRecDepth 65536 in
set_option maxHeartbeats 40000000 in
theorem c_crb {G : Gb} (H : Gl tables_1 els G) {h : Heap} {t : Addr} {kt : ClassId} {m i j : Nat} {vs : List Value} (hij : i ≤ j) (hjm : j ≤ m) (hm : m < 2 ^ 31) (hv : vs.length = m) (hcap : j - i ≤ 16) (A1 : Arv G.Z h t kt .byte m.toInt32 vs (.int 0)) :
    Ctr G [] (⟨"java/util/Arrays", "copyOfRangeByte", "([BII)[B"⟩ : MethodName) jdk_65_method_133_code 5 (some (.array .byte)) ({ frames := 1, cells := 1, slots := 16, locals := 18 } : Room) #[.ref t, .int i.toInt32, .int j.toInt32] h [] (fun v h' Sf => ∃ (u : Addr) (ku : ClassId), v = some (.ref u) ∧ Ext h h' ∧ Arv G.Z h' u ku .byte (j - i).toInt32 ((vs.drop i).take (j - i)) (.int 0) ∧ G.Z.heap.size ≤ u ∧ h.size ≤ u ∧ Sf u) := by
  refine ctr_of M_crb rfl rfl (plainFor_of_name pn_4) L_crb H.el (Ls := #[.val (.ref t), .val (.int i.toInt32), .val (.int j.toInt32), .unset, .unset]) (fun m => ef_ok (by first | (simp [argsToLocals, Value.category]; done) | rfl)) ?_
  intro B K hE
  refine go_run K 0 2 (pc' := 2) (st' := [(.int j.toInt32), (.int i.toInt32)]) rfl ?_
  refine go_static K (k := 2) rfl (H.w 104 rfl) (H.w 105 rfl) (H.w 99 rfl) (H.w 106 rfl) (by decide) pd_8 (c_ckl (x := i.toInt32) (y := j.toInt32) H (len_nlt (by omega) hij)) (argsL := [(.int i.toInt32), (.int j.toInt32)]) (rest := []) rfl rfl rfl sub0 rfl ?_
  rintro _ _ _ - ⟨rfl, rfl⟩
  show Go G B M_crb _ h [] 0 0 5 #[.val (.ref t), .val (.int i.toInt32), .val (.int j.toInt32), .unset, .unset] []
  refine go_run K 3 5 (pc' := 10) (Ls' := #[.val (.ref t), .val (.int i.toInt32), .val (.int j.toInt32), .val (.int (j.toInt32 - i.toInt32)), .unset]) (st' := [(.int (j.toInt32 - i.toInt32))]) rfl ?_
  rw [sub_len hij]
  refine go_newarray K (k := 8) rfl (H.w 19 rfl) (len_nn (by omega)) (cap := 16) (by rw [len_nat (by omega)]; exact hcap) rfl rfl rfl ?_
  intro h2 a1 k3 e4 g5 E6 A7
  have A7' : Arv G.Z h2 a1 k3 .byte (j - i).toInt32 (List.replicate (j - i) (.int 0)) (.int 0) := Arv.pad A7 (pad_rep [] _ _)
  refine go_run K 9 6 (pc' := 20) (Ls' := #[.val (.ref t), .val (.int i.toInt32), .val (.int j.toInt32), .val (.int (j - i).toInt32), .val (.ref a1)]) (st' := [(.ref t), (.int (0 : Int32)), (.ref a1), (.int i.toInt32), (.ref t)]) rfl ?_
  have c8 := (A1.ext E6)
  refine go_arraylength K (k := 15) rfl c8 ?_
  refine go_run K 16 3 (pc' := 24) (st' := [(.int (j - i).toInt32), (.int (m.toInt32 - i.toInt32)), (.int (0 : Int32)), (.ref a1), (.int i.toInt32), (.ref t)]) rfl ?_
  rw [sub_len (show i ≤ m by omega)]
  refine go_static K (k := 19) rfl (H.w 107 rfl) (H.w 108 rfl) (H.w 109 rfl) (H.w 110 rfl) (by decide) pd_9 (c_min (x := (m - i).toInt32) (y := (j - i).toInt32) H) (argsL := [(.int (m - i).toInt32), (.int (j - i).toInt32)]) (rest := [(.int (0 : Int32)), (.ref a1), (.int i.toInt32), (.ref t)]) rfl rfl rfl sub0 rfl ?_
  rintro _ _ _ - ⟨r9, rfl, rfl, q10⟩
  show Go G B M_crb _ h2 (a1 :: []) 1 16 27 #[.val (.ref t), .val (.int i.toInt32), .val (.int j.toInt32), .val (.int (j - i).toInt32), .val (.ref a1)] [(.int r9), (.int (0 : Int32)), (.ref a1), (.int i.toInt32), (.ref t)]
  have hr : r9 = (j - i).toInt32 := by
    rcases q10 with ⟨u1, u2⟩ | ⟨u1, -⟩
    · rw [u1]; exact len_ge (by omega) (by omega) (by omega) u2
    · exact u1
  rw [hr]
  refine go_arraycopy K (k := 20) rfl (H.w 111 rfl) (H.w 114 rfl) (H.w 112 rfl) (H.w 113 rfl) c8 A7' rfl (len_nn (by omega)) (by decide) (len_nn (by omega)) (by rw [len_nat (by omega), len_nat (by omega), len_nat (by omega)]; omega) (by rw [len_nat (by omega)]; exact Nat.le_of_eq (Nat.zero_add _)) (us := ((vs.drop i).take (j - i))) (by rw [len_nat (by omega), len_nat (by omega)]; exact (map_range (by omega)).symm) (by rw [len_nat (by omega), List.length_replicate]; exact Nat.le_of_eq (Nat.zero_add _)) g5 (Or.inl (List.mem_cons_self ..)) rfl rfl rfl ?_
  intro h11 K12 A13
  refine go_run K 21 1 (pc' := 32) (st' := [(.ref a1)]) rfl ?_
  have X14 : Ext h h11 := (Ext.keepN E6 K12 (allS (Nat.le_trans (Nat.le_refl _) (Nat.le_of_eq e4.symm)) all0))
  refine go_areturn K (k := 22) rfl rfl rfl rfl rfl rfl rfl ?_
  intro Sf hSf
  refine ⟨a1, k3, rfl, X14, ?_, g5, Nat.le_of_eq e4.symm, hSf _ (List.mem_cons_self ..)⟩
  have u := A13
  rw [show (0 : Int32).toNatClampNeg = 0 from rfl, len_nat (by omega), List.take_zero, List.nil_append, Nat.zero_add, show List.drop (j - i) (List.replicate (j - i) (Value.int 0)) = [] from List.drop_of_length_le (by rw [List.length_replicate]; exact Nat.le_refl _), List.append_nil] at u
  exact u
def P_cor : List (Nat × Instr × Nat) := [(0, .iload_n 1, 1), (1, .ifCond .ne 9, 3), (4, .iload_n 2, 1), (5, .aload_n 0, 1), (6, .arraylength, 1), (7, .if_icmp .eq 10, 3), (10, .aload_n 0, 1), (11, .iload_n 1, 1), (12, .iload_n 2, 1), (13, .invokestatic 339, 3), (16, .areturn, 1), (17, .aload_n 0, 1), (18, .invokevirtual 310, 3), (21, .checkcast 311, 3), (24, .areturn, 1)]
theorem L_cor : ∀ q ∈ P_cor, decode jdk_65_method_132_code q.1 = .ok q.2 := by decide +kernel
def M_cor : Mt := (("java/util/Arrays", "copyOfRange", ({ frames := 2, cells := 1, slots := 16, locals := 34 } : Room)), P_cor, 3, (some (.array .byte)))
set_option maxRecDepth 65536 in
set_option maxHeartbeats 40000000 in
theorem c_cor {G : Gb} (H : Gl tables_1 els G) {h : Heap} {t : Addr} {kt : ClassId} {m i j : Nat} {vs : List Value} (hne : ¬ (i = 0 ∧ j = m)) (hij : i ≤ j) (hjm : j ≤ m) (hm : m < 2 ^ 31) (hv : vs.length = m) (hcap : j - i ≤ 16) (A1 : Arv G.Z h t kt .byte m.toInt32 vs (.int 0)) :
    Ctr G [] (⟨"java/util/Arrays", "copyOfRange", "([BII)[B"⟩ : MethodName) jdk_65_method_132_code 3 (some (.array .byte)) ({ frames := 2, cells := 1, slots := 16, locals := 34 } : Room) #[.ref t, .int i.toInt32, .int j.toInt32] h [] (fun v h' Sf => ∃ (u : Addr) (ku : ClassId), v = some (.ref u) ∧ Ext h h' ∧ Arv G.Z h' u ku .byte (j - i).toInt32 ((vs.drop i).take (j - i)) (.int 0) ∧ G.Z.heap.size ≤ u ∧ h.size ≤ u ∧ Sf u) := by
  refine ctr_of M_cor rfl rfl (plainFor_of_name pn_4) L_cor H.el (Ls := #[.val (.ref t), .val (.int i.toInt32), .val (.int j.toInt32)]) (fun m => ef_ok (by first | (simp [argsToLocals, Value.category]; done) | rfl)) ?_
  intro B K hE
  refine go_run K 0 1 (pc' := 1) (st' := [(.int i.toInt32)]) rfl ?_
  refine go_ifne K (k := 1) rfl (pc' := 10) (by decide) (fun q1 => ?_) (fun q2 => ?_)
  · refine go_run K 6 3 (pc' := 13) (st' := [(.int j.toInt32), (.int i.toInt32), (.ref t)]) rfl ?_
    refine go_staticN K (k := 9) rfl (H.w 101 rfl) (H.w 102 rfl) (H.w 99 rfl) (H.w 103 rfl) (by decide) pd_10 (c_crb (i := i) (j := j) (m := m) H hij hjm hm hv hcap A1) (argsL := [(.ref t), (.int i.toInt32), (.int j.toInt32)]) (rest := []) rfl rfl rfl sub0 rfl ?_
    rintro _ h3 Sf11 - ⟨u4, k5, rfl, E6, A7, g8, f9, s10⟩
    refine ⟨[u4], allS s10 all0, ?_⟩
    show Go G B M_cor _ h3 (u4 :: []) 1 16 16 #[.val (.ref t), .val (.int i.toInt32), .val (.int j.toInt32)] [(.ref u4)]
    refine go_areturn K (k := 10) rfl rfl rfl rfl rfl rfl rfl ?_
    intro Sf hSf
    exact ⟨_, _, rfl, E6, A7, g8, f9, hSf _ (List.mem_cons_self ..)⟩
  · refine go_run K 2 2 (pc' := 6) (st' := [(.ref t), (.int j.toInt32)]) rfl ?_
    refine go_arraylength K (k := 4) rfl A1 ?_
    refine go_icmpeq K (k := 5) rfl (pc' := 17) (by decide) (fun q => absurd q (fun e => hne ⟨len_zero (by omega) q2, len_inj (by omega) (by omega) e⟩)) (fun _ => ?_)
    refine go_run K 6 3 (pc' := 13) (st' := [(.int j.toInt32), (.int i.toInt32), (.ref t)]) rfl ?_
    refine go_staticN K (k := 9) rfl (H.w 101 rfl) (H.w 102 rfl) (H.w 99 rfl) (H.w 103 rfl) (by decide) pd_10 (c_crb (i := i) (j := j) (m := m) H hij hjm hm hv hcap A1) (argsL := [(.ref t), (.int i.toInt32), (.int j.toInt32)]) (rest := []) rfl rfl rfl sub0 rfl ?_
    rintro _ h12 Sf20 - ⟨u13, k14, rfl, E15, A16, g17, f18, s19⟩
    refine ⟨[u13], allS s19 all0, ?_⟩
    show Go G B M_cor _ h12 (u13 :: []) 1 16 16 #[.val (.ref t), .val (.int i.toInt32), .val (.int j.toInt32)] [(.ref u13)]
    refine go_areturn K (k := 10) rfl rfl rfl rfl rfl rfl rfl ?_
    intro Sf hSf
    exact ⟨_, _, rfl, E15, A16, g17, f18, hSf _ (List.mem_cons_self ..)⟩
def P_gby : List (Nat × Instr × Nat) := [(0, .aload_n 0, 1), (1, .invokevirtual 335, 3), (4, .iload_n 3, 1), (5, .if_icmp .ne 23, 3), (8, .aload_n 0, 1), (9, .getfield 9, 3), (12, .iconst 0, 1), (13, .aload_n 1, 1), (14, .iload_n 2, 1), (15, .iload_n 3, 1), (16, .ishl, 1), (17, .aload_n 0, 1), (18, .getfield 9, 3), (21, .arraylength, 1), (22, .invokestatic 212, 3), (25, .goto 18, 3), (28, .aload_n 0, 1), (29, .getfield 9, 3), (32, .iconst 0, 1), (33, .aload_n 1, 1), (34, .iload_n 2, 1), (35, .aload_n 0, 1), (36, .getfield 9, 3), (39, .arraylength, 1), (40, .invokestatic 106, 3), (43, .return_, 1)]
theorem L_gby : ∀ q ∈ P_gby, decode jdk_42_method_147_code q.1 = .ok q.2 := by decide +kernel
def M_gby : Mt := (("java/lang/String", "getBytes", ({ frames := 1, cells := 0, slots := 0, locals := 18 } : Room)), P_gby, 4, none)
set_option maxRecDepth 65536 in
set_option maxHeartbeats 40000000 in
theorem c_gby {G : Gb} (H : Gl tables_1 els G) {h : Heap} {s t : Addr} {kt : ClassId} {ds : List Int32} {m i : Nat} {vd : List Value} (l1 : Lat ds) (S1 : Str G h s ds) (A1 : Arv G.Z h t kt .byte m.toInt32 vd (.int 0)) (hm : m < 2 ^ 31) (hv : vd.length = m) (hi : i + ds.length ≤ m) (g0 : G.Z.heap.size ≤ t) :
    Ctr G [] (⟨"java/lang/String", "getBytes", "([BIB)V"⟩ : MethodName) jdk_42_method_147_code 4 none ({ frames := 1, cells := 0, slots := 0, locals := 18 } : Room) #[.ref s, .ref t, .int i.toInt32, .int 0] h [t] (fun v h' Sf => v = none ∧ Keep h h' [t] ∧ Arv G.Z h' t kt .byte m.toInt32 (vd.take i ++ by8 ds ++ vd.drop (i + ds.length)) (.int 0)) := by
  refine ctr_of M_gby rfl rfl (plainFor_of_name pn_1) L_gby H.el (Ls := #[.val (.ref s), .val (.ref t), .val (.int i.toInt32), .val (.int (0 : Int32))]) (fun m => ef_ok (by first | (simp [argsToLocals, Value.category]; done) | rfl)) ?_
  intro B K hE
  obtain ⟨t1, k2, e3, e4, e5, e6⟩ := id S1
  have hld := lat_lt l1
  refine go_run K 0 1 (pc' := 1) (st' := [(.ref s)]) rfl ?_
  refine go_virt0 K (k := 1) rfl (H.w 68 rfl) (H.w 71 rfl) (H.w 70 rfl) (H.w 6 rfl) (H.w 72 rfl) (by decide) pd_7 S1.exa (c_cod H S1) (argsL := []) (rest := []) rfl rfl rfl sub0 rfl ?_
  rintro _ _ _ - ⟨rfl, rfl⟩
  show Go G B M_gby _ h (t :: []) 0 0 4 #[.val (.ref s), .val (.ref t), .val (.int i.toInt32), .val (.int (0 : Int32))] [(.int (0 : Int32))]
  refine go_run K 2 1 (pc' := 5) (st' := [(.int (0 : Int32)), (.int (0 : Int32))]) rfl ?_
  refine go_icmpne K (k := 3) rfl (pc' := 28) (by decide) (fun q => absurd rfl q) (fun _ => ?_)
  refine go_run K 4 1 (pc' := 9) (st' := [(.ref s)]) rfl ?_
  refine go_getfield K (k := 5) rfl (host := "") (Or.inl (H.w 24 rfl)) Via.refl e5 ?_
  refine go_run K 6 6 (pc' := 18) (st' := [(.ref s), (.int (i.toInt32 <<< ((0 : Int32) &&& 31))), (.ref t), (.int (0 : Int32)), (.ref t1)]) rfl ?_
  rw [shl0]
  refine go_getfield K (k := 12) rfl (host := "") (Or.inl (H.w 24 rfl)) Via.refl e5 ?_
  refine go_arraylength K (k := 13) rfl e6 ?_
  refine go_arraycopy K (k := 14) rfl (H.w 171 rfl) (H.w 114 rfl) (H.w 112 rfl) (H.w 113 rfl) e6 A1 rfl (by decide) (len_nn (by omega)) (len_nn hld) (by rw [len_nat hld]; exact Nat.le_of_eq (Nat.zero_add _)) (by rw [len_nat (by omega), len_nat hld, len_nat hm]; omega) (us := (by8 ds)) (by rw [len_nat hld, show (0 : Int32).toNatClampNeg = 0 from rfl, map_range (by rw [by8_len]; omega), List.drop_zero, List.take_of_length_le (by rw [by8_len]; exact Nat.le_refl _)]) (by rw [len_nat (by omega), len_nat hld]; omega) g0 (Or.inl (List.mem_cons_self ..)) rfl rfl rfl ?_
  intro h7 K8 A9
  refine go_run K 15 1 (pc' := 43) (st' := []) rfl ?_
  refine go_return K (k := 25) rfl rfl rfl rfl ?_
  intro Sf hSf
  refine ⟨rfl, ((Keep.refl _ [t]).trans K8 (allS (Or.inl (List.mem_cons_self ..)) all0)), ?_⟩
  have u := A9
  rw [len_nat (by omega), len_nat hld] at u
  exact u
theorem pn_5 : plainName "java/lang/AbstractStringBuilder" = true := by first | (simp [plainName, overriddenIn]; done) | decide +kernel
def P_inf : List (Nat × Instr × Nat) := [(0, .getstatic 18, 3), (3, .ifCond .eq 18, 3), (6, .aload_n 0, 1), (7, .getfield 22, 3), (10, .aload_n 1, 1), (11, .invokevirtual 40, 3), (14, .if_icmp .eq 7, 3), (17, .aload_n 0, 1), (18, .invokevirtual 195, 3), (21, .return_, 1)]
theorem L_inf : ∀ q ∈ P_inf, decode jdk_68_method_71_code q.1 = .ok q.2 := by decide +kernel
def M_inf : Mt := (("java/lang/AbstractStringBuilder", "inflateIfNeededFor", ({ frames := 1, cells := 0, slots := 0, locals := 13 } : Room)), P_inf, 2, none)
set_option maxRecDepth 65536 in
set_option maxHeartbeats 40000000 in
theorem c_inf {G : Gb} (H : Gl tables_1 els G) {h : Heap} {a s : Addr} {ds : List Int32} (F0 : Fld G.Z h a "java/lang/AbstractStringBuilder" "coder" "B" (.int 0)) (S1 : Str G h s ds) :
    Ctr G [] (⟨"java/lang/AbstractStringBuilder", "inflateIfNeededFor", "(Ljava/lang/String;)V"⟩ : MethodName) jdk_68_method_71_code 2 none ({ frames := 1, cells := 0, slots := 0, locals := 13 } : Room) #[.ref a, .ref s] h [] (fun v h' Sf => v = none ∧ h = h') := by
  refine ctr_of M_inf rfl rfl (plainFor_of_name pn_5) L_inf H.el (Ls := #[.val (.ref a), .val (.ref s)]) (fun m => ef_ok (by first | (simp [argsToLocals, Value.category]; done) | rfl)) ?_
  intro B K hE
  obtain ⟨cz, hcs, hcz⟩ := H.cs
  refine go_getstatic K (k := 0) rfl (host := "") (Or.inl (H.w 131 rfl)) Via.refl hcs ?_
  refine go_ifeq K (k := 1) rfl (pc' := 21) (by decide) (fun q => absurd q hcz) (fun _ => ?_)
  refine go_run K 2 1 (pc' := 7) (st' := [(.ref a)]) rfl ?_
  refine go_getfield K (k := 3) rfl (host := "") (Or.inl (H.w 134 rfl)) Via.refl F0 ?_
  refine go_run K 4 1 (pc' := 11) (st' := [(.ref s), (.int (0 : Int32))]) rfl ?_
  refine go_virt0 K (k := 5) rfl (H.w 165 rfl) (H.w 71 rfl) (H.w 70 rfl) (H.w 6 rfl) (H.w 72 rfl) (by decide) pd_7 S1.exa (c_cod H S1) (argsL := []) (rest := [(.int (0 : Int32))]) rfl rfl rfl sub0 rfl ?_
  rintro _ _ _ - ⟨rfl, rfl⟩
  show Go G B M_inf _ h [] 0 0 14 #[.val (.ref a), .val (.ref s)] [(.int (0 : Int32)), (.int (0 : Int32))]
  refine go_icmpeq K (k := 6) rfl (pc' := 21) (by decide) (fun _ => ?_) (fun q => absurd rfl q)
  refine go_return K (k := 9) rfl rfl rfl rfl ?_
  intro Sf hSf
  exact ⟨rfl, rfl⟩
def P_ecap : List (Nat × Instr × Nat) := [(0, .aload_n 0, 1), (1, .getfield 15, 3), (4, .arraylength, 1), (5, .aload_n 0, 1), (6, .getfield 22, 3), (9, .ishr, 1), (10, .istore_n 2, 1), (11, .iload_n 1, 1), (12, .iload_n 2, 1), (13, .isub, 1), (14, .ifCond .le 24, 3), (17, .aload_n 0, 1), (18, .aload_n 0, 1), (19, .getfield 15, 3), (22, .aload_n 0, 1), (23, .iload_n 1, 1), (24, .invokevirtual 104, 3), (27, .aload_n 0, 1), (28, .getfield 22, 3), (31, .ishl, 1), (32, .invokestatic 108, 3), (35, .putfield 15, 3), (38, .return_, 1)]
theorem L_ecap : ∀ q ∈ P_ecap, decode jdk_68_method_9_code q.1 = .ok q.2 := by decide +kernel
def M_ecap : Mt := (("java/lang/AbstractStringBuilder", "ensureCapacityInternal", ({ frames := 0, cells := 0, slots := 0, locals := 0 } : Room)), P_ecap, 3, none)
set_option maxRecDepth 65536 in
set_option maxHeartbeats 40000000 in
theorem c_ecap {G : Gb} (H : Gl tables_1 els G) {h : Heap} {a t : Addr} {kt : ClassId} {cs : List Int32} {m : Nat} {n : Nat} (hn : n ≤ m) (hm : m < 2 ^ 31) (B1 : Sb G h a t kt cs m) :
    Ctr G [] (⟨"java/lang/AbstractStringBuilder", "ensureCapacityInternal", "(I)V"⟩ : MethodName) jdk_68_method_9_code 3 none ({ frames := 0, cells := 0, slots := 0, locals := 0 } : Room) #[.ref a, .int n.toInt32] h [] (fun v h' Sf => v = none ∧ h = h') := by
  refine ctr_of M_ecap rfl rfl (plainFor_of_name pn_5) L_ecap H.el (Ls := #[.val (.ref a), .val (.int n.toInt32), .unset]) (fun m => ef_ok (by first | (simp [argsToLocals, Value.category]; done) | rfl)) ?_
  intro B K hE
  obtain ⟨e1, e2, e3, e4, e5, e6, e7⟩ := id B1
  refine go_run K 0 1 (pc' := 1) (st' := [(.ref a)]) rfl ?_
  refine go_getfield K (k := 1) rfl (host := "") (Or.inl (H.w 132 rfl)) Via.refl e2 ?_
  refine go_arraylength K (k := 2) rfl e5 ?_
  refine go_run K 3 1 (pc' := 6) (st' := [(.ref a), (.int m.toInt32)]) rfl ?_
  refine go_getfield K (k := 4) rfl (host := "") (Or.inl (H.w 134 rfl)) Via.refl e3 ?_
  refine go_run K 5 5 (pc' := 14) (Ls' := #[.val (.ref a), .val (.int n.toInt32), .val (.int (m.toInt32 >>> ((0 : Int32) &&& 31)))]) (st' := [(.int (n.toInt32 - (m.toInt32 >>> ((0 : Int32) &&& 31))))]) rfl ?_
  rw [shr0]
  refine go_ifle K (k := 10) rfl (pc' := 38) (by decide) (fun _ => ?_) (fun q => absurd q (le_len hm hn))
  refine go_return K (k := 22) rfl rfl rfl rfl ?_
  intro Sf hSf
  exact ⟨rfl, rfl⟩
def P_psa : List (Nat × Instr × Nat) := [(0, .aload_n 0, 1), (1, .aload_n 2, 1), (2, .invokevirtual 397, 3), (5, .aload_n 2, 1), (6, .aload_n 0, 1), (7, .getfield 15, 3), (10, .iload_n 1, 1), (11, .aload_n 0, 1), (12, .getfield 22, 3), (15, .invokevirtual 399, 3), (18, .return_, 1)]
theorem L_psa : ∀ q ∈ P_psa, decode jdk_68_method_73_code q.1 = .ok q.2 := by decide +kernel
def M_psa : Mt := (("java/lang/AbstractStringBuilder", "putStringAt", ({ frames := 2, cells := 0, slots := 0, locals := 33 } : Room)), P_psa, 3, none)
set_option maxRecDepth 65536 in
set_option maxHeartbeats 40000000 in
theorem c_psa {G : Gb} (H : Gl tables_1 els G) {h : Heap} {a t : Addr} {kt : ClassId} {cs : List Int32} {m : Nat} {s : Addr} {ds : List Int32} (l1 : Lat ds) (hsum : cs.length + ds.length ≤ m) (B1 : Sb G h a t kt cs m) (S1 : Str G h s ds) (g0 : G.Z.heap.size ≤ t) :
    Ctr G [] (⟨"java/lang/AbstractStringBuilder", "putStringAt", "(ILjava/lang/String;)V"⟩ : MethodName) jdk_68_method_73_code 3 none ({ frames := 2, cells := 0, slots := 0, locals := 33 } : Room) #[.ref a, .int cs.length.toInt32, .ref s] h [t] (fun v h' Sf => v = none ∧ Keep h h' [t] ∧ Arv G.Z h' t kt .byte m.toInt32 (by8 (cs ++ ds) ++ List.replicate (m - (cs ++ ds).length) (.int 0)) (.int 0)) := by
  refine ctr_of M_psa rfl rfl (plainFor_of_name pn_5) L_psa H.el (Ls := #[.val (.ref a), .val (.int cs.length.toInt32), .val (.ref s)]) (fun m => ef_ok (by first | (simp [argsToLocals, Value.category]; done) | rfl)) ?_
  intro B K hE
  obtain ⟨e1, e2, e3, e4, e5, e6, e7⟩ := id B1
  refine go_run K 0 2 (pc' := 2) (st' := [(.ref s), (.ref a)]) rfl ?_
  refine go_virt0 K (k := 2) rfl (H.w 160 rfl) (H.w 163 rfl) (H.w 161 rfl) (H.w 128 rfl) (H.w 164 rfl) (by decide) pd_11 e1 (c_inf H e3 S1) (argsL := [(.ref s)]) (rest := []) rfl rfl rfl sub0 rfl ?_
  rintro _ _ _ - ⟨rfl, rfl⟩
  show Go G B M_psa _ h (t :: []) 0 0 5 #[.val (.ref a), .val (.int cs.length.toInt32), .val (.ref s)] []
  refine go_run K 3 2 (pc' := 7) (st' := [(.ref a), (.ref s)]) rfl ?_
  refine go_getfield K (k := 5) rfl (host := "") (Or.inl (H.w 132 rfl)) Via.refl e2 ?_
  refine go_run K 6 2 (pc' := 12) (st' := [(.ref a), (.int cs.length.toInt32), (.ref t), (.ref s)]) rfl ?_
  refine go_getfield K (k := 8) rfl (host := "") (Or.inl (H.w 134 rfl)) Via.refl e3 ?_
  refine go_virt0 K (k := 9) rfl (H.w 166 rfl) (H.w 169 rfl) (H.w 168 rfl) (H.w 6 rfl) (H.w 170 rfl) (by decide) pd_12 S1.exa (c_gby (i := cs.length) (m := m) H l1 S1 e5 e7 (by rw [List.length_append, by8_len, List.length_replicate]; omega) hsum g0) (argsL := [(.ref t), (.int cs.length.toInt32), (.int (0 : Int32))]) (rest := []) rfl rfl rfl (subS (List.mem_cons_self ..) sub0) rfl ?_
  rintro _ h8 _ - ⟨rfl, K9, A10⟩
  show Go G B M_psa _ h8 (t :: []) 0 0 18 #[.val (.ref a), .val (.int cs.length.toInt32), .val (.ref s)] []
  refine go_return K (k := 10) rfl rfl rfl rfl ?_
  intro Sf hSf
  refine ⟨rfl, ((Keep.refl _ [t]).trans K9 (allS (Or.inl (List.mem_cons_self ..)) all0)), ?_⟩
  have u := A10
  rw [sb_put hsum] at u
  exact u
def P_aap : List (Nat × Instr × Nat) := [(0, .aload_n 1, 1), (1, .ifnonnull 8, 3), (4, .aload_n 0, 1), (5, .invokevirtual 204, 3), (8, .areturn, 1), (9, .aload_n 1, 1), (10, .invokevirtual 32, 3), (13, .istore_n 2, 1), (14, .aload_n 0, 1), (15, .aload_n 0, 1), (16, .getfield 79, 3), (19, .iload_n 2, 1), (20, .iadd, 1), (21, .invokevirtual 100, 3), (24, .aload_n 0, 1), (25, .aload_n 0, 1), (26, .getfield 79, 3), (29, .aload_n 1, 1), (30, .invokevirtual 208, 3), (33, .aload_n 0, 1), (34, .dup, 1), (35, .getfield 79, 3), (38, .iload_n 2, 1), (39, .iadd, 1), (40, .putfield 79, 3), (43, .aload_n 0, 1), (44, .areturn, 1)]
theorem L_aap : ∀ q ∈ P_aap, decode jdk_68_method_22_code q.1 = .ok q.2 := by decide +kernel
def M_aap : Mt := (("java/lang/AbstractStringBuilder", "append", ({ frames := 3, cells := 0, slots := 0, locals := 47 } : Room)), P_aap, 3, (some (.object "java/lang/AbstractStringBuilder")))
set_option maxRecDepth 65536 in
set_option maxHeartbeats 40000000 in
theorem c_aap {G : Gb} (H : Gl tables_1 els G) {h : Heap} {a t : Addr} {kt : ClassId} {cs : List Int32} {m : Nat} {s : Addr} {ds : List Int32} (l1 : Lat ds) (hsum : cs.length + ds.length ≤ m) (B1 : Sb G h a t kt cs m) (S1 : Str G h s ds) (ga : G.Z.heap.size ≤ a) (g0 : G.Z.heap.size ≤ t) :
    Ctr G [] (⟨"java/lang/AbstractStringBuilder", "append", "(Ljava/lang/String;)Ljava/lang/AbstractStringBuilder;"⟩ : MethodName) jdk_68_method_22_code 3 (some (.object "java/lang/AbstractStringBuilder")) ({ frames := 3, cells := 0, slots := 0, locals := 47 } : Room) #[.ref a, .ref s] h [t] (fun v h' Sf => v = some (.ref a) ∧ Keep h h' [a, t] ∧ Sb G h' a t kt (cs ++ ds) m) := by
  refine ctr_of M_aap rfl rfl (plainFor_of_name pn_5) L_aap H.el (Ls := #[.val (.ref a), .val (.ref s), .unset]) (fun m => ef_ok (by first | (simp [argsToLocals, Value.category]; done) | rfl)) ?_
  intro B K hE
  obtain ⟨e1, e2, e3, e4, e5, e6, e7⟩ := id B1
  refine go_run K 0 1 (pc' := 1) (st' := [(.ref s)]) rfl ?_
  refine go_ifnonY K (k := 1) rfl (pc' := 9) (by decide) ?_
  refine go_run K 5 1 (pc' := 10) (st' := [(.ref s)]) rfl ?_
  refine go_virt0 K (k := 6) rfl (H.w 147 rfl) (H.w 66 rfl) (H.w 65 rfl) (H.w 6 rfl) (H.w 67 rfl) (by decide) pd_13 S1.exa (c_len H S1) (argsL := []) (rest := []) rfl rfl rfl sub0 rfl ?_
  rintro _ _ _ - ⟨rfl, rfl⟩
  show Go G B M_aap _ h (t :: []) 0 0 13 #[.val (.ref a), .val (.ref s), .unset] [(.int (ds).length.toInt32)]
  show Go G B M_aap _ h (t :: []) 0 0 13 #[.val (.ref a), .val (.ref s), .unset] [(.int ds.length.toInt32)]
  refine go_run K 7 3 (pc' := 16) (Ls' := #[.val (.ref a), .val (.ref s), .val (.int ds.length.toInt32)]) (st' := [(.ref a), (.ref a)]) rfl ?_
  refine go_getfield K (k := 10) rfl (host := "") (Or.inl (H.w 148 rfl)) Via.refl e4 ?_
  refine go_run K 11 2 (pc' := 21) (st' := [(.int (cs.length.toInt32 + ds.length.toInt32)), (.ref a)]) rfl ?_
  rw [add_len]
  refine go_virt0 K (k := 13) rfl (H.w 150 rfl) (H.w 153 rfl) (H.w 151 rfl) (H.w 128 rfl) (H.w 154 rfl) (by decide) pd_14 e1 (c_ecap (n := (cs.length + ds.length)) H hsum e7 B1) (argsL := [(.int (cs.length + ds.length).toInt32)]) (rest := []) rfl rfl rfl sub0 rfl ?_
  rintro _ _ _ - ⟨rfl, rfl⟩
  show Go G B M_aap _ h (t :: []) 0 0 24 #[.val (.ref a), .val (.ref s), .val (.int ds.length.toInt32)] []
  refine go_run K 14 2 (pc' := 26) (st' := [(.ref a), (.ref a)]) rfl ?_
  refine go_getfield K (k := 16) rfl (host := "") (Or.inl (H.w 148 rfl)) Via.refl e4 ?_
  refine go_run K 17 1 (pc' := 30) (st' := [(.ref s), (.int cs.length.toInt32), (.ref a)]) rfl ?_
  refine go_virt0 K (k := 18) rfl (H.w 155 rfl) (H.w 158 rfl) (H.w 156 rfl) (H.w 128 rfl) (H.w 159 rfl) (by decide) pd_15 e1 (c_psa H l1 hsum B1 S1 g0) (argsL := [(.int cs.length.toInt32), (.ref s)]) (rest := []) rfl rfl rfl (subS (List.mem_cons_self ..) sub0) rfl ?_
  rintro _ h8 _ - ⟨rfl, K9, A10⟩
  show Go G B M_aap _ h8 (t :: []) 0 0 33 #[.val (.ref a), .val (.ref s), .val (.int ds.length.toInt32)] []
  refine go_run K 19 2 (pc' := 35) (st' := [(.ref a), (.ref a)]) rfl ?_
  have c11 := (e4.keep K9 (ninS (Exa.neArv e1 e5 (H.w 119 rfl)) nin0))
  refine go_getfield K (k := 21) rfl (host := "") (Or.inl (H.w 148 rfl)) Via.refl c11 ?_
  refine go_run K 22 2 (pc' := 40) (st' := [(.int (cs.length.toInt32 + ds.length.toInt32)), (.ref a)]) rfl ?_
  rw [add_len]
  have c12 := (e1.keep K9)
  refine go_putfield K (k := 24) rfl (host := "") (Or.inl (H.w 148 rfl)) Via.refl c11 c12 (Or.inl (H.w 149 rfl)) (H.w 119 rfl) (ty := .int) (by decide) rfl rfl ga (Or.inr (by decide)) ?_
  intro h13 W14
  have c15 := (e2.keep K9 (ninS (Exa.neArv e1 e5 (H.w 119 rfl)) nin0))
  have c16 := (e3.keep K9 (ninS (Exa.neArv e1 e5 (H.w 119 rfl)) nin0))
  have F17 : Exa G.Z h13 a "java/lang/StringBuilder" := Exa.wr W14 c12
  have F18 : Fld G.Z h13 a "java/lang/AbstractStringBuilder" "value" "[B" (.ref t) := Fld.other W14 c15 (Or.inr (slot_ne (Or.inl (H.w 133 rfl)) (Or.inl (H.w 149 rfl)) (by decide) (t := (.array .byte)) (t' := .int) (by decide) (by decide)))
  have F19 : Fld G.Z h13 a "java/lang/AbstractStringBuilder" "coder" "B" (.int (0 : Int32)) := Fld.other W14 c16 (Or.inr (slot_ne (Or.inl (H.w 135 rfl)) (Or.inl (H.w 149 rfl)) (by decide) (t := .byte) (t' := .int) (by decide) (by decide)))
  have F20 : Fld G.Z h13 a "java/lang/AbstractStringBuilder" "count" "I" (.int (cs.length + ds.length).toInt32) := Fld.same W14 c11
  refine go_run K 25 1 (pc' := 44) (st' := [(.ref a)]) rfl ?_
  have c21 := (Arv.other A10 W14 (Exa.neArv c12 A10 (H.w 119 rfl)).symm)
  refine go_areturn K (k := 26) rfl rfl rfl rfl rfl rfl rfl ?_
  intro Sf hSf
  refine ⟨rfl, (((Keep.refl _ [a, t]).trans K9 (allS (Or.inl (List.mem_cons_of_mem _ (List.mem_cons_self ..))) all0)).wr W14 (Or.inl (List.mem_cons_self ..))), F17, F18, F19, ?_, c21, ?_, e7⟩
  · rw [List.length_append]; exact F20
  · rw [List.length_append]; exact hsum
theorem pn_6 : plainName "java/lang/StringBuilder" = true := by first | (simp [plainName, overriddenIn]; done) | decide +kernel
def P_sap : List (Nat × Instr × Nat) := [(0, .aload_n 0, 1), (1, .aload_n 1, 1), (2, .invokespecial 29, 3), (5, .pop, 1), (6, .aload_n 0, 1), (7, .areturn, 1)]
theorem L_sap : ∀ q ∈ P_sap, decode jdk_67_method_7_code q.1 = .ok q.2 := by decide +kernel
def M_sap : Mt := (("java/lang/StringBuilder", "append", ({ frames := 4, cells := 0, slots := 0, locals := 61 } : Room)), P_sap, 2, (some (.object "java/lang/StringBuilder")))
set_option maxRecDepth 65536 in
set_option maxHeartbeats 40000000 in
theorem c_sap {G : Gb} (H : Gl tables_1 els G) {h : Heap} {a t : Addr} {kt : ClassId} {cs : List Int32} {m : Nat} {s : Addr} {ds : List Int32} (l1 : Lat ds) (hsum : cs.length + ds.length ≤ m) (B1 : Sb G h a t kt cs m) (S1 : Str G h s ds) (ga : G.Z.heap.size ≤ a) (g0 : G.Z.heap.size ≤ t) :
    Ctr G [] (⟨"java/lang/StringBuilder", "append", "(Ljava/lang/String;)Ljava/lang/StringBuilder;"⟩ : MethodName) jdk_67_method_7_code 2 (some (.object "java/lang/StringBuilder")) ({ frames := 4, cells := 0, slots := 0, locals := 61 } : Room) #[.ref a, .ref s] h [t] (fun v h' Sf => v = some (.ref a) ∧ Keep h h' [a, t] ∧ Sb G h' a t kt (cs ++ ds) m) := by
  refine ctr_of M_sap rfl rfl (plainFor_of_name pn_6) L_sap H.el (Ls := #[.val (.ref a), .val (.ref s)]) (fun m => ef_ok (by first | (simp [argsToLocals, Value.category]; done) | rfl)) ?_
  intro B K hE
  refine go_run K 0 2 (pc' := 2) (st' := [(.ref s), (.ref a)]) rfl ?_
  refine go_super K (k := 2) rfl (H.w 142 rfl) (sameM (H.w 145 rfl) (H.w 153 rfl) rfl (by decide)) (H.w 143 rfl) (H.w 144 rfl) (H.w 128 rfl) (H.w 146 rfl) (by decide) pd_16 B1.exa (c_aap H l1 hsum B1 S1 ga g0) (argsL := [(.ref s)]) (rest := []) rfl rfl rfl (subS (List.mem_cons_self ..) sub0) rfl ?_
  rintro _ h1 _ - ⟨rfl, K2, B3⟩
  show Go G B M_sap _ h1 (t :: []) 0 0 5 #[.val (.ref a), .val (.ref s)] [(.ref a)]
  refine go_run K 3 2 (pc' := 7) (st' := [(.ref a)]) rfl ?_
  refine go_areturn K (k := 5) rfl rfl rfl rfl rfl rfl rfl ?_
  intro Sf hSf
  exact ⟨rfl, ((Keep.refl _ [a, t]).trans K2 (allS (Or.inl (List.mem_cons_self ..)) (allS (Or.inl (List.mem_cons_of_mem _ (List.mem_cons_self ..))) all0))), B3⟩
def P_asi : List (Nat × Instr × Nat) := [(0, .aload_n 0, 1), (1, .invokespecial 3, 3), (4, .getstatic 18, 3), (7, .ifCond .eq 18, 3), (10, .aload_n 0, 1), (11, .iload_n 1, 1), (12, .newarray .byte, 2), (14, .putfield 15, 3), (17, .aload_n 0, 1), (18, .iconst 0, 1), (19, .putfield 22, 3), (22, .goto 16, 3), (25, .aload_n 0, 1), (26, .iload_n 1, 1), (27, .invokestatic 26, 3), (30, .putfield 15, 3), (33, .aload_n 0, 1), (34, .iconst 1, 1), (35, .putfield 22, 3), (38, .return_, 1)]
theorem L_asi : ∀ q ∈ P_asi, decode jdk_68_method_2_code q.1 = .ok q.2 := by decide +kernel
def M_asi : Mt := (("java/lang/AbstractStringBuilder", "<init>", ({ frames := 1, cells := 1, slots := 16, locals := 12 } : Room)), P_asi, 2, none)
set_option maxRecDepth 65536 in
set_option maxHeartbeats 40000000 in
theorem c_asi {G : Gb} (H : Gl tables_1 els G) {h : Heap} {a : Addr} (E0 : Exa G.Z h a "java/lang/StringBuilder") (V0 : Fld G.Z h a "java/lang/AbstractStringBuilder" "value" "[B" .null) (C0 : Fld G.Z h a "java/lang/AbstractStringBuilder" "coder" "B" (.int 0)) (N0 : Fld G.Z h a "java/lang/AbstractStringBuilder" "count" "I" (.int 0)) (g0 : G.Z.heap.size ≤ a) :
    Ctr G [] (⟨"java/lang/AbstractStringBuilder", "<init>", "(I)V"⟩ : MethodName) jdk_68_method_2_code 2 none ({ frames := 1, cells := 1, slots := 16, locals := 12 } : Room) #[.ref a, .int 16] h [] (fun v h' Sf => v = none ∧ Keep h h' [a] ∧ ∃ (t : Addr) (kt : ClassId), Sb G h' a t kt [] 16 ∧ G.Z.heap.size ≤ t ∧ h.size ≤ t ∧ Sf t) := by
  refine ctr_of M_asi rfl rfl (plainFor_of_name pn_5) L_asi H.el (Ls := #[.val (.ref a), .val (.int (16 : Int32))]) (fun m => ef_ok (by first | (simp [argsToLocals, Value.category]; done) | rfl)) ?_
  intro B K hE
  obtain ⟨cz, hcs, hcz⟩ := H.cs
  refine go_run K 0 1 (pc' := 1) (st' := [(.ref a)]) rfl ?_
  refine go_init0 K (k := 1) rfl (H.w 130 rfl) (H.w 16 rfl) (H.w 17 rfl) rfl rfl rfl ?_
  refine go_getstatic K (k := 2) rfl (host := "") (Or.inl (H.w 131 rfl)) Via.refl hcs ?_
  refine go_ifeq K (k := 3) rfl (pc' := 25) (by decide) (fun q => absurd q hcz) (fun _ => ?_)
  refine go_run K 4 2 (pc' := 12) (st' := [(.int (16 : Int32)), (.ref a)]) rfl ?_
  refine go_newarray K (k := 6) rfl (H.w 19 rfl) (by decide) (cap := 16) (by decide) rfl rfl rfl ?_
  intro h2 a1 k3 e4 g5 E6 A7
  have A7' : Arv G.Z h2 a1 k3 .byte (16 : Nat).toInt32 (by8 [] ++ List.replicate (16 - ([] : List Int32).length) (.int 0)) (.int 0) := Arv.pad A7 (pad_rep [] _ 16)
  have c8 := (V0.ext E6)
  have c9 := (E0.ext E6)
  refine go_putfield K (k := 7) rfl (host := "") (Or.inl (H.w 132 rfl)) Via.refl c8 c9 (Or.inl (H.w 133 rfl)) (H.w 119 rfl) (ty := (.array .byte)) (by decide) rfl rfl g0 (Or.inr (by decide)) ?_
  intro h10 W11
  have c12 := (C0.ext E6)
  have c13 := (N0.ext E6)
  have F14 : Exa G.Z h10 a "java/lang/StringBuilder" := Exa.wr W11 c9
  have F15 : Fld G.Z h10 a "java/lang/AbstractStringBuilder" "value" "[B" (.ref a1) := Fld.same W11 c8
  have F16 : Fld G.Z h10 a "java/lang/AbstractStringBuilder" "coder" "B" (.int (0 : Int32)) := Fld.other W11 c12 (Or.inr (slot_ne (Or.inl (H.w 135 rfl)) (Or.inl (H.w 133 rfl)) (by decide) (t := .byte) (t' := (.array .byte)) (by decide) (by decide)))
  have F17 : Fld G.Z h10 a "java/lang/AbstractStringBuilder" "count" "I" (.int (0 : Int32)) := Fld.other W11 c13 (Or.inr (slot_ne (Or.inl (H.w 149 rfl)) (Or.inl (H.w 133 rfl)) (by decide) (t := .int) (t' := (.array .byte)) (by decide) (by decide)))
  refine go_run K 8 2 (pc' := 19) (st' := [(.int (0 : Int32)), (.ref a)]) rfl ?_
  refine go_putfield K (k := 10) rfl (host := "") (Or.inl (H.w 134 rfl)) Via.refl F16 F14 (Or.inl (H.w 135 rfl)) (H.w 119 rfl) (ty := .byte) (by decide) rfl rfl g0 (Or.inr (by decide)) ?_
  intro h18 W19
  have F20 : Exa G.Z h18 a "java/lang/StringBuilder" := Exa.wr W19 F14
  have F21 : Fld G.Z h18 a "java/lang/AbstractStringBuilder" "value" "[B" (.ref a1) := Fld.other W19 F15 (Or.inr (slot_ne (Or.inl (H.w 133 rfl)) (Or.inl (H.w 135 rfl)) (by decide) (t := (.array .byte)) (t' := .byte) (by decide) (by decide)))
  have F22 : Fld G.Z h18 a "java/lang/AbstractStringBuilder" "coder" "B" (.int (0 : Int32)) := Fld.same W19 F16
  have F23 : Fld G.Z h18 a "java/lang/AbstractStringBuilder" "count" "I" (.int (0 : Int32)) := Fld.other W19 F17 (Or.inr (slot_ne (Or.inl (H.w 149 rfl)) (Or.inl (H.w 135 rfl)) (by decide) (t := .int) (t' := .byte) (by decide) (by decide)))
  refine go_run K 11 1 (pc' := 38) (st' := []) rfl ?_
  have c24 := (Arv.other (Arv.other A7' W11 (Exa.neArv c9 A7' (H.w 119 rfl)).symm) W19 (Exa.neArv F14 (Arv.other A7' W11 (Exa.neArv c9 A7' (H.w 119 rfl)).symm) (H.w 119 rfl)).symm)
  refine go_return K (k := 19) rfl rfl rfl rfl ?_
  intro Sf hSf
  exact ⟨rfl, ((((Keep.refl _ [a]).ext E6).wr W11 (Or.inl (List.mem_cons_self ..))).wr W19 (Or.inl (List.mem_cons_self ..))), _, _, ⟨F20, F21, F22, F23, c24, by decide, by decide⟩, g5, Nat.le_of_eq e4.symm, hSf _ (List.mem_cons_self ..)⟩
def P_sbi : List (Nat × Instr × Nat) := [(0, .aload_n 0, 1), (1, .bipush 16, 2), (3, .invokespecial 1, 3), (6, .return_, 1)]
theorem L_sbi : ∀ q ∈ P_sbi, decode jdk_67_method_1_code q.1 = .ok q.2 := by decide +kernel
def M_sbi : Mt := (("java/lang/StringBuilder", "<init>", ({ frames := 2, cells := 1, slots := 16, locals := 25 } : Room)), P_sbi, 1, none)
set_option maxRecDepth 65536 in
set_option maxHeartbeats 40000000 in
theorem c_sbi {G : Gb} (H : Gl tables_1 els G) {h : Heap} {a : Addr} (E0 : Exa G.Z h a "java/lang/StringBuilder") (V0 : Fld G.Z h a "java/lang/AbstractStringBuilder" "value" "[B" .null) (C0 : Fld G.Z h a "java/lang/AbstractStringBuilder" "coder" "B" (.int 0)) (N0 : Fld G.Z h a "java/lang/AbstractStringBuilder" "count" "I" (.int 0)) (g0 : G.Z.heap.size ≤ a) :
    Ctr G [] (⟨"java/lang/StringBuilder", "<init>", "()V"⟩ : MethodName) jdk_67_method_1_code 1 none ({ frames := 2, cells := 1, slots := 16, locals := 25 } : Room) #[.ref a] h [] (fun v h' Sf => v = none ∧ Keep h h' [a] ∧ ∃ (t : Addr) (kt : ClassId), Sb G h' a t kt [] 16 ∧ G.Z.heap.size ≤ t ∧ h.size ≤ t ∧ Sf t) := by
  refine ctr_of M_sbi rfl rfl (plainFor_of_name pn_6) L_sbi H.el (Ls := #[.val (.ref a)]) (fun m => ef_ok (by first | (simp [argsToLocals, Value.category]; done) | rfl)) ?_
  intro B K hE
  refine go_run K 0 2 (pc' := 3) (st' := [(.int (16 : Int32)), (.ref a)]) rfl ?_
  refine go_specialN K (k := 2) rfl rfl (H.w 124 rfl) (H.w 125 rfl) (H.w 128 rfl) (H.w 129 rfl) (by decide) pd_14 (c_asi H E0 V0 C0 N0 g0) (argsL := [(.int (16 : Int32))]) (rest := []) rfl rfl rfl sub0 rfl ?_
  rintro _ h1 Sf9 - ⟨rfl, K2, t3, k4, B5, g6, f7, s8⟩
  refine ⟨[t3], allS s8 all0, ?_⟩
  show Go G B M_sbi _ h1 (t3 :: []) 1 16 6 #[.val (.ref a)] []
  refine go_return K (k := 3) rfl rfl rfl rfl ?_
  intro Sf hSf
  exact ⟨rfl, ((Keep.refl _ [a]).trans K2 (allS (Or.inl (List.mem_cons_self ..)) all0)), _, _, B5, g6, f7, hSf _ (List.mem_cons_self ..)⟩
def P_gval : List (Nat × Instr × Nat) := [(0, .aload_n 0, 1), (1, .getfield 15, 3), (4, .areturn, 1)]
theorem L_gval : ∀ q ∈ P_gval, decode jdk_68_method_64_code q.1 = .ok q.2 := by decide +kernel
def M_gval : Mt := (("java/lang/AbstractStringBuilder", "getValue", ({ frames := 0, cells := 0, slots := 0, locals := 0 } : Room)), P_gval, 1, (some (.array .byte)))
set_option maxRecDepth 65536 in
set_option maxHeartbeats 40000000 in
theorem c_gval {G : Gb} (H : Gl tables_1 els G) {h : Heap} {a t : Addr} {kt : ClassId} {cs : List Int32} {m : Nat} (B1 : Sb G h a t kt cs m) :
    Ctr G [] (⟨"java/lang/AbstractStringBuilder", "getValue", "()[B"⟩ : MethodName) jdk_68_method_64_code 1 (some (.array .byte)) ({ frames := 0, cells := 0, slots := 0, locals := 0 } : Room) #[.ref a] h [] (fun v h' Sf => v = some (.ref t) ∧ h = h') := by
  refine ctr_of M_gval rfl rfl (plainFor_of_name pn_5) L_gval H.el (Ls := #[.val (.ref a)]) (fun m => ef_ok (by first | (simp [argsToLocals, Value.category]; done) | rfl)) ?_
  intro B K hE
  obtain ⟨e1, e2, e3, e4, e5, e6, e7⟩ := id B1
  refine go_run K 0 1 (pc' := 1) (st' := [(.ref a)]) rfl ?_
  refine go_getfield K (k := 1) rfl (host := "") (Or.inl (H.w 132 rfl)) Via.refl e2 ?_
  refine go_areturn K (k := 2) rfl rfl rfl rfl rfl rfl rfl ?_
  intro Sf hSf
  exact ⟨rfl, rfl⟩
def P_alen : List (Nat × Instr × Nat) := [(0, .aload_n 0, 1), (1, .getfield 79, 3), (4, .ireturn, 1)]
theorem L_alen : ∀ q ∈ P_alen, decode jdk_68_method_6_code q.1 = .ok q.2 := by decide +kernel
def M_alen : Mt := (("java/lang/AbstractStringBuilder", "length", ({ frames := 0, cells := 0, slots := 0, locals := 0 } : Room)), P_alen, 1, (some .int))
set_option maxRecDepth 65536 in
set_option maxHeartbeats 40000000 in
theorem c_alen {G : Gb} (H : Gl tables_1 els G) {h : Heap} {a t : Addr} {kt : ClassId} {cs : List Int32} {m : Nat} (B1 : Sb G h a t kt cs m) :
    Ctr G [] (⟨"java/lang/AbstractStringBuilder", "length", "()I"⟩ : MethodName) jdk_68_method_6_code 1 (some .int) ({ frames := 0, cells := 0, slots := 0, locals := 0 } : Room) #[.ref a] h [] (fun v h' Sf => v = some (.int cs.length.toInt32) ∧ h = h') := by
  refine ctr_of M_alen rfl rfl (plainFor_of_name pn_5) L_alen H.el (Ls := #[.val (.ref a)]) (fun m => ef_ok (by first | (simp [argsToLocals, Value.category]; done) | rfl)) ?_
  intro B K hE
  obtain ⟨e1, e2, e3, e4, e5, e6, e7⟩ := id B1
  refine go_run K 0 1 (pc' := 1) (st' := [(.ref a)]) rfl ?_
  refine go_getfield K (k := 1) rfl (host := "") (Or.inl (H.w 148 rfl)) Via.refl e4 ?_
  refine go_ireturn K (k := 2) rfl rfl (by decide) rfl rfl rfl ?_
  intro Sf hSf
  exact ⟨rfl, rfl⟩
def P_slen : List (Nat × Instr × Nat) := [(0, .aload_n 0, 1), (1, .invokespecial 343, 3), (4, .ireturn, 1)]
theorem L_slen : ∀ q ∈ P_slen, decode jdk_67_method_93_code q.1 = .ok q.2 := by decide +kernel
def M_slen : Mt := (("java/lang/StringBuilder", "length", ({ frames := 1, cells := 0, slots := 0, locals := 12 } : Room)), P_slen, 1, (some .int))
set_option maxRecDepth 65536 in
set_option maxHeartbeats 40000000 in
theorem c_slen {G : Gb} (H : Gl tables_1 els G) {h : Heap} {a t : Addr} {kt : ClassId} {cs : List Int32} {m : Nat} (B1 : Sb G h a t kt cs m) :
    Ctr G [] (⟨"java/lang/StringBuilder", "length", "()I"⟩ : MethodName) jdk_67_method_93_code 1 (some .int) ({ frames := 1, cells := 0, slots := 0, locals := 12 } : Room) #[.ref a] h [] (fun v h' Sf => v = some (.int cs.length.toInt32) ∧ h = h') := by
  refine ctr_of M_slen rfl rfl (plainFor_of_name pn_6) L_slen H.el (Ls := #[.val (.ref a)]) (fun m => ef_ok (by first | (simp [argsToLocals, Value.category]; done) | rfl)) ?_
  intro B K hE
  obtain ⟨e1, e2, e3, e4, e5, e6, e7⟩ := id B1
  refine go_run K 0 1 (pc' := 1) (st' := [(.ref a)]) rfl ?_
  refine go_super K (k := 1) rfl (H.w 195 rfl) (sameM (H.w 190 rfl) (H.w 153 rfl) rfl (by decide)) (H.w 191 rfl) (H.w 144 rfl) (H.w 128 rfl) (H.w 196 rfl) (by decide) pd_13 e1 (c_alen H B1) (argsL := []) (rest := []) rfl rfl rfl sub0 rfl ?_
  rintro _ _ _ - ⟨rfl, rfl⟩
  show Go G B M_slen _ h [] 0 0 4 #[.val (.ref a)] [(.int (cs).length.toInt32)]
  show Go G B M_slen _ h [] 0 0 4 #[.val (.ref a)] [(.int cs.length.toInt32)]
  refine go_ireturn K (k := 2) rfl rfl (by decide) rfl rfl rfl ?_
  intro Sf hSf
  exact ⟨rfl, rfl⟩
def P_isb : List (Nat × Instr × Nat) := [(0, .getstatic 18, 3), (3, .ifCond .eq 14, 3), (6, .aload_n 0, 1), (7, .getfield 22, 3), (10, .ifCond .ne 7, 3), (13, .iconst 1, 1), (14, .goto 4, 3), (17, .iconst 0, 1), (18, .ireturn, 1)]
theorem L_isb : ∀ q ∈ P_isb, decode jdk_68_method_68_code q.1 = .ok q.2 := by decide +kernel
def M_isb : Mt := (("java/lang/AbstractStringBuilder", "isLatin1", ({ frames := 0, cells := 0, slots := 0, locals := 0 } : Room)), P_isb, 1, (some .boolean))
set_option maxRecDepth 65536 in
set_option maxHeartbeats 40000000 in
theorem c_isb {G : Gb} (H : Gl tables_1 els G) {h : Heap} {a t : Addr} {kt : ClassId} {cs : List Int32} {m : Nat} (B1 : Sb G h a t kt cs m) :
    Ctr G [] (⟨"java/lang/AbstractStringBuilder", "isLatin1", "()Z"⟩ : MethodName) jdk_68_method_68_code 1 (some .boolean) ({ frames := 0, cells := 0, slots := 0, locals := 0 } : Room) #[.ref a] h [] (fun v h' Sf => v = some (.int 1) ∧ h = h') := by
  refine ctr_of M_isb rfl rfl (plainFor_of_name pn_5) L_isb H.el (Ls := #[.val (.ref a)]) (fun m => ef_ok (by first | (simp [argsToLocals, Value.category]; done) | rfl)) ?_
  intro B K hE
  obtain ⟨e1, e2, e3, e4, e5, e6, e7⟩ := id B1
  obtain ⟨cz, hcs, hcz⟩ := H.cs
  refine go_getstatic K (k := 0) rfl (host := "") (Or.inl (H.w 131 rfl)) Via.refl hcs ?_
  refine go_ifeq K (k := 1) rfl (pc' := 17) (by decide) (fun q => absurd q hcz) (fun _ => ?_)
  refine go_run K 2 1 (pc' := 7) (st' := [(.ref a)]) rfl ?_
  refine go_getfield K (k := 3) rfl (host := "") (Or.inl (H.w 134 rfl)) Via.refl e3 ?_
  refine go_ifne K (k := 4) rfl (pc' := 17) (by decide) (fun q => absurd rfl q) (fun _ => ?_)
  refine go_run K 5 2 (pc' := 18) (st' := [(.int (1 : Int32))]) rfl ?_
  refine go_ireturn K (k := 8) rfl rfl (by decide) rfl rfl rfl ?_
  intro Sf hSf
  exact ⟨rfl, rfl⟩
def P_sia : List (Nat × Instr × Nat) := [(0, .aload_n 0, 1), (1, .invokespecial 1, 3), (4, .aload_n 1, 1), (5, .invokevirtual 552, 3), (8, .astore_n 3, 1), (9, .aload_n 1, 1), (10, .invokevirtual 549, 3), (13, .istore 4, 2), (15, .aload_n 1, 1), (16, .invokevirtual 1047, 3), (19, .ifCond .eq 22, 3), (22, .aload_n 0, 1), (23, .iconst 0, 1), (24, .putfield 15, 3), (27, .aload_n 0, 1), (28, .aload_n 3, 1), (29, .iconst 0, 1), (30, .iload 4, 2), (32, .invokestatic 54, 3), (35, .putfield 9, 3), (38, .goto 59, 3), (41, .getstatic 38, 3), (44, .ifCond .eq 35, 3), (47, .aload_n 1, 1), (48, .getfield 1048, 3), (51, .ifCond .eq 28, 3), (54, .aload_n 0, 1), (55, .aload_n 3, 1), (56, .iconst 0, 1), (57, .iload 4, 2), (59, .invokestatic 1051, 3), (62, .putfield 9, 3), (65, .aload_n 0, 1), (66, .aload_n 0, 1), (67, .getfield 9, 3), (70, .iload 4, 2), (72, .invokestatic 47, 3), (75, .putfield 15, 3), (78, .return_, 1), (79, .aload_n 0, 1), (80, .iconst 1, 1), (81, .putfield 15, 3), (84, .aload_n 0, 1), (85, .aload_n 3, 1), (86, .iconst 0, 1), (87, .iload 4, 2), (89, .iconst 1, 1), (90, .ishl, 1), (91, .invokestatic 54, 3), (94, .putfield 9, 3), (97, .return_, 1)]
theorem L_sia : ∀ q ∈ P_sia, decode jdk_42_method_150_code q.1 = .ok q.2 := by decide +kernel
def M_sia : Mt := (("java/lang/String", "<init>", ({ frames := 3, cells := 1, slots := 16, locals := 49 } : Room)), P_sia, 5, none)
set_option maxRecDepth 65536 in
set_option maxHeartbeats 40000000 in
theorem c_sia {G : Gb} (H : Gl tables_1 els G) {h : Heap} {a t s : Addr} {kt : ClassId} {cs : List Int32} {m : Nat} (hlt : cs.length < m) (hcap : cs.length - 0 ≤ 16) (B1 : Sb G h a t kt cs m) (E0 : Exa G.Z h s "java/lang/String") (V0 : Fld G.Z h s "java/lang/String" "value" "[B" .null) (C0 : Fld G.Z h s "java/lang/String" "coder" "B" (.int 0)) (g0 : G.Z.heap.size ≤ s) :
    Ctr G [] (⟨"java/lang/String", "<init>", "(Ljava/lang/AbstractStringBuilder;Ljava/lang/Void;)V"⟩ : MethodName) jdk_42_method_150_code 5 none ({ frames := 3, cells := 1, slots := 16, locals := 49 } : Room) #[.ref s, .ref a, .null] h [s] (fun v h' Sf => v = none ∧ Keep h h' [s] ∧ Str G h' s cs) := by
  refine ctr_of M_sia rfl rfl (plainFor_of_name pn_1) L_sia H.el (Ls := #[.val (.ref s), .val (.ref a), .val .null, .unset, .unset]) (fun m => ef_ok (by first | (simp [argsToLocals, Value.category]; done) | rfl)) ?_
  intro B K hE
  obtain ⟨e1, e2, e3, e4, e5, e6, e7⟩ := id B1
  refine go_run K 0 1 (pc' := 1) (st' := [(.ref s)]) rfl ?_
  refine go_init0 K (k := 1) rfl (H.w 15 rfl) (H.w 16 rfl) (H.w 17 rfl) rfl rfl rfl ?_
  refine go_run K 2 1 (pc' := 5) (st' := [(.ref a)]) rfl ?_
  refine go_virt0 K (k := 3) rfl (H.w 184 rfl) (H.w 187 rfl) (H.w 186 rfl) (H.w 128 rfl) (H.w 188 rfl) (by decide) pd_17 e1 (c_gval H B1) (argsL := []) (rest := []) rfl rfl rfl sub0 rfl ?_
  rintro _ _ _ - ⟨rfl, rfl⟩
  show Go G B M_sia _ h (s :: []) 0 0 8 #[.val (.ref s), .val (.ref a), .val .null, .unset, .unset] [(.ref t)]
  refine go_run K 4 2 (pc' := 10) (Ls' := #[.val (.ref s), .val (.ref a), .val .null, .val (.ref t), .unset]) (st' := [(.ref a)]) rfl ?_
  refine go_virtual K (k := 6) rfl (H.w 189 rfl) (H.w 190 rfl) (H.w 192 rfl) (H.w 193 rfl) (H.w 120 rfl) (H.w 194 rfl) (by decide) pd_13 e1 (nfO (H.w 153 rfl) rfl) (c_slen H B1) (argsL := []) (rest := []) rfl rfl rfl sub0 rfl ?_
  rintro _ _ _ - ⟨rfl, rfl⟩
  show Go G B M_sia _ h (s :: []) 0 0 13 #[.val (.ref s), .val (.ref a), .val .null, .val (.ref t), .unset] [(.int (cs).length.toInt32)]
  show Go G B M_sia _ h (s :: []) 0 0 13 #[.val (.ref s), .val (.ref a), .val .null, .val (.ref t), .unset] [(.int cs.length.toInt32)]
  refine go_run K 7 2 (pc' := 16) (Ls' := #[.val (.ref s), .val (.ref a), .val .null, .val (.ref t), .val (.int cs.length.toInt32)]) (st' := [(.ref a)]) rfl ?_
  refine go_virt0 K (k := 9) rfl (H.w 197 rfl) (H.w 200 rfl) (H.w 199 rfl) (H.w 128 rfl) (H.w 201 rfl) (by decide) pd_18 e1 (c_isb H B1) (argsL := []) (rest := []) rfl rfl rfl sub0 rfl ?_
  rintro _ _ _ - ⟨rfl, rfl⟩
  show Go G B M_sia _ h (s :: []) 0 0 19 #[.val (.ref s), .val (.ref a), .val .null, .val (.ref t), .val (.int cs.length.toInt32)] [(.int (1 : Int32))]
  refine go_ifeq K (k := 10) rfl (pc' := 41) (by decide) (fun q => absurd q (by decide)) (fun _ => ?_)
  refine go_run K 11 2 (pc' := 24) (st' := [(.int (0 : Int32)), (.ref s)]) rfl ?_
  refine go_putfield K (k := 13) rfl (host := "") (Or.inl (H.w 25 rfl)) Via.refl C0 E0 (Or.inr ⟨(H.w 21 rfl), rfl, rfl⟩) (H.w 5 rfl) (ty := .byte) (by decide) rfl rfl g0 (Or.inl (List.mem_cons_self ..)) ?_
  intro h8 W9
  have F10 : Exa G.Z h8 s "java/lang/String" := Exa.wr W9 E0
  have F11 : Fld G.Z h8 s "java/lang/String" "value" "[B" .null := Fld.other W9 V0 (Or.inr (slot_ne (Or.inr (H.w 20 rfl)) (Or.inr (H.w 21 rfl)) (by decide) (t := (.array .byte)) (t' := .byte) (by decide) (by decide)))
  have F12 : Fld G.Z h8 s "java/lang/String" "coder" "B" (.int (0 : Int32)) := Fld.same W9 C0
  refine go_run K 14 4 (pc' := 32) (st' := [(.int cs.length.toInt32), (.int (0 : Int32)), (.ref t), (.ref s)]) rfl ?_
  have c13 := (Arv.other e5 W9 (Exa.neArv E0 e5 (H.w 5 rfl)).symm)
  refine go_staticN K (k := 18) rfl (H.w 202 rfl) (H.w 98 rfl) (H.w 99 rfl) (H.w 100 rfl) (by decide) pd_10 (c_cor (i := 0) (j := cs.length) (m := m) H (fun e => by omega) (Nat.zero_le _) e6 e7 (by rw [List.length_append, by8_len, List.length_replicate]; omega) hcap c13) (argsL := [(.ref t), (.int (0 : Int32)), (.int cs.length.toInt32)]) (rest := [(.ref s)]) rfl rfl rfl sub0 rfl ?_
  rintro _ h14 Sf22 - ⟨u15, k16, rfl, E17, A18, g19, f20, s21⟩
  refine ⟨[u15], allS s21 all0, ?_⟩
  show Go G B M_sia _ h14 (u15 :: (s :: [])) 1 16 35 #[.val (.ref s), .val (.ref a), .val .null, .val (.ref t), .val (.int cs.length.toInt32)] [(.ref u15), (.ref s)]
  have c23 := (F11.ext E17)
  have c24 := (F10.ext E17)
  refine go_putfield K (k := 19) rfl (host := "") (Or.inl (H.w 24 rfl)) Via.refl c23 c24 (Or.inr ⟨(H.w 20 rfl), rfl, rfl⟩) (H.w 5 rfl) (ty := (.array .byte)) (by decide) rfl rfl g0 (Or.inl (List.mem_cons_of_mem _ (List.mem_cons_self ..))) ?_
  intro h25 W26
  have c27 := (F12.ext E17)
  have F28 : Exa G.Z h25 s "java/lang/String" := Exa.wr W26 c24
  have F29 : Fld G.Z h25 s "java/lang/String" "value" "[B" (.ref u15) := Fld.same W26 c23
  have F30 : Fld G.Z h25 s "java/lang/String" "coder" "B" (.int (0 : Int32)) := Fld.other W26 c27 (Or.inr (slot_ne (Or.inr (H.w 21 rfl)) (Or.inr (H.w 20 rfl)) (by decide) (t := .byte) (t' := (.array .byte)) (by decide) (by decide)))
  refine go_run K 20 1 (pc' := 97) (st' := []) rfl ?_
  have c31 := (Arv.other A18 W26 (Exa.neArv c24 A18 (H.w 5 rfl)).symm)
  refine go_return K (k := 50) rfl rfl rfl rfl ?_
  intro Sf hSf
  refine ⟨rfl, ((((Keep.refl _ [s]).wr W9 (Or.inl (List.mem_cons_self ..))).ext E17).wr W26 (Or.inl (List.mem_cons_self ..))), u15, k16, F28, F30, F29, ?_⟩
  have u := c31
  rw [Nat.sub_zero, List.drop_zero, List.take_append_of_le_length (by rw [by8_len]; exact Nat.le_refl _), List.take_of_length_le (by rw [by8_len]; exact Nat.le_refl _)] at u
  exact u
def P_sis : List (Nat × Instr × Nat) := [(0, .aload_n 0, 1), (1, .aload_n 1, 1), (2, .aconst_null, 1), (3, .invokespecial 489, 3), (6, .return_, 1)]
theorem L_sis : ∀ q ∈ P_sis, decode jdk_42_method_53_code q.1 = .ok q.2 := by decide +kernel
def M_sis : Mt := (("java/lang/String", "<init>", ({ frames := 4, cells := 1, slots := 16, locals := 65 } : Room)), P_sis, 2, none)
set_option maxRecDepth 65536 in
set_option maxHeartbeats 40000000 in
theorem c_sis {G : Gb} (H : Gl tables_1 els G) {h : Heap} {a t s : Addr} {kt : ClassId} {cs : List Int32} {m : Nat} (hlt : cs.length < m) (hcap : cs.length - 0 ≤ 16) (B1 : Sb G h a t kt cs m) (E0 : Exa G.Z h s "java/lang/String") (V0 : Fld G.Z h s "java/lang/String" "value" "[B" .null) (C0 : Fld G.Z h s "java/lang/String" "coder" "B" (.int 0)) (g0 : G.Z.heap.size ≤ s) :
    Ctr G [] (⟨"java/lang/String", "<init>", "(Ljava/lang/StringBuilder;)V"⟩ : MethodName) jdk_42_method_53_code 2 none ({ frames := 4, cells := 1, slots := 16, locals := 65 } : Room) #[.ref s, .ref a] h [s] (fun v h' Sf => v = none ∧ Keep h h' [s] ∧ Str G h' s cs) := by
  refine ctr_of M_sis rfl rfl (plainFor_of_name pn_1) L_sis H.el (Ls := #[.val (.ref s), .val (.ref a)]) (fun m => ef_ok (by first | (simp [argsToLocals, Value.category]; done) | rfl)) ?_
  intro B K hE
  refine go_run K 0 3 (pc' := 3) (st' := [.null, (.ref a), (.ref s)]) rfl ?_
  refine go_special K (k := 3) rfl rfl (H.w 181 rfl) (H.w 182 rfl) (H.w 6 rfl) (H.w 183 rfl) (by decide) pd_19 (c_sia H hlt hcap B1 E0 V0 C0 g0) (argsL := [(.ref a), .null]) (rest := []) rfl rfl rfl (subS (List.mem_cons_self ..) sub0) rfl ?_
  rintro _ h1 _ - ⟨rfl, K2, S3⟩
  show Go G B M_sis _ h1 (s :: []) 1 16 6 #[.val (.ref s), .val (.ref a)] []
  refine go_return K (k := 4) rfl rfl rfl rfl ?_
  intro Sf hSf
  exact ⟨rfl, ((Keep.refl _ [s]).trans K2 (allS (Or.inl (List.mem_cons_self ..)) all0)), S3⟩
def P_sbs : List (Nat × Instr × Nat) := [(0, .new 18, 3), (3, .dup, 1), (4, .aload_n 0, 1), (5, .invokespecial 137, 3), (8, .areturn, 1)]
theorem L_sbs : ∀ q ∈ P_sbs, decode jdk_67_method_42_code q.1 = .ok q.2 := by decide +kernel
def M_sbs : Mt := (("java/lang/StringBuilder", "toString", ({ frames := 5, cells := 2, slots := 20, locals := 79 } : Room)), P_sbs, 1, (some (.object "java/lang/String")))
set_option maxRecDepth 65536 in
set_option maxHeartbeats 40000000 in
theorem c_sbs {G : Gb} (H : Gl tables_1 els G) {h : Heap} {a t : Addr} {kt : ClassId} {cs : List Int32} {m : Nat} (hlt : cs.length < m) (hcap : cs.length - 0 ≤ 16) (B1 : Sb G h a t kt cs m) :
    Ctr G [] (⟨"java/lang/StringBuilder", "toString", "()Ljava/lang/String;"⟩ : MethodName) jdk_67_method_42_code 1 (some (.object "java/lang/String")) ({ frames := 5, cells := 2, slots := 20, locals := 79 } : Room) #[.ref a] h [] (fun v h' Sf => ∃ s : Addr, v = some (.ref s) ∧ Ext h h' ∧ Str G h' s cs ∧ G.Z.heap.size ≤ s) := by
  refine ctr_of M_sbs rfl rfl (plainFor_of_name pn_6) L_sbs H.el (Ls := #[.val (.ref a)]) (fun m => ef_ok (by first | (simp [argsToLocals, Value.category]; done) | rfl)) ?_
  intro B K hE
  refine go_new K (k := 0) rfl (H.w 177 rfl) (H.w 5 rfl) (H.w 6 rfl) rfl rfl ?_
  intro h2 a1 e3 g4 E5 A6 D7
  have F8 : Fld G.Z h2 a1 "java/lang/String" "value" "[B" .null := D7 (Or.inr (H.w 20 rfl)) (ty := (.array .byte)) (by decide)
  have F9 : Fld G.Z h2 a1 "java/lang/String" "coder" "B" (.int (0 : Int32)) := D7 (Or.inr (H.w 21 rfl)) (ty := .byte) (by decide)
  refine go_run K 1 2 (pc' := 5) (st' := [(.ref a), (.ref a1), (.ref a1)]) rfl ?_
  have c10 := (B1.ext E5)
  refine go_special K (k := 3) rfl rfl (H.w 178 rfl) (H.w 179 rfl) (H.w 6 rfl) (H.w 180 rfl) (by decide) pd_20 (c_sis H hlt hcap c10 A6 F8 F9 g4) (argsL := [(.ref a)]) (rest := [(.ref a1)]) rfl rfl rfl (subS (List.mem_cons_self ..) sub0) rfl ?_
  rintro _ h11 _ - ⟨rfl, K12, S13⟩
  show Go G B M_sbs _ h11 (a1 :: []) 2 20 8 #[.val (.ref a)] [(.ref a1)]
  have X14 : Ext h h11 := (Ext.keepN E5 K12 (allS (Nat.le_trans (Nat.le_refl _) (Nat.le_of_eq e3.symm)) all0))
  refine go_areturn K (k := 4) rfl rfl rfl rfl rfl rfl rfl ?_
  intro Sf hSf
  exact ⟨_, rfl, X14, S13, g4⟩
def P_leq : List (Nat × Instr × Nat) := [(0, .aload_n 0, 1), (1, .arraylength, 1), (2, .aload_n 1, 1), (3, .arraylength, 1), (4, .if_icmp .ne 30, 3), (7, .iconst 0, 1), (8, .istore_n 2, 1), (9, .iload_n 2, 1), (10, .aload_n 0, 1), (11, .arraylength, 1), (12, .if_icmp .ge 20, 3), (15, .aload_n 0, 1), (16, .iload_n 2, 1), (17, .baload, 1), (18, .aload_n 1, 1), (19, .iload_n 2, 1), (20, .baload, 1), (21, .if_icmp .eq 5, 3), (24, .iconst 0, 1), (25, .ireturn, 1), (26, .iinc 2 1, 3), (29, .goto (-20), 3), (32, .iconst 1, 1), (33, .ireturn, 1), (34, .iconst 0, 1), (35, .ireturn, 1)]
theorem L_leq : ∀ q ∈ P_leq, decode jdk_43_method_13_code q.1 = .ok q.2 := by decide +kernel
def M_leq : Mt := (("java/lang/StringLatin1", "equals", ({ frames := 0, cells := 0, slots := 0, locals := 0 } : Room)), P_leq, 3, (some .boolean))
set_option maxRecDepth 65536 in
set_option maxHeartbeats 40000000 in
theorem c_leq {G : Gb} (H : Gl tables_1 els G) {h : Heap} {t u : Addr} {kt ku : ClassId} {cs ds : List Int32} (l1 : Lat cs) (l2 : Lat ds) (A1 : Arv G.Z h t kt .byte cs.length.toInt32 (by8 cs) (.int 0)) (A2 : Arv G.Z h u ku .byte ds.length.toInt32 (by8 ds) (.int 0)) :
    Ctr G [] (⟨"java/lang/StringLatin1", "equals", "([B[B)Z"⟩ : MethodName) jdk_43_method_13_code 3 (some .boolean) ({ frames := 0, cells := 0, slots := 0, locals := 0 } : Room) #[.ref t, .ref u] h [] (fun v h' Sf => ∃ r : Int32, v = some (.int r) ∧ h = h' ∧ ((r = 1 ∧ cs = ds) ∨ (r = 0 ∧ ¬ cs = ds))) := by
  refine ctr_of M_leq rfl rfl (plainFor_of_name pn_2) L_leq H.el (Ls := #[.val (.ref t), .val (.ref u), .unset]) (fun m => ef_ok (by first | (simp [argsToLocals, Value.category]; done) | rfl)) ?_
  intro B K hE
  have hl1 := lat_lt l1
  have hl2 := lat_lt l2
  refine go_run K 0 1 (pc' := 1) (st' := [(.ref t)]) rfl ?_
  refine go_arraylength K (k := 1) rfl A1 ?_
  refine go_run K 2 1 (pc' := 3) (st' := [(.ref u), (.int cs.length.toInt32)]) rfl ?_
  refine go_arraylength K (k := 3) rfl A2 ?_
  refine go_icmpne K (k := 4) rfl (pc' := 34) (by decide) (fun q1 => ?_) (fun q2 => ?_)
  · refine go_run K 24 1 (pc' := 35) (st' := [(.int (0 : Int32))]) rfl ?_
    refine go_ireturn K (k := 25) rfl rfl (by decide) rfl rfl rfl ?_
    intro Sf hSf
    exact ⟨0, rfl, rfl, Or.inr ⟨rfl, fun e => q1 (by rw [e])⟩⟩
  · have hlen : cs.length = ds.length := len_inj hl1 hl2 q2
    refine go_run K 5 2 (pc' := 9) (Ls' := #[.val (.ref t), .val (.ref u), .val (.int (0 : Int32))]) (st' := []) rfl ?_
    have loop : ∀ (k i : Nat), i + k = cs.length → cs.take i = ds.take i → Go G B M_leq (fun v h' Sf => ∃ r : Int32, v = some (.int r) ∧ h = h' ∧ ((r = 1 ∧ cs = ds) ∨ (r = 0 ∧ ¬ cs = ds))) h [] 0 0 9 #[.val (.ref t), .val (.ref u), .val (.int i.toInt32)] [] := by
      intro k; induction k with
      | zero =>
        intro i hi ht
        refine go_run K 7 2 (pc' := 11) (st' := [(.ref t), (.int i.toInt32)]) rfl ?_
        refine go_arraylength K (k := 9) rfl A1 ?_
        refine go_icmpge K (k := 10) rfl (pc' := 32) (by decide) (fun _ => ?_) (fun q => absurd q (len_nlt (by omega) (by omega)))
        refine go_run K 22 1 (pc' := 33) (st' := [(.int (1 : Int32))]) rfl ?_
        refine go_ireturn K (k := 23) rfl rfl (by decide) rfl rfl rfl ?_
        intro Sf hSf
        refine ⟨1, rfl, rfl, Or.inl ⟨rfl, ?_⟩⟩
        rw [List.take_of_length_le (by omega), List.take_of_length_le (by omega)] at ht
        exact ht
      | succ k ih =>
        intro i hi ht
        have p1 : i < cs.length := by omega
        have p2 : i < ds.length := by omega
        refine go_run K 7 2 (pc' := 11) (st' := [(.ref t), (.int i.toInt32)]) rfl ?_
        refine go_arraylength K (k := 9) rfl A1 ?_
        refine go_icmpge K (k := 10) rfl (pc' := 32) (by decide) (fun q => absurd (len_lt hl1 p1) q) (fun _ => ?_)
        refine go_run K 11 2 (pc' := 17) (st' := [(.int i.toInt32), (.ref t)]) rfl ?_
        refine go_baload K (k := 13) rfl A1 ⟨len_nn (by omega), len_lt hl1 p1⟩ (v := .int cs[i].toInt8.toInt32) (by rw [len_nat (by omega)]; exact get_by8 p1) ?_
        refine go_run K 14 2 (pc' := 20) (st' := [(.int i.toInt32), (.ref u), (.int cs[i].toInt8.toInt32)]) rfl ?_
        refine go_baload K (k := 16) rfl A2 ⟨len_nn (by omega), len_lt hl2 p2⟩ (v := .int ds[i].toInt8.toInt32) (by rw [len_nat (by omega)]; exact get_by8 p2) ?_
        refine go_icmpeq K (k := 17) rfl (pc' := 26) (by decide) (fun q3 => ?_) (fun q4 => ?_)
        · refine go_run K 20 2 (pc' := 9) (Ls' := #[.val (.ref t), .val (.ref u), .val (.int (i.toInt32 + Int32.ofInt 1))]) (st' := []) rfl ?_
          rw [len_succ i]
          refine ih (i + 1) (by omega) ?_
          rw [List.take_succ_eq_append_getElem p1, List.take_succ_eq_append_getElem p2, ht, i8_inj (l1.2 _ (List.getElem_mem p1)) (l2.2 _ (List.getElem_mem p2)) q3]
        · refine go_run K 18 1 (pc' := 25) (st' := [(.int (0 : Int32))]) rfl ?_
          refine go_ireturn K (k := 19) rfl rfl (by decide) rfl rfl rfl ?_
          intro Sf hSf
          refine ⟨0, rfl, rfl, Or.inr ⟨rfl, fun e => q4 ?_⟩⟩
          subst e; rfl
    exact loop cs.length 0 (by omega) rfl
def P_seq : List (Nat × Instr × Nat) := [(0, .aload_n 0, 1), (1, .aload_n 1, 1), (2, .if_acmp .ne 5, 3), (5, .iconst 1, 1), (6, .ireturn, 1), (7, .aload_n 1, 1), (8, .instanceof 10, 3), (11, .ifCond .eq 43, 3), (14, .aload_n 1, 1), (15, .checkcast 10, 3), (18, .astore_n 2, 1), (19, .getstatic 38, 3), (22, .ifCond .eq 14, 3), (25, .aload_n 0, 1), (26, .getfield 15, 3), (29, .aload_n 2, 1), (30, .getfield 15, 3), (33, .if_icmp .ne 21, 3), (36, .aload_n 0, 1), (37, .getfield 9, 3), (40, .aload_n 2, 1), (41, .getfield 9, 3), (44, .invokestatic 541, 3), (47, .ifCond .eq 7, 3), (50, .iconst 1, 1), (51, .goto 4, 3), (54, .iconst 0, 1), (55, .ireturn, 1)]
theorem L_seq : ∀ q ∈ P_seq, decode jdk_42_method_66_code q.1 = .ok q.2 := by decide +kernel
def M_seq : Mt := (("java/lang/String", "equals", ({ frames := 1, cells := 0, slots := 0, locals := 14 } : Room)), P_seq, 3, (some .boolean))
set_option maxRecDepth 65536 in
set_option maxHeartbeats 40000000 in
theorem c_seq {G : Gb} (H : Gl tables_1 els G) {h : Heap} {a b : Addr} {cs ds : List Int32} (l1 : Lat cs) (l2 : Lat ds) (S1 : Str G h a cs) (S2 : Str G h b ds) :
    Ctr G [] (⟨"java/lang/String", "equals", "(Ljava/lang/Object;)Z"⟩ : MethodName) jdk_42_method_66_code 3 (some .boolean) ({ frames := 1, cells := 0, slots := 0, locals := 14 } : Room) #[.ref a, .ref b] h [] (fun v h' Sf => ∃ r : Int32, v = some (.int r) ∧ h = h' ∧ ((r = 1 ∧ cs = ds) ∨ (r = 0 ∧ ¬ cs = ds))) := by
  refine ctr_of M_seq rfl rfl (plainFor_of_name pn_1) L_seq H.el (Ls := #[.val (.ref a), .val (.ref b), .unset]) (fun m => ef_ok (by first | (simp [argsToLocals, Value.category]; done) | rfl)) ?_
  intro B K hE
  obtain ⟨cz, hcs, hcz⟩ := H.cs
  obtain ⟨t1, k2, e3, e4, e5, e6⟩ := id S1
  obtain ⟨t7, k8, e9, e10, e11, e12⟩ := id S2
  refine go_run K 0 2 (pc' := 2) (st' := [(.ref b), (.ref a)]) rfl ?_
  by_cases hab : a = b
  · refine go_acmp K (k := 2) rfl rfl rfl (same := true) (by rw [hab]; exact decide_eq_true rfl) (pc' := 5) (by decide) rfl ?_
    refine go_run K 3 1 (pc' := 6) (st' := [(.int (1 : Int32))]) rfl ?_
    refine go_ireturn K (k := 4) rfl rfl (by decide) rfl rfl rfl ?_
    intro Sf hSf
    exact ⟨1, rfl, rfl, Or.inl ⟨rfl, Str.inj l1 l2 S1 (hab ▸ S2)⟩⟩
  · refine go_acmp K (k := 2) rfl rfl rfl (same := false) (decide_eq_false fun e => hab (Value.ref.inj e)) (pc' := 7) (by decide) rfl ?_
    refine go_run K 5 1 (pc' := 8) (st' := [(.ref b)]) rfl ?_
    refine go_instY K (k := 6) rfl (H.w 209 rfl) (Ins.self e9) ?_
    refine go_ifeq K (k := 7) rfl (pc' := 54) (by decide) (fun q => absurd q (by decide)) (fun _ => ?_)
    refine go_run K 8 1 (pc' := 15) (st' := [(.ref b)]) rfl ?_
    refine go_cast K (k := 9) rfl (H.w 209 rfl) (Ins.self e9) ?_
    refine go_run K 10 1 (pc' := 19) (Ls' := #[.val (.ref a), .val (.ref b), .val (.ref b)]) (st' := []) rfl ?_
    refine go_getstatic K (k := 11) rfl (host := "") (Or.inl (H.w 26 rfl)) Via.refl hcs ?_
    refine go_ifeq K (k := 12) rfl (pc' := 36) (by decide) (fun q => absurd q hcz) (fun _ => ?_)
    refine go_run K 13 1 (pc' := 26) (st' := [(.ref a)]) rfl ?_
    refine go_getfield K (k := 14) rfl (host := "") (Or.inl (H.w 25 rfl)) Via.refl e4 ?_
    refine go_run K 15 1 (pc' := 30) (st' := [(.ref b), (.int (0 : Int32))]) rfl ?_
    refine go_getfield K (k := 16) rfl (host := "") (Or.inl (H.w 25 rfl)) Via.refl e10 ?_
    refine go_icmpne K (k := 17) rfl (pc' := 54) (by decide) (fun q => absurd rfl q) (fun _ => ?_)
    refine go_run K 18 1 (pc' := 37) (st' := [(.ref a)]) rfl ?_
    refine go_getfield K (k := 19) rfl (host := "") (Or.inl (H.w 24 rfl)) Via.refl e5 ?_
    refine go_run K 20 1 (pc' := 41) (st' := [(.ref b), (.ref t1)]) rfl ?_
    refine go_getfield K (k := 21) rfl (host := "") (Or.inl (H.w 24 rfl)) Via.refl e11 ?_
    refine go_static K (k := 22) rfl (H.w 210 rfl) (H.w 211 rfl) (H.w 94 rfl) (H.w 212 rfl) (by decide) pd_21 (c_leq H l1 l2 e6 e12) (argsL := [(.ref t1), (.ref t7)]) (rest := []) rfl rfl rfl sub0 rfl ?_
    rintro _ _ _ - ⟨r13, rfl, rfl, q14⟩
    show Go G B M_seq _ h [] 0 0 47 #[.val (.ref a), .val (.ref b), .val (.ref b)] [(.int r13)]
    refine go_ifeq K (k := 23) rfl (pc' := 54) (by decide) (fun q15 => ?_) (fun q16 => ?_)
    · refine go_run K 26 1 (pc' := 55) (st' := [(.int (0 : Int32))]) rfl ?_
      refine go_ireturn K (k := 27) rfl rfl (by decide) rfl rfl rfl ?_
      intro Sf hSf
      refine ⟨0, rfl, rfl, Or.inr ⟨rfl, ?_⟩⟩
      rcases q14 with ⟨u1, -⟩ | ⟨-, u2⟩
      · rw [u1] at q15; exact absurd q15 (by decide)
      · exact u2
    · refine go_run K 24 2 (pc' := 55) (st' := [(.int (1 : Int32))]) rfl ?_
      refine go_ireturn K (k := 27) rfl rfl (by decide) rfl rfl rfl ?_
      intro Sf hSf
      refine ⟨1, rfl, rfl, Or.inl ⟨rfl, ?_⟩⟩
      rcases q14 with ⟨-, u2⟩ | ⟨u1, -⟩
      · exact u2
      · exact absurd u1 q16
theorem pn_7 : plainName "jdk/internal/util/Preconditions" = true := by first | (simp [plainName, overriddenIn]; done) | decide +kernel
def P_pft : List (Nat × Instr × Nat) := [(0, .iload_n 0, 1), (1, .ifCond .lt 13, 3), (4, .iload_n 0, 1), (5, .iload_n 1, 1), (6, .if_icmp .gt 8, 3), (9, .iload_n 1, 1), (10, .iload_n 2, 1), (11, .if_icmp .le 11, 3), (14, .aload_n 3, 1), (15, .iload_n 0, 1), (16, .iload_n 1, 1), (17, .iload_n 2, 1), (18, .invokestatic 99, 3), (21, .athrow, 1), (22, .iload_n 0, 1), (23, .ireturn, 1)]
theorem L_pft : ∀ q ∈ P_pft, decode jdk_41_method_12_code q.1 = .ok q.2 := by decide +kernel
def M_pft : Mt := (("jdk/internal/util/Preconditions", "checkFromToIndex", ({ frames := 0, cells := 0, slots := 0, locals := 0 } : Room)), P_pft, 4, (some .int))
set_option maxRecDepth 65536 in
set_option maxHeartbeats 40000000 in
theorem c_pft {G : Gb} (H : Gl tables_1 els G) {h : Heap} {x y n : Int32} {f : Addr} (h1 : ¬ x < 0) (h2 : ¬ y < x) (h3 : ¬ n < y) :
    Ctr G [] (⟨"jdk/internal/util/Preconditions", "checkFromToIndex", "(IIILjava/util/function/BiFunction;)I"⟩ : MethodName) jdk_41_method_12_code 4 (some .int) ({ frames := 0, cells := 0, slots := 0, locals := 0 } : Room) #[.int x, .int y, .int n, .ref f] h [] (fun v h' Sf => v = some (.int x) ∧ h = h') := by
  refine ctr_of M_pft rfl rfl (plainFor_of_name pn_7) L_pft H.el (Ls := #[.val (.int x), .val (.int y), .val (.int n), .val (.ref f)]) (fun m => ef_ok (by first | (simp [argsToLocals, Value.category]; done) | rfl)) ?_
  intro B K hE
  refine go_run K 0 1 (pc' := 1) (st' := [(.int x)]) rfl ?_
  refine go_iflt K (k := 1) rfl (pc' := 14) (by decide) (fun q => absurd q h1) (fun _ => ?_)
  refine go_run K 2 2 (pc' := 6) (st' := [(.int y), (.int x)]) rfl ?_
  refine go_icmpgt K (k := 4) rfl (pc' := 14) (by decide) (fun q => absurd q h2) (fun _ => ?_)
  refine go_run K 5 2 (pc' := 11) (st' := [(.int n), (.int y)]) rfl ?_
  refine go_icmple K (k := 7) rfl (pc' := 22) (by decide) (fun _ => ?_) (fun q => absurd q h3)
  refine go_run K 14 1 (pc' := 23) (st' := [(.int x)]) rfl ?_
  refine go_ireturn K (k := 15) rfl rfl (by decide) rfl rfl rfl ?_
  intro Sf hSf
  exact ⟨rfl, rfl⟩
set_option maxRecDepth 65536 in
set_option maxHeartbeats 40000000 in
theorem c_pftN {G : Gb} (H : Gl tables_1 els G) {h : Heap} {x y n : Int32} (h1 : ¬ x < 0) (h2 : ¬ y < x) (h3 : ¬ n < y) :
    Ctr G [] (⟨"jdk/internal/util/Preconditions", "checkFromToIndex", "(IIILjava/util/function/BiFunction;)I"⟩ : MethodName) jdk_41_method_12_code 4 (some .int) ({ frames := 0, cells := 0, slots := 0, locals := 0 } : Room) #[.int x, .int y, .int n, .null] h [] (fun v h' Sf => v = some (.int x) ∧ h = h') := by
  refine ctr_of M_pft rfl rfl (plainFor_of_name pn_7) L_pft H.el (Ls := #[.val (.int x), .val (.int y), .val (.int n), .val .null]) (fun m => ef_ok (by first | (simp [argsToLocals, Value.category]; done) | rfl)) ?_
  intro B K hE
  refine go_run K 0 1 (pc' := 1) (st' := [(.int x)]) rfl ?_
  refine go_iflt K (k := 1) rfl (pc' := 14) (by decide) (fun q => absurd q h1) (fun _ => ?_)
  refine go_run K 2 2 (pc' := 6) (st' := [(.int y), (.int x)]) rfl ?_
  refine go_icmpgt K (k := 4) rfl (pc' := 14) (by decide) (fun q => absurd q h2) (fun _ => ?_)
  refine go_run K 5 2 (pc' := 11) (st' := [(.int n), (.int y)]) rfl ?_
  refine go_icmple K (k := 7) rfl (pc' := 22) (by decide) (fun _ => ?_) (fun q => absurd q h3)
  refine go_run K 14 1 (pc' := 23) (st' := [(.int x)]) rfl ?_
  refine go_ireturn K (k := 15) rfl rfl (by decide) rfl rfl rfl ?_
  intro Sf hSf
  exact ⟨rfl, rfl⟩
def P_cbe : List (Nat × Instr × Nat) := [(0, .iload_n 0, 1), (1, .iload_n 1, 1), (2, .iload_n 2, 1), (3, .getstatic 1053, 3), (6, .invokestatic 1062, 3), (9, .pop, 1), (10, .return_, 1)]
theorem L_cbe : ∀ q ∈ P_cbe, decode jdk_42_method_158_code q.1 = .ok q.2 := by decide +kernel
def M_cbe : Mt := (("java/lang/String", "checkBoundsBeginEnd", ({ frames := 1, cells := 0, slots := 0, locals := 15 } : Room)), P_cbe, 3, none)
set_option maxRecDepth 65536 in
set_option maxHeartbeats 40000000 in
theorem c_cbe {G : Gb} (H : Gl tables_1 els G) {h : Heap} {x y n : Int32} (hF : ∃ vf : Value, Sta G.Z G.Z.heap "jdk/internal/util/Preconditions" "SIOOBE_FORMATTER" "Ljava/util/function/BiFunction;" vf ∧ vf.isRef = true) (h1 : ¬ x < 0) (h2 : ¬ y < x) (h3 : ¬ n < y) :
    Ctr G [] (⟨"java/lang/String", "checkBoundsBeginEnd", "(III)V"⟩ : MethodName) jdk_42_method_158_code 3 none ({ frames := 1, cells := 0, slots := 0, locals := 15 } : Room) #[.int x, .int y, .int n] h [] (fun v h' Sf => v = none ∧ h = h') := by
  refine ctr_of M_cbe rfl rfl (plainFor_of_name pn_1) L_cbe H.el (Ls := #[.val (.int x), .val (.int y), .val (.int n)]) (fun m => ef_ok (by first | (simp [argsToLocals, Value.category]; done) | rfl)) ?_
  intro B K hE
  obtain ⟨vf, hsf, hrf⟩ := hF
  refine go_run K 0 3 (pc' := 3) (st' := [(.int n), (.int y), (.int x)]) rfl ?_
  obtain rfl | ⟨f, rfl⟩ := ref_cases hrf
  · refine go_getstatic K (k := 3) rfl (host := "") (Or.inl (H.w 82 rfl)) Via.refl hsf ?_
    refine go_static K (k := 4) rfl (H.w 84 rfl) (H.w 85 rfl) (H.w 83 rfl) (H.w 86 rfl) (by decide) pd_22 (c_pftN (x := x) (y := y) (n := n) H h1 h2 h3) (argsL := [(.int x), (.int y), (.int n), .null]) (rest := []) rfl rfl rfl sub0 rfl ?_
    rintro _ _ _ - ⟨rfl, rfl⟩
    show Go G B M_cbe _ h [] 0 0 9 #[.val (.int x), .val (.int y), .val (.int n)] [(.int x)]
    refine go_run K 5 1 (pc' := 10) (st' := []) rfl ?_
    refine go_return K (k := 6) rfl rfl rfl rfl ?_
    intro Sf hSf
    exact ⟨rfl, rfl⟩
  · refine go_getstatic K (k := 3) rfl (host := "") (Or.inl (H.w 82 rfl)) Via.refl hsf ?_
    refine go_static K (k := 4) rfl (H.w 84 rfl) (H.w 85 rfl) (H.w 83 rfl) (H.w 86 rfl) (by decide) pd_22 (c_pft (x := x) (y := y) (n := n) (f := f) H h1 h2 h3) (argsL := [(.int x), (.int y), (.int n), (.ref f)]) (rest := []) rfl rfl rfl sub0 rfl ?_
    rintro _ _ _ - ⟨rfl, rfl⟩
    show Go G B M_cbe _ h [] 0 0 9 #[.val (.int x), .val (.int y), .val (.int n)] [(.int x)]
    refine go_run K 5 1 (pc' := 10) (st' := []) rfl ?_
    refine go_return K (k := 6) rfl rfl rfl rfl ?_
    intro Sf hSf
    exact ⟨rfl, rfl⟩
def P_nst : List (Nat × Instr × Nat) := [(0, .iload_n 2, 1), (1, .ifCond .ne 6, 3), (4, .ldc 151, 2), (6, .areturn, 1), (7, .new 1, 3), (10, .dup, 1), (11, .aload_n 0, 1), (12, .iload_n 1, 1), (13, .iload_n 1, 1), (14, .iload_n 2, 1), (15, .iadd, 1), (16, .invokestatic 232, 3), (19, .iconst 0, 1), (20, .invokespecial 112, 3), (23, .areturn, 1)]
theorem L_nst : ∀ q ∈ P_nst, decode jdk_43_method_47_code q.1 = .ok q.2 := by decide +kernel
def M_nst : Mt := (("java/lang/StringLatin1", "newString", ({ frames := 3, cells := 2, slots := 20, locals := 50 } : Room)), P_nst, 3, (some (.object "java/lang/String")))
set_option maxRecDepth 65536 in
set_option maxHeartbeats 40000000 in
theorem c_nst {G : Gb} (H : Gl tables_1 els G) {h : Heap} {t : Addr} {kt : ClassId} {cs : List Int32} {i n : Nat} (l1 : Lat cs) (hin : i + n ≤ cs.length) (hcap : n ≤ 16) (hne : ¬ (i = 0 ∧ i + n = cs.length)) (hn0 : ¬ n = 0) (A1 : Arv G.Z h t kt .byte cs.length.toInt32 (by8 cs) (.int 0)) :
    Ctr G [] (⟨"java/lang/StringLatin1", "newString", "([BII)Ljava/lang/String;"⟩ : MethodName) jdk_43_method_47_code 3 (some (.object "java/lang/String")) ({ frames := 3, cells := 2, slots := 20, locals := 50 } : Room) #[.ref t, .int i.toInt32, .int n.toInt32] h [] (fun v h' Sf => ∃ s : Addr, v = some (.ref s) ∧ Ext h h' ∧ Str G h' s ((cs.drop i).take n)) := by
  refine ctr_of M_nst rfl rfl (plainFor_of_name pn_2) L_nst H.el (Ls := #[.val (.ref t), .val (.int i.toInt32), .val (.int n.toInt32)]) (fun m => ef_ok (by first | (simp [argsToLocals, Value.category]; done) | rfl)) ?_
  intro B K hE
  have hlt := lat_lt l1
  refine go_run K 0 1 (pc' := 1) (st' := [(.int n.toInt32)]) rfl ?_
  refine go_ifne K (k := 1) rfl (pc' := 7) (by decide) (fun _ => ?_) (fun q => absurd q (fun q => hn0 (len_zero (by omega) q)))
  refine go_new K (k := 4) rfl (H.w 96 rfl) (H.w 5 rfl) (H.w 6 rfl) rfl rfl ?_
  intro h2 a1 e3 g4 E5 A6 D7
  have F8 : Fld G.Z h2 a1 "java/lang/String" "value" "[B" .null := D7 (Or.inr (H.w 20 rfl)) (ty := (.array .byte)) (by decide)
  have F9 : Fld G.Z h2 a1 "java/lang/String" "coder" "B" (.int (0 : Int32)) := D7 (Or.inr (H.w 21 rfl)) (ty := .byte) (by decide)
  refine go_run K 5 6 (pc' := 16) (st' := [(.int (i.toInt32 + n.toInt32)), (.int i.toInt32), (.ref t), (.ref a1), (.ref a1)]) rfl ?_
  rw [add_len]
  have c10 := (A1.ext E5)
  refine go_staticN K (k := 11) rfl (H.w 97 rfl) (H.w 98 rfl) (H.w 99 rfl) (H.w 100 rfl) (by decide) pd_10 (c_cor (i := i) (j := (i + n)) (m := cs.length) H hne (Nat.le_add_right _ _) hin hlt by8_len (by rw [Nat.add_sub_cancel_left]; exact hcap) c10) (argsL := [(.ref t), (.int i.toInt32), (.int (i + n).toInt32)]) (rest := [(.ref a1), (.ref a1)]) rfl rfl rfl sub0 rfl ?_
  rintro _ h11 Sf19 - ⟨u12, k13, rfl, E14, A15, g16, f17, s18⟩
  refine ⟨[u12], allS s18 all0, ?_⟩
  show Go G B M_nst _ h11 (u12 :: (a1 :: [])) 2 20 19 #[.val (.ref t), .val (.int i.toInt32), .val (.int n.toInt32)] [(.ref u12), (.ref a1), (.ref a1)]
  rw [show i + n - i = n by omega] at A15
  have hd : ((by8 cs).drop i).take n = by8 ((cs.drop i).take n) := by rw [by8_take, by8_drop]
  rw [hd, show n.toInt32 = ((cs.drop i).take n).length.toInt32 from by rw [List.length_take, List.length_drop, Nat.min_eq_left (by omega)]] at A15
  refine go_run K 12 1 (pc' := 20) (st' := [(.int (0 : Int32)), (.ref u12), (.ref a1), (.ref a1)]) rfl ?_
  have c20 := (A6.ext E14)
  have c21 := (F8.ext E14)
  have c22 := (F9.ext E14)
  refine go_special K (k := 13) rfl rfl (H.w 115 rfl) (H.w 116 rfl) (H.w 6 rfl) (H.w 117 rfl) (by decide) pd_6 (c_sib (t := u12) H c20 c21 c22 g4) (argsL := [(.ref u12), (.int (0 : Int32))]) (rest := [(.ref a1)]) rfl rfl rfl (subS (List.mem_cons_of_mem _ (List.mem_cons_self ..)) sub0) rfl ?_
  rintro _ h23 _ - ⟨rfl, K24, E25, F26, F27⟩
  show Go G B M_nst _ h23 (u12 :: (a1 :: [])) 2 20 23 #[.val (.ref t), .val (.int i.toInt32), .val (.int n.toInt32)] [(.ref a1)]
  have X28 : Ext h h11 := (Ext.tr E5 E14)
  have X29 : Ext h h23 := (Ext.keepN X28 K24 (allS (Nat.le_trans (Nat.le_refl _) (Nat.le_of_eq e3.symm)) all0))
  have c30 := (A15.keep K24 (ninS (Exa.neArv c20 A15 (H.w 5 rfl)).symm nin0))
  refine go_areturn K (k := 14) rfl rfl rfl rfl rfl rfl rfl ?_
  intro Sf hSf
  exact ⟨_, rfl, X29, _, _, E25, F26, F27, c30⟩
def P_sub : List (Nat × Instr × Nat) := [(0, .aload_n 0, 1), (1, .invokevirtual 505, 3), (4, .istore_n 3, 1), (5, .iload_n 1, 1), (6, .iload_n 2, 1), (7, .iload_n 3, 1), (8, .invokestatic 521, 3), (11, .iload_n 1, 1), (12, .ifCond .ne 10, 3), (15, .iload_n 2, 1), (16, .iload_n 3, 1), (17, .if_icmp .ne 5, 3), (20, .aload_n 0, 1), (21, .areturn, 1), (22, .iload_n 2, 1), (23, .iload_n 1, 1), (24, .isub, 1), (25, .istore 4, 2), (27, .aload_n 0, 1), (28, .invokevirtual 492, 3), (31, .ifCond .eq 16, 3), (34, .aload_n 0, 1), (35, .getfield 9, 3), (38, .iload_n 1, 1), (39, .iload 4, 2), (41, .invokestatic 685, 3), (44, .goto 13, 3), (47, .aload_n 0, 1), (48, .getfield 9, 3), (51, .iload_n 1, 1), (52, .iload 4, 2), (54, .invokestatic 689, 3), (57, .areturn, 1)]
theorem L_sub : ∀ q ∈ P_sub, decode jdk_42_method_92_code q.1 = .ok q.2 := by decide +kernel
def M_sub : Mt := (("java/lang/String", "substring", ({ frames := 4, cells := 2, slots := 20, locals := 64 } : Room)), P_sub, 5, (some (.object "java/lang/String")))
set_option maxRecDepth 65536 in
set_option maxHeartbeats 40000000 in
theorem c_sub {G : Gb} (H : Gl tables_1 els G) {h : Heap} {a : Addr} {cs : List Int32} {i j : Nat} (l1 : Lat cs) (hij : i ≤ j) (hjn : j ≤ cs.length) (hcap : j - i ≤ 16) (hlt2 : i < j) (hF : ∃ vf : Value, Sta G.Z G.Z.heap "jdk/internal/util/Preconditions" "SIOOBE_FORMATTER" "Ljava/util/function/BiFunction;" vf ∧ vf.isRef = true) (S1 : Str G h a cs) :
    Ctr G [] (⟨"java/lang/String", "substring", "(II)Ljava/lang/String;"⟩ : MethodName) jdk_42_method_92_code 5 (some (.object "java/lang/String")) ({ frames := 4, cells := 2, slots := 20, locals := 64 } : Room) #[.ref a, .int i.toInt32, .int j.toInt32] h [] (fun v h' Sf => ∃ s : Addr, v = some (.ref s) ∧ Ext h h' ∧ Str G h' s ((cs.drop i).take (j - i))) := by
  refine ctr_of M_sub rfl rfl (plainFor_of_name pn_1) L_sub H.el (Ls := #[.val (.ref a), .val (.int i.toInt32), .val (.int j.toInt32), .unset, .unset]) (fun m => ef_ok (by first | (simp [argsToLocals, Value.category]; done) | rfl)) ?_
  intro B K hE
  have hlt := lat_lt l1
  obtain ⟨t1, k2, e3, e4, e5, e6⟩ := id S1
  refine go_run K 0 1 (pc' := 1) (st' := [(.ref a)]) rfl ?_
  refine go_virt0 K (k := 1) rfl (H.w 78 rfl) (H.w 66 rfl) (H.w 65 rfl) (H.w 6 rfl) (H.w 67 rfl) (by decide) pd_13 S1.exa (c_len H S1) (argsL := []) (rest := []) rfl rfl rfl sub0 rfl ?_
  rintro _ _ _ - ⟨rfl, rfl⟩
  show Go G B M_sub _ h [] 0 0 4 #[.val (.ref a), .val (.int i.toInt32), .val (.int j.toInt32), .unset, .unset] [(.int (cs).length.toInt32)]
  show Go G B M_sub _ h [] 0 0 4 #[.val (.ref a), .val (.int i.toInt32), .val (.int j.toInt32), .unset, .unset] [(.int cs.length.toInt32)]
  refine go_run K 2 4 (pc' := 8) (Ls' := #[.val (.ref a), .val (.int i.toInt32), .val (.int j.toInt32), .val (.int cs.length.toInt32), .unset]) (st' := [(.int cs.length.toInt32), (.int j.toInt32), (.int i.toInt32)]) rfl ?_
  refine go_static K (k := 6) rfl (H.w 79 rfl) (H.w 80 rfl) (H.w 6 rfl) (H.w 81 rfl) (by decide) pd_23 (c_cbe (x := i.toInt32) (y := j.toInt32) (n := cs.length.toInt32) H hF (len_nn (by omega)) (len_nlt (by omega) hij) (len_nlt (by omega) hjn)) (argsL := [(.int i.toInt32), (.int j.toInt32), (.int cs.length.toInt32)]) (rest := []) rfl rfl rfl sub0 rfl ?_
  rintro _ _ _ - ⟨rfl, rfl⟩
  show Go G B M_sub _ h [] 0 0 11 #[.val (.ref a), .val (.int i.toInt32), .val (.int j.toInt32), .val (.int cs.length.toInt32), .unset] []
  refine go_run K 7 1 (pc' := 12) (st' := [(.int i.toInt32)]) rfl ?_
  refine go_ifne K (k := 8) rfl (pc' := 22) (by decide) (fun q7 => ?_) (fun q8 => ?_)
  · refine go_run K 14 5 (pc' := 28) (Ls' := #[.val (.ref a), .val (.int i.toInt32), .val (.int j.toInt32), .val (.int cs.length.toInt32), .val (.int (j.toInt32 - i.toInt32))]) (st' := [(.ref a)]) rfl ?_
    rw [sub_len hij]
    refine go_virt0 K (k := 19) rfl (H.w 87 rfl) (H.w 90 rfl) (H.w 89 rfl) (H.w 6 rfl) (H.w 91 rfl) (by decide) pd_18 S1.exa (c_isl H S1) (argsL := []) (rest := []) rfl rfl rfl sub0 rfl ?_
    rintro _ _ _ - ⟨rfl, rfl⟩
    show Go G B M_sub _ h [] 0 0 31 #[.val (.ref a), .val (.int i.toInt32), .val (.int j.toInt32), .val (.int cs.length.toInt32), .val (.int (j - i).toInt32)] [(.int (1 : Int32))]
    refine go_ifeq K (k := 20) rfl (pc' := 47) (by decide) (fun q => absurd q (by decide)) (fun _ => ?_)
    refine go_run K 21 1 (pc' := 35) (st' := [(.ref a)]) rfl ?_
    refine go_getfield K (k := 22) rfl (host := "") (Or.inl (H.w 24 rfl)) Via.refl e5 ?_
    refine go_run K 23 2 (pc' := 41) (st' := [(.int (j - i).toInt32), (.int i.toInt32), (.ref t1)]) rfl ?_
    refine go_static K (k := 25) rfl (H.w 92 rfl) (H.w 93 rfl) (H.w 94 rfl) (H.w 95 rfl) (by decide) pd_24 (c_nst (cs := cs) (i := i) (n := (j - i)) H l1 (by omega) hcap (fun e => q7 (by rw [e.1]; rfl)) (by omega) e6) (argsL := [(.ref t1), (.int i.toInt32), (.int (j - i).toInt32)]) (rest := []) rfl rfl rfl sub0 rfl ?_
    rintro _ h9 _ - ⟨a10, rfl, E11, S12⟩
    show Go G B M_sub _ h9 [] 2 20 44 #[.val (.ref a), .val (.int i.toInt32), .val (.int j.toInt32), .val (.int cs.length.toInt32), .val (.int (j - i).toInt32)] [(.ref a10)]
    refine go_run K 26 1 (pc' := 57) (st' := [(.ref a10)]) rfl ?_
    refine go_areturn K (k := 32) rfl rfl rfl rfl rfl rfl rfl ?_
    intro Sf hSf
    exact ⟨_, rfl, E11, S12⟩
  · refine go_run K 9 2 (pc' := 17) (st' := [(.int cs.length.toInt32), (.int j.toInt32)]) rfl ?_
    refine go_icmpne K (k := 11) rfl (pc' := 22) (by decide) (fun q13 => ?_) (fun q14 => ?_)
    · refine go_run K 14 5 (pc' := 28) (Ls' := #[.val (.ref a), .val (.int i.toInt32), .val (.int j.toInt32), .val (.int cs.length.toInt32), .val (.int (j.toInt32 - i.toInt32))]) (st' := [(.ref a)]) rfl ?_
      rw [sub_len hij]
      refine go_virt0 K (k := 19) rfl (H.w 87 rfl) (H.w 90 rfl) (H.w 89 rfl) (H.w 6 rfl) (H.w 91 rfl) (by decide) pd_18 S1.exa (c_isl H S1) (argsL := []) (rest := []) rfl rfl rfl sub0 rfl ?_
      rintro _ _ _ - ⟨rfl, rfl⟩
      show Go G B M_sub _ h [] 0 0 31 #[.val (.ref a), .val (.int i.toInt32), .val (.int j.toInt32), .val (.int cs.length.toInt32), .val (.int (j - i).toInt32)] [(.int (1 : Int32))]
      refine go_ifeq K (k := 20) rfl (pc' := 47) (by decide) (fun q => absurd q (by decide)) (fun _ => ?_)
      refine go_run K 21 1 (pc' := 35) (st' := [(.ref a)]) rfl ?_
      refine go_getfield K (k := 22) rfl (host := "") (Or.inl (H.w 24 rfl)) Via.refl e5 ?_
      refine go_run K 23 2 (pc' := 41) (st' := [(.int (j - i).toInt32), (.int i.toInt32), (.ref t1)]) rfl ?_
      refine go_static K (k := 25) rfl (H.w 92 rfl) (H.w 93 rfl) (H.w 94 rfl) (H.w 95 rfl) (by decide) pd_24 (c_nst (cs := cs) (i := i) (n := (j - i)) H l1 (by omega) hcap (fun e => q13 (by rw [show j = cs.length by omega])) (by omega) e6) (argsL := [(.ref t1), (.int i.toInt32), (.int (j - i).toInt32)]) (rest := []) rfl rfl rfl sub0 rfl ?_
      rintro _ h15 _ - ⟨a16, rfl, E17, S18⟩
      show Go G B M_sub _ h15 [] 2 20 44 #[.val (.ref a), .val (.int i.toInt32), .val (.int j.toInt32), .val (.int cs.length.toInt32), .val (.int (j - i).toInt32)] [(.ref a16)]
      refine go_run K 26 1 (pc' := 57) (st' := [(.ref a16)]) rfl ?_
      refine go_areturn K (k := 32) rfl rfl rfl rfl rfl rfl rfl ?_
      intro Sf hSf
      exact ⟨_, rfl, E17, S18⟩
    · refine go_run K 12 1 (pc' := 21) (st' := [(.ref a)]) rfl ?_
      have hi0 := len_zero (by omega) q8
      have hjn0 := len_inj (by omega) (by omega) q14
      refine go_areturn K (k := 13) rfl rfl rfl rfl rfl rfl rfl ?_
      intro Sf hSf
      refine ⟨_, rfl, Ext.rf _, ?_⟩
      rw [hi0, hjn0, List.drop_zero, Nat.sub_zero, List.take_length]
      exact S1
theorem pn_8 : plainName "java/lang/Record" = true := by first | (simp [plainName, overriddenIn]; done) | decide +kernel
def P_rec : List (Nat × Instr × Nat) := [(0, .aload_n 0, 1), (1, .invokespecial 1, 3), (4, .return_, 1)]
theorem L_rec : ∀ q ∈ P_rec, decode jdk_30_method_1_code q.1 = .ok q.2 := by decide +kernel
def M_rec : Mt := (("java/lang/Record", "<init>", ({ frames := 1, cells := 0, slots := 0, locals := 12 } : Room)), P_rec, 1, none)
set_option maxRecDepth 65536 in
set_option maxHeartbeats 40000000 in
theorem c_rec {G : Gb} (H : Gl tables_1 els G) {h : Heap} {a : Addr} :
    Ctr G [] (⟨"java/lang/Record", "<init>", "()V"⟩ : MethodName) jdk_30_method_1_code 1 none ({ frames := 1, cells := 0, slots := 0, locals := 12 } : Room) #[.ref a] h [] (fun v h' Sf => v = none ∧ h = h') := by
  refine ctr_of M_rec rfl rfl (plainFor_of_name pn_8) L_rec H.el (Ls := #[.val (.ref a)]) (fun m => ef_ok (by first | (simp [argsToLocals, Value.category]; done) | rfl)) ?_
  intro B K hE
  refine go_run K 0 1 (pc' := 1) (st' := [(.ref a)]) rfl ?_
  refine go_init0 K (k := 1) rfl (H.w 49 rfl) (H.w 16 rfl) (H.w 17 rfl) rfl rfl rfl ?_
  refine go_return K (k := 2) rfl rfl rfl rfl ?_
  intro Sf hSf
  exact ⟨rfl, rfl⟩
theorem pn_9 : plainName "com/example/crosswarden/crosswarden/web/Destination" = true := by first | (simp [plainName, overriddenIn]; done) | decide +kernel
def P_de : List (Nat × Instr × Nat) := [(0, .aload_n 0, 1), (1, .invokespecial 1, 3), (4, .aload_n 0, 1), (5, .aload_n 1, 1), (6, .putfield 7, 3), (9, .aload_n 0, 1), (10, .aload_n 2, 1), (11, .putfield 13, 3), (14, .aload_n 0, 1), (15, .iload_n 3, 1), (16, .putfield 16, 3), (19, .aload_n 0, 1), (20, .aload 4, 2), (22, .putfield 20, 3), (25, .return_, 1)]
theorem L_de : ∀ q ∈ P_de, decode prog_12_method_1_code q.1 = .ok q.2 := by decide +kernel
def M_de : Mt := (("com/example/crosswarden/crosswarden/web/Destination", "<init>", ({ frames := 2, cells := 0, slots := 0, locals := 24 } : Room)), P_de, 5, none)
set_option maxRecDepth 65536 in
set_option maxHeartbeats 40000000 in
theorem c_de {G : Gb} (H : Gl tables_1 els G) {h : Heap} {a : Addr} {r0 : Addr} {r1 : Addr} {p2 : Int32} {r3 : Addr} (E0 : Exa G.Z h a "com/example/crosswarden/crosswarden/web/Destination") (f0 : Fld G.Z h a "com/example/crosswarden/crosswarden/web/Destination" "url" "Ljava/lang/String;" .null) (f1 : Fld G.Z h a "com/example/crosswarden/crosswarden/web/Destination" "host" "Ljava/lang/String;" .null) (f2 : Fld G.Z h a "com/example/crosswarden/crosswarden/web/Destination" "query" "Z" (.int (0 : Int32))) (f3 : Fld G.Z h a "com/example/crosswarden/crosswarden/web/Destination" "fragment" "Ljava/lang/String;" .null) (g0 : G.Z.heap.size ≤ a) (b2 : p2 = 0 ∨ p2 = 1) :
    Ctr G [] (⟨"com/example/crosswarden/crosswarden/web/Destination", "<init>", "(Ljava/lang/String;Ljava/lang/String;ZLjava/lang/String;)V"⟩ : MethodName) prog_12_method_1_code 5 none ({ frames := 2, cells := 0, slots := 0, locals := 24 } : Room) #[.ref a, .ref r0, .ref r1, .int p2, .ref r3] h [] (fun v h' Sf => v = none ∧ Keep h h' [a] ∧ Exa G.Z h' a "com/example/crosswarden/crosswarden/web/Destination" ∧ Fld G.Z h' a "com/example/crosswarden/crosswarden/web/Destination" "url" "Ljava/lang/String;" (.ref r0) ∧ Fld G.Z h' a "com/example/crosswarden/crosswarden/web/Destination" "host" "Ljava/lang/String;" (.ref r1) ∧ Fld G.Z h' a "com/example/crosswarden/crosswarden/web/Destination" "query" "Z" (.int p2) ∧ Fld G.Z h' a "com/example/crosswarden/crosswarden/web/Destination" "fragment" "Ljava/lang/String;" (.ref r3)) := by
  refine ctr_of M_de rfl rfl (plainFor_of_name pn_9) L_de H.el (Ls := #[.val (.ref a), .val (.ref r0), .val (.ref r1), .val (.int p2), .val (.ref r3)]) (fun m => ef_ok (by first | (simp [argsToLocals, Value.category]; done) | rfl)) ?_
  intro B K hE
  refine go_run K 0 1 (pc' := 1) (st' := [(.ref a)]) rfl ?_
  refine go_special K (k := 1) rfl rfl (H.w 44 rfl) (H.w 45 rfl) (H.w 47 rfl) (H.w 48 rfl) (by decide) pd_25 (c_rec (a := a) H) (argsL := []) (rest := []) rfl rfl rfl sub0 rfl ?_
  rintro _ _ _ - ⟨rfl, rfl⟩
  show Go G B M_de _ h [] 0 0 4 #[.val (.ref a), .val (.ref r0), .val (.ref r1), .val (.int p2), .val (.ref r3)] []
  refine go_run K 2 2 (pc' := 6) (st' := [(.ref r0), (.ref a)]) rfl ?_
  refine go_putfield K (k := 4) rfl (host := "") (Or.inl (H.w 50 rfl)) Via.refl f0 E0 (Or.inr ⟨(H.w 51 rfl), rfl, rfl⟩) (H.w 38 rfl) (ty := (.object "java/lang/String")) (by decide) rfl rfl g0 (Or.inr (by decide)) ?_
  intro h1 W2
  have F3 : Exa G.Z h1 a "com/example/crosswarden/crosswarden/web/Destination" := Exa.wr W2 E0
  have F4 : Fld G.Z h1 a "com/example/crosswarden/crosswarden/web/Destination" "url" "Ljava/lang/String;" (.ref r0) := Fld.same W2 f0
  have F5 : Fld G.Z h1 a "com/example/crosswarden/crosswarden/web/Destination" "host" "Ljava/lang/String;" .null := Fld.other W2 f1 (Or.inr (slot_ne (Or.inr (H.w 53 rfl)) (Or.inr (H.w 51 rfl)) (by decide) (t := (.object "java/lang/String")) (t' := (.object "java/lang/String")) (by decide) (by decide)))
  have F6 : Fld G.Z h1 a "com/example/crosswarden/crosswarden/web/Destination" "query" "Z" (.int (0 : Int32)) := Fld.other W2 f2 (Or.inr (slot_ne (Or.inr (H.w 55 rfl)) (Or.inr (H.w 51 rfl)) (by decide) (t := .boolean) (t' := (.object "java/lang/String")) (by decide) (by decide)))
  have F7 : Fld G.Z h1 a "com/example/crosswarden/crosswarden/web/Destination" "fragment" "Ljava/lang/String;" .null := Fld.other W2 f3 (Or.inr (slot_ne (Or.inr (H.w 57 rfl)) (Or.inr (H.w 51 rfl)) (by decide) (t := (.object "java/lang/String")) (t' := (.object "java/lang/String")) (by decide) (by decide)))
  refine go_run K 5 2 (pc' := 11) (st' := [(.ref r1), (.ref a)]) rfl ?_
  refine go_putfield K (k := 7) rfl (host := "") (Or.inl (H.w 52 rfl)) Via.refl F5 F3 (Or.inr ⟨(H.w 53 rfl), rfl, rfl⟩) (H.w 38 rfl) (ty := (.object "java/lang/String")) (by decide) rfl rfl g0 (Or.inr (by decide)) ?_
  intro h8 W9
  have F10 : Exa G.Z h8 a "com/example/crosswarden/crosswarden/web/Destination" := Exa.wr W9 F3
  have F11 : Fld G.Z h8 a "com/example/crosswarden/crosswarden/web/Destination" "url" "Ljava/lang/String;" (.ref r0) := Fld.other W9 F4 (Or.inr (slot_ne (Or.inr (H.w 51 rfl)) (Or.inr (H.w 53 rfl)) (by decide) (t := (.object "java/lang/String")) (t' := (.object "java/lang/String")) (by decide) (by decide)))
  have F12 : Fld G.Z h8 a "com/example/crosswarden/crosswarden/web/Destination" "host" "Ljava/lang/String;" (.ref r1) := Fld.same W9 F5
  have F13 : Fld G.Z h8 a "com/example/crosswarden/crosswarden/web/Destination" "query" "Z" (.int (0 : Int32)) := Fld.other W9 F6 (Or.inr (slot_ne (Or.inr (H.w 55 rfl)) (Or.inr (H.w 53 rfl)) (by decide) (t := .boolean) (t' := (.object "java/lang/String")) (by decide) (by decide)))
  have F14 : Fld G.Z h8 a "com/example/crosswarden/crosswarden/web/Destination" "fragment" "Ljava/lang/String;" .null := Fld.other W9 F7 (Or.inr (slot_ne (Or.inr (H.w 57 rfl)) (Or.inr (H.w 53 rfl)) (by decide) (t := (.object "java/lang/String")) (t' := (.object "java/lang/String")) (by decide) (by decide)))
  refine go_run K 8 2 (pc' := 16) (st' := [(.int p2), (.ref a)]) rfl ?_
  refine go_putfield K (k := 10) rfl (host := "") (Or.inl (H.w 54 rfl)) Via.refl F13 F10 (Or.inr ⟨(H.w 55 rfl), rfl, rfl⟩) (H.w 38 rfl) (ty := .boolean) (by decide) (bool_n b2) (bool_f b2) g0 (Or.inr (by decide)) ?_
  intro h15 W16
  have F17 : Exa G.Z h15 a "com/example/crosswarden/crosswarden/web/Destination" := Exa.wr W16 F10
  have F18 : Fld G.Z h15 a "com/example/crosswarden/crosswarden/web/Destination" "url" "Ljava/lang/String;" (.ref r0) := Fld.other W16 F11 (Or.inr (slot_ne (Or.inr (H.w 51 rfl)) (Or.inr (H.w 55 rfl)) (by decide) (t := (.object "java/lang/String")) (t' := .boolean) (by decide) (by decide)))
  have F19 : Fld G.Z h15 a "com/example/crosswarden/crosswarden/web/Destination" "host" "Ljava/lang/String;" (.ref r1) := Fld.other W16 F12 (Or.inr (slot_ne (Or.inr (H.w 53 rfl)) (Or.inr (H.w 55 rfl)) (by decide) (t := (.object "java/lang/String")) (t' := .boolean) (by decide) (by decide)))
  have F20 : Fld G.Z h15 a "com/example/crosswarden/crosswarden/web/Destination" "query" "Z" (.int p2) := Fld.same W16 F13
  have F21 : Fld G.Z h15 a "com/example/crosswarden/crosswarden/web/Destination" "fragment" "Ljava/lang/String;" .null := Fld.other W16 F14 (Or.inr (slot_ne (Or.inr (H.w 57 rfl)) (Or.inr (H.w 55 rfl)) (by decide) (t := (.object "java/lang/String")) (t' := .boolean) (by decide) (by decide)))
  refine go_run K 11 2 (pc' := 22) (st' := [(.ref r3), (.ref a)]) rfl ?_
  refine go_putfield K (k := 13) rfl (host := "") (Or.inl (H.w 56 rfl)) Via.refl F21 F17 (Or.inr ⟨(H.w 57 rfl), rfl, rfl⟩) (H.w 38 rfl) (ty := (.object "java/lang/String")) (by decide) rfl rfl g0 (Or.inr (by decide)) ?_
  intro h22 W23
  have F24 : Exa G.Z h22 a "com/example/crosswarden/crosswarden/web/Destination" := Exa.wr W23 F17
  have F25 : Fld G.Z h22 a "com/example/crosswarden/crosswarden/web/Destination" "url" "Ljava/lang/String;" (.ref r0) := Fld.other W23 F18 (Or.inr (slot_ne (Or.inr (H.w 51 rfl)) (Or.inr (H.w 57 rfl)) (by decide) (t := (.object "java/lang/String")) (t' := (.object "java/lang/String")) (by decide) (by decide)))
  have F26 : Fld G.Z h22 a "com/example/crosswarden/crosswarden/web/Destination" "host" "Ljava/lang/String;" (.ref r1) := Fld.other W23 F19 (Or.inr (slot_ne (Or.inr (H.w 53 rfl)) (Or.inr (H.w 57 rfl)) (by decide) (t := (.object "java/lang/String")) (t' := (.object "java/lang/String")) (by decide) (by decide)))
  have F27 : Fld G.Z h22 a "com/example/crosswarden/crosswarden/web/Destination" "query" "Z" (.int p2) := Fld.other W23 F20 (Or.inr (slot_ne (Or.inr (H.w 55 rfl)) (Or.inr (H.w 57 rfl)) (by decide) (t := .boolean) (t' := (.object "java/lang/String")) (by decide) (by decide)))
  have F28 : Fld G.Z h22 a "com/example/crosswarden/crosswarden/web/Destination" "fragment" "Ljava/lang/String;" (.ref r3) := Fld.same W23 F21
  refine go_return K (k := 14) rfl rfl rfl rfl ?_
  intro Sf hSf
  exact ⟨rfl, (((((Keep.refl _ [a]).wr W2 (Or.inl (List.mem_cons_self ..))).wr W9 (Or.inl (List.mem_cons_self ..))).wr W16 (Or.inl (List.mem_cons_self ..))).wr W23 (Or.inl (List.mem_cons_self ..))), F24, F25, F26, F27, F28⟩
set_option maxRecDepth 65536 in
set_option maxHeartbeats 40000000 in
theorem c_deN {G : Gb} (H : Gl tables_1 els G) {h : Heap} {a : Addr} {r0 : Addr} {r1 : Addr} {p2 : Int32} (E0 : Exa G.Z h a "com/example/crosswarden/crosswarden/web/Destination") (f0 : Fld G.Z h a "com/example/crosswarden/crosswarden/web/Destination" "url" "Ljava/lang/String;" .null) (f1 : Fld G.Z h a "com/example/crosswarden/crosswarden/web/Destination" "host" "Ljava/lang/String;" .null) (f2 : Fld G.Z h a "com/example/crosswarden/crosswarden/web/Destination" "query" "Z" (.int (0 : Int32))) (f3 : Fld G.Z h a "com/example/crosswarden/crosswarden/web/Destination" "fragment" "Ljava/lang/String;" .null) (g0 : G.Z.heap.size ≤ a) (b2 : p2 = 0 ∨ p2 = 1) :
    Ctr G [] (⟨"com/example/crosswarden/crosswarden/web/Destination", "<init>", "(Ljava/lang/String;Ljava/lang/String;ZLjava/lang/String;)V"⟩ : MethodName) prog_12_method_1_code 5 none ({ frames := 2, cells := 0, slots := 0, locals := 24 } : Room) #[.ref a, .ref r0, .ref r1, .int p2, .null] h [] (fun v h' Sf => v = none ∧ Keep h h' [a] ∧ Exa G.Z h' a "com/example/crosswarden/crosswarden/web/Destination" ∧ Fld G.Z h' a "com/example/crosswarden/crosswarden/web/Destination" "url" "Ljava/lang/String;" (.ref r0) ∧ Fld G.Z h' a "com/example/crosswarden/crosswarden/web/Destination" "host" "Ljava/lang/String;" (.ref r1) ∧ Fld G.Z h' a "com/example/crosswarden/crosswarden/web/Destination" "query" "Z" (.int p2) ∧ Fld G.Z h' a "com/example/crosswarden/crosswarden/web/Destination" "fragment" "Ljava/lang/String;" .null) := by
  refine ctr_of M_de rfl rfl (plainFor_of_name pn_9) L_de H.el (Ls := #[.val (.ref a), .val (.ref r0), .val (.ref r1), .val (.int p2), .val .null]) (fun m => ef_ok (by first | (simp [argsToLocals, Value.category]; done) | rfl)) ?_
  intro B K hE
  refine go_run K 0 1 (pc' := 1) (st' := [(.ref a)]) rfl ?_
  refine go_special K (k := 1) rfl rfl (H.w 44 rfl) (H.w 45 rfl) (H.w 47 rfl) (H.w 48 rfl) (by decide) pd_25 (c_rec (a := a) H) (argsL := []) (rest := []) rfl rfl rfl sub0 rfl ?_
  rintro _ _ _ - ⟨rfl, rfl⟩
  show Go G B M_de _ h [] 0 0 4 #[.val (.ref a), .val (.ref r0), .val (.ref r1), .val (.int p2), .val .null] []
  refine go_run K 2 2 (pc' := 6) (st' := [(.ref r0), (.ref a)]) rfl ?_
  refine go_putfield K (k := 4) rfl (host := "") (Or.inl (H.w 50 rfl)) Via.refl f0 E0 (Or.inr ⟨(H.w 51 rfl), rfl, rfl⟩) (H.w 38 rfl) (ty := (.object "java/lang/String")) (by decide) rfl rfl g0 (Or.inr (by decide)) ?_
  intro h1 W2
  have F3 : Exa G.Z h1 a "com/example/crosswarden/crosswarden/web/Destination" := Exa.wr W2 E0
  have F4 : Fld G.Z h1 a "com/example/crosswarden/crosswarden/web/Destination" "url" "Ljava/lang/String;" (.ref r0) := Fld.same W2 f0
  have F5 : Fld G.Z h1 a "com/example/crosswarden/crosswarden/web/Destination" "host" "Ljava/lang/String;" .null := Fld.other W2 f1 (Or.inr (slot_ne (Or.inr (H.w 53 rfl)) (Or.inr (H.w 51 rfl)) (by decide) (t := (.object "java/lang/String")) (t' := (.object "java/lang/String")) (by decide) (by decide)))
  have F6 : Fld G.Z h1 a "com/example/crosswarden/crosswarden/web/Destination" "query" "Z" (.int (0 : Int32)) := Fld.other W2 f2 (Or.inr (slot_ne (Or.inr (H.w 55 rfl)) (Or.inr (H.w 51 rfl)) (by decide) (t := .boolean) (t' := (.object "java/lang/String")) (by decide) (by decide)))
  have F7 : Fld G.Z h1 a "com/example/crosswarden/crosswarden/web/Destination" "fragment" "Ljava/lang/String;" .null := Fld.other W2 f3 (Or.inr (slot_ne (Or.inr (H.w 57 rfl)) (Or.inr (H.w 51 rfl)) (by decide) (t := (.object "java/lang/String")) (t' := (.object "java/lang/String")) (by decide) (by decide)))
  refine go_run K 5 2 (pc' := 11) (st' := [(.ref r1), (.ref a)]) rfl ?_
  refine go_putfield K (k := 7) rfl (host := "") (Or.inl (H.w 52 rfl)) Via.refl F5 F3 (Or.inr ⟨(H.w 53 rfl), rfl, rfl⟩) (H.w 38 rfl) (ty := (.object "java/lang/String")) (by decide) rfl rfl g0 (Or.inr (by decide)) ?_
  intro h8 W9
  have F10 : Exa G.Z h8 a "com/example/crosswarden/crosswarden/web/Destination" := Exa.wr W9 F3
  have F11 : Fld G.Z h8 a "com/example/crosswarden/crosswarden/web/Destination" "url" "Ljava/lang/String;" (.ref r0) := Fld.other W9 F4 (Or.inr (slot_ne (Or.inr (H.w 51 rfl)) (Or.inr (H.w 53 rfl)) (by decide) (t := (.object "java/lang/String")) (t' := (.object "java/lang/String")) (by decide) (by decide)))
  have F12 : Fld G.Z h8 a "com/example/crosswarden/crosswarden/web/Destination" "host" "Ljava/lang/String;" (.ref r1) := Fld.same W9 F5
  have F13 : Fld G.Z h8 a "com/example/crosswarden/crosswarden/web/Destination" "query" "Z" (.int (0 : Int32)) := Fld.other W9 F6 (Or.inr (slot_ne (Or.inr (H.w 55 rfl)) (Or.inr (H.w 53 rfl)) (by decide) (t := .boolean) (t' := (.object "java/lang/String")) (by decide) (by decide)))
  have F14 : Fld G.Z h8 a "com/example/crosswarden/crosswarden/web/Destination" "fragment" "Ljava/lang/String;" .null := Fld.other W9 F7 (Or.inr (slot_ne (Or.inr (H.w 57 rfl)) (Or.inr (H.w 53 rfl)) (by decide) (t := (.object "java/lang/String")) (t' := (.object "java/lang/String")) (by decide) (by decide)))
  refine go_run K 8 2 (pc' := 16) (st' := [(.int p2), (.ref a)]) rfl ?_
  refine go_putfield K (k := 10) rfl (host := "") (Or.inl (H.w 54 rfl)) Via.refl F13 F10 (Or.inr ⟨(H.w 55 rfl), rfl, rfl⟩) (H.w 38 rfl) (ty := .boolean) (by decide) (bool_n b2) (bool_f b2) g0 (Or.inr (by decide)) ?_
  intro h15 W16
  have F17 : Exa G.Z h15 a "com/example/crosswarden/crosswarden/web/Destination" := Exa.wr W16 F10
  have F18 : Fld G.Z h15 a "com/example/crosswarden/crosswarden/web/Destination" "url" "Ljava/lang/String;" (.ref r0) := Fld.other W16 F11 (Or.inr (slot_ne (Or.inr (H.w 51 rfl)) (Or.inr (H.w 55 rfl)) (by decide) (t := (.object "java/lang/String")) (t' := .boolean) (by decide) (by decide)))
  have F19 : Fld G.Z h15 a "com/example/crosswarden/crosswarden/web/Destination" "host" "Ljava/lang/String;" (.ref r1) := Fld.other W16 F12 (Or.inr (slot_ne (Or.inr (H.w 53 rfl)) (Or.inr (H.w 55 rfl)) (by decide) (t := (.object "java/lang/String")) (t' := .boolean) (by decide) (by decide)))
  have F20 : Fld G.Z h15 a "com/example/crosswarden/crosswarden/web/Destination" "query" "Z" (.int p2) := Fld.same W16 F13
  have F21 : Fld G.Z h15 a "com/example/crosswarden/crosswarden/web/Destination" "fragment" "Ljava/lang/String;" .null := Fld.other W16 F14 (Or.inr (slot_ne (Or.inr (H.w 57 rfl)) (Or.inr (H.w 55 rfl)) (by decide) (t := (.object "java/lang/String")) (t' := .boolean) (by decide) (by decide)))
  refine go_run K 11 2 (pc' := 22) (st' := [.null, (.ref a)]) rfl ?_
  refine go_putfield K (k := 13) rfl (host := "") (Or.inl (H.w 56 rfl)) Via.refl F21 F17 (Or.inr ⟨(H.w 57 rfl), rfl, rfl⟩) (H.w 38 rfl) (ty := (.object "java/lang/String")) (by decide) rfl rfl g0 (Or.inr (by decide)) ?_
  intro h22 W23
  have F24 : Exa G.Z h22 a "com/example/crosswarden/crosswarden/web/Destination" := Exa.wr W23 F17
  have F25 : Fld G.Z h22 a "com/example/crosswarden/crosswarden/web/Destination" "url" "Ljava/lang/String;" (.ref r0) := Fld.other W23 F18 (Or.inr (slot_ne (Or.inr (H.w 51 rfl)) (Or.inr (H.w 57 rfl)) (by decide) (t := (.object "java/lang/String")) (t' := (.object "java/lang/String")) (by decide) (by decide)))
  have F26 : Fld G.Z h22 a "com/example/crosswarden/crosswarden/web/Destination" "host" "Ljava/lang/String;" (.ref r1) := Fld.other W23 F19 (Or.inr (slot_ne (Or.inr (H.w 53 rfl)) (Or.inr (H.w 57 rfl)) (by decide) (t := (.object "java/lang/String")) (t' := (.object "java/lang/String")) (by decide) (by decide)))
  have F27 : Fld G.Z h22 a "com/example/crosswarden/crosswarden/web/Destination" "query" "Z" (.int p2) := Fld.other W23 F20 (Or.inr (slot_ne (Or.inr (H.w 55 rfl)) (Or.inr (H.w 57 rfl)) (by decide) (t := .boolean) (t' := (.object "java/lang/String")) (by decide) (by decide)))
  have F28 : Fld G.Z h22 a "com/example/crosswarden/crosswarden/web/Destination" "fragment" "Ljava/lang/String;" .null := Fld.same W23 F21
  refine go_return K (k := 14) rfl rfl rfl rfl ?_
  intro Sf hSf
  exact ⟨rfl, (((((Keep.refl _ [a]).wr W2 (Or.inl (List.mem_cons_self ..))).wr W9 (Or.inl (List.mem_cons_self ..))).wr W16 (Or.inl (List.mem_cons_self ..))).wr W23 (Or.inl (List.mem_cons_self ..))), F24, F25, F26, F27, F28⟩
theorem pn_10 : plainName "com/example/crosswarden/crosswarden/web/DestinationWithArgumentsPinLaw" = true := by first | (simp [plainName, overriddenIn]; done) | decide +kernel
def P_ch : List (Nat × Instr × Nat) := [(0, .iload_n 0, 1), (1, .iload_n 1, 1), (2, .iushr, 1), (3, .sipush 255, 3), (6, .iand, 1), (7, .istore_n 2, 1), (8, .iload_n 2, 1), (9, .bipush 35, 2), (11, .if_icmp .ne 8, 3), (14, .bipush 65, 2), (16, .goto 5, 3), (19, .iload_n 2, 1), (20, .i2c, 1), (21, .ireturn, 1)]
theorem L_ch : ∀ q ∈ P_ch, decode method_2_code q.1 = .ok q.2 := by decide +kernel
def M_ch : Mt := (("com/example/crosswarden/crosswarden/web/DestinationWithArgumentsPinLaw", "ch", ({ frames := 0, cells := 0, slots := 0, locals := 0 } : Room)), P_ch, 3, (some .char))
set_option maxRecDepth 65536 in
set_option maxHeartbeats 40000000 in
theorem c_ch {G : Gb} (H : Gl tables_1 els G) {h : Heap} {x y : Int32} :
    Ctr G [] (⟨"com/example/crosswarden/crosswarden/web/DestinationWithArgumentsPinLaw", "ch", "(II)C"⟩ : MethodName) method_2_code 3 (some .char) ({ frames := 0, cells := 0, slots := 0, locals := 0 } : Room) #[.int x, .int y] h [] (fun v h' Sf => ∃ r : Int32, v = some (.int r) ∧ h = h' ∧ (¬ r < 0 ∧ ¬ (255 : Int32) < r)) := by
  refine ctr_of M_ch rfl rfl (plainFor_of_name pn_10) L_ch H.el (Ls := #[.val (.int x), .val (.int y), .unset]) (fun m => ef_ok (by first | (simp [argsToLocals, Value.category]; done) | rfl)) ?_
  intro B K hE
  refine go_run K 0 8 (pc' := 11) (Ls' := #[.val (.int x), .val (.int y), .val (.int ((XT.ushr x y) &&& (255 : Int32)))]) (st' := [(.int (35 : Int32)), (.int ((XT.ushr x y) &&& (255 : Int32)))]) rfl ?_
  refine go_icmpne K (k := 8) rfl (pc' := 19) (by decide) (fun q1 => ?_) (fun q2 => ?_)
  · refine go_run K 11 2 (pc' := 21) (st' := [(.int (((XT.ushr x y) &&& (255 : Int32))).toUInt32.toUInt16.toUInt32.toInt32)]) rfl ?_
    rw [i2c_mask (XT.ushr x y)]
    refine go_ireturn K (k := 13) rfl rfl (by decide) (char_n (c8_lat _)) rfl rfl ?_
    intro Sf hSf
    exact ⟨_, rfl, rfl, c8_lat _⟩
  · refine go_run K 9 2 (pc' := 21) (st' := [(.int (65 : Int32))]) rfl ?_
    refine go_ireturn K (k := 13) rfl rfl (by decide) rfl rfl rfl ?_
    intro Sf hSf
    exact ⟨_, rfl, rfl, by decide⟩
def P_wa : List (Nat × Instr × Nat) := [(0, .aload_n 0, 1), (1, .getfield 20, 3), (4, .ifnonnull 10, 3), (7, .aload_n 0, 1), (8, .getfield 7, 3), (11, .goto 28, 3), (14, .aload_n 0, 1), (15, .getfield 7, 3), (18, .iconst 0, 1), (19, .aload_n 0, 1), (20, .getfield 7, 3), (23, .invokevirtual 107, 3), (26, .aload_n 0, 1), (27, .getfield 20, 3), (30, .invokevirtual 107, 3), (33, .isub, 1), (34, .iconst 1, 1), (35, .isub, 1), (36, .invokevirtual 111, 3), (39, .astore_n 2, 1), (40, .aload_n 0, 1), (41, .getfield 20, 3), (44, .ifnonnull 8, 3), (47, .ldc 68, 2), (49, .goto 25, 3), (52, .new 115, 3), (55, .dup, 1), (56, .invokespecial 117, 3), (59, .ldc 118, 2), (61, .invokevirtual 120, 3), (64, .aload_n 0, 1), (65, .getfield 20, 3), (68, .invokevirtual 120, 3), (71, .invokevirtual 124, 3), (74, .astore_n 3, 1), (75, .new 115, 3), (78, .dup, 1), (79, .invokespecial 117, 3), (82, .aload_n 2, 1), (83, .invokevirtual 120, 3), (86, .aload_n 0, 1), (87, .getfield 16, 3), (90, .ifCond .eq 8, 3), (93, .ldc 127, 2), (95, .goto 5, 3), (98, .ldc 129, 2), (100, .invokevirtual 120, 3), (103, .aload_n 1, 1), (104, .invokevirtual 120, 3), (107, .aload_n 3, 1), (108, .invokevirtual 120, 3), (111, .invokevirtual 124, 3), (114, .areturn, 1)]
theorem L_wa : ∀ q ∈ P_wa, decode prog_12_method_3_code q.1 = .ok q.2 := by decide +kernel
def M_wa : Mt := (("com/example/crosswarden/crosswarden/web/Destination", "withArguments", ({ frames := 6, cells := 14, slots := 116, locals := 91 } : Room)), P_wa, 4, (some (.object "java/lang/String")))
set_option maxRecDepth 65536 in
set_option maxHeartbeats 40000000 in
theorem c_wa {G : Gb} (H : Gl tables_1 els G) {h : Heap} {q u f s : Addr} {us fs as : List Int32} {qv sp : Int32} (l0 : Lat us) (l1 : Lat (us ++ (35 : Int32) :: fs)) (l2 : Lat fs) (l3 : Lat as) (h0 : us.length ≤ 2) (h00 : 0 < us.length) (h2 : fs.length ≤ 2) (h3 : as.length ≤ 2) (hq : (qv = 1 ∧ sp = 38) ∨ (qv = 0 ∧ sp = 63)) (hF : ∃ vf : Value, Sta G.Z G.Z.heap "jdk/internal/util/Preconditions" "SIOOBE_FORMATTER" "Ljava/util/function/BiFunction;" vf ∧ vf.isRef = true) (F1 : Fld G.Z h q "com/example/crosswarden/crosswarden/web/Destination" "url" "Ljava/lang/String;" (.ref u)) (F2 : Fld G.Z h q "com/example/crosswarden/crosswarden/web/Destination" "fragment" "Ljava/lang/String;" (.ref f)) (F3 : Fld G.Z h q "com/example/crosswarden/crosswarden/web/Destination" "query" "Z" (.int qv)) (S1 : Str G h u (us ++ (35 : Int32) :: fs)) (S2 : Str G h f fs) (S3 : Str G h s as) :
    Ctr G [] (⟨"com/example/crosswarden/crosswarden/web/Destination", "withArguments", "(Ljava/lang/String;)Ljava/lang/String;"⟩ : MethodName) prog_12_method_3_code 4 (some (.object "java/lang/String")) ({ frames := 6, cells := 14, slots := 116, locals := 91 } : Room) #[.ref q, .ref s] h [] (fun v h' Sf => ∃ s : Addr, v = some (.ref s) ∧ Ext h h' ∧ Str G h' s (us ++ sp :: (as ++ (35 : Int32) :: fs))) := by
  refine ctr_of M_wa rfl rfl (plainFor_of_name pn_9) L_wa H.el (Ls := #[.val (.ref q), .val (.ref s), .unset, .unset]) (fun m => ef_ok (by first | (simp [argsToLocals, Value.category]; done) | rfl)) ?_
  intro B K hE
  refine go_run K 0 1 (pc' := 1) (st' := [(.ref q)]) rfl ?_
  refine go_getfield K (k := 1) rfl (host := "") (Or.inl (H.w 56 rfl)) Via.refl F2 ?_
  refine go_ifnonY K (k := 2) rfl (pc' := 14) (by decide) ?_
  refine go_run K 6 1 (pc' := 15) (st' := [(.ref q)]) rfl ?_
  refine go_getfield K (k := 7) rfl (host := "") (Or.inl (H.w 50 rfl)) Via.refl F1 ?_
  refine go_run K 8 2 (pc' := 20) (st' := [(.ref q), (.int (0 : Int32)), (.ref u)]) rfl ?_
  refine go_getfield K (k := 10) rfl (host := "") (Or.inl (H.w 50 rfl)) Via.refl F1 ?_
  refine go_virt0 K (k := 11) rfl (H.w 63 rfl) (H.w 66 rfl) (H.w 65 rfl) (H.w 6 rfl) (H.w 67 rfl) (by decide) pd_13 S1.exa (c_len H S1) (argsL := []) (rest := [(.int (0 : Int32)), (.ref u)]) rfl rfl rfl sub0 rfl ?_
  rintro _ _ _ - ⟨rfl, rfl⟩
  show Go G B M_wa _ h [] 0 0 26 #[.val (.ref q), .val (.ref s), .unset, .unset] [(.int ((us ++ (35 : Int32) :: fs)).length.toInt32), (.int (0 : Int32)), (.ref u)]
  refine go_run K 12 1 (pc' := 27) (st' := [(.ref q), (.int ((us ++ (35 : Int32) :: fs)).length.toInt32), (.int (0 : Int32)), (.ref u)]) rfl ?_
  refine go_getfield K (k := 13) rfl (host := "") (Or.inl (H.w 56 rfl)) Via.refl F2 ?_
  refine go_virt0 K (k := 14) rfl (H.w 63 rfl) (H.w 66 rfl) (H.w 65 rfl) (H.w 6 rfl) (H.w 67 rfl) (by decide) pd_13 S2.exa (c_len H S2) (argsL := []) (rest := [(.int ((us ++ (35 : Int32) :: fs)).length.toInt32), (.int (0 : Int32)), (.ref u)]) rfl rfl rfl sub0 rfl ?_
  rintro _ _ _ - ⟨rfl, rfl⟩
  show Go G B M_wa _ h [] 0 0 33 #[.val (.ref q), .val (.ref s), .unset, .unset] [(.int (fs).length.toInt32), (.int ((us ++ (35 : Int32) :: fs)).length.toInt32), (.int (0 : Int32)), (.ref u)]
  refine go_run K 15 3 (pc' := 36) (st' := [(.int ((((us ++ (35 : Int32) :: fs)).length.toInt32 - (fs).length.toInt32) - (1 : Int32))), (.int (0 : Int32)), (.ref u)]) rfl ?_
  rw [show ((((us ++ (35 : Int32) :: fs)).length.toInt32 - (fs).length.toInt32) - (1 : Int32)) = us.length.toInt32 from url_len]
  refine go_virt0 K (k := 18) rfl (H.w 73 rfl) (H.w 76 rfl) (H.w 75 rfl) (H.w 6 rfl) (H.w 77 rfl) (by decide) pd_26 S1.exa (c_sub (i := 0) (j := us.length) H l1 (Nat.zero_le _) (by rw [List.length_append]; exact Nat.le_add_right _ _) (by omega) h00 hF S1) (argsL := [(.int (0 : Int32)), (.int us.length.toInt32)]) (rest := []) rfl rfl rfl sub0 rfl ?_
  rintro _ h1 _ - ⟨a2, rfl, E3, S4⟩
  show Go G B M_wa _ h1 [] 2 20 39 #[.val (.ref q), .val (.ref s), .unset, .unset] [(.ref a2)]
  have S5 : Str G h1 a2 us := by
    have u := S4
    rw [List.drop_zero, Nat.sub_zero, List.take_left] at u
    exact u
  refine go_run K 19 2 (pc' := 41) (Ls' := #[.val (.ref q), .val (.ref s), .val (.ref a2), .unset]) (st' := [(.ref q)]) rfl ?_
  have c6 := (F2.ext E3)
  refine go_getfield K (k := 21) rfl (host := "") (Or.inl (H.w 56 rfl)) Via.refl c6 ?_
  refine go_ifnonY K (k := 22) rfl (pc' := 52) (by decide) ?_
  refine go_new K (k := 25) rfl (H.w 118 rfl) (H.w 119 rfl) (H.w 120 rfl) rfl rfl ?_
  intro h8 a7 e9 g10 E11 A12 D13
  have F14 : Fld G.Z h8 a7 "java/lang/AbstractStringBuilder" "value" "[B" .null := D13 (Or.inl (H.w 133 rfl)) (ty := (.array .byte)) (by decide)
  have F15 : Fld G.Z h8 a7 "java/lang/AbstractStringBuilder" "coder" "B" (.int (0 : Int32)) := D13 (Or.inl (H.w 135 rfl)) (ty := .byte) (by decide)
  have F16 : Fld G.Z h8 a7 "java/lang/AbstractStringBuilder" "count" "I" (.int (0 : Int32)) := D13 (Or.inl (H.w 149 rfl)) (ty := .int) (by decide)
  refine go_run K 26 1 (pc' := 56) (st' := [(.ref a7), (.ref a7)]) rfl ?_
  refine go_specialN K (k := 27) rfl rfl (H.w 121 rfl) (H.w 122 rfl) (H.w 120 rfl) (H.w 123 rfl) (by decide) pd_25 (c_sbi H A12 F14 F15 F16 g10) (argsL := []) (rest := [(.ref a7)]) rfl rfl rfl sub0 rfl ?_
  rintro _ h17 Sf25 - ⟨rfl, K18, t19, k20, B21, g22, f23, s24⟩
  refine ⟨[t19], allS s24 all0, ?_⟩
  show Go G B M_wa _ h17 (t19 :: (a7 :: [])) 4 40 59 #[.val (.ref q), .val (.ref s), .val (.ref a2), .unset] [(.ref a7)]
  refine go_ldcT K (k := 28) rfl (H.w 136 rfl) H.ws (H.mem (by decide)) (cs := [(35 : Int32)]) (by decide) (by decide) (n := 4) rfl rfl rfl rfl ?_
  intro h27 a26 E28 S29
  have c30 := (B21.ext E28)
  refine go_virt0 K (k := 29) rfl (H.w 137 rfl) (H.w 140 rfl) (H.w 139 rfl) (H.w 120 rfl) (H.w 141 rfl) (by decide) pd_27 c30.exa (c_sap H (lat1 (by decide)) (by simp) c30 S29 g10 g22) (argsL := [(.ref a26)]) (rest := []) rfl rfl rfl (subS (List.mem_cons_self ..) sub0) rfl ?_
  rintro _ h31 _ - ⟨rfl, K32, B33⟩
  show Go G B M_wa _ h31 (t19 :: (a7 :: [])) 6 48 64 #[.val (.ref q), .val (.ref s), .val (.ref a2), .unset] [(.ref a7)]
  refine go_run K 30 1 (pc' := 65) (st' := [(.ref q), (.ref a7)]) rfl ?_
  have X34 : Ext h1 h17 := (Ext.keepN E11 K18 (allS (Nat.le_trans (Nat.le_refl _) (Nat.le_of_eq e9.symm)) all0))
  have X35 : Ext h1 h27 := (Ext.tr X34 E28)
  have X36 : Ext h1 h31 := (Ext.keepN X35 K32 (allS (Nat.le_trans (Nat.le_refl _) (Nat.le_of_eq e9.symm)) (allS (Nat.le_trans (E11).1 f23) all0)))
  have c37 := (c6.ext X36)
  refine go_getfield K (k := 31) rfl (host := "") (Or.inl (H.w 56 rfl)) Via.refl c37 ?_
  have X38 : Ext h h8 := (Ext.tr E3 E11)
  have X39 : Ext h h17 := (Ext.keepN X38 K18 (allS (Nat.le_trans (E3).1 (Nat.le_of_eq e9.symm)) all0))
  have X40 : Ext h h27 := (Ext.tr X39 E28)
  have X41 : Ext h h31 := (Ext.keepN X40 K32 (allS (Nat.le_trans (E3).1 (Nat.le_of_eq e9.symm)) (allS (Nat.le_trans (X38).1 f23) all0)))
  have c42 := (S2.ext X41)
  refine go_virt0 K (k := 32) rfl (H.w 137 rfl) (H.w 140 rfl) (H.w 139 rfl) (H.w 120 rfl) (H.w 141 rfl) (by decide) pd_27 B33.exa (c_sap H l2 (by simp; omega) B33 c42 g10 g22) (argsL := [(.ref f)]) (rest := []) rfl rfl rfl (subS (List.mem_cons_self ..) sub0) rfl ?_
  rintro _ h43 _ - ⟨rfl, K44, B45⟩
  show Go G B M_wa _ h43 (t19 :: (a7 :: [])) 6 48 71 #[.val (.ref q), .val (.ref s), .val (.ref a2), .unset] [(.ref a7)]
  refine go_virt0 K (k := 33) rfl (H.w 172 rfl) (H.w 175 rfl) (H.w 174 rfl) (H.w 120 rfl) (H.w 176 rfl) (by decide) pd_28 B45.exa (c_sbs H (by simp; omega) (by simp; omega) B45) (argsL := []) (rest := []) rfl rfl rfl sub0 rfl ?_
  rintro _ h46 _ - ⟨a47, rfl, E48, S49, g50⟩
  show Go G B M_wa _ h46 (t19 :: (a7 :: [])) 8 68 74 #[.val (.ref q), .val (.ref s), .val (.ref a2), .unset] [(.ref a47)]
  have S51 : Str G h46 a47 ((35 : Int32) :: fs) := by
    have u := S49
    simp only [List.nil_append, List.singleton_append] at u
    exact u
  refine go_run K 34 1 (pc' := 75) (Ls' := #[.val (.ref q), .val (.ref s), .val (.ref a2), .val (.ref a47)]) (st' := []) rfl ?_
  refine go_new K (k := 35) rfl (H.w 118 rfl) (H.w 119 rfl) (H.w 120 rfl) rfl rfl ?_
  intro h53 a52 e54 g55 E56 A57 D58
  have F59 : Fld G.Z h53 a52 "java/lang/AbstractStringBuilder" "value" "[B" .null := D58 (Or.inl (H.w 133 rfl)) (ty := (.array .byte)) (by decide)
  have F60 : Fld G.Z h53 a52 "java/lang/AbstractStringBuilder" "coder" "B" (.int (0 : Int32)) := D58 (Or.inl (H.w 135 rfl)) (ty := .byte) (by decide)
  have F61 : Fld G.Z h53 a52 "java/lang/AbstractStringBuilder" "count" "I" (.int (0 : Int32)) := D58 (Or.inl (H.w 149 rfl)) (ty := .int) (by decide)
  refine go_run K 36 1 (pc' := 79) (st' := [(.ref a52), (.ref a52)]) rfl ?_
  refine go_specialN K (k := 37) rfl rfl (H.w 121 rfl) (H.w 122 rfl) (H.w 120 rfl) (H.w 123 rfl) (by decide) pd_25 (c_sbi H A57 F59 F60 F61 g55) (argsL := []) (rest := [(.ref a52)]) rfl rfl rfl sub0 rfl ?_
  rintro _ h62 Sf70 - ⟨rfl, K63, t64, k65, B66, g67, f68, s69⟩
  refine ⟨[t64], allS s69 all0, ?_⟩
  show Go G B M_wa _ h62 (t64 :: (a52 :: (t19 :: (a7 :: [])))) 10 88 82 #[.val (.ref q), .val (.ref s), .val (.ref a2), .val (.ref a47)] [(.ref a52)]
  refine go_run K 38 1 (pc' := 83) (st' := [(.ref a2), (.ref a52)]) rfl ?_
  have X71 : Ext h1 h43 := (Ext.keepN X36 K44 (allS (Nat.le_trans (Nat.le_refl _) (Nat.le_of_eq e9.symm)) (allS (Nat.le_trans (E11).1 f23) all0)))
  have X72 : Ext h1 h46 := (Ext.tr X71 E48)
  have X73 : Ext h1 h53 := (Ext.tr X72 E56)
  have X74 : Ext h1 h62 := (Ext.keepN X73 K63 (allS (Nat.le_trans (X72).1 (Nat.le_of_eq e54.symm)) all0))
  have c75 := (S5.ext X74)
  refine go_virt0 K (k := 39) rfl (H.w 137 rfl) (H.w 140 rfl) (H.w 139 rfl) (H.w 120 rfl) (H.w 141 rfl) (by decide) pd_27 B66.exa (c_sap H l0 (by simp only [List.nil_append, List.length_nil]; omega) B66 c75 g55 g67) (argsL := [(.ref a2)]) (rest := []) rfl rfl rfl (subS (List.mem_cons_self ..) sub0) rfl ?_
  rintro _ h76 _ - ⟨rfl, K77, B78⟩
  show Go G B M_wa _ h76 (t64 :: (a52 :: (t19 :: (a7 :: [])))) 10 88 86 #[.val (.ref q), .val (.ref s), .val (.ref a2), .val (.ref a47)] [(.ref a52)]
  refine go_run K 40 1 (pc' := 87) (st' := [(.ref q), (.ref a52)]) rfl ?_
  have X79 : Ext h h43 := (Ext.keepN X41 K44 (allS (Nat.le_trans (E3).1 (Nat.le_of_eq e9.symm)) (allS (Nat.le_trans (X38).1 f23) all0)))
  have X80 : Ext h h46 := (Ext.tr X79 E48)
  have X81 : Ext h h53 := (Ext.tr X80 E56)
  have X82 : Ext h h62 := (Ext.keepN X81 K63 (allS (Nat.le_trans (X80).1 (Nat.le_of_eq e54.symm)) all0))
  have X83 : Ext h h76 := (Ext.keepN X82 K77 (allS (Nat.le_trans (X80).1 (Nat.le_of_eq e54.symm)) (allS (Nat.le_trans (X81).1 f68) all0)))
  have c84 := (F3.ext X83)
  refine go_getfield K (k := 41) rfl (host := "") (Or.inl (H.w 54 rfl)) Via.refl c84 ?_
  refine go_ifeq K (k := 42) rfl (pc' := 98) (by decide) (fun q85 => ?_) (fun q86 => ?_)
  · refine go_ldcT K (k := 45) rfl (H.w 203 rfl) H.ws (H.mem (by decide)) (cs := [(63 : Int32)]) (by decide) (by decide) (n := 4) rfl rfl rfl rfl ?_
    intro h88 a87 E89 S90
    have c91 := (B78.ext E89)
    refine go_virt0 K (k := 46) rfl (H.w 137 rfl) (H.w 140 rfl) (H.w 139 rfl) (H.w 120 rfl) (H.w 141 rfl) (by decide) pd_27 c91.exa (c_sap H (lat1 (by decide)) (by simp; omega) c91 S90 g55 g67) (argsL := [(.ref a87)]) (rest := []) rfl rfl rfl (subS (List.mem_cons_self ..) sub0) rfl ?_
    rintro _ h92 _ - ⟨rfl, K93, B94⟩
    show Go G B M_wa _ h92 (t64 :: (a52 :: (t19 :: (a7 :: [])))) 12 96 103 #[.val (.ref q), .val (.ref s), .val (.ref a2), .val (.ref a47)] [(.ref a52)]
    refine go_run K 47 1 (pc' := 104) (st' := [(.ref s), (.ref a52)]) rfl ?_
    have X95 : Ext h h88 := (Ext.tr X83 E89)
    have X96 : Ext h h92 := (Ext.keepN X95 K93 (allS (Nat.le_trans (X80).1 (Nat.le_of_eq e54.symm)) (allS (Nat.le_trans (X81).1 f68) all0)))
    have c97 := (S3.ext X96)
    refine go_virt0 K (k := 48) rfl (H.w 137 rfl) (H.w 140 rfl) (H.w 139 rfl) (H.w 120 rfl) (H.w 141 rfl) (by decide) pd_27 B94.exa (c_sap H l3 (by simp; omega) B94 c97 g55 g67) (argsL := [(.ref s)]) (rest := []) rfl rfl rfl (subS (List.mem_cons_self ..) sub0) rfl ?_
    rintro _ h98 _ - ⟨rfl, K99, B100⟩
    show Go G B M_wa _ h98 (t64 :: (a52 :: (t19 :: (a7 :: [])))) 12 96 107 #[.val (.ref q), .val (.ref s), .val (.ref a2), .val (.ref a47)] [(.ref a52)]
    refine go_run K 49 1 (pc' := 108) (st' := [(.ref a47), (.ref a52)]) rfl ?_
    have X101 : Ext h46 h62 := (Ext.keepN E56 K63 (allS (Nat.le_trans (Nat.le_refl _) (Nat.le_of_eq e54.symm)) all0))
    have X102 : Ext h46 h76 := (Ext.keepN X101 K77 (allS (Nat.le_trans (Nat.le_refl _) (Nat.le_of_eq e54.symm)) (allS (Nat.le_trans (E56).1 f68) all0)))
    have X103 : Ext h46 h88 := (Ext.tr X102 E89)
    have X104 : Ext h46 h92 := (Ext.keepN X103 K93 (allS (Nat.le_trans (Nat.le_refl _) (Nat.le_of_eq e54.symm)) (allS (Nat.le_trans (E56).1 f68) all0)))
    have X105 : Ext h46 h98 := (Ext.keepN X104 K99 (allS (Nat.le_trans (Nat.le_refl _) (Nat.le_of_eq e54.symm)) (allS (Nat.le_trans (E56).1 f68) all0)))
    have c106 := (S51.ext X105)
    refine go_virt0 K (k := 50) rfl (H.w 137 rfl) (H.w 140 rfl) (H.w 139 rfl) (H.w 120 rfl) (H.w 141 rfl) (by decide) pd_27 B100.exa (c_sap H (latC (by decide) l2 (by omega)) (by simp; omega) B100 c106 g55 g67) (argsL := [(.ref a47)]) (rest := []) rfl rfl rfl (subS (List.mem_cons_self ..) sub0) rfl ?_
    rintro _ h107 _ - ⟨rfl, K108, B109⟩
    show Go G B M_wa _ h107 (t64 :: (a52 :: (t19 :: (a7 :: [])))) 12 96 111 #[.val (.ref q), .val (.ref s), .val (.ref a2), .val (.ref a47)] [(.ref a52)]
    refine go_virt0 K (k := 51) rfl (H.w 172 rfl) (H.w 175 rfl) (H.w 174 rfl) (H.w 120 rfl) (H.w 176 rfl) (by decide) pd_28 B109.exa (c_sbs H (by simp; omega) (by simp; omega) B109) (argsL := []) (rest := []) rfl rfl rfl sub0 rfl ?_
    rintro _ h110 _ - ⟨a111, rfl, E112, S113, g114⟩
    show Go G B M_wa _ h110 (t64 :: (a52 :: (t19 :: (a7 :: [])))) 14 116 114 #[.val (.ref q), .val (.ref s), .val (.ref a2), .val (.ref a47)] [(.ref a111)]
    have X115 : Ext h h98 := (Ext.keepN X96 K99 (allS (Nat.le_trans (X80).1 (Nat.le_of_eq e54.symm)) (allS (Nat.le_trans (X81).1 f68) all0)))
    have X116 : Ext h h107 := (Ext.keepN X115 K108 (allS (Nat.le_trans (X80).1 (Nat.le_of_eq e54.symm)) (allS (Nat.le_trans (X81).1 f68) all0)))
    have X117 : Ext h h110 := (Ext.tr X116 E112)
    have hsp : sp = 63 := by
      rcases hq with ⟨q1, q2⟩ | ⟨q1, q2⟩
      · rw [q1] at q85; exact absurd q85 (by decide)
      · exact q2
    subst hsp
    refine go_areturn K (k := 52) rfl rfl rfl rfl rfl rfl rfl ?_
    intro Sf hSf
    refine ⟨_, rfl, X117, ?_⟩
    have u := S113
    simp only [List.nil_append, List.append_nil, List.append_assoc, List.cons_append, List.singleton_append] at u ⊢
    exact u
  · refine go_ldcT K (k := 43) rfl (H.w 224 rfl) H.ws (H.mem (by decide)) (cs := [(38 : Int32)]) (by decide) (by decide) (n := 4) rfl rfl rfl rfl ?_
    intro h119 a118 E120 S121
    refine go_run K 44 1 (pc' := 100) (st' := [(.ref a118), (.ref a52)]) rfl ?_
    have c122 := (B78.ext E120)
    refine go_virt0 K (k := 46) rfl (H.w 137 rfl) (H.w 140 rfl) (H.w 139 rfl) (H.w 120 rfl) (H.w 141 rfl) (by decide) pd_27 c122.exa (c_sap H (lat1 (by decide)) (by simp; omega) c122 S121 g55 g67) (argsL := [(.ref a118)]) (rest := []) rfl rfl rfl (subS (List.mem_cons_self ..) sub0) rfl ?_
    rintro _ h123 _ - ⟨rfl, K124, B125⟩
    show Go G B M_wa _ h123 (t64 :: (a52 :: (t19 :: (a7 :: [])))) 12 96 103 #[.val (.ref q), .val (.ref s), .val (.ref a2), .val (.ref a47)] [(.ref a52)]
    refine go_run K 47 1 (pc' := 104) (st' := [(.ref s), (.ref a52)]) rfl ?_
    have X126 : Ext h h119 := (Ext.tr X83 E120)
    have X127 : Ext h h123 := (Ext.keepN X126 K124 (allS (Nat.le_trans (X80).1 (Nat.le_of_eq e54.symm)) (allS (Nat.le_trans (X81).1 f68) all0)))
    have c128 := (S3.ext X127)
    refine go_virt0 K (k := 48) rfl (H.w 137 rfl) (H.w 140 rfl) (H.w 139 rfl) (H.w 120 rfl) (H.w 141 rfl) (by decide) pd_27 B125.exa (c_sap H l3 (by simp; omega) B125 c128 g55 g67) (argsL := [(.ref s)]) (rest := []) rfl rfl rfl (subS (List.mem_cons_self ..) sub0) rfl ?_
    rintro _ h129 _ - ⟨rfl, K130, B131⟩
    show Go G B M_wa _ h129 (t64 :: (a52 :: (t19 :: (a7 :: [])))) 12 96 107 #[.val (.ref q), .val (.ref s), .val (.ref a2), .val (.ref a47)] [(.ref a52)]
    refine go_run K 49 1 (pc' := 108) (st' := [(.ref a47), (.ref a52)]) rfl ?_
    have X132 : Ext h46 h62 := (Ext.keepN E56 K63 (allS (Nat.le_trans (Nat.le_refl _) (Nat.le_of_eq e54.symm)) all0))
    have X133 : Ext h46 h76 := (Ext.keepN X132 K77 (allS (Nat.le_trans (Nat.le_refl _) (Nat.le_of_eq e54.symm)) (allS (Nat.le_trans (E56).1 f68) all0)))
    have X134 : Ext h46 h119 := (Ext.tr X133 E120)
    have X135 : Ext h46 h123 := (Ext.keepN X134 K124 (allS (Nat.le_trans (Nat.le_refl _) (Nat.le_of_eq e54.symm)) (allS (Nat.le_trans (E56).1 f68) all0)))
    have X136 : Ext h46 h129 := (Ext.keepN X135 K130 (allS (Nat.le_trans (Nat.le_refl _) (Nat.le_of_eq e54.symm)) (allS (Nat.le_trans (E56).1 f68) all0)))
    have c137 := (S51.ext X136)
    refine go_virt0 K (k := 50) rfl (H.w 137 rfl) (H.w 140 rfl) (H.w 139 rfl) (H.w 120 rfl) (H.w 141 rfl) (by decide) pd_27 B131.exa (c_sap H (latC (by decide) l2 (by omega)) (by simp; omega) B131 c137 g55 g67) (argsL := [(.ref a47)]) (rest := []) rfl rfl rfl (subS (List.mem_cons_self ..) sub0) rfl ?_
    rintro _ h138 _ - ⟨rfl, K139, B140⟩
    show Go G B M_wa _ h138 (t64 :: (a52 :: (t19 :: (a7 :: [])))) 12 96 111 #[.val (.ref q), .val (.ref s), .val (.ref a2), .val (.ref a47)] [(.ref a52)]
    refine go_virt0 K (k := 51) rfl (H.w 172 rfl) (H.w 175 rfl) (H.w 174 rfl) (H.w 120 rfl) (H.w 176 rfl) (by decide) pd_28 B140.exa (c_sbs H (by simp; omega) (by simp; omega) B140) (argsL := []) (rest := []) rfl rfl rfl sub0 rfl ?_
    rintro _ h141 _ - ⟨a142, rfl, E143, S144, g145⟩
    show Go G B M_wa _ h141 (t64 :: (a52 :: (t19 :: (a7 :: [])))) 14 116 114 #[.val (.ref q), .val (.ref s), .val (.ref a2), .val (.ref a47)] [(.ref a142)]
    have X146 : Ext h h129 := (Ext.keepN X127 K130 (allS (Nat.le_trans (X80).1 (Nat.le_of_eq e54.symm)) (allS (Nat.le_trans (X81).1 f68) all0)))
    have X147 : Ext h h138 := (Ext.keepN X146 K139 (allS (Nat.le_trans (X80).1 (Nat.le_of_eq e54.symm)) (allS (Nat.le_trans (X81).1 f68) all0)))
    have X148 : Ext h h141 := (Ext.tr X147 E143)
    have hsp : sp = 38 := by
      rcases hq with ⟨q1, q2⟩ | ⟨q1, q2⟩
      · exact q2
      · exact absurd q1 q86
    subst hsp
    refine go_areturn K (k := 52) rfl rfl rfl rfl rfl rfl rfl ?_
    intro Sf hSf
    refine ⟨_, rfl, X148, ?_⟩
    have u := S144
    simp only [List.nil_append, List.append_nil, List.append_assoc, List.cons_append, List.singleton_append] at u ⊢
    exact u
set_option maxRecDepth 65536 in
set_option maxHeartbeats 40000000 in
theorem c_waN {G : Gb} (H : Gl tables_1 els G) {h : Heap} {q u s : Addr} {us as : List Int32} {qv sp : Int32} (l0 : Lat us) (l3 : Lat as) (h0 : us.length ≤ 2) (h3 : as.length ≤ 2) (hq : (qv = 1 ∧ sp = 38) ∨ (qv = 0 ∧ sp = 63)) (F1 : Fld G.Z h q "com/example/crosswarden/crosswarden/web/Destination" "url" "Ljava/lang/String;" (.ref u)) (F2 : Fld G.Z h q "com/example/crosswarden/crosswarden/web/Destination" "fragment" "Ljava/lang/String;" .null) (F3 : Fld G.Z h q "com/example/crosswarden/crosswarden/web/Destination" "query" "Z" (.int qv)) (S1 : Str G h u us) (S3 : Str G h s as) :
    Ctr G [] (⟨"com/example/crosswarden/crosswarden/web/Destination", "withArguments", "(Ljava/lang/String;)Ljava/lang/String;"⟩ : MethodName) prog_12_method_3_code 4 (some (.object "java/lang/String")) ({ frames := 6, cells := 14, slots := 116, locals := 91 } : Room) #[.ref q, .ref s] h [] (fun v h' Sf => ∃ s : Addr, v = some (.ref s) ∧ Ext h h' ∧ Str G h' s (us ++ sp :: as)) := by
  refine ctr_of M_wa rfl rfl (plainFor_of_name pn_9) L_wa H.el (Ls := #[.val (.ref q), .val (.ref s), .unset, .unset]) (fun m => ef_ok (by first | (simp [argsToLocals, Value.category]; done) | rfl)) ?_
  intro B K hE
  refine go_run K 0 1 (pc' := 1) (st' := [(.ref q)]) rfl ?_
  refine go_getfield K (k := 1) rfl (host := "") (Or.inl (H.w 56 rfl)) Via.refl F2 ?_
  refine go_ifnonN K (k := 2) rfl ?_
  refine go_run K 3 1 (pc' := 8) (st' := [(.ref q)]) rfl ?_
  refine go_getfield K (k := 4) rfl (host := "") (Or.inl (H.w 50 rfl)) Via.refl F1 ?_
  refine go_run K 5 1 (pc' := 39) (st' := [(.ref u)]) rfl ?_
  refine go_run K 19 2 (pc' := 41) (Ls' := #[.val (.ref q), .val (.ref s), .val (.ref u), .unset]) (st' := [(.ref q)]) rfl ?_
  refine go_getfield K (k := 21) rfl (host := "") (Or.inl (H.w 56 rfl)) Via.refl F2 ?_
  refine go_ifnonN K (k := 22) rfl ?_
  refine go_ldcT K (k := 23) rfl (H.w 223 rfl) H.ws (H.mem (by decide)) (cs := []) (by decide) (by decide) (n := 0) rfl rfl rfl rfl ?_
  intro h2 a1 E3 S4
  refine go_run K 24 1 (pc' := 74) (st' := [(.ref a1)]) rfl ?_
  refine go_run K 34 1 (pc' := 75) (Ls' := #[.val (.ref q), .val (.ref s), .val (.ref u), .val (.ref a1)]) (st' := []) rfl ?_
  refine go_new K (k := 35) rfl (H.w 118 rfl) (H.w 119 rfl) (H.w 120 rfl) rfl rfl ?_
  intro h6 a5 e7 g8 E9 A10 D11
  have F12 : Fld G.Z h6 a5 "java/lang/AbstractStringBuilder" "value" "[B" .null := D11 (Or.inl (H.w 133 rfl)) (ty := (.array .byte)) (by decide)
  have F13 : Fld G.Z h6 a5 "java/lang/AbstractStringBuilder" "coder" "B" (.int (0 : Int32)) := D11 (Or.inl (H.w 135 rfl)) (ty := .byte) (by decide)
  have F14 : Fld G.Z h6 a5 "java/lang/AbstractStringBuilder" "count" "I" (.int (0 : Int32)) := D11 (Or.inl (H.w 149 rfl)) (ty := .int) (by decide)
  refine go_run K 36 1 (pc' := 79) (st' := [(.ref a5), (.ref a5)]) rfl ?_
  refine go_specialN K (k := 37) rfl rfl (H.w 121 rfl) (H.w 122 rfl) (H.w 120 rfl) (H.w 123 rfl) (by decide) pd_25 (c_sbi H A10 F12 F13 F14 g8) (argsL := []) (rest := [(.ref a5)]) rfl rfl rfl sub0 rfl ?_
  rintro _ h15 Sf23 - ⟨rfl, K16, t17, k18, B19, g20, f21, s22⟩
  refine ⟨[t17], allS s22 all0, ?_⟩
  show Go G B M_wa _ h15 (t17 :: (a5 :: [])) 4 24 82 #[.val (.ref q), .val (.ref s), .val (.ref u), .val (.ref a1)] [(.ref a5)]
  refine go_run K 38 1 (pc' := 83) (st' := [(.ref u), (.ref a5)]) rfl ?_
  have X24 : Ext h h6 := (Ext.tr E3 E9)
  have X25 : Ext h h15 := (Ext.keepN X24 K16 (allS (Nat.le_trans (E3).1 (Nat.le_of_eq e7.symm)) all0))
  have c26 := (S1.ext X25)
  refine go_virt0 K (k := 39) rfl (H.w 137 rfl) (H.w 140 rfl) (H.w 139 rfl) (H.w 120 rfl) (H.w 141 rfl) (by decide) pd_27 B19.exa (c_sap H l0 (by simp only [List.nil_append, List.length_nil]; omega) B19 c26 g8 g20) (argsL := [(.ref u)]) (rest := []) rfl rfl rfl (subS (List.mem_cons_self ..) sub0) rfl ?_
  rintro _ h27 _ - ⟨rfl, K28, B29⟩
  show Go G B M_wa _ h27 (t17 :: (a5 :: [])) 4 24 86 #[.val (.ref q), .val (.ref s), .val (.ref u), .val (.ref a1)] [(.ref a5)]
  refine go_run K 40 1 (pc' := 87) (st' := [(.ref q), (.ref a5)]) rfl ?_
  have X30 : Ext h h27 := (Ext.keepN X25 K28 (allS (Nat.le_trans (E3).1 (Nat.le_of_eq e7.symm)) (allS (Nat.le_trans (X24).1 f21) all0)))
  have c31 := (F3.ext X30)
  refine go_getfield K (k := 41) rfl (host := "") (Or.inl (H.w 54 rfl)) Via.refl c31 ?_
  refine go_ifeq K (k := 42) rfl (pc' := 98) (by decide) (fun q32 => ?_) (fun q33 => ?_)
  · refine go_ldcT K (k := 45) rfl (H.w 203 rfl) H.ws (H.mem (by decide)) (cs := [(63 : Int32)]) (by decide) (by decide) (n := 4) rfl rfl rfl rfl ?_
    intro h35 a34 E36 S37
    have c38 := (B29.ext E36)
    refine go_virt0 K (k := 46) rfl (H.w 137 rfl) (H.w 140 rfl) (H.w 139 rfl) (H.w 120 rfl) (H.w 141 rfl) (by decide) pd_27 c38.exa (c_sap H (lat1 (by decide)) (by simp; omega) c38 S37 g8 g20) (argsL := [(.ref a34)]) (rest := []) rfl rfl rfl (subS (List.mem_cons_self ..) sub0) rfl ?_
    rintro _ h39 _ - ⟨rfl, K40, B41⟩
    show Go G B M_wa _ h39 (t17 :: (a5 :: [])) 6 32 103 #[.val (.ref q), .val (.ref s), .val (.ref u), .val (.ref a1)] [(.ref a5)]
    refine go_run K 47 1 (pc' := 104) (st' := [(.ref s), (.ref a5)]) rfl ?_
    have X42 : Ext h h35 := (Ext.tr X30 E36)
    have X43 : Ext h h39 := (Ext.keepN X42 K40 (allS (Nat.le_trans (E3).1 (Nat.le_of_eq e7.symm)) (allS (Nat.le_trans (X24).1 f21) all0)))
    have c44 := (S3.ext X43)
    refine go_virt0 K (k := 48) rfl (H.w 137 rfl) (H.w 140 rfl) (H.w 139 rfl) (H.w 120 rfl) (H.w 141 rfl) (by decide) pd_27 B41.exa (c_sap H l3 (by simp; omega) B41 c44 g8 g20) (argsL := [(.ref s)]) (rest := []) rfl rfl rfl (subS (List.mem_cons_self ..) sub0) rfl ?_
    rintro _ h45 _ - ⟨rfl, K46, B47⟩
    show Go G B M_wa _ h45 (t17 :: (a5 :: [])) 6 32 107 #[.val (.ref q), .val (.ref s), .val (.ref u), .val (.ref a1)] [(.ref a5)]
    refine go_run K 49 1 (pc' := 108) (st' := [(.ref a1), (.ref a5)]) rfl ?_
    have X48 : Ext h2 h15 := (Ext.keepN E9 K16 (allS (Nat.le_trans (Nat.le_refl _) (Nat.le_of_eq e7.symm)) all0))
    have X49 : Ext h2 h27 := (Ext.keepN X48 K28 (allS (Nat.le_trans (Nat.le_refl _) (Nat.le_of_eq e7.symm)) (allS (Nat.le_trans (E9).1 f21) all0)))
    have X50 : Ext h2 h35 := (Ext.tr X49 E36)
    have X51 : Ext h2 h39 := (Ext.keepN X50 K40 (allS (Nat.le_trans (Nat.le_refl _) (Nat.le_of_eq e7.symm)) (allS (Nat.le_trans (E9).1 f21) all0)))
    have X52 : Ext h2 h45 := (Ext.keepN X51 K46 (allS (Nat.le_trans (Nat.le_refl _) (Nat.le_of_eq e7.symm)) (allS (Nat.le_trans (E9).1 f21) all0)))
    have c53 := (S4.ext X52)
    refine go_virt0 K (k := 50) rfl (H.w 137 rfl) (H.w 140 rfl) (H.w 139 rfl) (H.w 120 rfl) (H.w 141 rfl) (by decide) pd_27 B47.exa (c_sap H lat0 (by simp; omega) B47 c53 g8 g20) (argsL := [(.ref a1)]) (rest := []) rfl rfl rfl (subS (List.mem_cons_self ..) sub0) rfl ?_
    rintro _ h54 _ - ⟨rfl, K55, B56⟩
    show Go G B M_wa _ h54 (t17 :: (a5 :: [])) 6 32 111 #[.val (.ref q), .val (.ref s), .val (.ref u), .val (.ref a1)] [(.ref a5)]
    refine go_virt0 K (k := 51) rfl (H.w 172 rfl) (H.w 175 rfl) (H.w 174 rfl) (H.w 120 rfl) (H.w 176 rfl) (by decide) pd_28 B56.exa (c_sbs H (by simp; omega) (by simp; omega) B56) (argsL := []) (rest := []) rfl rfl rfl sub0 rfl ?_
    rintro _ h57 _ - ⟨a58, rfl, E59, S60, g61⟩
    show Go G B M_wa _ h57 (t17 :: (a5 :: [])) 8 52 114 #[.val (.ref q), .val (.ref s), .val (.ref u), .val (.ref a1)] [(.ref a58)]
    have X62 : Ext h h45 := (Ext.keepN X43 K46 (allS (Nat.le_trans (E3).1 (Nat.le_of_eq e7.symm)) (allS (Nat.le_trans (X24).1 f21) all0)))
    have X63 : Ext h h54 := (Ext.keepN X62 K55 (allS (Nat.le_trans (E3).1 (Nat.le_of_eq e7.symm)) (allS (Nat.le_trans (X24).1 f21) all0)))
    have X64 : Ext h h57 := (Ext.tr X63 E59)
    have hsp : sp = 63 := by
      rcases hq with ⟨q1, q2⟩ | ⟨q1, q2⟩
      · rw [q1] at q32; exact absurd q32 (by decide)
      · exact q2
    subst hsp
    refine go_areturn K (k := 52) rfl rfl rfl rfl rfl rfl rfl ?_
    intro Sf hSf
    refine ⟨_, rfl, X64, ?_⟩
    have u := S60
    simp only [List.nil_append, List.append_nil, List.append_assoc, List.cons_append, List.singleton_append] at u ⊢
    exact u
  · refine go_ldcT K (k := 43) rfl (H.w 224 rfl) H.ws (H.mem (by decide)) (cs := [(38 : Int32)]) (by decide) (by decide) (n := 4) rfl rfl rfl rfl ?_
    intro h66 a65 E67 S68
    refine go_run K 44 1 (pc' := 100) (st' := [(.ref a65), (.ref a5)]) rfl ?_
    have c69 := (B29.ext E67)
    refine go_virt0 K (k := 46) rfl (H.w 137 rfl) (H.w 140 rfl) (H.w 139 rfl) (H.w 120 rfl) (H.w 141 rfl) (by decide) pd_27 c69.exa (c_sap H (lat1 (by decide)) (by simp; omega) c69 S68 g8 g20) (argsL := [(.ref a65)]) (rest := []) rfl rfl rfl (subS (List.mem_cons_self ..) sub0) rfl ?_
    rintro _ h70 _ - ⟨rfl, K71, B72⟩
    show Go G B M_wa _ h70 (t17 :: (a5 :: [])) 6 32 103 #[.val (.ref q), .val (.ref s), .val (.ref u), .val (.ref a1)] [(.ref a5)]
    refine go_run K 47 1 (pc' := 104) (st' := [(.ref s), (.ref a5)]) rfl ?_
    have X73 : Ext h h66 := (Ext.tr X30 E67)
    have X74 : Ext h h70 := (Ext.keepN X73 K71 (allS (Nat.le_trans (E3).1 (Nat.le_of_eq e7.symm)) (allS (Nat.le_trans (X24).1 f21) all0)))
    have c75 := (S3.ext X74)
    refine go_virt0 K (k := 48) rfl (H.w 137 rfl) (H.w 140 rfl) (H.w 139 rfl) (H.w 120 rfl) (H.w 141 rfl) (by decide) pd_27 B72.exa (c_sap H l3 (by simp; omega) B72 c75 g8 g20) (argsL := [(.ref s)]) (rest := []) rfl rfl rfl (subS (List.mem_cons_self ..) sub0) rfl ?_
    rintro _ h76 _ - ⟨rfl, K77, B78⟩
    show Go G B M_wa _ h76 (t17 :: (a5 :: [])) 6 32 107 #[.val (.ref q), .val (.ref s), .val (.ref u), .val (.ref a1)] [(.ref a5)]
    refine go_run K 49 1 (pc' := 108) (st' := [(.ref a1), (.ref a5)]) rfl ?_
    have X79 : Ext h2 h15 := (Ext.keepN E9 K16 (allS (Nat.le_trans (Nat.le_refl _) (Nat.le_of_eq e7.symm)) all0))
    have X80 : Ext h2 h27 := (Ext.keepN X79 K28 (allS (Nat.le_trans (Nat.le_refl _) (Nat.le_of_eq e7.symm)) (allS (Nat.le_trans (E9).1 f21) all0)))
    have X81 : Ext h2 h66 := (Ext.tr X80 E67)
    have X82 : Ext h2 h70 := (Ext.keepN X81 K71 (allS (Nat.le_trans (Nat.le_refl _) (Nat.le_of_eq e7.symm)) (allS (Nat.le_trans (E9).1 f21) all0)))
    have X83 : Ext h2 h76 := (Ext.keepN X82 K77 (allS (Nat.le_trans (Nat.le_refl _) (Nat.le_of_eq e7.symm)) (allS (Nat.le_trans (E9).1 f21) all0)))
    have c84 := (S4.ext X83)
    refine go_virt0 K (k := 50) rfl (H.w 137 rfl) (H.w 140 rfl) (H.w 139 rfl) (H.w 120 rfl) (H.w 141 rfl) (by decide) pd_27 B78.exa (c_sap H lat0 (by simp; omega) B78 c84 g8 g20) (argsL := [(.ref a1)]) (rest := []) rfl rfl rfl (subS (List.mem_cons_self ..) sub0) rfl ?_
    rintro _ h85 _ - ⟨rfl, K86, B87⟩
    show Go G B M_wa _ h85 (t17 :: (a5 :: [])) 6 32 111 #[.val (.ref q), .val (.ref s), .val (.ref u), .val (.ref a1)] [(.ref a5)]
    refine go_virt0 K (k := 51) rfl (H.w 172 rfl) (H.w 175 rfl) (H.w 174 rfl) (H.w 120 rfl) (H.w 176 rfl) (by decide) pd_28 B87.exa (c_sbs H (by simp; omega) (by simp; omega) B87) (argsL := []) (rest := []) rfl rfl rfl sub0 rfl ?_
    rintro _ h88 _ - ⟨a89, rfl, E90, S91, g92⟩
    show Go G B M_wa _ h88 (t17 :: (a5 :: [])) 8 52 114 #[.val (.ref q), .val (.ref s), .val (.ref u), .val (.ref a1)] [(.ref a89)]
    have X93 : Ext h h76 := (Ext.keepN X74 K77 (allS (Nat.le_trans (E3).1 (Nat.le_of_eq e7.symm)) (allS (Nat.le_trans (X24).1 f21) all0)))
    have X94 : Ext h h85 := (Ext.keepN X93 K86 (allS (Nat.le_trans (E3).1 (Nat.le_of_eq e7.symm)) (allS (Nat.le_trans (X24).1 f21) all0)))
    have X95 : Ext h h88 := (Ext.tr X94 E90)
    have hsp : sp = 38 := by
      rcases hq with ⟨q1, q2⟩ | ⟨q1, q2⟩
      · exact q2
      · exact absurd q1 q33
    subst hsp
    refine go_areturn K (k := 52) rfl rfl rfl rfl rfl rfl rfl ?_
    intro Sf hSf
    refine ⟨_, rfl, X95, ?_⟩
    have u := S91
    simp only [List.nil_append, List.append_nil, List.append_assoc, List.cons_append, List.singleton_append] at u ⊢
    exact u
def P_law : List (Nat × Instr × Nat) := [(0, .iload_n 0, 1), (1, .iconst 0, 1), (2, .invokestatic 7, 3), (5, .istore 4, 2), (7, .iload_n 0, 1), (8, .bipush 8, 2), (10, .invokestatic 7, 3), (13, .istore 5, 2), (15, .iload_n 1, 1), (16, .iconst 0, 1), (17, .invokestatic 7, 3), (20, .istore 6, 2), (22, .iload_n 1, 1), (23, .bipush 8, 2), (25, .invokestatic 7, 3), (28, .istore 7, 2), (30, .iload_n 2, 1), (31, .iconst 0, 1), (32, .invokestatic 7, 3), (35, .istore 8, 2), (37, .iload_n 2, 1), (38, .bipush 8, 2), (40, .invokestatic 7, 3), (43, .istore 9, 2), (45, .iload_n 3, 1), (46, .iconst 4, 1), (47, .iand, 1), (48, .ifCond .eq 7, 3), (51, .iconst 1, 1), (52, .goto 4, 3), (55, .iconst 0, 1), (56, .istore 10, 2), (58, .iload_n 3, 1), (59, .iconst 3, 1), (60, .iand, 1), (61, .istore 11, 2), (63, .iload 10, 2), (65, .ifCond .eq 8, 3), (68, .bipush 38, 2), (70, .goto 5, 3), (73, .bipush 63, 2), (75, .istore 12, 2), (77, .iload 11, 2), (79, .ifCond .ne 68, 3), (82, .aconst_null, 1), (83, .astore 14, 2), (85, .new 13, 3), (88, .dup, 1), (89, .iconst 2, 1), (90, .newarray .char, 2), (92, .dup, 1), (93, .iconst 0, 1), (94, .iload 4, 2), (96, .castore, 1), (97, .dup, 1), (98, .iconst 1, 1), (99, .iload 5, 2), (101, .castore, 1), (102, .invokespecial 15, 3), (105, .astore 13, 2), (107, .new 13, 3), (110, .dup, 1), (111, .iconst 5, 1), (112, .newarray .char, 2), (114, .dup, 1), (115, .iconst 0, 1), (116, .iload 4, 2), (118, .castore, 1), (119, .dup, 1), (120, .iconst 1, 1), (121, .iload 5, 2), (123, .castore, 1), (124, .dup, 1), (125, .iconst 2, 1), (126, .iload 12, 2), (128, .castore, 1), (129, .dup, 1), (130, .iconst 3, 1), (131, .iload 8, 2), (133, .castore, 1), (134, .dup, 1), (135, .iconst 4, 1), (136, .iload 9, 2), (138, .castore, 1), (139, .invokespecial 15, 3), (142, .astore 15, 2), (144, .goto 305, 3), (147, .iload 11, 2), (149, .iconst 1, 1), (150, .if_icmp .ne 88, 3), (153, .new 13, 3), (156, .dup, 1), (157, .iconst 0, 1), (158, .newarray .char, 2), (160, .invokespecial 15, 3), (163, .astore 14, 2), (165, .new 13, 3), (168, .dup, 1), (169, .iconst 3, 1), (170, .newarray .char, 2), (172, .dup, 1), (173, .iconst 0, 1), (174, .iload 4, 2), (176, .castore, 1), (177, .dup, 1), (178, .iconst 1, 1), (179, .iload 5, 2), (181, .castore, 1), (182, .dup, 1), (183, .iconst 2, 1), (184, .bipush 35, 2), (186, .castore, 1), (187, .invokespecial 15, 3), (190, .astore 13, 2), (192, .new 13, 3), (195, .dup, 1), (196, .bipush 6, 2), (198, .newarray .char, 2), (200, .dup, 1), (201, .iconst 0, 1), (202, .iload 4, 2), (204, .castore, 1), (205, .dup, 1), (206, .iconst 1, 1), (207, .iload 5, 2), (209, .castore, 1), (210, .dup, 1), (211, .iconst 2, 1), (212, .iload 12, 2), (214, .castore, 1), (215, .dup, 1), (216, .iconst 3, 1), (217, .iload 8, 2), (219, .castore, 1), (220, .dup, 1), (221, .iconst 4, 1), (222, .iload 9, 2), (224, .castore, 1), (225, .dup, 1), (226, .iconst 5, 1), (227, .bipush 35, 2), (229, .castore, 1), (230, .invokespecial 15, 3), (233, .astore 15, 2), (235, .goto 214, 3), (238, .iload 11, 2), (240, .iconst 2, 1), (241, .if_icmp .ne 94, 3), (244, .iload 6, 2), (246, .invokestatic 18, 3), (249, .astore 14, 2), (251, .new 13, 3), (254, .dup, 1), (255, .iconst 4, 1), (256, .newarray .char, 2), (258, .dup, 1), (259, .iconst 0, 1), (260, .iload 4, 2), (262, .castore, 1), (263, .dup, 1), (264, .iconst 1, 1), (265, .iload 5, 2), (267, .castore, 1), (268, .dup, 1), (269, .iconst 2, 1), (270, .bipush 35, 2), (272, .castore, 1), (273, .dup, 1), (274, .iconst 3, 1), (275, .iload 6, 2), (277, .castore, 1), (278, .invokespecial 15, 3), (281, .astore 13, 2), (283, .new 13, 3), (286, .dup, 1), (287, .bipush 7, 2), (289, .newarray .char, 2), (291, .dup, 1), (292, .iconst 0, 1), (293, .iload 4, 2), (295, .castore, 1), (296, .dup, 1), (297, .iconst 1, 1), (298, .iload 5, 2), (300, .castore, 1), (301, .dup, 1), (302, .iconst 2, 1), (303, .iload 12, 2), (305, .castore, 1), (306, .dup, 1), (307, .iconst 3, 1), (308, .iload 8, 2), (310, .castore, 1), (311, .dup, 1), (312, .iconst 4, 1), (313, .iload 9, 2), (315, .castore, 1), (316, .dup, 1), (317, .iconst 5, 1), (318, .bipush 35, 2), (320, .castore, 1), (321, .dup, 1), (322, .bipush 6, 2), (324, .iload 6, 2), (326, .castore, 1), (327, .invokespecial 15, 3), (330, .astore 15, 2), (332, .goto 117, 3), (335, .new 13, 3), (338, .dup, 1), (339, .iconst 2, 1), (340, .newarray .char, 2), (342, .dup, 1), (343, .iconst 0, 1), (344, .iload 6, 2), (346, .castore, 1), (347, .dup, 1), (348, .iconst 1, 1), (349, .iload 7, 2), (351, .castore, 1), (352, .invokespecial 15, 3), (355, .astore 14, 2), (357, .new 13, 3), (360, .dup, 1), (361, .iconst 5, 1), (362, .newarray .char, 2), (364, .dup, 1), (365, .iconst 0, 1), (366, .iload 4, 2), (368, .castore, 1), (369, .dup, 1), (370, .iconst 1, 1), (371, .iload 5, 2), (373, .castore, 1), (374, .dup, 1), (375, .iconst 2, 1), (376, .bipush 35, 2), (378, .castore, 1), (379, .dup, 1), (380, .iconst 3, 1), (381, .iload 6, 2), (383, .castore, 1), (384, .dup, 1), (385, .iconst 4, 1), (386, .iload 7, 2), (388, .castore, 1), (389, .invokespecial 15, 3), (392, .astore 13, 2), (394, .new 13, 3), (397, .dup, 1), (398, .bipush 8, 2), (400, .newarray .char, 2), (402, .dup, 1), (403, .iconst 0, 1), (404, .iload 4, 2), (406, .castore, 1), (407, .dup, 1), (408, .iconst 1, 1), (409, .iload 5, 2), (411, .castore, 1), (412, .dup, 1), (413, .iconst 2, 1), (414, .iload 12, 2), (416, .castore, 1), (417, .dup, 1), (418, .iconst 3, 1), (419, .iload 8, 2), (421, .castore, 1), (422, .dup, 1), (423, .iconst 4, 1), (424, .iload 9, 2), (426, .castore, 1), (427, .dup, 1), (428, .iconst 5, 1), (429, .bipush 35, 2), (431, .castore, 1), (432, .dup, 1), (433, .bipush 6, 2), (435, .iload 6, 2), (437, .castore, 1), (438, .dup, 1), (439, .bipush 7, 2), (441, .iload 7, 2), (443, .castore, 1), (444, .invokespecial 15, 3), (447, .astore 15, 2), (449, .new 22, 3), (452, .dup, 1), (453, .aload 13, 2), (455, .ldc 24, 2), (457, .iload 10, 2), (459, .aload 14, 2), (461, .invokespecial 26, 3), (464, .astore 16, 2), (466, .aload 16, 2), (468, .new 13, 3), (471, .dup, 1), (472, .iconst 2, 1), (473, .newarray .char, 2), (475, .dup, 1), (476, .iconst 0, 1), (477, .iload 8, 2), (479, .castore, 1), (480, .dup, 1), (481, .iconst 1, 1), (482, .iload 9, 2), (484, .castore, 1), (485, .invokespecial 15, 3), (488, .invokevirtual 29, 3), (491, .astore 17, 2), (493, .aload 15, 2), (495, .aload 17, 2), (497, .invokevirtual 33, 3), (500, .ireturn, 1)]
theorem L_law : ∀ q ∈ P_law, decode code q.1 = .ok q.2 := by decide +kernel
def M_law : Mt := (("com/example/crosswarden/crosswarden/web/DestinationWithArgumentsPinLaw", "law", room_1), P_law, 18, (some .boolean))
set_option maxRecDepth 65536 in
set_option maxHeartbeats 40000000 in
theorem law_ok {G : Gb} (H : Gl tables_1 els G) {h : Heap} {p0 p1 p2 p3 : Int32} (hF : ∃ vf : Value, Sta G.Z G.Z.heap "jdk/internal/util/Preconditions" "SIOOBE_FORMATTER" "Ljava/util/function/BiFunction;" vf ∧ vf.isRef = true) :
    Ctr G tables_1 x code maxLocals ret room_1 #[.int p0, .int p1, .int p2, .int p3] h [] (fun v h' Sf => v = some (.int 1)) := by
  refine ctr_of M_law rfl rfl (plainFor_of_name pn_10) L_law H.el (Ls := #[.val (.int p0), .val (.int p1), .val (.int p2), .val (.int p3), .unset, .unset, .unset, .unset, .unset, .unset, .unset, .unset, .unset, .unset, .unset, .unset, .unset, .unset]) (fun m => ef_ok (by first | (simp [argsToLocals, Value.category]; done) | rfl)) ?_
  intro B K hE
  refine go_run K 0 2 (pc' := 2) (st' := [(.int (0 : Int32)), (.int p0)]) rfl ?_
  refine go_static K (k := 2) rfl (H.w 0 rfl) (H.w 1 rfl) (H.w 2 rfl) (H.w 3 rfl) (by decide) pd_29 (c_ch (x := p0) (y := (0 : Int32)) H) (argsL := [(.int p0), (.int (0 : Int32))]) (rest := []) rfl rfl rfl sub0 rfl ?_
  rintro _ _ _ - ⟨r1, rfl, rfl, q2⟩
  show Go G B M_law _ h [] 0 0 5 #[.val (.int p0), .val (.int p1), .val (.int p2), .val (.int p3), .unset, .unset, .unset, .unset, .unset, .unset, .unset, .unset, .unset, .unset, .unset, .unset, .unset, .unset] [(.int r1)]
  refine go_run K 3 3 (pc' := 10) (Ls' := #[.val (.int p0), .val (.int p1), .val (.int p2), .val (.int p3), .val (.int r1), .unset, .unset, .unset, .unset, .unset, .unset, .unset, .unset, .unset, .unset, .unset, .unset, .unset]) (st' := [(.int (8 : Int32)), (.int p0)]) rfl ?_
  refine go_static K (k := 6) rfl (H.w 0 rfl) (H.w 1 rfl) (H.w 2 rfl) (H.w 3 rfl) (by decide) pd_29 (c_ch (x := p0) (y := (8 : Int32)) H) (argsL := [(.int p0), (.int (8 : Int32))]) (rest := []) rfl rfl rfl sub0 rfl ?_
  rintro _ _ _ - ⟨r3, rfl, rfl, q4⟩
  show Go G B M_law _ h [] 0 0 13 #[.val (.int p0), .val (.int p1), .val (.int p2), .val (.int p3), .val (.int r1), .unset, .unset, .unset, .unset, .unset, .unset, .unset, .unset, .unset, .unset, .unset, .unset, .unset] [(.int r3)]
  refine go_run K 7 3 (pc' := 17) (Ls' := #[.val (.int p0), .val (.int p1), .val (.int p2), .val (.int p3), .val (.int r1), .val (.int r3), .unset, .unset, .unset, .unset, .unset, .unset, .unset, .unset, .unset, .unset, .unset, .unset]) (st' := [(.int (0 : Int32)), (.int p1)]) rfl ?_
  refine go_static K (k := 10) rfl (H.w 0 rfl) (H.w 1 rfl) (H.w 2 rfl) (H.w 3 rfl) (by decide) pd_29 (c_ch (x := p1) (y := (0 : Int32)) H) (argsL := [(.int p1), (.int (0 : Int32))]) (rest := []) rfl rfl rfl sub0 rfl ?_
  rintro _ _ _ - ⟨r5, rfl, rfl, q6⟩
  show Go G B M_law _ h [] 0 0 20 #[.val (.int p0), .val (.int p1), .val (.int p2), .val (.int p3), .val (.int r1), .val (.int r3), .unset, .unset, .unset, .unset, .unset, .unset, .unset, .unset, .unset, .unset, .unset, .unset] [(.int r5)]
  refine go_run K 11 3 (pc' := 25) (Ls' := #[.val (.int p0), .val (.int p1), .val (.int p2), .val (.int p3), .val (.int r1), .val (.int r3), .val (.int r5), .unset, .unset, .unset, .unset, .unset, .unset, .unset, .unset, .unset, .unset, .unset]) (st' := [(.int (8 : Int32)), (.int p1)]) rfl ?_
  refine go_static K (k := 14) rfl (H.w 0 rfl) (H.w 1 rfl) (H.w 2 rfl) (H.w 3 rfl) (by decide) pd_29 (c_ch (x := p1) (y := (8 : Int32)) H) (argsL := [(.int p1), (.int (8 : Int32))]) (rest := []) rfl rfl rfl sub0 rfl ?_
  rintro _ _ _ - ⟨r7, rfl, rfl, q8⟩
  show Go G B M_law _ h [] 0 0 28 #[.val (.int p0), .val (.int p1), .val (.int p2), .val (.int p3), .val (.int r1), .val (.int r3), .val (.int r5), .unset, .unset, .unset, .unset, .unset, .unset, .unset, .unset, .unset, .unset, .unset] [(.int r7)]
  refine go_run K 15 3 (pc' := 32) (Ls' := #[.val (.int p0), .val (.int p1), .val (.int p2), .val (.int p3), .val (.int r1), .val (.int r3), .val (.int r5), .val (.int r7), .unset, .unset, .unset, .unset, .unset, .unset, .unset, .unset, .unset, .unset]) (st' := [(.int (0 : Int32)), (.int p2)]) rfl ?_
  refine go_static K (k := 18) rfl (H.w 0 rfl) (H.w 1 rfl) (H.w 2 rfl) (H.w 3 rfl) (by decide) pd_29 (c_ch (x := p2) (y := (0 : Int32)) H) (argsL := [(.int p2), (.int (0 : Int32))]) (rest := []) rfl rfl rfl sub0 rfl ?_
  rintro _ _ _ - ⟨r9, rfl, rfl, q10⟩
  show Go G B M_law _ h [] 0 0 35 #[.val (.int p0), .val (.int p1), .val (.int p2), .val (.int p3), .val (.int r1), .val (.int r3), .val (.int r5), .val (.int r7), .unset, .unset, .unset, .unset, .unset, .unset, .unset, .unset, .unset, .unset] [(.int r9)]
  refine go_run K 19 3 (pc' := 40) (Ls' := #[.val (.int p0), .val (.int p1), .val (.int p2), .val (.int p3), .val (.int r1), .val (.int r3), .val (.int r5), .val (.int r7), .val (.int r9), .unset, .unset, .unset, .unset, .unset, .unset, .unset, .unset, .unset]) (st' := [(.int (8 : Int32)), (.int p2)]) rfl ?_
  refine go_static K (k := 22) rfl (H.w 0 rfl) (H.w 1 rfl) (H.w 2 rfl) (H.w 3 rfl) (by decide) pd_29 (c_ch (x := p2) (y := (8 : Int32)) H) (argsL := [(.int p2), (.int (8 : Int32))]) (rest := []) rfl rfl rfl sub0 rfl ?_
  rintro _ _ _ - ⟨r11, rfl, rfl, q12⟩
  show Go G B M_law _ h [] 0 0 43 #[.val (.int p0), .val (.int p1), .val (.int p2), .val (.int p3), .val (.int r1), .val (.int r3), .val (.int r5), .val (.int r7), .val (.int r9), .unset, .unset, .unset, .unset, .unset, .unset, .unset, .unset, .unset] [(.int r11)]
  refine go_run K 23 4 (pc' := 48) (Ls' := #[.val (.int p0), .val (.int p1), .val (.int p2), .val (.int p3), .val (.int r1), .val (.int r3), .val (.int r5), .val (.int r7), .val (.int r9), .val (.int r11), .unset, .unset, .unset, .unset, .unset, .unset, .unset, .unset]) (st' := [(.int (p3 &&& (4 : Int32)))]) rfl ?_
  have J77 : ∀ qv sp : Int32, ((qv = 1 ∧ sp = 38) ∨ (qv = 0 ∧ sp = 63)) → Go G B M_law (fun v h' Sf => v = some (.int 1)) h [] 0 0 77 #[.val (.int p0), .val (.int p1), .val (.int p2), .val (.int p3), .val (.int r1), .val (.int r3), .val (.int r5), .val (.int r7), .val (.int r9), .val (.int r11), .val (.int qv), .val (.int (p3 &&& (3 : Int32))), .val (.int sp), .unset, .unset, .unset, .unset, .unset] [] := by
    intro qv sp hq
    have hsp : ¬ sp < 0 ∧ ¬ (255 : Int32) < sp := by rcases hq with ⟨-, rfl⟩ | ⟨-, rfl⟩ <;> decide
    have hqv : qv = 0 ∨ qv = 1 := hq.elim (fun u => Or.inr u.1) (fun u => Or.inl u.1)
    obtain hn | hn | hn | hn := and3 p3
    · rw [hn]
      refine go_run K 42 1 (pc' := 79) (st' := [(.int (0 : Int32))]) rfl ?_
      refine go_ifne K (k := 43) rfl (pc' := 147) (by decide) (fun q => absurd (by decide) q) (fun _ => ?_)
      refine go_run K 44 2 (pc' := 85) (Ls' := #[.val (.int p0), .val (.int p1), .val (.int p2), .val (.int p3), .val (.int r1), .val (.int r3), .val (.int r5), .val (.int r7), .val (.int r9), .val (.int r11), .val (.int qv), .val (.int (0 : Int32)), .val (.int sp), .unset, .val .null, .unset, .unset, .unset]) (st' := []) rfl ?_
      refine go_new K (k := 46) rfl (H.w 4 rfl) (H.w 5 rfl) (H.w 6 rfl) rfl rfl ?_
      intro h14 a13 e15 g16 E17 A18 D19
      have F20 : Fld G.Z h14 a13 "java/lang/String" "value" "[B" .null := D19 (Or.inr (H.w 20 rfl)) (ty := (.array .byte)) (by decide)
      have F21 : Fld G.Z h14 a13 "java/lang/String" "coder" "B" (.int (0 : Int32)) := D19 (Or.inr (H.w 21 rfl)) (ty := .byte) (by decide)
      refine go_run K 47 2 (pc' := 90) (st' := [(.int (2 : Int32)), (.ref a13), (.ref a13)]) rfl ?_
      refine go_newarray K (k := 49) rfl (H.w 7 rfl) (by decide) (cap := 2) (by decide) rfl rfl rfl ?_
      intro h23 a22 k24 e25 g26 E27 A28
      have A28' : Arv G.Z h23 a22 k24 .char (2 : Int32) [(.int (0 : Int32)), (.int (0 : Int32))] (.int (0 : Int32)) := Arv.pad A28 (pad_rep [] (.int (0 : Int32)) 2)
      refine go_run K 50 3 (pc' := 96) (st' := [(.int r1), (.int (0 : Int32)), (.ref a22), (.ref a22), (.ref a13), (.ref a13)]) rfl ?_
      refine go_castore K (k := 53) rfl A28' (i := 0) (by decide) rfl (Nat.le_of_ble_eq_true rfl) g26 ?_
      intro h29 W30 A31
      refine go_run K 54 3 (pc' := 101) (st' := [(.int r3), (.int (1 : Int32)), (.ref a22), (.ref a22), (.ref a13), (.ref a13)]) rfl ?_
      refine go_castore K (k := 57) rfl A31 (i := 1) (by decide) rfl (Nat.le_of_ble_eq_true rfl) g26 ?_
      intro h32 W33 A34
      have B35 : Arv G.Z h32 a22 k24 .char (2 : Int32) (([r1, r3] : List Int32).map Value.int) (.int 0) := by
        have u := A34
        rw [nar_id q2, nar_id q4] at u
        exact u
      have X36 : Ext h14 h29 := (Ext.wrN E27 W30 (Nat.le_trans (Nat.le_refl _) (Nat.le_of_eq e25.symm)))
      have X37 : Ext h14 h32 := (Ext.wrN X36 W33 (Nat.le_trans (Nat.le_refl _) (Nat.le_of_eq e25.symm)))
      have c38 := (A18.ext X37)
      have c39 := (F20.ext X37)
      have c40 := (F21.ext X37)
      refine go_special K (k := 58) rfl rfl (H.w 8 rfl) (H.w 9 rfl) (H.w 6 rfl) (H.w 10 rfl) (by decide) pd_30 (c_si (cs := [r1, r3]) H (latC q2 (lat1 q4) (Nat.le_of_ble_eq_true rfl)) (Nat.le_of_ble_eq_true rfl) c38 c39 c40 g16 B35) (argsL := [(.ref a22)]) (rest := [(.ref a13)]) rfl rfl rfl (subS (List.mem_cons_of_mem _ (List.mem_cons_self ..)) sub0) rfl ?_
      rintro _ h41 _ - ⟨rfl, K42, S43⟩
      show Go G B M_law _ h41 (a22 :: (a13 :: [])) 6 14 105 #[.val (.int p0), .val (.int p1), .val (.int p2), .val (.int p3), .val (.int r1), .val (.int r3), .val (.int r5), .val (.int r7), .val (.int r9), .val (.int r11), .val (.int qv), .val (.int (0 : Int32)), .val (.int sp), .unset, .val .null, .unset, .unset, .unset] [(.ref a13)]
      refine go_run K 59 1 (pc' := 107) (Ls' := #[.val (.int p0), .val (.int p1), .val (.int p2), .val (.int p3), .val (.int r1), .val (.int r3), .val (.int r5), .val (.int r7), .val (.int r9), .val (.int r11), .val (.int qv), .val (.int (0 : Int32)), .val (.int sp), .val (.ref a13), .val .null, .unset, .unset, .unset]) (st' := []) rfl ?_
      refine go_new K (k := 60) rfl (H.w 4 rfl) (H.w 5 rfl) (H.w 6 rfl) rfl rfl ?_
      intro h45 a44 e46 g47 E48 A49 D50
      have F51 : Fld G.Z h45 a44 "java/lang/String" "value" "[B" .null := D50 (Or.inr (H.w 20 rfl)) (ty := (.array .byte)) (by decide)
      have F52 : Fld G.Z h45 a44 "java/lang/String" "coder" "B" (.int (0 : Int32)) := D50 (Or.inr (H.w 21 rfl)) (ty := .byte) (by decide)
      refine go_run K 61 2 (pc' := 112) (st' := [(.int (5 : Int32)), (.ref a44), (.ref a44)]) rfl ?_
      refine go_newarray K (k := 63) rfl (H.w 7 rfl) (by decide) (cap := 5) (by decide) rfl rfl rfl ?_
      intro h54 a53 k55 e56 g57 E58 A59
      have A59' : Arv G.Z h54 a53 k55 .char (5 : Int32) [(.int (0 : Int32)), (.int (0 : Int32)), (.int (0 : Int32)), (.int (0 : Int32)), (.int (0 : Int32))] (.int (0 : Int32)) := Arv.pad A59 (pad_rep [] (.int (0 : Int32)) 5)
      refine go_run K 64 3 (pc' := 118) (st' := [(.int r1), (.int (0 : Int32)), (.ref a53), (.ref a53), (.ref a44), (.ref a44)]) rfl ?_
      refine go_castore K (k := 67) rfl A59' (i := 0) (by decide) rfl (Nat.le_of_ble_eq_true rfl) g57 ?_
      intro h60 W61 A62
      refine go_run K 68 3 (pc' := 123) (st' := [(.int r3), (.int (1 : Int32)), (.ref a53), (.ref a53), (.ref a44), (.ref a44)]) rfl ?_
      refine go_castore K (k := 71) rfl A62 (i := 1) (by decide) rfl (Nat.le_of_ble_eq_true rfl) g57 ?_
      intro h63 W64 A65
      refine go_run K 72 3 (pc' := 128) (st' := [(.int sp), (.int (2 : Int32)), (.ref a53), (.ref a53), (.ref a44), (.ref a44)]) rfl ?_
      refine go_castore K (k := 75) rfl A65 (i := 2) (by decide) rfl (Nat.le_of_ble_eq_true rfl) g57 ?_
      intro h66 W67 A68
      refine go_run K 76 3 (pc' := 133) (st' := [(.int r9), (.int (3 : Int32)), (.ref a53), (.ref a53), (.ref a44), (.ref a44)]) rfl ?_
      refine go_castore K (k := 79) rfl A68 (i := 3) (by decide) rfl (Nat.le_of_ble_eq_true rfl) g57 ?_
      intro h69 W70 A71
      refine go_run K 80 3 (pc' := 138) (st' := [(.int r11), (.int (4 : Int32)), (.ref a53), (.ref a53), (.ref a44), (.ref a44)]) rfl ?_
      refine go_castore K (k := 83) rfl A71 (i := 4) (by decide) rfl (Nat.le_of_ble_eq_true rfl) g57 ?_
      intro h72 W73 A74
      have B75 : Arv G.Z h72 a53 k55 .char (5 : Int32) (([r1, r3, sp, r9, r11] : List Int32).map Value.int) (.int 0) := by
        have u := A74
        rw [nar_id q2, nar_id q4, nar_id hsp, nar_id q10, nar_id q12] at u
        exact u
      have X76 : Ext h45 h60 := (Ext.wrN E58 W61 (Nat.le_trans (Nat.le_refl _) (Nat.le_of_eq e56.symm)))
      have X77 : Ext h45 h63 := (Ext.wrN X76 W64 (Nat.le_trans (Nat.le_refl _) (Nat.le_of_eq e56.symm)))
      have X78 : Ext h45 h66 := (Ext.wrN X77 W67 (Nat.le_trans (Nat.le_refl _) (Nat.le_of_eq e56.symm)))
      have X79 : Ext h45 h69 := (Ext.wrN X78 W70 (Nat.le_trans (Nat.le_refl _) (Nat.le_of_eq e56.symm)))
      have X80 : Ext h45 h72 := (Ext.wrN X79 W73 (Nat.le_trans (Nat.le_refl _) (Nat.le_of_eq e56.symm)))
      have c81 := (A49.ext X80)
      have c82 := (F51.ext X80)
      have c83 := (F52.ext X80)
      refine go_special K (k := 84) rfl rfl (H.w 8 rfl) (H.w 9 rfl) (H.w 6 rfl) (H.w 10 rfl) (by decide) pd_30 (c_si (cs := [r1, r3, sp, r9, r11]) H (latC q2 (latC q4 (latC hsp (latC q10 (lat1 q12) (Nat.le_of_ble_eq_true rfl)) (Nat.le_of_ble_eq_true rfl)) (Nat.le_of_ble_eq_true rfl)) (Nat.le_of_ble_eq_true rfl)) (Nat.le_of_ble_eq_true rfl) c81 c82 c83 g47 B75) (argsL := [(.ref a53)]) (rest := [(.ref a44)]) rfl rfl rfl (subS (List.mem_cons_of_mem _ (List.mem_cons_self ..)) sub0) rfl ?_
      rintro _ h84 _ - ⟨rfl, K85, S86⟩
      show Go G B M_law _ h84 (a53 :: (a44 :: (a22 :: (a13 :: [])))) 12 31 142 #[.val (.int p0), .val (.int p1), .val (.int p2), .val (.int p3), .val (.int r1), .val (.int r3), .val (.int r5), .val (.int r7), .val (.int r9), .val (.int r11), .val (.int qv), .val (.int (0 : Int32)), .val (.int sp), .val (.ref a13), .val .null, .unset, .unset, .unset] [(.ref a44)]
      refine go_run K 85 2 (pc' := 449) (Ls' := #[.val (.int p0), .val (.int p1), .val (.int p2), .val (.int p3), .val (.int r1), .val (.int r3), .val (.int r5), .val (.int r7), .val (.int r9), .val (.int r11), .val (.int qv), .val (.int (0 : Int32)), .val (.int sp), .val (.ref a13), .val .null, .val (.ref a44), .unset, .unset]) (st' := []) rfl ?_
      refine go_new K (k := 286) rfl (H.w 37 rfl) (H.w 38 rfl) (H.w 39 rfl) rfl rfl ?_
      intro h88 a87 e89 g90 E91 A92 D93
      have F94 : Fld G.Z h88 a87 "com/example/crosswarden/crosswarden/web/Destination" "url" "Ljava/lang/String;" .null := D93 (Or.inr (H.w 51 rfl)) (ty := (.object "java/lang/String")) (by decide)
      have F95 : Fld G.Z h88 a87 "com/example/crosswarden/crosswarden/web/Destination" "host" "Ljava/lang/String;" .null := D93 (Or.inr (H.w 53 rfl)) (ty := (.object "java/lang/String")) (by decide)
      have F96 : Fld G.Z h88 a87 "com/example/crosswarden/crosswarden/web/Destination" "query" "Z" (.int (0 : Int32)) := D93 (Or.inr (H.w 55 rfl)) (ty := .boolean) (by decide)
      have F97 : Fld G.Z h88 a87 "com/example/crosswarden/crosswarden/web/Destination" "fragment" "Ljava/lang/String;" .null := D93 (Or.inr (H.w 57 rfl)) (ty := (.object "java/lang/String")) (by decide)
      refine go_run K 287 2 (pc' := 455) (st' := [(.ref a13), (.ref a87), (.ref a87)]) rfl ?_
      refine go_ldc K (k := 289) rfl (H.w 40 rfl) H.ws (n := 4) rfl rfl rfl rfl ?_
      intro h99 a98 E100
      refine go_run K 290 2 (pc' := 461) (st' := [.null, (.int qv), (.ref a98), (.ref a13), (.ref a87), (.ref a87)]) rfl ?_
      have c101 := (A92.ext E100)
      have c102 := (F94.ext E100)
      have c103 := (F95.ext E100)
      have c104 := (F96.ext E100)
      have c105 := (F97.ext E100)
      refine go_special K (k := 292) rfl rfl (H.w 41 rfl) (H.w 42 rfl) (H.w 39 rfl) (H.w 43 rfl) (by decide) pd_31 (c_deN (a := a87) (r0 := a13) (r1 := a98) (p2 := qv) H c101 c102 c103 c104 c105 g90 hqv) (argsL := [(.ref a13), (.ref a98), (.int qv), .null]) (rest := [(.ref a87)]) rfl rfl rfl sub0 rfl ?_
      rintro _ h106 _ - ⟨rfl, K107, E108, F109, F110, F111, F112⟩
      show Go G B M_law _ h106 (a87 :: (a53 :: (a44 :: (a22 :: (a13 :: []))))) 15 43 464 #[.val (.int p0), .val (.int p1), .val (.int p2), .val (.int p3), .val (.int r1), .val (.int r3), .val (.int r5), .val (.int r7), .val (.int r9), .val (.int r11), .val (.int qv), .val (.int (0 : Int32)), .val (.int sp), .val (.ref a13), .val .null, .val (.ref a44), .unset, .unset] [(.ref a87)]
      refine go_run K 293 2 (pc' := 468) (Ls' := #[.val (.int p0), .val (.int p1), .val (.int p2), .val (.int p3), .val (.int r1), .val (.int r3), .val (.int r5), .val (.int r7), .val (.int r9), .val (.int r11), .val (.int qv), .val (.int (0 : Int32)), .val (.int sp), .val (.ref a13), .val .null, .val (.ref a44), .val (.ref a87), .unset]) (st' := [(.ref a87)]) rfl ?_
      refine go_new K (k := 295) rfl (H.w 4 rfl) (H.w 5 rfl) (H.w 6 rfl) rfl rfl ?_
      intro h114 a113 e115 g116 E117 A118 D119
      have F120 : Fld G.Z h114 a113 "java/lang/String" "value" "[B" .null := D119 (Or.inr (H.w 20 rfl)) (ty := (.array .byte)) (by decide)
      have F121 : Fld G.Z h114 a113 "java/lang/String" "coder" "B" (.int (0 : Int32)) := D119 (Or.inr (H.w 21 rfl)) (ty := .byte) (by decide)
      refine go_run K 296 2 (pc' := 473) (st' := [(.int (2 : Int32)), (.ref a113), (.ref a113), (.ref a87)]) rfl ?_
      refine go_newarray K (k := 298) rfl (H.w 7 rfl) (by decide) (cap := 2) (by decide) rfl rfl rfl ?_
      intro h123 a122 k124 e125 g126 E127 A128
      have A128' : Arv G.Z h123 a122 k124 .char (2 : Int32) [(.int (0 : Int32)), (.int (0 : Int32))] (.int (0 : Int32)) := Arv.pad A128 (pad_rep [] (.int (0 : Int32)) 2)
      refine go_run K 299 3 (pc' := 479) (st' := [(.int r9), (.int (0 : Int32)), (.ref a122), (.ref a122), (.ref a113), (.ref a113), (.ref a87)]) rfl ?_
      refine go_castore K (k := 302) rfl A128' (i := 0) (by decide) rfl (Nat.le_of_ble_eq_true rfl) g126 ?_
      intro h129 W130 A131
      refine go_run K 303 3 (pc' := 484) (st' := [(.int r11), (.int (1 : Int32)), (.ref a122), (.ref a122), (.ref a113), (.ref a113), (.ref a87)]) rfl ?_
      refine go_castore K (k := 306) rfl A131 (i := 1) (by decide) rfl (Nat.le_of_ble_eq_true rfl) g126 ?_
      intro h132 W133 A134
      have B135 : Arv G.Z h132 a122 k124 .char (2 : Int32) (([r9, r11] : List Int32).map Value.int) (.int 0) := by
        have u := A134
        rw [nar_id q10, nar_id q12] at u
        exact u
      have X136 : Ext h114 h129 := (Ext.wrN E127 W130 (Nat.le_trans (Nat.le_refl _) (Nat.le_of_eq e125.symm)))
      have X137 : Ext h114 h132 := (Ext.wrN X136 W133 (Nat.le_trans (Nat.le_refl _) (Nat.le_of_eq e125.symm)))
      have c138 := (A118.ext X137)
      have c139 := (F120.ext X137)
      have c140 := (F121.ext X137)
      refine go_special K (k := 307) rfl rfl (H.w 8 rfl) (H.w 9 rfl) (H.w 6 rfl) (H.w 10 rfl) (by decide) pd_30 (c_si (cs := [r9, r11]) H (latC q10 (lat1 q12) (Nat.le_of_ble_eq_true rfl)) (Nat.le_of_ble_eq_true rfl) c138 c139 c140 g116 B135) (argsL := [(.ref a122)]) (rest := [(.ref a113), (.ref a87)]) rfl rfl rfl (subS (List.mem_cons_of_mem _ (List.mem_cons_self ..)) sub0) rfl ?_
      rintro _ h141 _ - ⟨rfl, K142, S143⟩
      show Go G B M_law _ h141 (a122 :: (a113 :: (a87 :: (a53 :: (a44 :: (a22 :: (a13 :: []))))))) 21 57 488 #[.val (.int p0), .val (.int p1), .val (.int p2), .val (.int p3), .val (.int r1), .val (.int r3), .val (.int r5), .val (.int r7), .val (.int r9), .val (.int r11), .val (.int qv), .val (.int (0 : Int32)), .val (.int sp), .val (.ref a13), .val .null, .val (.ref a44), .val (.ref a87), .unset] [(.ref a113), (.ref a87)]
      have X144 : Ext h106 h123 := (Ext.tr E117 E127)
      have X145 : Ext h106 h129 := (Ext.wrN X144 W130 (Nat.le_trans (E117).1 (Nat.le_of_eq e125.symm)))
      have X146 : Ext h106 h132 := (Ext.wrN X145 W133 (Nat.le_trans (E117).1 (Nat.le_of_eq e125.symm)))
      have X147 : Ext h106 h141 := (Ext.keepN X146 K142 (allS (Nat.le_trans (Nat.le_refl _) (Nat.le_of_eq e115.symm)) all0))
      have c148 := (F109.ext X147)
      have c149 := (F112.ext X147)
      have c150 := (F111.ext X147)
      have X151 : Ext h41 h54 := (Ext.tr E48 E58)
      have X152 : Ext h41 h60 := (Ext.wrN X151 W61 (Nat.le_trans (E48).1 (Nat.le_of_eq e56.symm)))
      have X153 : Ext h41 h63 := (Ext.wrN X152 W64 (Nat.le_trans (E48).1 (Nat.le_of_eq e56.symm)))
      have X154 : Ext h41 h66 := (Ext.wrN X153 W67 (Nat.le_trans (E48).1 (Nat.le_of_eq e56.symm)))
      have X155 : Ext h41 h69 := (Ext.wrN X154 W70 (Nat.le_trans (E48).1 (Nat.le_of_eq e56.symm)))
      have X156 : Ext h41 h72 := (Ext.wrN X155 W73 (Nat.le_trans (E48).1 (Nat.le_of_eq e56.symm)))
      have X157 : Ext h41 h84 := (Ext.keepN X156 K85 (allS (Nat.le_trans (Nat.le_refl _) (Nat.le_of_eq e46.symm)) all0))
      have X158 : Ext h41 h88 := (Ext.tr X157 E91)
      have X159 : Ext h41 h99 := (Ext.tr X158 E100)
      have X160 : Ext h41 h106 := (Ext.keepN X159 K107 (allS (Nat.le_trans (X157).1 (Nat.le_of_eq e89.symm)) all0))
      have X161 : Ext h41 h114 := (Ext.tr X160 E117)
      have X162 : Ext h41 h123 := (Ext.tr X161 E127)
      have X163 : Ext h41 h129 := (Ext.wrN X162 W130 (Nat.le_trans (X161).1 (Nat.le_of_eq e125.symm)))
      have X164 : Ext h41 h132 := (Ext.wrN X163 W133 (Nat.le_trans (X161).1 (Nat.le_of_eq e125.symm)))
      have X165 : Ext h41 h141 := (Ext.keepN X164 K142 (allS (Nat.le_trans (X160).1 (Nat.le_of_eq e115.symm)) all0))
      have c166 := (S43.ext X165)
      have c167 := (E108.ext X147)
      refine go_virt0 K (k := 308) rfl (H.w 58 rfl) (H.w 61 rfl) (H.w 60 rfl) (H.w 39 rfl) (H.w 62 rfl) (by decide) pd_32 c167 (c_waN (us := [r1, r3]) (as := [r9, r11]) H (latC q2 (lat1 q4) (Nat.le_of_ble_eq_true rfl)) (latC q10 (lat1 q12) (Nat.le_of_ble_eq_true rfl)) (by simp) (by simp) hq c148 c149 c150 c166 S143) (argsL := [(.ref a113)]) (rest := []) rfl rfl rfl sub0 rfl ?_
      rintro _ h168 _ - ⟨a169, rfl, E170, S171⟩
      show Go G B M_law _ h168 (a122 :: (a113 :: (a87 :: (a53 :: (a44 :: (a22 :: (a13 :: []))))))) 35 173 491 #[.val (.int p0), .val (.int p1), .val (.int p2), .val (.int p3), .val (.int r1), .val (.int r3), .val (.int r5), .val (.int r7), .val (.int r9), .val (.int r11), .val (.int qv), .val (.int (0 : Int32)), .val (.int sp), .val (.ref a13), .val .null, .val (.ref a44), .val (.ref a87), .unset] [(.ref a169)]
      refine go_run K 309 3 (pc' := 497) (Ls' := #[.val (.int p0), .val (.int p1), .val (.int p2), .val (.int p3), .val (.int r1), .val (.int r3), .val (.int r5), .val (.int r7), .val (.int r9), .val (.int r11), .val (.int qv), .val (.int (0 : Int32)), .val (.int sp), .val (.ref a13), .val .null, .val (.ref a44), .val (.ref a87), .val (.ref a169)]) (st' := [(.ref a169), (.ref a44)]) rfl ?_
      have X172 : Ext h84 h99 := (Ext.tr E91 E100)
      have X173 : Ext h84 h106 := (Ext.keepN X172 K107 (allS (Nat.le_trans (Nat.le_refl _) (Nat.le_of_eq e89.symm)) all0))
      have X174 : Ext h84 h114 := (Ext.tr X173 E117)
      have X175 : Ext h84 h123 := (Ext.tr X174 E127)
      have X176 : Ext h84 h129 := (Ext.wrN X175 W130 (Nat.le_trans (X174).1 (Nat.le_of_eq e125.symm)))
      have X177 : Ext h84 h132 := (Ext.wrN X176 W133 (Nat.le_trans (X174).1 (Nat.le_of_eq e125.symm)))
      have X178 : Ext h84 h141 := (Ext.keepN X177 K142 (allS (Nat.le_trans (X173).1 (Nat.le_of_eq e115.symm)) all0))
      have X179 : Ext h84 h168 := (Ext.tr X178 E170)
      have c180 := (S86.ext X179)
      refine go_virt0 K (k := 312) rfl (H.w 204 rfl) (H.w 207 rfl) (H.w 206 rfl) (H.w 6 rfl) (H.w 208 rfl) (by decide) pd_33 c180.exa (c_seq H (latC q2 (latC q4 (latC hsp (latC q10 (lat1 q12) (Nat.le_of_ble_eq_true rfl)) (Nat.le_of_ble_eq_true rfl)) (Nat.le_of_ble_eq_true rfl)) (Nat.le_of_ble_eq_true rfl)) (latC q2 (latC q4 (latC hsp (latC q10 (lat1 q12) (Nat.le_of_ble_eq_true rfl)) (Nat.le_of_ble_eq_true rfl)) (Nat.le_of_ble_eq_true rfl)) (Nat.le_of_ble_eq_true rfl)) c180 S171) (argsL := [(.ref a169)]) (rest := []) rfl rfl rfl sub0 rfl ?_
      rintro _ _ _ - ⟨r181, rfl, rfl, q182⟩
      show Go G B M_law _ h168 (a122 :: (a113 :: (a87 :: (a53 :: (a44 :: (a22 :: (a13 :: []))))))) 35 173 500 #[.val (.int p0), .val (.int p1), .val (.int p2), .val (.int p3), .val (.int r1), .val (.int r3), .val (.int r5), .val (.int r7), .val (.int r9), .val (.int r11), .val (.int qv), .val (.int (0 : Int32)), .val (.int sp), .val (.ref a13), .val .null, .val (.ref a44), .val (.ref a87), .val (.ref a169)] [(.int r181)]
      refine go_ireturn K (k := 313) rfl rfl (by decide) (bool_n (Or.elim q182 (fun u => Or.inr u.1) (fun u => Or.inl u.1))) rfl rfl ?_
      intro Sf hSf
      rcases q182 with ⟨u1, -⟩ | ⟨-, u2⟩
      · rw [u1]
      · exact absurd rfl u2
    · rw [hn]
      refine go_run K 42 1 (pc' := 79) (st' := [(.int (1 : Int32))]) rfl ?_
      refine go_ifne K (k := 43) rfl (pc' := 147) (by decide) (fun _ => ?_) (fun q => absurd q (by decide))
      refine go_run K 87 2 (pc' := 150) (st' := [(.int (1 : Int32)), (.int (1 : Int32))]) rfl ?_
      refine go_icmpne K (k := 89) rfl (pc' := 238) (by decide) (fun q => absurd (by decide) q) (fun _ => ?_)
      refine go_new K (k := 90) rfl (H.w 4 rfl) (H.w 5 rfl) (H.w 6 rfl) rfl rfl ?_
      intro h184 a183 e185 g186 E187 A188 D189
      have F190 : Fld G.Z h184 a183 "java/lang/String" "value" "[B" .null := D189 (Or.inr (H.w 20 rfl)) (ty := (.array .byte)) (by decide)
      have F191 : Fld G.Z h184 a183 "java/lang/String" "coder" "B" (.int (0 : Int32)) := D189 (Or.inr (H.w 21 rfl)) (ty := .byte) (by decide)
      refine go_run K 91 2 (pc' := 158) (st' := [(.int (0 : Int32)), (.ref a183), (.ref a183)]) rfl ?_
      refine go_newarray K (k := 93) rfl (H.w 7 rfl) (by decide) (cap := 0) (by decide) rfl rfl rfl ?_
      intro h193 a192 k194 e195 g196 E197 A198
      have A198' : Arv G.Z h193 a192 k194 .char (0 : Int32) [] (.int (0 : Int32)) := Arv.pad A198 (pad_rep [] (.int (0 : Int32)) 0)
      have B199 : Arv G.Z h193 a192 k194 .char (0 : Int32) (([] : List Int32).map Value.int) (.int 0) := by
        have u := A198'
        exact u
      have c200 := (A188.ext E197)
      have c201 := (F190.ext E197)
      have c202 := (F191.ext E197)
      refine go_special K (k := 94) rfl rfl (H.w 8 rfl) (H.w 9 rfl) (H.w 6 rfl) (H.w 10 rfl) (by decide) pd_30 (c_si (cs := []) H lat0 (Nat.le_of_ble_eq_true rfl) c200 c201 c202 g186 B199) (argsL := [(.ref a192)]) (rest := [(.ref a183)]) rfl rfl rfl (subS (List.mem_cons_of_mem _ (List.mem_cons_self ..)) sub0) rfl ?_
      rintro _ h203 _ - ⟨rfl, K204, S205⟩
      show Go G B M_law _ h203 (a192 :: (a183 :: [])) 6 12 163 #[.val (.int p0), .val (.int p1), .val (.int p2), .val (.int p3), .val (.int r1), .val (.int r3), .val (.int r5), .val (.int r7), .val (.int r9), .val (.int r11), .val (.int qv), .val (.int (1 : Int32)), .val (.int sp), .unset, .unset, .unset, .unset, .unset] [(.ref a183)]
      refine go_run K 95 1 (pc' := 165) (Ls' := #[.val (.int p0), .val (.int p1), .val (.int p2), .val (.int p3), .val (.int r1), .val (.int r3), .val (.int r5), .val (.int r7), .val (.int r9), .val (.int r11), .val (.int qv), .val (.int (1 : Int32)), .val (.int sp), .unset, .val (.ref a183), .unset, .unset, .unset]) (st' := []) rfl ?_
      refine go_new K (k := 96) rfl (H.w 4 rfl) (H.w 5 rfl) (H.w 6 rfl) rfl rfl ?_
      intro h207 a206 e208 g209 E210 A211 D212
      have F213 : Fld G.Z h207 a206 "java/lang/String" "value" "[B" .null := D212 (Or.inr (H.w 20 rfl)) (ty := (.array .byte)) (by decide)
      have F214 : Fld G.Z h207 a206 "java/lang/String" "coder" "B" (.int (0 : Int32)) := D212 (Or.inr (H.w 21 rfl)) (ty := .byte) (by decide)
      refine go_run K 97 2 (pc' := 170) (st' := [(.int (3 : Int32)), (.ref a206), (.ref a206)]) rfl ?_
      refine go_newarray K (k := 99) rfl (H.w 7 rfl) (by decide) (cap := 3) (by decide) rfl rfl rfl ?_
      intro h216 a215 k217 e218 g219 E220 A221
      have A221' : Arv G.Z h216 a215 k217 .char (3 : Int32) [(.int (0 : Int32)), (.int (0 : Int32)), (.int (0 : Int32))] (.int (0 : Int32)) := Arv.pad A221 (pad_rep [] (.int (0 : Int32)) 3)
      refine go_run K 100 3 (pc' := 176) (st' := [(.int r1), (.int (0 : Int32)), (.ref a215), (.ref a215), (.ref a206), (.ref a206)]) rfl ?_
      refine go_castore K (k := 103) rfl A221' (i := 0) (by decide) rfl (Nat.le_of_ble_eq_true rfl) g219 ?_
      intro h222 W223 A224
      refine go_run K 104 3 (pc' := 181) (st' := [(.int r3), (.int (1 : Int32)), (.ref a215), (.ref a215), (.ref a206), (.ref a206)]) rfl ?_
      refine go_castore K (k := 107) rfl A224 (i := 1) (by decide) rfl (Nat.le_of_ble_eq_true rfl) g219 ?_
      intro h225 W226 A227
      refine go_run K 108 3 (pc' := 186) (st' := [(.int (35 : Int32)), (.int (2 : Int32)), (.ref a215), (.ref a215), (.ref a206), (.ref a206)]) rfl ?_
      refine go_castore K (k := 111) rfl A227 (i := 2) (by decide) rfl (Nat.le_of_ble_eq_true rfl) g219 ?_
      intro h228 W229 A230
      have B231 : Arv G.Z h228 a215 k217 .char (3 : Int32) (([r1, r3, (35 : Int32)] : List Int32).map Value.int) (.int 0) := by
        have u := A230
        rw [nar_id q2, nar_id q4] at u
        exact u
      have X232 : Ext h207 h222 := (Ext.wrN E220 W223 (Nat.le_trans (Nat.le_refl _) (Nat.le_of_eq e218.symm)))
      have X233 : Ext h207 h225 := (Ext.wrN X232 W226 (Nat.le_trans (Nat.le_refl _) (Nat.le_of_eq e218.symm)))
      have X234 : Ext h207 h228 := (Ext.wrN X233 W229 (Nat.le_trans (Nat.le_refl _) (Nat.le_of_eq e218.symm)))
      have c235 := (A211.ext X234)
      have c236 := (F213.ext X234)
      have c237 := (F214.ext X234)
      refine go_special K (k := 112) rfl rfl (H.w 8 rfl) (H.w 9 rfl) (H.w 6 rfl) (H.w 10 rfl) (by decide) pd_30 (c_si (cs := [r1, r3, (35 : Int32)]) H (latC q2 (latC q4 (lat1 (by decide)) (Nat.le_of_ble_eq_true rfl)) (Nat.le_of_ble_eq_true rfl)) (Nat.le_of_ble_eq_true rfl) c235 c236 c237 g209 B231) (argsL := [(.ref a215)]) (rest := [(.ref a206)]) rfl rfl rfl (subS (List.mem_cons_of_mem _ (List.mem_cons_self ..)) sub0) rfl ?_
      rintro _ h238 _ - ⟨rfl, K239, S240⟩
      show Go G B M_law _ h238 (a215 :: (a206 :: (a192 :: (a183 :: [])))) 12 27 190 #[.val (.int p0), .val (.int p1), .val (.int p2), .val (.int p3), .val (.int r1), .val (.int r3), .val (.int r5), .val (.int r7), .val (.int r9), .val (.int r11), .val (.int qv), .val (.int (1 : Int32)), .val (.int sp), .unset, .val (.ref a183), .unset, .unset, .unset] [(.ref a206)]
      refine go_run K 113 1 (pc' := 192) (Ls' := #[.val (.int p0), .val (.int p1), .val (.int p2), .val (.int p3), .val (.int r1), .val (.int r3), .val (.int r5), .val (.int r7), .val (.int r9), .val (.int r11), .val (.int qv), .val (.int (1 : Int32)), .val (.int sp), .val (.ref a206), .val (.ref a183), .unset, .unset, .unset]) (st' := []) rfl ?_
      refine go_new K (k := 114) rfl (H.w 4 rfl) (H.w 5 rfl) (H.w 6 rfl) rfl rfl ?_
      intro h242 a241 e243 g244 E245 A246 D247
      have F248 : Fld G.Z h242 a241 "java/lang/String" "value" "[B" .null := D247 (Or.inr (H.w 20 rfl)) (ty := (.array .byte)) (by decide)
      have F249 : Fld G.Z h242 a241 "java/lang/String" "coder" "B" (.int (0 : Int32)) := D247 (Or.inr (H.w 21 rfl)) (ty := .byte) (by decide)
      refine go_run K 115 2 (pc' := 198) (st' := [(.int (6 : Int32)), (.ref a241), (.ref a241)]) rfl ?_
      refine go_newarray K (k := 117) rfl (H.w 7 rfl) (by decide) (cap := 6) (by decide) rfl rfl rfl ?_
      intro h251 a250 k252 e253 g254 E255 A256
      have A256' : Arv G.Z h251 a250 k252 .char (6 : Int32) [(.int (0 : Int32)), (.int (0 : Int32)), (.int (0 : Int32)), (.int (0 : Int32)), (.int (0 : Int32)), (.int (0 : Int32))] (.int (0 : Int32)) := Arv.pad A256 (pad_rep [] (.int (0 : Int32)) 6)
      refine go_run K 118 3 (pc' := 204) (st' := [(.int r1), (.int (0 : Int32)), (.ref a250), (.ref a250), (.ref a241), (.ref a241)]) rfl ?_
      refine go_castore K (k := 121) rfl A256' (i := 0) (by decide) rfl (Nat.le_of_ble_eq_true rfl) g254 ?_
      intro h257 W258 A259
      refine go_run K 122 3 (pc' := 209) (st' := [(.int r3), (.int (1 : Int32)), (.ref a250), (.ref a250), (.ref a241), (.ref a241)]) rfl ?_
      refine go_castore K (k := 125) rfl A259 (i := 1) (by decide) rfl (Nat.le_of_ble_eq_true rfl) g254 ?_
      intro h260 W261 A262
      refine go_run K 126 3 (pc' := 214) (st' := [(.int sp), (.int (2 : Int32)), (.ref a250), (.ref a250), (.ref a241), (.ref a241)]) rfl ?_
      refine go_castore K (k := 129) rfl A262 (i := 2) (by decide) rfl (Nat.le_of_ble_eq_true rfl) g254 ?_
      intro h263 W264 A265
      refine go_run K 130 3 (pc' := 219) (st' := [(.int r9), (.int (3 : Int32)), (.ref a250), (.ref a250), (.ref a241), (.ref a241)]) rfl ?_
      refine go_castore K (k := 133) rfl A265 (i := 3) (by decide) rfl (Nat.le_of_ble_eq_true rfl) g254 ?_
      intro h266 W267 A268
      refine go_run K 134 3 (pc' := 224) (st' := [(.int r11), (.int (4 : Int32)), (.ref a250), (.ref a250), (.ref a241), (.ref a241)]) rfl ?_
      refine go_castore K (k := 137) rfl A268 (i := 4) (by decide) rfl (Nat.le_of_ble_eq_true rfl) g254 ?_
      intro h269 W270 A271
      refine go_run K 138 3 (pc' := 229) (st' := [(.int (35 : Int32)), (.int (5 : Int32)), (.ref a250), (.ref a250), (.ref a241), (.ref a241)]) rfl ?_
      refine go_castore K (k := 141) rfl A271 (i := 5) (by decide) rfl (Nat.le_of_ble_eq_true rfl) g254 ?_
      intro h272 W273 A274
      have B275 : Arv G.Z h272 a250 k252 .char (6 : Int32) (([r1, r3, sp, r9, r11, (35 : Int32)] : List Int32).map Value.int) (.int 0) := by
        have u := A274
        rw [nar_id q2, nar_id q4, nar_id hsp, nar_id q10, nar_id q12] at u
        exact u
      have X276 : Ext h242 h257 := (Ext.wrN E255 W258 (Nat.le_trans (Nat.le_refl _) (Nat.le_of_eq e253.symm)))
      have X277 : Ext h242 h260 := (Ext.wrN X276 W261 (Nat.le_trans (Nat.le_refl _) (Nat.le_of_eq e253.symm)))
      have X278 : Ext h242 h263 := (Ext.wrN X277 W264 (Nat.le_trans (Nat.le_refl _) (Nat.le_of_eq e253.symm)))
      have X279 : Ext h242 h266 := (Ext.wrN X278 W267 (Nat.le_trans (Nat.le_refl _) (Nat.le_of_eq e253.symm)))
      have X280 : Ext h242 h269 := (Ext.wrN X279 W270 (Nat.le_trans (Nat.le_refl _) (Nat.le_of_eq e253.symm)))
      have X281 : Ext h242 h272 := (Ext.wrN X280 W273 (Nat.le_trans (Nat.le_refl _) (Nat.le_of_eq e253.symm)))
      have c282 := (A246.ext X281)
      have c283 := (F248.ext X281)
      have c284 := (F249.ext X281)
      refine go_special K (k := 142) rfl rfl (H.w 8 rfl) (H.w 9 rfl) (H.w 6 rfl) (H.w 10 rfl) (by decide) pd_30 (c_si (cs := [r1, r3, sp, r9, r11, (35 : Int32)]) H (latC q2 (latC q4 (latC hsp (latC q10 (latC q12 (lat1 (by decide)) (Nat.le_of_ble_eq_true rfl)) (Nat.le_of_ble_eq_true rfl)) (Nat.le_of_ble_eq_true rfl)) (Nat.le_of_ble_eq_true rfl)) (Nat.le_of_ble_eq_true rfl)) (Nat.le_of_ble_eq_true rfl) c282 c283 c284 g244 B275) (argsL := [(.ref a250)]) (rest := [(.ref a241)]) rfl rfl rfl (subS (List.mem_cons_of_mem _ (List.mem_cons_self ..)) sub0) rfl ?_
      rintro _ h285 _ - ⟨rfl, K286, S287⟩
      show Go G B M_law _ h285 (a250 :: (a241 :: (a215 :: (a206 :: (a192 :: (a183 :: [])))))) 18 45 233 #[.val (.int p0), .val (.int p1), .val (.int p2), .val (.int p3), .val (.int r1), .val (.int r3), .val (.int r5), .val (.int r7), .val (.int r9), .val (.int r11), .val (.int qv), .val (.int (1 : Int32)), .val (.int sp), .val (.ref a206), .val (.ref a183), .unset, .unset, .unset] [(.ref a241)]
      refine go_run K 143 2 (pc' := 449) (Ls' := #[.val (.int p0), .val (.int p1), .val (.int p2), .val (.int p3), .val (.int r1), .val (.int r3), .val (.int r5), .val (.int r7), .val (.int r9), .val (.int r11), .val (.int qv), .val (.int (1 : Int32)), .val (.int sp), .val (.ref a206), .val (.ref a183), .val (.ref a241), .unset, .unset]) (st' := []) rfl ?_
      refine go_new K (k := 286) rfl (H.w 37 rfl) (H.w 38 rfl) (H.w 39 rfl) rfl rfl ?_
      intro h289 a288 e290 g291 E292 A293 D294
      have F295 : Fld G.Z h289 a288 "com/example/crosswarden/crosswarden/web/Destination" "url" "Ljava/lang/String;" .null := D294 (Or.inr (H.w 51 rfl)) (ty := (.object "java/lang/String")) (by decide)
      have F296 : Fld G.Z h289 a288 "com/example/crosswarden/crosswarden/web/Destination" "host" "Ljava/lang/String;" .null := D294 (Or.inr (H.w 53 rfl)) (ty := (.object "java/lang/String")) (by decide)
      have F297 : Fld G.Z h289 a288 "com/example/crosswarden/crosswarden/web/Destination" "query" "Z" (.int (0 : Int32)) := D294 (Or.inr (H.w 55 rfl)) (ty := .boolean) (by decide)
      have F298 : Fld G.Z h289 a288 "com/example/crosswarden/crosswarden/web/Destination" "fragment" "Ljava/lang/String;" .null := D294 (Or.inr (H.w 57 rfl)) (ty := (.object "java/lang/String")) (by decide)
      refine go_run K 287 2 (pc' := 455) (st' := [(.ref a206), (.ref a288), (.ref a288)]) rfl ?_
      refine go_ldc K (k := 289) rfl (H.w 40 rfl) H.ws (n := 4) rfl rfl rfl rfl ?_
      intro h300 a299 E301
      refine go_run K 290 2 (pc' := 461) (st' := [(.ref a183), (.int qv), (.ref a299), (.ref a206), (.ref a288), (.ref a288)]) rfl ?_
      have c302 := (A293.ext E301)
      have c303 := (F295.ext E301)
      have c304 := (F296.ext E301)
      have c305 := (F297.ext E301)
      have c306 := (F298.ext E301)
      refine go_special K (k := 292) rfl rfl (H.w 41 rfl) (H.w 42 rfl) (H.w 39 rfl) (H.w 43 rfl) (by decide) pd_31 (c_de (a := a288) (r0 := a206) (r1 := a299) (p2 := qv) (r3 := a183) H c302 c303 c304 c305 c306 g291 hqv) (argsL := [(.ref a206), (.ref a299), (.int qv), (.ref a183)]) (rest := [(.ref a288)]) rfl rfl rfl sub0 rfl ?_
      rintro _ h307 _ - ⟨rfl, K308, E309, F310, F311, F312, F313⟩
      show Go G B M_law _ h307 (a288 :: (a250 :: (a241 :: (a215 :: (a206 :: (a192 :: (a183 :: []))))))) 21 57 464 #[.val (.int p0), .val (.int p1), .val (.int p2), .val (.int p3), .val (.int r1), .val (.int r3), .val (.int r5), .val (.int r7), .val (.int r9), .val (.int r11), .val (.int qv), .val (.int (1 : Int32)), .val (.int sp), .val (.ref a206), .val (.ref a183), .val (.ref a241), .unset, .unset] [(.ref a288)]
      refine go_run K 293 2 (pc' := 468) (Ls' := #[.val (.int p0), .val (.int p1), .val (.int p2), .val (.int p3), .val (.int r1), .val (.int r3), .val (.int r5), .val (.int r7), .val (.int r9), .val (.int r11), .val (.int qv), .val (.int (1 : Int32)), .val (.int sp), .val (.ref a206), .val (.ref a183), .val (.ref a241), .val (.ref a288), .unset]) (st' := [(.ref a288)]) rfl ?_
      refine go_new K (k := 295) rfl (H.w 4 rfl) (H.w 5 rfl) (H.w 6 rfl) rfl rfl ?_
      intro h315 a314 e316 g317 E318 A319 D320
      have F321 : Fld G.Z h315 a314 "java/lang/String" "value" "[B" .null := D320 (Or.inr (H.w 20 rfl)) (ty := (.array .byte)) (by decide)
      have F322 : Fld G.Z h315 a314 "java/lang/String" "coder" "B" (.int (0 : Int32)) := D320 (Or.inr (H.w 21 rfl)) (ty := .byte) (by decide)
      refine go_run K 296 2 (pc' := 473) (st' := [(.int (2 : Int32)), (.ref a314), (.ref a314), (.ref a288)]) rfl ?_
      refine go_newarray K (k := 298) rfl (H.w 7 rfl) (by decide) (cap := 2) (by decide) rfl rfl rfl ?_
      intro h324 a323 k325 e326 g327 E328 A329
      have A329' : Arv G.Z h324 a323 k325 .char (2 : Int32) [(.int (0 : Int32)), (.int (0 : Int32))] (.int (0 : Int32)) := Arv.pad A329 (pad_rep [] (.int (0 : Int32)) 2)
      refine go_run K 299 3 (pc' := 479) (st' := [(.int r9), (.int (0 : Int32)), (.ref a323), (.ref a323), (.ref a314), (.ref a314), (.ref a288)]) rfl ?_
      refine go_castore K (k := 302) rfl A329' (i := 0) (by decide) rfl (Nat.le_of_ble_eq_true rfl) g327 ?_
      intro h330 W331 A332
      refine go_run K 303 3 (pc' := 484) (st' := [(.int r11), (.int (1 : Int32)), (.ref a323), (.ref a323), (.ref a314), (.ref a314), (.ref a288)]) rfl ?_
      refine go_castore K (k := 306) rfl A332 (i := 1) (by decide) rfl (Nat.le_of_ble_eq_true rfl) g327 ?_
      intro h333 W334 A335
      have B336 : Arv G.Z h333 a323 k325 .char (2 : Int32) (([r9, r11] : List Int32).map Value.int) (.int 0) := by
        have u := A335
        rw [nar_id q10, nar_id q12] at u
        exact u
      have X337 : Ext h315 h330 := (Ext.wrN E328 W331 (Nat.le_trans (Nat.le_refl _) (Nat.le_of_eq e326.symm)))
      have X338 : Ext h315 h333 := (Ext.wrN X337 W334 (Nat.le_trans (Nat.le_refl _) (Nat.le_of_eq e326.symm)))
      have c339 := (A319.ext X338)
      have c340 := (F321.ext X338)
      have c341 := (F322.ext X338)
      refine go_special K (k := 307) rfl rfl (H.w 8 rfl) (H.w 9 rfl) (H.w 6 rfl) (H.w 10 rfl) (by decide) pd_30 (c_si (cs := [r9, r11]) H (latC q10 (lat1 q12) (Nat.le_of_ble_eq_true rfl)) (Nat.le_of_ble_eq_true rfl) c339 c340 c341 g317 B336) (argsL := [(.ref a323)]) (rest := [(.ref a314), (.ref a288)]) rfl rfl rfl (subS (List.mem_cons_of_mem _ (List.mem_cons_self ..)) sub0) rfl ?_
      rintro _ h342 _ - ⟨rfl, K343, S344⟩
      show Go G B M_law _ h342 (a323 :: (a314 :: (a288 :: (a250 :: (a241 :: (a215 :: (a206 :: (a192 :: (a183 :: []))))))))) 27 71 488 #[.val (.int p0), .val (.int p1), .val (.int p2), .val (.int p3), .val (.int r1), .val (.int r3), .val (.int r5), .val (.int r7), .val (.int r9), .val (.int r11), .val (.int qv), .val (.int (1 : Int32)), .val (.int sp), .val (.ref a206), .val (.ref a183), .val (.ref a241), .val (.ref a288), .unset] [(.ref a314), (.ref a288)]
      have X345 : Ext h307 h324 := (Ext.tr E318 E328)
      have X346 : Ext h307 h330 := (Ext.wrN X345 W331 (Nat.le_trans (E318).1 (Nat.le_of_eq e326.symm)))
      have X347 : Ext h307 h333 := (Ext.wrN X346 W334 (Nat.le_trans (E318).1 (Nat.le_of_eq e326.symm)))
      have X348 : Ext h307 h342 := (Ext.keepN X347 K343 (allS (Nat.le_trans (Nat.le_refl _) (Nat.le_of_eq e316.symm)) all0))
      have c349 := (F310.ext X348)
      have c350 := (F313.ext X348)
      have c351 := (F312.ext X348)
      have X352 : Ext h238 h251 := (Ext.tr E245 E255)
      have X353 : Ext h238 h257 := (Ext.wrN X352 W258 (Nat.le_trans (E245).1 (Nat.le_of_eq e253.symm)))
      have X354 : Ext h238 h260 := (Ext.wrN X353 W261 (Nat.le_trans (E245).1 (Nat.le_of_eq e253.symm)))
      have X355 : Ext h238 h263 := (Ext.wrN X354 W264 (Nat.le_trans (E245).1 (Nat.le_of_eq e253.symm)))
      have X356 : Ext h238 h266 := (Ext.wrN X355 W267 (Nat.le_trans (E245).1 (Nat.le_of_eq e253.symm)))
      have X357 : Ext h238 h269 := (Ext.wrN X356 W270 (Nat.le_trans (E245).1 (Nat.le_of_eq e253.symm)))
      have X358 : Ext h238 h272 := (Ext.wrN X357 W273 (Nat.le_trans (E245).1 (Nat.le_of_eq e253.symm)))
      have X359 : Ext h238 h285 := (Ext.keepN X358 K286 (allS (Nat.le_trans (Nat.le_refl _) (Nat.le_of_eq e243.symm)) all0))
      have X360 : Ext h238 h289 := (Ext.tr X359 E292)
      have X361 : Ext h238 h300 := (Ext.tr X360 E301)
      have X362 : Ext h238 h307 := (Ext.keepN X361 K308 (allS (Nat.le_trans (X359).1 (Nat.le_of_eq e290.symm)) all0))
      have X363 : Ext h238 h315 := (Ext.tr X362 E318)
      have X364 : Ext h238 h324 := (Ext.tr X363 E328)
      have X365 : Ext h238 h330 := (Ext.wrN X364 W331 (Nat.le_trans (X363).1 (Nat.le_of_eq e326.symm)))
      have X366 : Ext h238 h333 := (Ext.wrN X365 W334 (Nat.le_trans (X363).1 (Nat.le_of_eq e326.symm)))
      have X367 : Ext h238 h342 := (Ext.keepN X366 K343 (allS (Nat.le_trans (X362).1 (Nat.le_of_eq e316.symm)) all0))
      have c368 := (S240.ext X367)
      have X369 : Ext h203 h216 := (Ext.tr E210 E220)
      have X370 : Ext h203 h222 := (Ext.wrN X369 W223 (Nat.le_trans (E210).1 (Nat.le_of_eq e218.symm)))
      have X371 : Ext h203 h225 := (Ext.wrN X370 W226 (Nat.le_trans (E210).1 (Nat.le_of_eq e218.symm)))
      have X372 : Ext h203 h228 := (Ext.wrN X371 W229 (Nat.le_trans (E210).1 (Nat.le_of_eq e218.symm)))
      have X373 : Ext h203 h238 := (Ext.keepN X372 K239 (allS (Nat.le_trans (Nat.le_refl _) (Nat.le_of_eq e208.symm)) all0))
      have X374 : Ext h203 h242 := (Ext.tr X373 E245)
      have X375 : Ext h203 h251 := (Ext.tr X374 E255)
      have X376 : Ext h203 h257 := (Ext.wrN X375 W258 (Nat.le_trans (X374).1 (Nat.le_of_eq e253.symm)))
      have X377 : Ext h203 h260 := (Ext.wrN X376 W261 (Nat.le_trans (X374).1 (Nat.le_of_eq e253.symm)))
      have X378 : Ext h203 h263 := (Ext.wrN X377 W264 (Nat.le_trans (X374).1 (Nat.le_of_eq e253.symm)))
      have X379 : Ext h203 h266 := (Ext.wrN X378 W267 (Nat.le_trans (X374).1 (Nat.le_of_eq e253.symm)))
      have X380 : Ext h203 h269 := (Ext.wrN X379 W270 (Nat.le_trans (X374).1 (Nat.le_of_eq e253.symm)))
      have X381 : Ext h203 h272 := (Ext.wrN X380 W273 (Nat.le_trans (X374).1 (Nat.le_of_eq e253.symm)))
      have X382 : Ext h203 h285 := (Ext.keepN X381 K286 (allS (Nat.le_trans (X373).1 (Nat.le_of_eq e243.symm)) all0))
      have X383 : Ext h203 h289 := (Ext.tr X382 E292)
      have X384 : Ext h203 h300 := (Ext.tr X383 E301)
      have X385 : Ext h203 h307 := (Ext.keepN X384 K308 (allS (Nat.le_trans (X382).1 (Nat.le_of_eq e290.symm)) all0))
      have X386 : Ext h203 h315 := (Ext.tr X385 E318)
      have X387 : Ext h203 h324 := (Ext.tr X386 E328)
      have X388 : Ext h203 h330 := (Ext.wrN X387 W331 (Nat.le_trans (X386).1 (Nat.le_of_eq e326.symm)))
      have X389 : Ext h203 h333 := (Ext.wrN X388 W334 (Nat.le_trans (X386).1 (Nat.le_of_eq e326.symm)))
      have X390 : Ext h203 h342 := (Ext.keepN X389 K343 (allS (Nat.le_trans (X385).1 (Nat.le_of_eq e316.symm)) all0))
      have c391 := (S205.ext X390)
      have c392 := (E309.ext X348)
      refine go_virt0 K (k := 308) rfl (H.w 58 rfl) (H.w 61 rfl) (H.w 60 rfl) (H.w 39 rfl) (H.w 62 rfl) (by decide) pd_32 c392 (c_wa (us := [r1, r3]) (as := [r9, r11]) (fs := []) H (latC q2 (lat1 q4) (Nat.le_of_ble_eq_true rfl)) (latC q2 (latC q4 (lat1 (by decide)) (Nat.le_of_ble_eq_true rfl)) (Nat.le_of_ble_eq_true rfl)) lat0 (latC q10 (lat1 q12) (Nat.le_of_ble_eq_true rfl)) (by simp) (by simp) (by simp) (by simp) hq hF c349 c350 c351 c368 c391 S344) (argsL := [(.ref a314)]) (rest := []) rfl rfl rfl sub0 rfl ?_
      rintro _ h393 _ - ⟨a394, rfl, E395, S396⟩
      show Go G B M_law _ h393 (a323 :: (a314 :: (a288 :: (a250 :: (a241 :: (a215 :: (a206 :: (a192 :: (a183 :: []))))))))) 41 187 491 #[.val (.int p0), .val (.int p1), .val (.int p2), .val (.int p3), .val (.int r1), .val (.int r3), .val (.int r5), .val (.int r7), .val (.int r9), .val (.int r11), .val (.int qv), .val (.int (1 : Int32)), .val (.int sp), .val (.ref a206), .val (.ref a183), .val (.ref a241), .val (.ref a288), .unset] [(.ref a394)]
      refine go_run K 309 3 (pc' := 497) (Ls' := #[.val (.int p0), .val (.int p1), .val (.int p2), .val (.int p3), .val (.int r1), .val (.int r3), .val (.int r5), .val (.int r7), .val (.int r9), .val (.int r11), .val (.int qv), .val (.int (1 : Int32)), .val (.int sp), .val (.ref a206), .val (.ref a183), .val (.ref a241), .val (.ref a288), .val (.ref a394)]) (st' := [(.ref a394), (.ref a241)]) rfl ?_
      have X397 : Ext h285 h300 := (Ext.tr E292 E301)
      have X398 : Ext h285 h307 := (Ext.keepN X397 K308 (allS (Nat.le_trans (Nat.le_refl _) (Nat.le_of_eq e290.symm)) all0))
      have X399 : Ext h285 h315 := (Ext.tr X398 E318)
      have X400 : Ext h285 h324 := (Ext.tr X399 E328)
      have X401 : Ext h285 h330 := (Ext.wrN X400 W331 (Nat.le_trans (X399).1 (Nat.le_of_eq e326.symm)))
      have X402 : Ext h285 h333 := (Ext.wrN X401 W334 (Nat.le_trans (X399).1 (Nat.le_of_eq e326.symm)))
      have X403 : Ext h285 h342 := (Ext.keepN X402 K343 (allS (Nat.le_trans (X398).1 (Nat.le_of_eq e316.symm)) all0))
      have X404 : Ext h285 h393 := (Ext.tr X403 E395)
      have c405 := (S287.ext X404)
      refine go_virt0 K (k := 312) rfl (H.w 204 rfl) (H.w 207 rfl) (H.w 206 rfl) (H.w 6 rfl) (H.w 208 rfl) (by decide) pd_33 c405.exa (c_seq H (latC q2 (latC q4 (latC hsp (latC q10 (latC q12 (lat1 (by decide)) (Nat.le_of_ble_eq_true rfl)) (Nat.le_of_ble_eq_true rfl)) (Nat.le_of_ble_eq_true rfl)) (Nat.le_of_ble_eq_true rfl)) (Nat.le_of_ble_eq_true rfl)) (latC q2 (latC q4 (latC hsp (latC q10 (latC q12 (lat1 (by decide)) (Nat.le_of_ble_eq_true rfl)) (Nat.le_of_ble_eq_true rfl)) (Nat.le_of_ble_eq_true rfl)) (Nat.le_of_ble_eq_true rfl)) (Nat.le_of_ble_eq_true rfl)) c405 S396) (argsL := [(.ref a394)]) (rest := []) rfl rfl rfl sub0 rfl ?_
      rintro _ _ _ - ⟨r406, rfl, rfl, q407⟩
      show Go G B M_law _ h393 (a323 :: (a314 :: (a288 :: (a250 :: (a241 :: (a215 :: (a206 :: (a192 :: (a183 :: []))))))))) 41 187 500 #[.val (.int p0), .val (.int p1), .val (.int p2), .val (.int p3), .val (.int r1), .val (.int r3), .val (.int r5), .val (.int r7), .val (.int r9), .val (.int r11), .val (.int qv), .val (.int (1 : Int32)), .val (.int sp), .val (.ref a206), .val (.ref a183), .val (.ref a241), .val (.ref a288), .val (.ref a394)] [(.int r406)]
      refine go_ireturn K (k := 313) rfl rfl (by decide) (bool_n (Or.elim q407 (fun u => Or.inr u.1) (fun u => Or.inl u.1))) rfl rfl ?_
      intro Sf hSf
      rcases q407 with ⟨u1, -⟩ | ⟨-, u2⟩
      · rw [u1]
      · exact absurd rfl u2
    · rw [hn]
      refine go_run K 42 1 (pc' := 79) (st' := [(.int (2 : Int32))]) rfl ?_
      refine go_ifne K (k := 43) rfl (pc' := 147) (by decide) (fun _ => ?_) (fun q => absurd q (by decide))
      refine go_run K 87 2 (pc' := 150) (st' := [(.int (1 : Int32)), (.int (2 : Int32))]) rfl ?_
      refine go_icmpne K (k := 89) rfl (pc' := 238) (by decide) (fun _ => ?_) (fun q => absurd q (by decide))
      refine go_run K 145 2 (pc' := 241) (st' := [(.int (2 : Int32)), (.int (2 : Int32))]) rfl ?_
      refine go_icmpne K (k := 147) rfl (pc' := 335) (by decide) (fun q => absurd (by decide) q) (fun _ => ?_)
      refine go_run K 148 1 (pc' := 246) (st' := [(.int r5)]) rfl ?_
      refine go_static K (k := 149) rfl (H.w 213 rfl) (H.w 214 rfl) (H.w 6 rfl) (H.w 215 rfl) (by decide) pd_34 (c_vof (x := r5) H q6) (argsL := [(.int r5)]) (rest := []) rfl rfl rfl sub0 rfl ?_
      rintro _ h408 _ - ⟨a409, rfl, E410, S411, g412⟩
      show Go G B M_law _ h408 [] 2 5 249 #[.val (.int p0), .val (.int p1), .val (.int p2), .val (.int p3), .val (.int r1), .val (.int r3), .val (.int r5), .val (.int r7), .val (.int r9), .val (.int r11), .val (.int qv), .val (.int (2 : Int32)), .val (.int sp), .unset, .unset, .unset, .unset, .unset] [(.ref a409)]
      refine go_run K 150 1 (pc' := 251) (Ls' := #[.val (.int p0), .val (.int p1), .val (.int p2), .val (.int p3), .val (.int r1), .val (.int r3), .val (.int r5), .val (.int r7), .val (.int r9), .val (.int r11), .val (.int qv), .val (.int (2 : Int32)), .val (.int sp), .unset, .val (.ref a409), .unset, .unset, .unset]) (st' := []) rfl ?_
      refine go_new K (k := 151) rfl (H.w 4 rfl) (H.w 5 rfl) (H.w 6 rfl) rfl rfl ?_
      intro h414 a413 e415 g416 E417 A418 D419
      have F420 : Fld G.Z h414 a413 "java/lang/String" "value" "[B" .null := D419 (Or.inr (H.w 20 rfl)) (ty := (.array .byte)) (by decide)
      have F421 : Fld G.Z h414 a413 "java/lang/String" "coder" "B" (.int (0 : Int32)) := D419 (Or.inr (H.w 21 rfl)) (ty := .byte) (by decide)
      refine go_run K 152 2 (pc' := 256) (st' := [(.int (4 : Int32)), (.ref a413), (.ref a413)]) rfl ?_
      refine go_newarray K (k := 154) rfl (H.w 7 rfl) (by decide) (cap := 4) (by decide) rfl rfl rfl ?_
      intro h423 a422 k424 e425 g426 E427 A428
      have A428' : Arv G.Z h423 a422 k424 .char (4 : Int32) [(.int (0 : Int32)), (.int (0 : Int32)), (.int (0 : Int32)), (.int (0 : Int32))] (.int (0 : Int32)) := Arv.pad A428 (pad_rep [] (.int (0 : Int32)) 4)
      refine go_run K 155 3 (pc' := 262) (st' := [(.int r1), (.int (0 : Int32)), (.ref a422), (.ref a422), (.ref a413), (.ref a413)]) rfl ?_
      refine go_castore K (k := 158) rfl A428' (i := 0) (by decide) rfl (Nat.le_of_ble_eq_true rfl) g426 ?_
      intro h429 W430 A431
      refine go_run K 159 3 (pc' := 267) (st' := [(.int r3), (.int (1 : Int32)), (.ref a422), (.ref a422), (.ref a413), (.ref a413)]) rfl ?_
      refine go_castore K (k := 162) rfl A431 (i := 1) (by decide) rfl (Nat.le_of_ble_eq_true rfl) g426 ?_
      intro h432 W433 A434
      refine go_run K 163 3 (pc' := 272) (st' := [(.int (35 : Int32)), (.int (2 : Int32)), (.ref a422), (.ref a422), (.ref a413), (.ref a413)]) rfl ?_
      refine go_castore K (k := 166) rfl A434 (i := 2) (by decide) rfl (Nat.le_of_ble_eq_true rfl) g426 ?_
      intro h435 W436 A437
      refine go_run K 167 3 (pc' := 277) (st' := [(.int r5), (.int (3 : Int32)), (.ref a422), (.ref a422), (.ref a413), (.ref a413)]) rfl ?_
      refine go_castore K (k := 170) rfl A437 (i := 3) (by decide) rfl (Nat.le_of_ble_eq_true rfl) g426 ?_
      intro h438 W439 A440
      have B441 : Arv G.Z h438 a422 k424 .char (4 : Int32) (([r1, r3, (35 : Int32), r5] : List Int32).map Value.int) (.int 0) := by
        have u := A440
        rw [nar_id q2, nar_id q4, nar_id q6] at u
        exact u
      have X442 : Ext h414 h429 := (Ext.wrN E427 W430 (Nat.le_trans (Nat.le_refl _) (Nat.le_of_eq e425.symm)))
      have X443 : Ext h414 h432 := (Ext.wrN X442 W433 (Nat.le_trans (Nat.le_refl _) (Nat.le_of_eq e425.symm)))
      have X444 : Ext h414 h435 := (Ext.wrN X443 W436 (Nat.le_trans (Nat.le_refl _) (Nat.le_of_eq e425.symm)))
      have X445 : Ext h414 h438 := (Ext.wrN X444 W439 (Nat.le_trans (Nat.le_refl _) (Nat.le_of_eq e425.symm)))
      have c446 := (A418.ext X445)
      have c447 := (F420.ext X445)
      have c448 := (F421.ext X445)
      refine go_special K (k := 171) rfl rfl (H.w 8 rfl) (H.w 9 rfl) (H.w 6 rfl) (H.w 10 rfl) (by decide) pd_30 (c_si (cs := [r1, r3, (35 : Int32), r5]) H (latC q2 (latC q4 (latC (by decide) (lat1 q6) (Nat.le_of_ble_eq_true rfl)) (Nat.le_of_ble_eq_true rfl)) (Nat.le_of_ble_eq_true rfl)) (Nat.le_of_ble_eq_true rfl) c446 c447 c448 g416 B441) (argsL := [(.ref a422)]) (rest := [(.ref a413)]) rfl rfl rfl (subS (List.mem_cons_of_mem _ (List.mem_cons_self ..)) sub0) rfl ?_
      rintro _ h449 _ - ⟨rfl, K450, S451⟩
      show Go G B M_law _ h449 (a422 :: (a413 :: [])) 8 21 281 #[.val (.int p0), .val (.int p1), .val (.int p2), .val (.int p3), .val (.int r1), .val (.int r3), .val (.int r5), .val (.int r7), .val (.int r9), .val (.int r11), .val (.int qv), .val (.int (2 : Int32)), .val (.int sp), .unset, .val (.ref a409), .unset, .unset, .unset] [(.ref a413)]
      refine go_run K 172 1 (pc' := 283) (Ls' := #[.val (.int p0), .val (.int p1), .val (.int p2), .val (.int p3), .val (.int r1), .val (.int r3), .val (.int r5), .val (.int r7), .val (.int r9), .val (.int r11), .val (.int qv), .val (.int (2 : Int32)), .val (.int sp), .val (.ref a413), .val (.ref a409), .unset, .unset, .unset]) (st' := []) rfl ?_
      refine go_new K (k := 173) rfl (H.w 4 rfl) (H.w 5 rfl) (H.w 6 rfl) rfl rfl ?_
      intro h453 a452 e454 g455 E456 A457 D458
      have F459 : Fld G.Z h453 a452 "java/lang/String" "value" "[B" .null := D458 (Or.inr (H.w 20 rfl)) (ty := (.array .byte)) (by decide)
      have F460 : Fld G.Z h453 a452 "java/lang/String" "coder" "B" (.int (0 : Int32)) := D458 (Or.inr (H.w 21 rfl)) (ty := .byte) (by decide)
      refine go_run K 174 2 (pc' := 289) (st' := [(.int (7 : Int32)), (.ref a452), (.ref a452)]) rfl ?_
      refine go_newarray K (k := 176) rfl (H.w 7 rfl) (by decide) (cap := 7) (by decide) rfl rfl rfl ?_
      intro h462 a461 k463 e464 g465 E466 A467
      have A467' : Arv G.Z h462 a461 k463 .char (7 : Int32) [(.int (0 : Int32)), (.int (0 : Int32)), (.int (0 : Int32)), (.int (0 : Int32)), (.int (0 : Int32)), (.int (0 : Int32)), (.int (0 : Int32))] (.int (0 : Int32)) := Arv.pad A467 (pad_rep [] (.int (0 : Int32)) 7)
      refine go_run K 177 3 (pc' := 295) (st' := [(.int r1), (.int (0 : Int32)), (.ref a461), (.ref a461), (.ref a452), (.ref a452)]) rfl ?_
      refine go_castore K (k := 180) rfl A467' (i := 0) (by decide) rfl (Nat.le_of_ble_eq_true rfl) g465 ?_
      intro h468 W469 A470
      refine go_run K 181 3 (pc' := 300) (st' := [(.int r3), (.int (1 : Int32)), (.ref a461), (.ref a461), (.ref a452), (.ref a452)]) rfl ?_
      refine go_castore K (k := 184) rfl A470 (i := 1) (by decide) rfl (Nat.le_of_ble_eq_true rfl) g465 ?_
      intro h471 W472 A473
      refine go_run K 185 3 (pc' := 305) (st' := [(.int sp), (.int (2 : Int32)), (.ref a461), (.ref a461), (.ref a452), (.ref a452)]) rfl ?_
      refine go_castore K (k := 188) rfl A473 (i := 2) (by decide) rfl (Nat.le_of_ble_eq_true rfl) g465 ?_
      intro h474 W475 A476
      refine go_run K 189 3 (pc' := 310) (st' := [(.int r9), (.int (3 : Int32)), (.ref a461), (.ref a461), (.ref a452), (.ref a452)]) rfl ?_
      refine go_castore K (k := 192) rfl A476 (i := 3) (by decide) rfl (Nat.le_of_ble_eq_true rfl) g465 ?_
      intro h477 W478 A479
      refine go_run K 193 3 (pc' := 315) (st' := [(.int r11), (.int (4 : Int32)), (.ref a461), (.ref a461), (.ref a452), (.ref a452)]) rfl ?_
      refine go_castore K (k := 196) rfl A479 (i := 4) (by decide) rfl (Nat.le_of_ble_eq_true rfl) g465 ?_
      intro h480 W481 A482
      refine go_run K 197 3 (pc' := 320) (st' := [(.int (35 : Int32)), (.int (5 : Int32)), (.ref a461), (.ref a461), (.ref a452), (.ref a452)]) rfl ?_
      refine go_castore K (k := 200) rfl A482 (i := 5) (by decide) rfl (Nat.le_of_ble_eq_true rfl) g465 ?_
      intro h483 W484 A485
      refine go_run K 201 3 (pc' := 326) (st' := [(.int r5), (.int (6 : Int32)), (.ref a461), (.ref a461), (.ref a452), (.ref a452)]) rfl ?_
      refine go_castore K (k := 204) rfl A485 (i := 6) (by decide) rfl (Nat.le_of_ble_eq_true rfl) g465 ?_
      intro h486 W487 A488
      have B489 : Arv G.Z h486 a461 k463 .char (7 : Int32) (([r1, r3, sp, r9, r11, (35 : Int32), r5] : List Int32).map Value.int) (.int 0) := by
        have u := A488
        rw [nar_id q2, nar_id q4, nar_id hsp, nar_id q10, nar_id q12, nar_id q6] at u
        exact u
      have X490 : Ext h453 h468 := (Ext.wrN E466 W469 (Nat.le_trans (Nat.le_refl _) (Nat.le_of_eq e464.symm)))
      have X491 : Ext h453 h471 := (Ext.wrN X490 W472 (Nat.le_trans (Nat.le_refl _) (Nat.le_of_eq e464.symm)))
      have X492 : Ext h453 h474 := (Ext.wrN X491 W475 (Nat.le_trans (Nat.le_refl _) (Nat.le_of_eq e464.symm)))
      have X493 : Ext h453 h477 := (Ext.wrN X492 W478 (Nat.le_trans (Nat.le_refl _) (Nat.le_of_eq e464.symm)))
      have X494 : Ext h453 h480 := (Ext.wrN X493 W481 (Nat.le_trans (Nat.le_refl _) (Nat.le_of_eq e464.symm)))
      have X495 : Ext h453 h483 := (Ext.wrN X494 W484 (Nat.le_trans (Nat.le_refl _) (Nat.le_of_eq e464.symm)))
      have X496 : Ext h453 h486 := (Ext.wrN X495 W487 (Nat.le_trans (Nat.le_refl _) (Nat.le_of_eq e464.symm)))
      have c497 := (A457.ext X496)
      have c498 := (F459.ext X496)
      have c499 := (F460.ext X496)
      refine go_special K (k := 205) rfl rfl (H.w 8 rfl) (H.w 9 rfl) (H.w 6 rfl) (H.w 10 rfl) (by decide) pd_30 (c_si (cs := [r1, r3, sp, r9, r11, (35 : Int32), r5]) H (latC q2 (latC q4 (latC hsp (latC q10 (latC q12 (latC (by decide) (lat1 q6) (Nat.le_of_ble_eq_true rfl)) (Nat.le_of_ble_eq_true rfl)) (Nat.le_of_ble_eq_true rfl)) (Nat.le_of_ble_eq_true rfl)) (Nat.le_of_ble_eq_true rfl)) (Nat.le_of_ble_eq_true rfl)) (Nat.le_of_ble_eq_true rfl) c497 c498 c499 g455 B489) (argsL := [(.ref a461)]) (rest := [(.ref a452)]) rfl rfl rfl (subS (List.mem_cons_of_mem _ (List.mem_cons_self ..)) sub0) rfl ?_
      rintro _ h500 _ - ⟨rfl, K501, S502⟩
      show Go G B M_law _ h500 (a461 :: (a452 :: (a422 :: (a413 :: [])))) 14 40 330 #[.val (.int p0), .val (.int p1), .val (.int p2), .val (.int p3), .val (.int r1), .val (.int r3), .val (.int r5), .val (.int r7), .val (.int r9), .val (.int r11), .val (.int qv), .val (.int (2 : Int32)), .val (.int sp), .val (.ref a413), .val (.ref a409), .unset, .unset, .unset] [(.ref a452)]
      refine go_run K 206 2 (pc' := 449) (Ls' := #[.val (.int p0), .val (.int p1), .val (.int p2), .val (.int p3), .val (.int r1), .val (.int r3), .val (.int r5), .val (.int r7), .val (.int r9), .val (.int r11), .val (.int qv), .val (.int (2 : Int32)), .val (.int sp), .val (.ref a413), .val (.ref a409), .val (.ref a452), .unset, .unset]) (st' := []) rfl ?_
      refine go_new K (k := 286) rfl (H.w 37 rfl) (H.w 38 rfl) (H.w 39 rfl) rfl rfl ?_
      intro h504 a503 e505 g506 E507 A508 D509
      have F510 : Fld G.Z h504 a503 "com/example/crosswarden/crosswarden/web/Destination" "url" "Ljava/lang/String;" .null := D509 (Or.inr (H.w 51 rfl)) (ty := (.object "java/lang/String")) (by decide)
      have F511 : Fld G.Z h504 a503 "com/example/crosswarden/crosswarden/web/Destination" "host" "Ljava/lang/String;" .null := D509 (Or.inr (H.w 53 rfl)) (ty := (.object "java/lang/String")) (by decide)
      have F512 : Fld G.Z h504 a503 "com/example/crosswarden/crosswarden/web/Destination" "query" "Z" (.int (0 : Int32)) := D509 (Or.inr (H.w 55 rfl)) (ty := .boolean) (by decide)
      have F513 : Fld G.Z h504 a503 "com/example/crosswarden/crosswarden/web/Destination" "fragment" "Ljava/lang/String;" .null := D509 (Or.inr (H.w 57 rfl)) (ty := (.object "java/lang/String")) (by decide)
      refine go_run K 287 2 (pc' := 455) (st' := [(.ref a413), (.ref a503), (.ref a503)]) rfl ?_
      refine go_ldc K (k := 289) rfl (H.w 40 rfl) H.ws (n := 4) rfl rfl rfl rfl ?_
      intro h515 a514 E516
      refine go_run K 290 2 (pc' := 461) (st' := [(.ref a409), (.int qv), (.ref a514), (.ref a413), (.ref a503), (.ref a503)]) rfl ?_
      have c517 := (A508.ext E516)
      have c518 := (F510.ext E516)
      have c519 := (F511.ext E516)
      have c520 := (F512.ext E516)
      have c521 := (F513.ext E516)
      refine go_special K (k := 292) rfl rfl (H.w 41 rfl) (H.w 42 rfl) (H.w 39 rfl) (H.w 43 rfl) (by decide) pd_31 (c_de (a := a503) (r0 := a413) (r1 := a514) (p2 := qv) (r3 := a409) H c517 c518 c519 c520 c521 g506 hqv) (argsL := [(.ref a413), (.ref a514), (.int qv), (.ref a409)]) (rest := [(.ref a503)]) rfl rfl rfl sub0 rfl ?_
      rintro _ h522 _ - ⟨rfl, K523, E524, F525, F526, F527, F528⟩
      show Go G B M_law _ h522 (a503 :: (a461 :: (a452 :: (a422 :: (a413 :: []))))) 17 52 464 #[.val (.int p0), .val (.int p1), .val (.int p2), .val (.int p3), .val (.int r1), .val (.int r3), .val (.int r5), .val (.int r7), .val (.int r9), .val (.int r11), .val (.int qv), .val (.int (2 : Int32)), .val (.int sp), .val (.ref a413), .val (.ref a409), .val (.ref a452), .unset, .unset] [(.ref a503)]
      refine go_run K 293 2 (pc' := 468) (Ls' := #[.val (.int p0), .val (.int p1), .val (.int p2), .val (.int p3), .val (.int r1), .val (.int r3), .val (.int r5), .val (.int r7), .val (.int r9), .val (.int r11), .val (.int qv), .val (.int (2 : Int32)), .val (.int sp), .val (.ref a413), .val (.ref a409), .val (.ref a452), .val (.ref a503), .unset]) (st' := [(.ref a503)]) rfl ?_
      refine go_new K (k := 295) rfl (H.w 4 rfl) (H.w 5 rfl) (H.w 6 rfl) rfl rfl ?_
      intro h530 a529 e531 g532 E533 A534 D535
      have F536 : Fld G.Z h530 a529 "java/lang/String" "value" "[B" .null := D535 (Or.inr (H.w 20 rfl)) (ty := (.array .byte)) (by decide)
      have F537 : Fld G.Z h530 a529 "java/lang/String" "coder" "B" (.int (0 : Int32)) := D535 (Or.inr (H.w 21 rfl)) (ty := .byte) (by decide)
      refine go_run K 296 2 (pc' := 473) (st' := [(.int (2 : Int32)), (.ref a529), (.ref a529), (.ref a503)]) rfl ?_
      refine go_newarray K (k := 298) rfl (H.w 7 rfl) (by decide) (cap := 2) (by decide) rfl rfl rfl ?_
      intro h539 a538 k540 e541 g542 E543 A544
      have A544' : Arv G.Z h539 a538 k540 .char (2 : Int32) [(.int (0 : Int32)), (.int (0 : Int32))] (.int (0 : Int32)) := Arv.pad A544 (pad_rep [] (.int (0 : Int32)) 2)
      refine go_run K 299 3 (pc' := 479) (st' := [(.int r9), (.int (0 : Int32)), (.ref a538), (.ref a538), (.ref a529), (.ref a529), (.ref a503)]) rfl ?_
      refine go_castore K (k := 302) rfl A544' (i := 0) (by decide) rfl (Nat.le_of_ble_eq_true rfl) g542 ?_
      intro h545 W546 A547
      refine go_run K 303 3 (pc' := 484) (st' := [(.int r11), (.int (1 : Int32)), (.ref a538), (.ref a538), (.ref a529), (.ref a529), (.ref a503)]) rfl ?_
      refine go_castore K (k := 306) rfl A547 (i := 1) (by decide) rfl (Nat.le_of_ble_eq_true rfl) g542 ?_
      intro h548 W549 A550
      have B551 : Arv G.Z h548 a538 k540 .char (2 : Int32) (([r9, r11] : List Int32).map Value.int) (.int 0) := by
        have u := A550
        rw [nar_id q10, nar_id q12] at u
        exact u
      have X552 : Ext h530 h545 := (Ext.wrN E543 W546 (Nat.le_trans (Nat.le_refl _) (Nat.le_of_eq e541.symm)))
      have X553 : Ext h530 h548 := (Ext.wrN X552 W549 (Nat.le_trans (Nat.le_refl _) (Nat.le_of_eq e541.symm)))
      have c554 := (A534.ext X553)
      have c555 := (F536.ext X553)
      have c556 := (F537.ext X553)
      refine go_special K (k := 307) rfl rfl (H.w 8 rfl) (H.w 9 rfl) (H.w 6 rfl) (H.w 10 rfl) (by decide) pd_30 (c_si (cs := [r9, r11]) H (latC q10 (lat1 q12) (Nat.le_of_ble_eq_true rfl)) (Nat.le_of_ble_eq_true rfl) c554 c555 c556 g532 B551) (argsL := [(.ref a538)]) (rest := [(.ref a529), (.ref a503)]) rfl rfl rfl (subS (List.mem_cons_of_mem _ (List.mem_cons_self ..)) sub0) rfl ?_
      rintro _ h557 _ - ⟨rfl, K558, S559⟩
      show Go G B M_law _ h557 (a538 :: (a529 :: (a503 :: (a461 :: (a452 :: (a422 :: (a413 :: []))))))) 23 66 488 #[.val (.int p0), .val (.int p1), .val (.int p2), .val (.int p3), .val (.int r1), .val (.int r3), .val (.int r5), .val (.int r7), .val (.int r9), .val (.int r11), .val (.int qv), .val (.int (2 : Int32)), .val (.int sp), .val (.ref a413), .val (.ref a409), .val (.ref a452), .val (.ref a503), .unset] [(.ref a529), (.ref a503)]
      have X560 : Ext h522 h539 := (Ext.tr E533 E543)
      have X561 : Ext h522 h545 := (Ext.wrN X560 W546 (Nat.le_trans (E533).1 (Nat.le_of_eq e541.symm)))
      have X562 : Ext h522 h548 := (Ext.wrN X561 W549 (Nat.le_trans (E533).1 (Nat.le_of_eq e541.symm)))
      have X563 : Ext h522 h557 := (Ext.keepN X562 K558 (allS (Nat.le_trans (Nat.le_refl _) (Nat.le_of_eq e531.symm)) all0))
      have c564 := (F525.ext X563)
      have c565 := (F528.ext X563)
      have c566 := (F527.ext X563)
      have X567 : Ext h449 h462 := (Ext.tr E456 E466)
      have X568 : Ext h449 h468 := (Ext.wrN X567 W469 (Nat.le_trans (E456).1 (Nat.le_of_eq e464.symm)))
      have X569 : Ext h449 h471 := (Ext.wrN X568 W472 (Nat.le_trans (E456).1 (Nat.le_of_eq e464.symm)))
      have X570 : Ext h449 h474 := (Ext.wrN X569 W475 (Nat.le_trans (E456).1 (Nat.le_of_eq e464.symm)))
      have X571 : Ext h449 h477 := (Ext.wrN X570 W478 (Nat.le_trans (E456).1 (Nat.le_of_eq e464.symm)))
      have X572 : Ext h449 h480 := (Ext.wrN X571 W481 (Nat.le_trans (E456).1 (Nat.le_of_eq e464.symm)))
      have X573 : Ext h449 h483 := (Ext.wrN X572 W484 (Nat.le_trans (E456).1 (Nat.le_of_eq e464.symm)))
      have X574 : Ext h449 h486 := (Ext.wrN X573 W487 (Nat.le_trans (E456).1 (Nat.le_of_eq e464.symm)))
      have X575 : Ext h449 h500 := (Ext.keepN X574 K501 (allS (Nat.le_trans (Nat.le_refl _) (Nat.le_of_eq e454.symm)) all0))
      have X576 : Ext h449 h504 := (Ext.tr X575 E507)
      have X577 : Ext h449 h515 := (Ext.tr X576 E516)
      have X578 : Ext h449 h522 := (Ext.keepN X577 K523 (allS (Nat.le_trans (X575).1 (Nat.le_of_eq e505.symm)) all0))
      have X579 : Ext h449 h530 := (Ext.tr X578 E533)
      have X580 : Ext h449 h539 := (Ext.tr X579 E543)
      have X581 : Ext h449 h545 := (Ext.wrN X580 W546 (Nat.le_trans (X579).1 (Nat.le_of_eq e541.symm)))
      have X582 : Ext h449 h548 := (Ext.wrN X581 W549 (Nat.le_trans (X579).1 (Nat.le_of_eq e541.symm)))
      have X583 : Ext h449 h557 := (Ext.keepN X582 K558 (allS (Nat.le_trans (X578).1 (Nat.le_of_eq e531.symm)) all0))
      have c584 := (S451.ext X583)
      have X585 : Ext h408 h423 := (Ext.tr E417 E427)
      have X586 : Ext h408 h429 := (Ext.wrN X585 W430 (Nat.le_trans (E417).1 (Nat.le_of_eq e425.symm)))
      have X587 : Ext h408 h432 := (Ext.wrN X586 W433 (Nat.le_trans (E417).1 (Nat.le_of_eq e425.symm)))
      have X588 : Ext h408 h435 := (Ext.wrN X587 W436 (Nat.le_trans (E417).1 (Nat.le_of_eq e425.symm)))
      have X589 : Ext h408 h438 := (Ext.wrN X588 W439 (Nat.le_trans (E417).1 (Nat.le_of_eq e425.symm)))
      have X590 : Ext h408 h449 := (Ext.keepN X589 K450 (allS (Nat.le_trans (Nat.le_refl _) (Nat.le_of_eq e415.symm)) all0))
      have X591 : Ext h408 h453 := (Ext.tr X590 E456)
      have X592 : Ext h408 h462 := (Ext.tr X591 E466)
      have X593 : Ext h408 h468 := (Ext.wrN X592 W469 (Nat.le_trans (X591).1 (Nat.le_of_eq e464.symm)))
      have X594 : Ext h408 h471 := (Ext.wrN X593 W472 (Nat.le_trans (X591).1 (Nat.le_of_eq e464.symm)))
      have X595 : Ext h408 h474 := (Ext.wrN X594 W475 (Nat.le_trans (X591).1 (Nat.le_of_eq e464.symm)))
      have X596 : Ext h408 h477 := (Ext.wrN X595 W478 (Nat.le_trans (X591).1 (Nat.le_of_eq e464.symm)))
      have X597 : Ext h408 h480 := (Ext.wrN X596 W481 (Nat.le_trans (X591).1 (Nat.le_of_eq e464.symm)))
      have X598 : Ext h408 h483 := (Ext.wrN X597 W484 (Nat.le_trans (X591).1 (Nat.le_of_eq e464.symm)))
      have X599 : Ext h408 h486 := (Ext.wrN X598 W487 (Nat.le_trans (X591).1 (Nat.le_of_eq e464.symm)))
      have X600 : Ext h408 h500 := (Ext.keepN X599 K501 (allS (Nat.le_trans (X590).1 (Nat.le_of_eq e454.symm)) all0))
      have X601 : Ext h408 h504 := (Ext.tr X600 E507)
      have X602 : Ext h408 h515 := (Ext.tr X601 E516)
      have X603 : Ext h408 h522 := (Ext.keepN X602 K523 (allS (Nat.le_trans (X600).1 (Nat.le_of_eq e505.symm)) all0))
      have X604 : Ext h408 h530 := (Ext.tr X603 E533)
      have X605 : Ext h408 h539 := (Ext.tr X604 E543)
      have X606 : Ext h408 h545 := (Ext.wrN X605 W546 (Nat.le_trans (X604).1 (Nat.le_of_eq e541.symm)))
      have X607 : Ext h408 h548 := (Ext.wrN X606 W549 (Nat.le_trans (X604).1 (Nat.le_of_eq e541.symm)))
      have X608 : Ext h408 h557 := (Ext.keepN X607 K558 (allS (Nat.le_trans (X603).1 (Nat.le_of_eq e531.symm)) all0))
      have c609 := (S411.ext X608)
      have c610 := (E524.ext X563)
      refine go_virt0 K (k := 308) rfl (H.w 58 rfl) (H.w 61 rfl) (H.w 60 rfl) (H.w 39 rfl) (H.w 62 rfl) (by decide) pd_32 c610 (c_wa (us := [r1, r3]) (as := [r9, r11]) (fs := [r5]) H (latC q2 (lat1 q4) (Nat.le_of_ble_eq_true rfl)) (latC q2 (latC q4 (latC (by decide) (lat1 q6) (Nat.le_of_ble_eq_true rfl)) (Nat.le_of_ble_eq_true rfl)) (Nat.le_of_ble_eq_true rfl)) (lat1 q6) (latC q10 (lat1 q12) (Nat.le_of_ble_eq_true rfl)) (by simp) (by simp) (by simp) (by simp) hq hF c564 c565 c566 c584 c609 S559) (argsL := [(.ref a529)]) (rest := []) rfl rfl rfl sub0 rfl ?_
      rintro _ h611 _ - ⟨a612, rfl, E613, S614⟩
      show Go G B M_law _ h611 (a538 :: (a529 :: (a503 :: (a461 :: (a452 :: (a422 :: (a413 :: []))))))) 37 182 491 #[.val (.int p0), .val (.int p1), .val (.int p2), .val (.int p3), .val (.int r1), .val (.int r3), .val (.int r5), .val (.int r7), .val (.int r9), .val (.int r11), .val (.int qv), .val (.int (2 : Int32)), .val (.int sp), .val (.ref a413), .val (.ref a409), .val (.ref a452), .val (.ref a503), .unset] [(.ref a612)]
      refine go_run K 309 3 (pc' := 497) (Ls' := #[.val (.int p0), .val (.int p1), .val (.int p2), .val (.int p3), .val (.int r1), .val (.int r3), .val (.int r5), .val (.int r7), .val (.int r9), .val (.int r11), .val (.int qv), .val (.int (2 : Int32)), .val (.int sp), .val (.ref a413), .val (.ref a409), .val (.ref a452), .val (.ref a503), .val (.ref a612)]) (st' := [(.ref a612), (.ref a452)]) rfl ?_
      have X615 : Ext h500 h515 := (Ext.tr E507 E516)
      have X616 : Ext h500 h522 := (Ext.keepN X615 K523 (allS (Nat.le_trans (Nat.le_refl _) (Nat.le_of_eq e505.symm)) all0))
      have X617 : Ext h500 h530 := (Ext.tr X616 E533)
      have X618 : Ext h500 h539 := (Ext.tr X617 E543)
      have X619 : Ext h500 h545 := (Ext.wrN X618 W546 (Nat.le_trans (X617).1 (Nat.le_of_eq e541.symm)))
      have X620 : Ext h500 h548 := (Ext.wrN X619 W549 (Nat.le_trans (X617).1 (Nat.le_of_eq e541.symm)))
      have X621 : Ext h500 h557 := (Ext.keepN X620 K558 (allS (Nat.le_trans (X616).1 (Nat.le_of_eq e531.symm)) all0))
      have X622 : Ext h500 h611 := (Ext.tr X621 E613)
      have c623 := (S502.ext X622)
      refine go_virt0 K (k := 312) rfl (H.w 204 rfl) (H.w 207 rfl) (H.w 206 rfl) (H.w 6 rfl) (H.w 208 rfl) (by decide) pd_33 c623.exa (c_seq H (latC q2 (latC q4 (latC hsp (latC q10 (latC q12 (latC (by decide) (lat1 q6) (Nat.le_of_ble_eq_true rfl)) (Nat.le_of_ble_eq_true rfl)) (Nat.le_of_ble_eq_true rfl)) (Nat.le_of_ble_eq_true rfl)) (Nat.le_of_ble_eq_true rfl)) (Nat.le_of_ble_eq_true rfl)) (latC q2 (latC q4 (latC hsp (latC q10 (latC q12 (latC (by decide) (lat1 q6) (Nat.le_of_ble_eq_true rfl)) (Nat.le_of_ble_eq_true rfl)) (Nat.le_of_ble_eq_true rfl)) (Nat.le_of_ble_eq_true rfl)) (Nat.le_of_ble_eq_true rfl)) (Nat.le_of_ble_eq_true rfl)) c623 S614) (argsL := [(.ref a612)]) (rest := []) rfl rfl rfl sub0 rfl ?_
      rintro _ _ _ - ⟨r624, rfl, rfl, q625⟩
      show Go G B M_law _ h611 (a538 :: (a529 :: (a503 :: (a461 :: (a452 :: (a422 :: (a413 :: []))))))) 37 182 500 #[.val (.int p0), .val (.int p1), .val (.int p2), .val (.int p3), .val (.int r1), .val (.int r3), .val (.int r5), .val (.int r7), .val (.int r9), .val (.int r11), .val (.int qv), .val (.int (2 : Int32)), .val (.int sp), .val (.ref a413), .val (.ref a409), .val (.ref a452), .val (.ref a503), .val (.ref a612)] [(.int r624)]
      refine go_ireturn K (k := 313) rfl rfl (by decide) (bool_n (Or.elim q625 (fun u => Or.inr u.1) (fun u => Or.inl u.1))) rfl rfl ?_
      intro Sf hSf
      rcases q625 with ⟨u1, -⟩ | ⟨-, u2⟩
      · rw [u1]
      · exact absurd rfl u2
    · rw [hn]
      refine go_run K 42 1 (pc' := 79) (st' := [(.int (3 : Int32))]) rfl ?_
      refine go_ifne K (k := 43) rfl (pc' := 147) (by decide) (fun _ => ?_) (fun q => absurd q (by decide))
      refine go_run K 87 2 (pc' := 150) (st' := [(.int (1 : Int32)), (.int (3 : Int32))]) rfl ?_
      refine go_icmpne K (k := 89) rfl (pc' := 238) (by decide) (fun _ => ?_) (fun q => absurd q (by decide))
      refine go_run K 145 2 (pc' := 241) (st' := [(.int (2 : Int32)), (.int (3 : Int32))]) rfl ?_
      refine go_icmpne K (k := 147) rfl (pc' := 335) (by decide) (fun _ => ?_) (fun q => absurd q (by decide))
      refine go_new K (k := 208) rfl (H.w 4 rfl) (H.w 5 rfl) (H.w 6 rfl) rfl rfl ?_
      intro h627 a626 e628 g629 E630 A631 D632
      have F633 : Fld G.Z h627 a626 "java/lang/String" "value" "[B" .null := D632 (Or.inr (H.w 20 rfl)) (ty := (.array .byte)) (by decide)
      have F634 : Fld G.Z h627 a626 "java/lang/String" "coder" "B" (.int (0 : Int32)) := D632 (Or.inr (H.w 21 rfl)) (ty := .byte) (by decide)
      refine go_run K 209 2 (pc' := 340) (st' := [(.int (2 : Int32)), (.ref a626), (.ref a626)]) rfl ?_
      refine go_newarray K (k := 211) rfl (H.w 7 rfl) (by decide) (cap := 2) (by decide) rfl rfl rfl ?_
      intro h636 a635 k637 e638 g639 E640 A641
      have A641' : Arv G.Z h636 a635 k637 .char (2 : Int32) [(.int (0 : Int32)), (.int (0 : Int32))] (.int (0 : Int32)) := Arv.pad A641 (pad_rep [] (.int (0 : Int32)) 2)
      refine go_run K 212 3 (pc' := 346) (st' := [(.int r5), (.int (0 : Int32)), (.ref a635), (.ref a635), (.ref a626), (.ref a626)]) rfl ?_
      refine go_castore K (k := 215) rfl A641' (i := 0) (by decide) rfl (Nat.le_of_ble_eq_true rfl) g639 ?_
      intro h642 W643 A644
      refine go_run K 216 3 (pc' := 351) (st' := [(.int r7), (.int (1 : Int32)), (.ref a635), (.ref a635), (.ref a626), (.ref a626)]) rfl ?_
      refine go_castore K (k := 219) rfl A644 (i := 1) (by decide) rfl (Nat.le_of_ble_eq_true rfl) g639 ?_
      intro h645 W646 A647
      have B648 : Arv G.Z h645 a635 k637 .char (2 : Int32) (([r5, r7] : List Int32).map Value.int) (.int 0) := by
        have u := A647
        rw [nar_id q6, nar_id q8] at u
        exact u
      have X649 : Ext h627 h642 := (Ext.wrN E640 W643 (Nat.le_trans (Nat.le_refl _) (Nat.le_of_eq e638.symm)))
      have X650 : Ext h627 h645 := (Ext.wrN X649 W646 (Nat.le_trans (Nat.le_refl _) (Nat.le_of_eq e638.symm)))
      have c651 := (A631.ext X650)
      have c652 := (F633.ext X650)
      have c653 := (F634.ext X650)
      refine go_special K (k := 220) rfl rfl (H.w 8 rfl) (H.w 9 rfl) (H.w 6 rfl) (H.w 10 rfl) (by decide) pd_30 (c_si (cs := [r5, r7]) H (latC q6 (lat1 q8) (Nat.le_of_ble_eq_true rfl)) (Nat.le_of_ble_eq_true rfl) c651 c652 c653 g629 B648) (argsL := [(.ref a635)]) (rest := [(.ref a626)]) rfl rfl rfl (subS (List.mem_cons_of_mem _ (List.mem_cons_self ..)) sub0) rfl ?_
      rintro _ h654 _ - ⟨rfl, K655, S656⟩
      show Go G B M_law _ h654 (a635 :: (a626 :: [])) 6 14 355 #[.val (.int p0), .val (.int p1), .val (.int p2), .val (.int p3), .val (.int r1), .val (.int r3), .val (.int r5), .val (.int r7), .val (.int r9), .val (.int r11), .val (.int qv), .val (.int (3 : Int32)), .val (.int sp), .unset, .unset, .unset, .unset, .unset] [(.ref a626)]
      refine go_run K 221 1 (pc' := 357) (Ls' := #[.val (.int p0), .val (.int p1), .val (.int p2), .val (.int p3), .val (.int r1), .val (.int r3), .val (.int r5), .val (.int r7), .val (.int r9), .val (.int r11), .val (.int qv), .val (.int (3 : Int32)), .val (.int sp), .unset, .val (.ref a626), .unset, .unset, .unset]) (st' := []) rfl ?_
      refine go_new K (k := 222) rfl (H.w 4 rfl) (H.w 5 rfl) (H.w 6 rfl) rfl rfl ?_
      intro h658 a657 e659 g660 E661 A662 D663
      have F664 : Fld G.Z h658 a657 "java/lang/String" "value" "[B" .null := D663 (Or.inr (H.w 20 rfl)) (ty := (.array .byte)) (by decide)
      have F665 : Fld G.Z h658 a657 "java/lang/String" "coder" "B" (.int (0 : Int32)) := D663 (Or.inr (H.w 21 rfl)) (ty := .byte) (by decide)
      refine go_run K 223 2 (pc' := 362) (st' := [(.int (5 : Int32)), (.ref a657), (.ref a657)]) rfl ?_
      refine go_newarray K (k := 225) rfl (H.w 7 rfl) (by decide) (cap := 5) (by decide) rfl rfl rfl ?_
      intro h667 a666 k668 e669 g670 E671 A672
      have A672' : Arv G.Z h667 a666 k668 .char (5 : Int32) [(.int (0 : Int32)), (.int (0 : Int32)), (.int (0 : Int32)), (.int (0 : Int32)), (.int (0 : Int32))] (.int (0 : Int32)) := Arv.pad A672 (pad_rep [] (.int (0 : Int32)) 5)
      refine go_run K 226 3 (pc' := 368) (st' := [(.int r1), (.int (0 : Int32)), (.ref a666), (.ref a666), (.ref a657), (.ref a657)]) rfl ?_
      refine go_castore K (k := 229) rfl A672' (i := 0) (by decide) rfl (Nat.le_of_ble_eq_true rfl) g670 ?_
      intro h673 W674 A675
      refine go_run K 230 3 (pc' := 373) (st' := [(.int r3), (.int (1 : Int32)), (.ref a666), (.ref a666), (.ref a657), (.ref a657)]) rfl ?_
      refine go_castore K (k := 233) rfl A675 (i := 1) (by decide) rfl (Nat.le_of_ble_eq_true rfl) g670 ?_
      intro h676 W677 A678
      refine go_run K 234 3 (pc' := 378) (st' := [(.int (35 : Int32)), (.int (2 : Int32)), (.ref a666), (.ref a666), (.ref a657), (.ref a657)]) rfl ?_
      refine go_castore K (k := 237) rfl A678 (i := 2) (by decide) rfl (Nat.le_of_ble_eq_true rfl) g670 ?_
      intro h679 W680 A681
      refine go_run K 238 3 (pc' := 383) (st' := [(.int r5), (.int (3 : Int32)), (.ref a666), (.ref a666), (.ref a657), (.ref a657)]) rfl ?_
      refine go_castore K (k := 241) rfl A681 (i := 3) (by decide) rfl (Nat.le_of_ble_eq_true rfl) g670 ?_
      intro h682 W683 A684
      refine go_run K 242 3 (pc' := 388) (st' := [(.int r7), (.int (4 : Int32)), (.ref a666), (.ref a666), (.ref a657), (.ref a657)]) rfl ?_
      refine go_castore K (k := 245) rfl A684 (i := 4) (by decide) rfl (Nat.le_of_ble_eq_true rfl) g670 ?_
      intro h685 W686 A687
      have B688 : Arv G.Z h685 a666 k668 .char (5 : Int32) (([r1, r3, (35 : Int32), r5, r7] : List Int32).map Value.int) (.int 0) := by
        have u := A687
        rw [nar_id q2, nar_id q4, nar_id q6, nar_id q8] at u
        exact u
      have X689 : Ext h658 h673 := (Ext.wrN E671 W674 (Nat.le_trans (Nat.le_refl _) (Nat.le_of_eq e669.symm)))
      have X690 : Ext h658 h676 := (Ext.wrN X689 W677 (Nat.le_trans (Nat.le_refl _) (Nat.le_of_eq e669.symm)))
      have X691 : Ext h658 h679 := (Ext.wrN X690 W680 (Nat.le_trans (Nat.le_refl _) (Nat.le_of_eq e669.symm)))
      have X692 : Ext h658 h682 := (Ext.wrN X691 W683 (Nat.le_trans (Nat.le_refl _) (Nat.le_of_eq e669.symm)))
      have X693 : Ext h658 h685 := (Ext.wrN X692 W686 (Nat.le_trans (Nat.le_refl _) (Nat.le_of_eq e669.symm)))
      have c694 := (A662.ext X693)
      have c695 := (F664.ext X693)
      have c696 := (F665.ext X693)
      refine go_special K (k := 246) rfl rfl (H.w 8 rfl) (H.w 9 rfl) (H.w 6 rfl) (H.w 10 rfl) (by decide) pd_30 (c_si (cs := [r1, r3, (35 : Int32), r5, r7]) H (latC q2 (latC q4 (latC (by decide) (latC q6 (lat1 q8) (Nat.le_of_ble_eq_true rfl)) (Nat.le_of_ble_eq_true rfl)) (Nat.le_of_ble_eq_true rfl)) (Nat.le_of_ble_eq_true rfl)) (Nat.le_of_ble_eq_true rfl) c694 c695 c696 g660 B688) (argsL := [(.ref a666)]) (rest := [(.ref a657)]) rfl rfl rfl (subS (List.mem_cons_of_mem _ (List.mem_cons_self ..)) sub0) rfl ?_
      rintro _ h697 _ - ⟨rfl, K698, S699⟩
      show Go G B M_law _ h697 (a666 :: (a657 :: (a635 :: (a626 :: [])))) 12 31 392 #[.val (.int p0), .val (.int p1), .val (.int p2), .val (.int p3), .val (.int r1), .val (.int r3), .val (.int r5), .val (.int r7), .val (.int r9), .val (.int r11), .val (.int qv), .val (.int (3 : Int32)), .val (.int sp), .unset, .val (.ref a626), .unset, .unset, .unset] [(.ref a657)]
      refine go_run K 247 1 (pc' := 394) (Ls' := #[.val (.int p0), .val (.int p1), .val (.int p2), .val (.int p3), .val (.int r1), .val (.int r3), .val (.int r5), .val (.int r7), .val (.int r9), .val (.int r11), .val (.int qv), .val (.int (3 : Int32)), .val (.int sp), .val (.ref a657), .val (.ref a626), .unset, .unset, .unset]) (st' := []) rfl ?_
      refine go_new K (k := 248) rfl (H.w 4 rfl) (H.w 5 rfl) (H.w 6 rfl) rfl rfl ?_
      intro h701 a700 e702 g703 E704 A705 D706
      have F707 : Fld G.Z h701 a700 "java/lang/String" "value" "[B" .null := D706 (Or.inr (H.w 20 rfl)) (ty := (.array .byte)) (by decide)
      have F708 : Fld G.Z h701 a700 "java/lang/String" "coder" "B" (.int (0 : Int32)) := D706 (Or.inr (H.w 21 rfl)) (ty := .byte) (by decide)
      refine go_run K 249 2 (pc' := 400) (st' := [(.int (8 : Int32)), (.ref a700), (.ref a700)]) rfl ?_
      refine go_newarray K (k := 251) rfl (H.w 7 rfl) (by decide) (cap := 8) (by decide) rfl rfl rfl ?_
      intro h710 a709 k711 e712 g713 E714 A715
      have A715' : Arv G.Z h710 a709 k711 .char (8 : Int32) [(.int (0 : Int32)), (.int (0 : Int32)), (.int (0 : Int32)), (.int (0 : Int32)), (.int (0 : Int32)), (.int (0 : Int32)), (.int (0 : Int32)), (.int (0 : Int32))] (.int (0 : Int32)) := Arv.pad A715 (pad_rep [] (.int (0 : Int32)) 8)
      refine go_run K 252 3 (pc' := 406) (st' := [(.int r1), (.int (0 : Int32)), (.ref a709), (.ref a709), (.ref a700), (.ref a700)]) rfl ?_
      refine go_castore K (k := 255) rfl A715' (i := 0) (by decide) rfl (Nat.le_of_ble_eq_true rfl) g713 ?_
      intro h716 W717 A718
      refine go_run K 256 3 (pc' := 411) (st' := [(.int r3), (.int (1 : Int32)), (.ref a709), (.ref a709), (.ref a700), (.ref a700)]) rfl ?_
      refine go_castore K (k := 259) rfl A718 (i := 1) (by decide) rfl (Nat.le_of_ble_eq_true rfl) g713 ?_
      intro h719 W720 A721
      refine go_run K 260 3 (pc' := 416) (st' := [(.int sp), (.int (2 : Int32)), (.ref a709), (.ref a709), (.ref a700), (.ref a700)]) rfl ?_
      refine go_castore K (k := 263) rfl A721 (i := 2) (by decide) rfl (Nat.le_of_ble_eq_true rfl) g713 ?_
      intro h722 W723 A724
      refine go_run K 264 3 (pc' := 421) (st' := [(.int r9), (.int (3 : Int32)), (.ref a709), (.ref a709), (.ref a700), (.ref a700)]) rfl ?_
      refine go_castore K (k := 267) rfl A724 (i := 3) (by decide) rfl (Nat.le_of_ble_eq_true rfl) g713 ?_
      intro h725 W726 A727
      refine go_run K 268 3 (pc' := 426) (st' := [(.int r11), (.int (4 : Int32)), (.ref a709), (.ref a709), (.ref a700), (.ref a700)]) rfl ?_
      refine go_castore K (k := 271) rfl A727 (i := 4) (by decide) rfl (Nat.le_of_ble_eq_true rfl) g713 ?_
      intro h728 W729 A730
      refine go_run K 272 3 (pc' := 431) (st' := [(.int (35 : Int32)), (.int (5 : Int32)), (.ref a709), (.ref a709), (.ref a700), (.ref a700)]) rfl ?_
      refine go_castore K (k := 275) rfl A730 (i := 5) (by decide) rfl (Nat.le_of_ble_eq_true rfl) g713 ?_
      intro h731 W732 A733
      refine go_run K 276 3 (pc' := 437) (st' := [(.int r5), (.int (6 : Int32)), (.ref a709), (.ref a709), (.ref a700), (.ref a700)]) rfl ?_
      refine go_castore K (k := 279) rfl A733 (i := 6) (by decide) rfl (Nat.le_of_ble_eq_true rfl) g713 ?_
      intro h734 W735 A736
      refine go_run K 280 3 (pc' := 443) (st' := [(.int r7), (.int (7 : Int32)), (.ref a709), (.ref a709), (.ref a700), (.ref a700)]) rfl ?_
      refine go_castore K (k := 283) rfl A736 (i := 7) (by decide) rfl (Nat.le_of_ble_eq_true rfl) g713 ?_
      intro h737 W738 A739
      have B740 : Arv G.Z h737 a709 k711 .char (8 : Int32) (([r1, r3, sp, r9, r11, (35 : Int32), r5, r7] : List Int32).map Value.int) (.int 0) := by
        have u := A739
        rw [nar_id q2, nar_id q4, nar_id hsp, nar_id q10, nar_id q12, nar_id q6, nar_id q8] at u
        exact u
      have X741 : Ext h701 h716 := (Ext.wrN E714 W717 (Nat.le_trans (Nat.le_refl _) (Nat.le_of_eq e712.symm)))
      have X742 : Ext h701 h719 := (Ext.wrN X741 W720 (Nat.le_trans (Nat.le_refl _) (Nat.le_of_eq e712.symm)))
      have X743 : Ext h701 h722 := (Ext.wrN X742 W723 (Nat.le_trans (Nat.le_refl _) (Nat.le_of_eq e712.symm)))
      have X744 : Ext h701 h725 := (Ext.wrN X743 W726 (Nat.le_trans (Nat.le_refl _) (Nat.le_of_eq e712.symm)))
      have X745 : Ext h701 h728 := (Ext.wrN X744 W729 (Nat.le_trans (Nat.le_refl _) (Nat.le_of_eq e712.symm)))
      have X746 : Ext h701 h731 := (Ext.wrN X745 W732 (Nat.le_trans (Nat.le_refl _) (Nat.le_of_eq e712.symm)))
      have X747 : Ext h701 h734 := (Ext.wrN X746 W735 (Nat.le_trans (Nat.le_refl _) (Nat.le_of_eq e712.symm)))
      have X748 : Ext h701 h737 := (Ext.wrN X747 W738 (Nat.le_trans (Nat.le_refl _) (Nat.le_of_eq e712.symm)))
      have c749 := (A705.ext X748)
      have c750 := (F707.ext X748)
      have c751 := (F708.ext X748)
      refine go_special K (k := 284) rfl rfl (H.w 8 rfl) (H.w 9 rfl) (H.w 6 rfl) (H.w 10 rfl) (by decide) pd_30 (c_si (cs := [r1, r3, sp, r9, r11, (35 : Int32), r5, r7]) H (latC q2 (latC q4 (latC hsp (latC q10 (latC q12 (latC (by decide) (latC q6 (lat1 q8) (Nat.le_of_ble_eq_true rfl)) (Nat.le_of_ble_eq_true rfl)) (Nat.le_of_ble_eq_true rfl)) (Nat.le_of_ble_eq_true rfl)) (Nat.le_of_ble_eq_true rfl)) (Nat.le_of_ble_eq_true rfl)) (Nat.le_of_ble_eq_true rfl)) (Nat.le_of_ble_eq_true rfl) c749 c750 c751 g703 B740) (argsL := [(.ref a709)]) (rest := [(.ref a700)]) rfl rfl rfl (subS (List.mem_cons_of_mem _ (List.mem_cons_self ..)) sub0) rfl ?_
      rintro _ h752 _ - ⟨rfl, K753, S754⟩
      show Go G B M_law _ h752 (a709 :: (a700 :: (a666 :: (a657 :: (a635 :: (a626 :: [])))))) 18 51 447 #[.val (.int p0), .val (.int p1), .val (.int p2), .val (.int p3), .val (.int r1), .val (.int r3), .val (.int r5), .val (.int r7), .val (.int r9), .val (.int r11), .val (.int qv), .val (.int (3 : Int32)), .val (.int sp), .val (.ref a657), .val (.ref a626), .unset, .unset, .unset] [(.ref a700)]
      refine go_run K 285 1 (pc' := 449) (Ls' := #[.val (.int p0), .val (.int p1), .val (.int p2), .val (.int p3), .val (.int r1), .val (.int r3), .val (.int r5), .val (.int r7), .val (.int r9), .val (.int r11), .val (.int qv), .val (.int (3 : Int32)), .val (.int sp), .val (.ref a657), .val (.ref a626), .val (.ref a700), .unset, .unset]) (st' := []) rfl ?_
      refine go_new K (k := 286) rfl (H.w 37 rfl) (H.w 38 rfl) (H.w 39 rfl) rfl rfl ?_
      intro h756 a755 e757 g758 E759 A760 D761
      have F762 : Fld G.Z h756 a755 "com/example/crosswarden/crosswarden/web/Destination" "url" "Ljava/lang/String;" .null := D761 (Or.inr (H.w 51 rfl)) (ty := (.object "java/lang/String")) (by decide)
      have F763 : Fld G.Z h756 a755 "com/example/crosswarden/crosswarden/web/Destination" "host" "Ljava/lang/String;" .null := D761 (Or.inr (H.w 53 rfl)) (ty := (.object "java/lang/String")) (by decide)
      have F764 : Fld G.Z h756 a755 "com/example/crosswarden/crosswarden/web/Destination" "query" "Z" (.int (0 : Int32)) := D761 (Or.inr (H.w 55 rfl)) (ty := .boolean) (by decide)
      have F765 : Fld G.Z h756 a755 "com/example/crosswarden/crosswarden/web/Destination" "fragment" "Ljava/lang/String;" .null := D761 (Or.inr (H.w 57 rfl)) (ty := (.object "java/lang/String")) (by decide)
      refine go_run K 287 2 (pc' := 455) (st' := [(.ref a657), (.ref a755), (.ref a755)]) rfl ?_
      refine go_ldc K (k := 289) rfl (H.w 40 rfl) H.ws (n := 4) rfl rfl rfl rfl ?_
      intro h767 a766 E768
      refine go_run K 290 2 (pc' := 461) (st' := [(.ref a626), (.int qv), (.ref a766), (.ref a657), (.ref a755), (.ref a755)]) rfl ?_
      have c769 := (A760.ext E768)
      have c770 := (F762.ext E768)
      have c771 := (F763.ext E768)
      have c772 := (F764.ext E768)
      have c773 := (F765.ext E768)
      refine go_special K (k := 292) rfl rfl (H.w 41 rfl) (H.w 42 rfl) (H.w 39 rfl) (H.w 43 rfl) (by decide) pd_31 (c_de (a := a755) (r0 := a657) (r1 := a766) (p2 := qv) (r3 := a626) H c769 c770 c771 c772 c773 g758 hqv) (argsL := [(.ref a657), (.ref a766), (.int qv), (.ref a626)]) (rest := [(.ref a755)]) rfl rfl rfl sub0 rfl ?_
      rintro _ h774 _ - ⟨rfl, K775, E776, F777, F778, F779, F780⟩
      show Go G B M_law _ h774 (a755 :: (a709 :: (a700 :: (a666 :: (a657 :: (a635 :: (a626 :: []))))))) 21 63 464 #[.val (.int p0), .val (.int p1), .val (.int p2), .val (.int p3), .val (.int r1), .val (.int r3), .val (.int r5), .val (.int r7), .val (.int r9), .val (.int r11), .val (.int qv), .val (.int (3 : Int32)), .val (.int sp), .val (.ref a657), .val (.ref a626), .val (.ref a700), .unset, .unset] [(.ref a755)]
      refine go_run K 293 2 (pc' := 468) (Ls' := #[.val (.int p0), .val (.int p1), .val (.int p2), .val (.int p3), .val (.int r1), .val (.int r3), .val (.int r5), .val (.int r7), .val (.int r9), .val (.int r11), .val (.int qv), .val (.int (3 : Int32)), .val (.int sp), .val (.ref a657), .val (.ref a626), .val (.ref a700), .val (.ref a755), .unset]) (st' := [(.ref a755)]) rfl ?_
      refine go_new K (k := 295) rfl (H.w 4 rfl) (H.w 5 rfl) (H.w 6 rfl) rfl rfl ?_
      intro h782 a781 e783 g784 E785 A786 D787
      have F788 : Fld G.Z h782 a781 "java/lang/String" "value" "[B" .null := D787 (Or.inr (H.w 20 rfl)) (ty := (.array .byte)) (by decide)
      have F789 : Fld G.Z h782 a781 "java/lang/String" "coder" "B" (.int (0 : Int32)) := D787 (Or.inr (H.w 21 rfl)) (ty := .byte) (by decide)
      refine go_run K 296 2 (pc' := 473) (st' := [(.int (2 : Int32)), (.ref a781), (.ref a781), (.ref a755)]) rfl ?_
      refine go_newarray K (k := 298) rfl (H.w 7 rfl) (by decide) (cap := 2) (by decide) rfl rfl rfl ?_
      intro h791 a790 k792 e793 g794 E795 A796
      have A796' : Arv G.Z h791 a790 k792 .char (2 : Int32) [(.int (0 : Int32)), (.int (0 : Int32))] (.int (0 : Int32)) := Arv.pad A796 (pad_rep [] (.int (0 : Int32)) 2)
      refine go_run K 299 3 (pc' := 479) (st' := [(.int r9), (.int (0 : Int32)), (.ref a790), (.ref a790), (.ref a781), (.ref a781), (.ref a755)]) rfl ?_
      refine go_castore K (k := 302) rfl A796' (i := 0) (by decide) rfl (Nat.le_of_ble_eq_true rfl) g794 ?_
      intro h797 W798 A799
      refine go_run K 303 3 (pc' := 484) (st' := [(.int r11), (.int (1 : Int32)), (.ref a790), (.ref a790), (.ref a781), (.ref a781), (.ref a755)]) rfl ?_
      refine go_castore K (k := 306) rfl A799 (i := 1) (by decide) rfl (Nat.le_of_ble_eq_true rfl) g794 ?_
      intro h800 W801 A802
      have B803 : Arv G.Z h800 a790 k792 .char (2 : Int32) (([r9, r11] : List Int32).map Value.int) (.int 0) := by
        have u := A802
        rw [nar_id q10, nar_id q12] at u
        exact u
      have X804 : Ext h782 h797 := (Ext.wrN E795 W798 (Nat.le_trans (Nat.le_refl _) (Nat.le_of_eq e793.symm)))
      have X805 : Ext h782 h800 := (Ext.wrN X804 W801 (Nat.le_trans (Nat.le_refl _) (Nat.le_of_eq e793.symm)))
      have c806 := (A786.ext X805)
      have c807 := (F788.ext X805)
      have c808 := (F789.ext X805)
      refine go_special K (k := 307) rfl rfl (H.w 8 rfl) (H.w 9 rfl) (H.w 6 rfl) (H.w 10 rfl) (by decide) pd_30 (c_si (cs := [r9, r11]) H (latC q10 (lat1 q12) (Nat.le_of_ble_eq_true rfl)) (Nat.le_of_ble_eq_true rfl) c806 c807 c808 g784 B803) (argsL := [(.ref a790)]) (rest := [(.ref a781), (.ref a755)]) rfl rfl rfl (subS (List.mem_cons_of_mem _ (List.mem_cons_self ..)) sub0) rfl ?_
      rintro _ h809 _ - ⟨rfl, K810, S811⟩
      show Go G B M_law _ h809 (a790 :: (a781 :: (a755 :: (a709 :: (a700 :: (a666 :: (a657 :: (a635 :: (a626 :: []))))))))) 27 77 488 #[.val (.int p0), .val (.int p1), .val (.int p2), .val (.int p3), .val (.int r1), .val (.int r3), .val (.int r5), .val (.int r7), .val (.int r9), .val (.int r11), .val (.int qv), .val (.int (3 : Int32)), .val (.int sp), .val (.ref a657), .val (.ref a626), .val (.ref a700), .val (.ref a755), .unset] [(.ref a781), (.ref a755)]
      have X812 : Ext h774 h791 := (Ext.tr E785 E795)
      have X813 : Ext h774 h797 := (Ext.wrN X812 W798 (Nat.le_trans (E785).1 (Nat.le_of_eq e793.symm)))
      have X814 : Ext h774 h800 := (Ext.wrN X813 W801 (Nat.le_trans (E785).1 (Nat.le_of_eq e793.symm)))
      have X815 : Ext h774 h809 := (Ext.keepN X814 K810 (allS (Nat.le_trans (Nat.le_refl _) (Nat.le_of_eq e783.symm)) all0))
      have c816 := (F777.ext X815)
      have c817 := (F780.ext X815)
      have c818 := (F779.ext X815)
      have X819 : Ext h697 h710 := (Ext.tr E704 E714)
      have X820 : Ext h697 h716 := (Ext.wrN X819 W717 (Nat.le_trans (E704).1 (Nat.le_of_eq e712.symm)))
      have X821 : Ext h697 h719 := (Ext.wrN X820 W720 (Nat.le_trans (E704).1 (Nat.le_of_eq e712.symm)))
      have X822 : Ext h697 h722 := (Ext.wrN X821 W723 (Nat.le_trans (E704).1 (Nat.le_of_eq e712.symm)))
      have X823 : Ext h697 h725 := (Ext.wrN X822 W726 (Nat.le_trans (E704).1 (Nat.le_of_eq e712.symm)))
      have X824 : Ext h697 h728 := (Ext.wrN X823 W729 (Nat.le_trans (E704).1 (Nat.le_of_eq e712.symm)))
      have X825 : Ext h697 h731 := (Ext.wrN X824 W732 (Nat.le_trans (E704).1 (Nat.le_of_eq e712.symm)))
      have X826 : Ext h697 h734 := (Ext.wrN X825 W735 (Nat.le_trans (E704).1 (Nat.le_of_eq e712.symm)))
      have X827 : Ext h697 h737 := (Ext.wrN X826 W738 (Nat.le_trans (E704).1 (Nat.le_of_eq e712.symm)))
      have X828 : Ext h697 h752 := (Ext.keepN X827 K753 (allS (Nat.le_trans (Nat.le_refl _) (Nat.le_of_eq e702.symm)) all0))
      have X829 : Ext h697 h756 := (Ext.tr X828 E759)
      have X830 : Ext h697 h767 := (Ext.tr X829 E768)
      have X831 : Ext h697 h774 := (Ext.keepN X830 K775 (allS (Nat.le_trans (X828).1 (Nat.le_of_eq e757.symm)) all0))
      have X832 : Ext h697 h782 := (Ext.tr X831 E785)
      have X833 : Ext h697 h791 := (Ext.tr X832 E795)
      have X834 : Ext h697 h797 := (Ext.wrN X833 W798 (Nat.le_trans (X832).1 (Nat.le_of_eq e793.symm)))
      have X835 : Ext h697 h800 := (Ext.wrN X834 W801 (Nat.le_trans (X832).1 (Nat.le_of_eq e793.symm)))
      have X836 : Ext h697 h809 := (Ext.keepN X835 K810 (allS (Nat.le_trans (X831).1 (Nat.le_of_eq e783.symm)) all0))
      have c837 := (S699.ext X836)
      have X838 : Ext h654 h667 := (Ext.tr E661 E671)
      have X839 : Ext h654 h673 := (Ext.wrN X838 W674 (Nat.le_trans (E661).1 (Nat.le_of_eq e669.symm)))
      have X840 : Ext h654 h676 := (Ext.wrN X839 W677 (Nat.le_trans (E661).1 (Nat.le_of_eq e669.symm)))
      have X841 : Ext h654 h679 := (Ext.wrN X840 W680 (Nat.le_trans (E661).1 (Nat.le_of_eq e669.symm)))
      have X842 : Ext h654 h682 := (Ext.wrN X841 W683 (Nat.le_trans (E661).1 (Nat.le_of_eq e669.symm)))
      have X843 : Ext h654 h685 := (Ext.wrN X842 W686 (Nat.le_trans (E661).1 (Nat.le_of_eq e669.symm)))
      have X844 : Ext h654 h697 := (Ext.keepN X843 K698 (allS (Nat.le_trans (Nat.le_refl _) (Nat.le_of_eq e659.symm)) all0))
      have X845 : Ext h654 h701 := (Ext.tr X844 E704)
      have X846 : Ext h654 h710 := (Ext.tr X845 E714)
      have X847 : Ext h654 h716 := (Ext.wrN X846 W717 (Nat.le_trans (X845).1 (Nat.le_of_eq e712.symm)))
      have X848 : Ext h654 h719 := (Ext.wrN X847 W720 (Nat.le_trans (X845).1 (Nat.le_of_eq e712.symm)))
      have X849 : Ext h654 h722 := (Ext.wrN X848 W723 (Nat.le_trans (X845).1 (Nat.le_of_eq e712.symm)))
      have X850 : Ext h654 h725 := (Ext.wrN X849 W726 (Nat.le_trans (X845).1 (Nat.le_of_eq e712.symm)))
      have X851 : Ext h654 h728 := (Ext.wrN X850 W729 (Nat.le_trans (X845).1 (Nat.le_of_eq e712.symm)))
      have X852 : Ext h654 h731 := (Ext.wrN X851 W732 (Nat.le_trans (X845).1 (Nat.le_of_eq e712.symm)))
      have X853 : Ext h654 h734 := (Ext.wrN X852 W735 (Nat.le_trans (X845).1 (Nat.le_of_eq e712.symm)))
      have X854 : Ext h654 h737 := (Ext.wrN X853 W738 (Nat.le_trans (X845).1 (Nat.le_of_eq e712.symm)))
      have X855 : Ext h654 h752 := (Ext.keepN X854 K753 (allS (Nat.le_trans (X844).1 (Nat.le_of_eq e702.symm)) all0))
      have X856 : Ext h654 h756 := (Ext.tr X855 E759)
      have X857 : Ext h654 h767 := (Ext.tr X856 E768)
      have X858 : Ext h654 h774 := (Ext.keepN X857 K775 (allS (Nat.le_trans (X855).1 (Nat.le_of_eq e757.symm)) all0))
      have X859 : Ext h654 h782 := (Ext.tr X858 E785)
      have X860 : Ext h654 h791 := (Ext.tr X859 E795)
      have X861 : Ext h654 h797 := (Ext.wrN X860 W798 (Nat.le_trans (X859).1 (Nat.le_of_eq e793.symm)))
      have X862 : Ext h654 h800 := (Ext.wrN X861 W801 (Nat.le_trans (X859).1 (Nat.le_of_eq e793.symm)))
      have X863 : Ext h654 h809 := (Ext.keepN X862 K810 (allS (Nat.le_trans (X858).1 (Nat.le_of_eq e783.symm)) all0))
      have c864 := (S656.ext X863)
      have c865 := (E776.ext X815)
      refine go_virt0 K (k := 308) rfl (H.w 58 rfl) (H.w 61 rfl) (H.w 60 rfl) (H.w 39 rfl) (H.w 62 rfl) (by decide) pd_32 c865 (c_wa (us := [r1, r3]) (as := [r9, r11]) (fs := [r5, r7]) H (latC q2 (lat1 q4) (Nat.le_of_ble_eq_true rfl)) (latC q2 (latC q4 (latC (by decide) (latC q6 (lat1 q8) (Nat.le_of_ble_eq_true rfl)) (Nat.le_of_ble_eq_true rfl)) (Nat.le_of_ble_eq_true rfl)) (Nat.le_of_ble_eq_true rfl)) (latC q6 (lat1 q8) (Nat.le_of_ble_eq_true rfl)) (latC q10 (lat1 q12) (Nat.le_of_ble_eq_true rfl)) (by simp) (by simp) (by simp) (by simp) hq hF c816 c817 c818 c837 c864 S811) (argsL := [(.ref a781)]) (rest := []) rfl rfl rfl sub0 rfl ?_
      rintro _ h866 _ - ⟨a867, rfl, E868, S869⟩
      show Go G B M_law _ h866 (a790 :: (a781 :: (a755 :: (a709 :: (a700 :: (a666 :: (a657 :: (a635 :: (a626 :: []))))))))) 41 193 491 #[.val (.int p0), .val (.int p1), .val (.int p2), .val (.int p3), .val (.int r1), .val (.int r3), .val (.int r5), .val (.int r7), .val (.int r9), .val (.int r11), .val (.int qv), .val (.int (3 : Int32)), .val (.int sp), .val (.ref a657), .val (.ref a626), .val (.ref a700), .val (.ref a755), .unset] [(.ref a867)]
      refine go_run K 309 3 (pc' := 497) (Ls' := #[.val (.int p0), .val (.int p1), .val (.int p2), .val (.int p3), .val (.int r1), .val (.int r3), .val (.int r5), .val (.int r7), .val (.int r9), .val (.int r11), .val (.int qv), .val (.int (3 : Int32)), .val (.int sp), .val (.ref a657), .val (.ref a626), .val (.ref a700), .val (.ref a755), .val (.ref a867)]) (st' := [(.ref a867), (.ref a700)]) rfl ?_
      have X870 : Ext h752 h767 := (Ext.tr E759 E768)
      have X871 : Ext h752 h774 := (Ext.keepN X870 K775 (allS (Nat.le_trans (Nat.le_refl _) (Nat.le_of_eq e757.symm)) all0))
      have X872 : Ext h752 h782 := (Ext.tr X871 E785)
      have X873 : Ext h752 h791 := (Ext.tr X872 E795)
      have X874 : Ext h752 h797 := (Ext.wrN X873 W798 (Nat.le_trans (X872).1 (Nat.le_of_eq e793.symm)))
      have X875 : Ext h752 h800 := (Ext.wrN X874 W801 (Nat.le_trans (X872).1 (Nat.le_of_eq e793.symm)))
      have X876 : Ext h752 h809 := (Ext.keepN X875 K810 (allS (Nat.le_trans (X871).1 (Nat.le_of_eq e783.symm)) all0))
      have X877 : Ext h752 h866 := (Ext.tr X876 E868)
      have c878 := (S754.ext X877)
      refine go_virt0 K (k := 312) rfl (H.w 204 rfl) (H.w 207 rfl) (H.w 206 rfl) (H.w 6 rfl) (H.w 208 rfl) (by decide) pd_33 c878.exa (c_seq H (latC q2 (latC q4 (latC hsp (latC q10 (latC q12 (latC (by decide) (latC q6 (lat1 q8) (Nat.le_of_ble_eq_true rfl)) (Nat.le_of_ble_eq_true rfl)) (Nat.le_of_ble_eq_true rfl)) (Nat.le_of_ble_eq_true rfl)) (Nat.le_of_ble_eq_true rfl)) (Nat.le_of_ble_eq_true rfl)) (Nat.le_of_ble_eq_true rfl)) (latC q2 (latC q4 (latC hsp (latC q10 (latC q12 (latC (by decide) (latC q6 (lat1 q8) (Nat.le_of_ble_eq_true rfl)) (Nat.le_of_ble_eq_true rfl)) (Nat.le_of_ble_eq_true rfl)) (Nat.le_of_ble_eq_true rfl)) (Nat.le_of_ble_eq_true rfl)) (Nat.le_of_ble_eq_true rfl)) (Nat.le_of_ble_eq_true rfl)) c878 S869) (argsL := [(.ref a867)]) (rest := []) rfl rfl rfl sub0 rfl ?_
      rintro _ _ _ - ⟨r879, rfl, rfl, q880⟩
      show Go G B M_law _ h866 (a790 :: (a781 :: (a755 :: (a709 :: (a700 :: (a666 :: (a657 :: (a635 :: (a626 :: []))))))))) 41 193 500 #[.val (.int p0), .val (.int p1), .val (.int p2), .val (.int p3), .val (.int r1), .val (.int r3), .val (.int r5), .val (.int r7), .val (.int r9), .val (.int r11), .val (.int qv), .val (.int (3 : Int32)), .val (.int sp), .val (.ref a657), .val (.ref a626), .val (.ref a700), .val (.ref a755), .val (.ref a867)] [(.int r879)]
      refine go_ireturn K (k := 313) rfl rfl (by decide) (bool_n (Or.elim q880 (fun u => Or.inr u.1) (fun u => Or.inl u.1))) rfl rfl ?_
      intro Sf hSf
      rcases q880 with ⟨u1, -⟩ | ⟨-, u2⟩
      · rw [u1]
      · exact absurd rfl u2
  refine go_ifeq K (k := 27) rfl (pc' := 55) (by decide) (fun q881 => ?_) (fun q882 => ?_)
  · refine go_run K 30 7 (pc' := 65) (Ls' := #[.val (.int p0), .val (.int p1), .val (.int p2), .val (.int p3), .val (.int r1), .val (.int r3), .val (.int r5), .val (.int r7), .val (.int r9), .val (.int r11), .val (.int (0 : Int32)), .val (.int (p3 &&& (3 : Int32))), .unset, .unset, .unset, .unset, .unset, .unset]) (st' := [(.int (0 : Int32))]) rfl ?_
    refine go_ifeq K (k := 37) rfl (pc' := 73) (by decide) (fun _ => ?_) (fun q => absurd rfl q)
    refine go_run K 40 2 (pc' := 77) (Ls' := #[.val (.int p0), .val (.int p1), .val (.int p2), .val (.int p3), .val (.int r1), .val (.int r3), .val (.int r5), .val (.int r7), .val (.int r9), .val (.int r11), .val (.int (0 : Int32)), .val (.int (p3 &&& (3 : Int32))), .val (.int (63 : Int32)), .unset, .unset, .unset, .unset, .unset]) (st' := []) rfl ?_
    exact J77 _ _ (Or.inr ⟨rfl, rfl⟩)
  · refine go_run K 28 2 (pc' := 56) (st' := [(.int (1 : Int32))]) rfl ?_
    refine go_run K 31 6 (pc' := 65) (Ls' := #[.val (.int p0), .val (.int p1), .val (.int p2), .val (.int p3), .val (.int r1), .val (.int r3), .val (.int r5), .val (.int r7), .val (.int r9), .val (.int r11), .val (.int (1 : Int32)), .val (.int (p3 &&& (3 : Int32))), .unset, .unset, .unset, .unset, .unset, .unset]) (st' := [(.int (1 : Int32))]) rfl ?_
    refine go_ifeq K (k := 37) rfl (pc' := 73) (by decide) (fun q => absurd q (by decide)) (fun _ => ?_)
    refine go_run K 38 2 (pc' := 75) (st' := [(.int (38 : Int32))]) rfl ?_
    refine go_run K 41 1 (pc' := 77) (Ls' := #[.val (.int p0), .val (.int p1), .val (.int p2), .val (.int p3), .val (.int r1), .val (.int r3), .val (.int r5), .val (.int r7), .val (.int r9), .val (.int r11), .val (.int (1 : Int32)), .val (.int (p3 &&& (3 : Int32))), .val (.int (38 : Int32)), .unset, .unset, .unset, .unset, .unset]) (st' := []) rfl ?_
    exact J77 _ _ (Or.inl ⟨rfl, rfl⟩)
set_option maxRecDepth 65536 in
set_option maxHeartbeats 40000000 in
theorem comes_1 {Post : Tables → Env → Array Value → State → Outcome → State → Prop} (hpost : ∀ tb e args s v u, (limb_1_1.after args s (.returned v) u = true ∧ limb_1_2.after args s (.returned v) u = true ∧ True) → ReturnedEndW s (.returned v) u (Jvm.fieldLocs frame_1_writes args s ++ Jvm.arrayLocs frame_1_arrays args s ++ Jvm.staticLocs frame_1_statics s) 72 6528 → Post tb e args s (.returned v) u) :
    ArmFor flags0 classFile x code maxLocals ret World_1 tables_1 room_1 Calls_1 rest_1 Pre_1 Post := by
  intro l hfl _ _ p e ha hc hk s m args below hf hA hF happ hP
  obtain ⟨hcalls, hrest, hpre⟩ := hP
  obtain ⟨-, -, -, hnamed, -, -, -, hat⟩ := (Spec.applies_iff hf).mp happ
  obtain ⟨hg, hn⟩ := and_e (Cond.before_iff.mp (show (Jvm.Cond.and given_1 narrow_1).before args s = true from hpre))
  obtain ⟨hcnt, hz0⟩ := and_e hg
  obtain ⟨hi0, hz1⟩ := and_e hz0
  obtain ⟨hi1, hz2⟩ := and_e hz1
  obtain ⟨hi2, hz3⟩ := and_e hz2
  have hi3 := hz3
  obtain ⟨w0, w1, w2, w3, rfl⟩ : ∃ w0 w1 w2 w3 : Value, args = #[w0, w1, w2, w3] := by
    have hs : args.size = 4 := by simpa [Cond.value, given_1] using hcnt
    obtain ⟨L⟩ := args
    match L, hs with
    | [w0, w1, w2, w3], _ => exact ⟨w0, w1, w2, w3, rfl⟩
  have hw := fun d (hd : d ∈ tables_1) => atoms_spec (ws := Jvm.Cond.code x code maxLocals ret :: tables_1) hat d (List.mem_cons_of_mem _ hd)
  obtain ⟨hsets, hown0⟩ := atoms_of _ (rest_1_c_eq ▸ (show rest_1_c.before _ s = true from hrest))
  obtain ⟨i0, e0⟩ := is_v hi0
  obtain rfl : w0 = (.int i0) := Option.some.inj e0
  obtain ⟨i1, e1⟩ := is_v hi1
  obtain rfl : w1 = (.int i1) := Option.some.inj e1
  obtain ⟨i2, e2⟩ := is_v hi2
  obtain rfl : w2 = (.int i2) := Option.some.inj e2
  obtain ⟨i3, e3⟩ := is_v hi3
  obtain rfl : w3 = (.int i3) := Option.some.inj e3
  have nz := not_v (Cond.before_iff.mp (hsets _ (List.mem_of_getElem? (i := 2) rfl)))
  obtain ⟨cz, ecz⟩ := is_v (Cond.before_iff.mp (hsets _ (List.mem_of_getElem? (i := 1) rfl)))
  have Scz : Sta s s.heap "java/lang/String" "COMPACT_STRINGS" "Z" (.int cz) := Sta.start ecz (Or.inl (hsets _ (List.mem_of_getElem? (i := 0) rfl)))
  have hcz : ¬ (cz = (0 : Int32)) := gotF (Cond.eq_ints ecz (Term.int_eval (0))) nz
  have hEW : EW s #[(.int i0), (.int i1), (.int i2), (.int i3)] els := by
    exact (EW.cons (hw _ (List.mem_of_getElem? (i := 223) rfl)) (by decide) (EW.cons (hw _ (List.mem_of_getElem? (i := 136) rfl)) (by decide) (EW.cons (hw _ (List.mem_of_getElem? (i := 224) rfl)) (by decide) (EW.cons (hw _ (List.mem_of_getElem? (i := 203) rfl)) (by decide) (EW.cons (hw _ (List.mem_of_getElem? (i := 40) rfl)) (by decide) (EW.cons (hw _ (List.mem_of_getElem? (i := 18) rfl)) (by decide) EW.nil))))))
  have hCH : CHv s els s.vm s.heap := CHv.start hEW (fun p hp => hcalls.1 p hp) (hsets _ (List.mem_of_getElem? (i := 2) rfl)) (hw _ (List.mem_of_getElem? (i := 19) rfl)) (hw _ (List.mem_of_getElem? (i := 5) rfl))
  have H : Gl tables_1 els (l, s, #[(.int i0), (.int i1), (.int i2), (.int i3)], els) := ⟨hw, rfl, hEW, fun d hd => hw d ((by decide +kernel : ∀ d ∈ Bundle.stringAtoms, d ∈ tables_1) d hd), cz, Scz, hcz⟩
  obtain ⟨vf0, evf0, hvf0⟩ := isR_v (Cond.before_iff.mp (hsets _ (List.mem_of_getElem? (i := 8) rfl)))
  have hF0 : ∃ vf : Value, Sta s s.heap "jdk/internal/util/Preconditions" "SIOOBE_FORMATTER" "Ljava/util/function/BiFunction;" vf ∧ vf.isRef = true := ⟨vf0, Sta.start evf0 (Or.inl (hsets _ (List.mem_of_getElem? (i := 7) rfl))), hvf0⟩
  obtain ⟨n, o, k1, k2, k3, v, L, rfl, ⟨rfl, N, hext⟩, hC, hq⟩ := law_ok (G := (l, s, #[(.int i0), (.int i1), (.int i2), (.int i3)], els)) H hF0 p e ha hc hk s m _ below hf ((Spec.applies_iff_loose hf).mp happ).1 ⟨rfl, State.Warmed39.refl s, rfl, hCH, Ext.rf _, fun _ q => nomatch q⟩ trivial
  refine ⟨n, _, k1, k2, k3, hpost _ _ _ _ _ _ ⟨Cond.after_iff.mpr rfl, Cond.after_iff.mpr (eq_i res_at (Term.int_eval (1)) rfl), trivial⟩ ?_⟩
  obtain ⟨q1, q2, q3, q4⟩ := hq
  exact ⟨q1, q2, q3, (q4.sift fun y hy => Or.inr (N y hy)).mono (by decide) (by decide)⟩
theorem main_1_1 : Claimed_1_1 := comes_1 fun _ _ _ _ _ _ h hF => ⟨h.1, hF⟩
theorem main_1_2 : Claimed_1_2 := comes_1 fun _ _ _ _ _ _ h hF => ⟨h.2.1, hF⟩
end Jvm.Pilot.@@N@@
namespace Jvm.Pilot.@@N@@
open Jvm Jvm.ClassFile Sem Op Lib Jvm.Free Jvm.Stand Jvm.Pilot.@@N@@.Jvm.D
/-! MADE BY PROGRAM (witnessworld.py) out of the Statement's table words and the real class files: 27 classes; the members and pool entries that the words name. The judged class is class 1, her method 2. -/
namespace start1
open Jvm.ClassFile
def u (s : String) : CpInfo := .utf8 (stringToUtf16 s)
/-- a pool by its gaps: so many unusable entries, then the entry; so many at the end -/
def gap : Nat → List CpInfo → List CpInfo
  | 0, r => r
  | n + 1, r => .unusable :: gap n r
def poolList (es : List (Nat × CpInfo)) (last : Nat) : List CpInfo := es.foldr (fun e r => gap e.1 (e.2 :: r)) (gap last [])
def pool (es : List (Nat × CpInfo)) (last : Nat) : Array CpInfo := ⟨poolList es last⟩
def fileOf (pool : Array CpInfo) (this : Nat) (attrs : Array Attribute := #[]) (ms : Array MethodInfo := #[]) (fl : Nat := 33) (sup : Nat := 0) (ifs : Array Nat := #[]) (fds : Array FieldInfo := #[]) : ClassFile where
  minorVersion := 0
  majorVersion := 65
  constantPool := pool
  accessFlags := fl
  thisClass := this
  superClass := sup
  interfaces := ifs
  fields := fds
  methods := ms
  attributes := attrs
def plain (name : String) (sup : Option ClassId) : Class where
  name := name
  kind := .ordinary
  loader := none
  accessFlags := 33
  super := sup
  interfaces := #[]
  cf := none
  fields := #[]
  methods := #[]
  instanceTypes := #[]
  staticTypes := #[]
  resolved := #[]
  callSites := []
  init := .initialized
  statics := none
  mirror := none

def pool0 : Array CpInfo := pool [(5, u "<init>"), (0, u "()V"), (1, .class_ 10), (1, u "java/lang/Object")] 113

def k0c0 : Code := { maxStack := 0, maxLocals := 1, code := object_method_1_code, exceptionTable := #[], attributes := #[] }
def k0m0 : Method := { name := "<init>", desc := "()V", sig := { parameters := [], returnType := none }, accessFlags := 1, code := some k0c0 }
/-- java/lang/Object -/
def k0 : Class := { plain "java/lang/Object" none with
  accessFlags := 33
  interfaces := #[]
  cf := some (fileOf pool0 8 #[] #[{ accessFlags := 1, nameIndex := 5, descriptorIndex := 6, attributes := #[] }] 33 0 #[] #[])
  fields := #[]
  methods := #[k0m0]
  instanceTypes := #[]
  staticTypes := #[]
  resolved := Array.replicate 124 none
  statics := none }

def pool1 : Array CpInfo := pool [(2, .class_ 4), (1, u "java/lang/Object"), (0, u "<init>"), (0, u "()V"), (0, .methodref 8 9), (0, .class_ 10), (0, .nameAndType 11 12), (0, u "com/example/crosswarden/crosswarden/web/DestinationWithArgumentsPinLaw"), (0, u "ch"), (0, u "(II)C"), (0, .class_ 14), (0, u "java/lang/String"), (0, .methodref 13 16), (0, .nameAndType 5 17), (0, u "([C)V"), (0, .methodref 13 19), (0, .nameAndType 20 21), (0, u "valueOf"), (0, u "(C)Ljava/lang/String;"), (0, .class_ 23), (0, u "com/example/crosswarden/crosswarden/web/Destination"), (0, .string 25), (0, u "h"), (0, .methodref 22 27), (0, .nameAndType 5 28), (0, u "(Ljava/lang/String;Ljava/lang/String;ZLjava/lang/String;)V"), (0, .methodref 22 30), (0, .nameAndType 31 32), (0, u "withArguments"), (0, u "(Ljava/lang/String;)Ljava/lang/String;"), (0, .methodref 13 34), (0, .nameAndType 35 36), (0, u "equals"), (0, u "(Ljava/lang/Object;)Z"), (3, u "law"), (0, u "(IIII)Z")] 2

def k1m0 : Method := { name := "<init>", desc := "()V", sig := { parameters := [], returnType := none }, accessFlags := 1, code := none }
def k1c1 : Code := { maxStack := 2, maxLocals := 3, code := method_2_code, exceptionTable := #[], attributes := #[] }
def k1m1 : Method := { name := "ch", desc := "(II)C", sig := { parameters := [.int, .int], returnType := some .char }, accessFlags := 10, code := some k1c1 }
def k1c2 : Code := { maxStack := 7, maxLocals := 18, code := code, exceptionTable := #[], attributes := #[] }
def k1m2 : Method := { name := "law", desc := "(IIII)Z", sig := { parameters := [.int, .int, .int, .int], returnType := some .boolean }, accessFlags := 9, code := some k1c2 }
/-- com/example/crosswarden/crosswarden/web/DestinationWithArgumentsPinLaw -/
def k1 : Class := { plain "com/example/crosswarden/crosswarden/web/DestinationWithArgumentsPinLaw" (some 0) with
  accessFlags := 49
  interfaces := #[]
  cf := some (fileOf pool1 8 #[] #[{ accessFlags := 1, nameIndex := 5, descriptorIndex := 6, attributes := #[] }, { accessFlags := 10, nameIndex := 11, descriptorIndex := 12, attributes := #[] }, { accessFlags := 9, nameIndex := 40, descriptorIndex := 41, attributes := #[] }] 49 2 #[] #[])
  fields := #[]
  methods := #[k1m0, k1m1, k1m2]
  instanceTypes := #[]
  staticTypes := #[]
  resolved := Array.replicate 44 none
  statics := none }

def pool2 : Array CpInfo := pool [(1, .class_ 2), (0, u "java/io/Serializable"), (0, .class_ 4), (0, u "java/lang/Object")] 2

/-- java/io/Serializable -/
def k2 : Class := { plain "java/io/Serializable" (some 0) with
  accessFlags := 1537
  interfaces := #[]
  cf := some (fileOf pool2 1 #[] #[] 1537 3 #[] #[])
  fields := #[]
  methods := #[]
  instanceTypes := #[]
  staticTypes := #[]
  resolved := Array.replicate 7 none
  statics := none }

def pool3 : Array CpInfo := pool [(1, .class_ 2), (0, u "java/lang/Comparable"), (0, .class_ 4), (0, u "java/lang/Object")] 7

/-- java/lang/Comparable -/
def k3 : Class := { plain "java/lang/Comparable" (some 0) with
  accessFlags := 1537
  interfaces := #[]
  cf := some (fileOf pool3 1 #[] #[] 1537 3 #[] #[])
  fields := #[]
  methods := #[]
  instanceTypes := #[]
  staticTypes := #[]
  resolved := Array.replicate 12 none
  statics := none }

def pool4 : Array CpInfo := pool [(2, .class_ 4), (1, u "java/lang/CharSequence"), (42, .class_ 48), (0, u "java/lang/CharSequence$1CodePointIterator"), (10, .class_ 60), (0, u "java/lang/CharSequence$1CharIterator"), (5, .class_ 67), (0, u "java/lang/Object")] 63

/-- java/lang/CharSequence -/
def k4 : Class := { plain "java/lang/CharSequence" (some 0) with
  accessFlags := 1537
  interfaces := #[]
  cf := some (fileOf pool4 2 #[.nestMembers #[47, 59]] #[] 1537 66 #[] #[])
  fields := #[]
  methods := #[]
  instanceTypes := #[]
  staticTypes := #[]
  resolved := Array.replicate 131 none
  statics := none }

def pool5 : Array CpInfo := pool [(1, .class_ 2), (0, u "java/lang/constant/Constable"), (0, .class_ 4), (0, u "java/lang/Object")] 6

/-- java/lang/constant/Constable -/
def k5 : Class := { plain "java/lang/constant/Constable" (some 0) with
  accessFlags := 1537
  interfaces := #[]
  cf := some (fileOf pool5 1 #[] #[] 1537 3 #[] #[])
  fields := #[]
  methods := #[]
  instanceTypes := #[]
  staticTypes := #[]
  resolved := Array.replicate 11 none
  statics := none }

def pool6 : Array CpInfo := pool [(1, .class_ 2), (0, u "java/lang/constant/ConstantDesc"), (0, .class_ 4), (0, u "java/lang/Object")] 32

/-- java/lang/constant/ConstantDesc -/
def k6 : Class := { plain "java/lang/constant/ConstantDesc" (some 0) with
  accessFlags := 1537
  interfaces := #[]
  cf := some (fileOf pool6 1 #[] #[] 1537 3 #[] #[])
  fields := #[]
  methods := #[]
  instanceTypes := #[]
  staticTypes := #[]
  resolved := Array.replicate 37 none
  statics := none }

def pool7 : Array CpInfo := pool [(1, .methodref 2 3), (0, .class_ 4), (0, .nameAndType 5 6), (0, u "java/lang/Object"), (0, u "<init>"), (0, u "()V"), (0, .string 8), (0, u ""), (0, .fieldref 10 11), (0, .class_ 12), (0, .nameAndType 13 14), (0, u "java/lang/String"), (0, u "value"), (0, u "[B"), (0, .fieldref 10 16), (0, .nameAndType 17 18), (0, u "coder"), (0, u "B"), (2, u "hash"), (0, u "I"), (2, u "hashIsZero"), (0, u "Z"), (0, .methodref 10 28), (0, .nameAndType 5 29), (0, u "([CIILjava/lang/Void;)V"), (8, .fieldref 10 39), (0, .nameAndType 40 26), (0, u "COMPACT_STRINGS"), (1, .class_ 44), (1, u "java/lang/StringUTF16"), (0, u "compress"), (1, .methodref 42 48), (0, .nameAndType 49 50), (0, u "coderFromArrayLen"), (0, u "([BI)B"), (2, u "toBytes"), (0, .methodref 55 56), (0, .class_ 57), (0, .nameAndType 58 59), (0, u "java/util/Arrays"), (0, u "copyOfRange"), (0, u "([BII)[B"), (47, .class_ 109), (1, u "java/lang/StringLatin1"), (32, u "()Z"), (34, .methodref 42 178), (0, .nameAndType 45 179), (0, u "([CII)[B"), (13, .class_ 195), (1, u "java/lang/System"), (13, .methodref 10 210), (0, .nameAndType 5 211), (0, u "([BB)V"), (0, .methodref 193 213), (0, .nameAndType 214 215), (0, u "arraycopy"), (0, u "(Ljava/lang/Object;ILjava/lang/Object;II)V"), (118, u "()I"), (0, .methodref 10 336), (0, .nameAndType 17 337), (0, u "()B"), (2, u "()[B"), (28, u "(C)Z"), (119, .methodref 10 490), (0, .nameAndType 5 491), (0, u "(Ljava/lang/AbstractStringBuilder;Ljava/lang/Void;)V"), (0, .methodref 10 493), (0, .nameAndType 494 142), (0, u "isLatin1"), (10, .methodref 10 506), (0, .nameAndType 507 334), (0, u "length"), (5, u "checkFromToIndex"), (7, .methodref 10 522), (0, .nameAndType 523 524), (0, u "checkBoundsBeginEnd"), (0, u "(III)V"), (7, u "getBytes"), (8, .methodref 107 542), (0, .nameAndType 543 544), (0, u "equals"), (0, u "([B[B)Z"), (4, .methodref 550 506), (0, .class_ 551), (0, u "java/lang/AbstractStringBuilder"), (0, .methodref 550 553), (0, .nameAndType 554 340), (0, u "getValue"), (18, u "(Ljava/lang/Object;)Z"), (1, .class_ 576), (0, u "java/lang/CharSequence"), (22, u "CASE_INSENSITIVE_ORDER"), (0, u "Ljava/util/Comparator;"), (82, u "substring"), (0, u "(II)Ljava/lang/String;"), (0, .methodref 107 686), (0, .nameAndType 687 688), (0, u "newString"), (0, u "([BII)Ljava/lang/String;"), (93, u "valueOf"), (0, u "(C)Ljava/lang/String;"), (37, u "([BIB)V"), (188, u "([C)V"), (4, .methodref 107 1016), (0, .nameAndType 1017 369), (0, u "canEncode"), (0, .methodref 107 1019), (0, .nameAndType 53 1020), (0, u "(C)[B"), (26, .methodref 550 493), (5, .fieldref 1054 1055), (0, .class_ 1056), (0, .nameAndType 1057 1058), (0, u "jdk/internal/util/Preconditions"), (0, u "SIOOBE_FORMATTER"), (0, u "Ljava/util/function/BiFunction;"), (3, .methodref 1054 1063), (0, .nameAndType 513 1064), (0, u "(IIILjava/util/function/BiFunction;)I"), (36, u "serialPersistentFields"), (0, u "[Ljava/io/ObjectStreamField;"), (0, .class_ 1104), (0, u "java/lang/String$CaseInsensitiveComparator"), (1, .class_ 1107), (0, u "java/io/Serializable"), (0, .class_ 1109), (0, u "java/lang/Comparable"), (0, .class_ 1111), (0, u "java/lang/constant/Constable"), (0, .class_ 1113), (0, u "java/lang/constant/ConstantDesc"), (2, u "serialVersionUID"), (0, u "J"), (3, u "REPL"), (0, u "C"), (2, u "LATIN1"), (1, u "UTF16"), (105, u "(Ljava/lang/StringBuilder;)V")] 217

def k7m0 : Method := { name := "<init>", desc := "()V", sig := { parameters := [], returnType := none }, accessFlags := 1, code := none }
def k7c1 : Code := { maxStack := 5, maxLocals := 2, code := jdk_42_method_3_code, exceptionTable := #[], attributes := #[] }
def k7m1 : Method := { name := "<init>", desc := "([C)V", sig := { parameters := [(.array .char)], returnType := none }, accessFlags := 1, code := some k7c1 }
def k7c2 : Code := { maxStack := 3, maxLocals := 2, code := jdk_42_method_53_code, exceptionTable := #[], attributes := #[] }
def k7m2 : Method := { name := "<init>", desc := "(Ljava/lang/StringBuilder;)V", sig := { parameters := [(.object "java/lang/StringBuilder")], returnType := none }, accessFlags := 1, code := some k7c2 }
def k7c3 : Code := { maxStack := 2, maxLocals := 1, code := jdk_42_method_54_code, exceptionTable := #[], attributes := #[] }
def k7m3 : Method := { name := "length", desc := "()I", sig := { parameters := [], returnType := some .int }, accessFlags := 1, code := some k7c3 }
def k7c4 : Code := { maxStack := 2, maxLocals := 3, code := jdk_42_method_66_code, exceptionTable := #[], attributes := #[] }
def k7m4 : Method := { name := "equals", desc := "(Ljava/lang/Object;)Z", sig := { parameters := [(.object "java/lang/Object")], returnType := some .boolean }, accessFlags := 1, code := some k7c4 }
def k7c5 : Code := { maxStack := 3, maxLocals := 5, code := jdk_42_method_92_code, exceptionTable := #[], attributes := #[] }
def k7m5 : Method := { name := "substring", desc := "(II)Ljava/lang/String;", sig := { parameters := [.int, .int], returnType := some (.object "java/lang/String") }, accessFlags := 1, code := some k7c5 }
def k7c6 : Code := { maxStack := 4, maxLocals := 1, code := jdk_42_method_139_code, exceptionTable := #[], attributes := #[] }
def k7m6 : Method := { name := "valueOf", desc := "(C)Ljava/lang/String;", sig := { parameters := [.char], returnType := some (.object "java/lang/String") }, accessFlags := 9, code := some k7c6 }
def k7c7 : Code := { maxStack := 5, maxLocals := 4, code := jdk_42_method_147_code, exceptionTable := #[], attributes := #[] }
def k7m7 : Method := { name := "getBytes", desc := "([BIB)V", sig := { parameters := [(.array .byte), .int, .byte], returnType := none }, accessFlags := 0, code := some k7c7 }
def k7c8 : Code := { maxStack := 4, maxLocals := 6, code := jdk_42_method_149_code, exceptionTable := #[], attributes := #[] }
def k7m8 : Method := { name := "<init>", desc := "([CIILjava/lang/Void;)V", sig := { parameters := [(.array .char), .int, .int, (.object "java/lang/Void")], returnType := none }, accessFlags := 2, code := some k7c8 }
def k7c9 : Code := { maxStack := 5, maxLocals := 5, code := jdk_42_method_150_code, exceptionTable := #[], attributes := #[] }
def k7m9 : Method := { name := "<init>", desc := "(Ljava/lang/AbstractStringBuilder;Ljava/lang/Void;)V", sig := { parameters := [(.object "java/lang/AbstractStringBuilder"), (.object "java/lang/Void")], returnType := none }, accessFlags := 0, code := some k7c9 }
def k7c10 : Code := { maxStack := 2, maxLocals := 3, code := jdk_42_method_151_code, exceptionTable := #[], attributes := #[] }
def k7m10 : Method := { name := "<init>", desc := "([BB)V", sig := { parameters := [(.array .byte), .byte], returnType := none }, accessFlags := 0, code := some k7c10 }
def k7c11 : Code := { maxStack := 1, maxLocals := 1, code := jdk_42_method_152_code, exceptionTable := #[], attributes := #[] }
def k7m11 : Method := { name := "coder", desc := "()B", sig := { parameters := [], returnType := some .byte }, accessFlags := 0, code := some k7c11 }
def k7c12 : Code := { maxStack := 1, maxLocals := 1, code := jdk_42_method_154_code, exceptionTable := #[], attributes := #[] }
def k7m12 : Method := { name := "isLatin1", desc := "()Z", sig := { parameters := [], returnType := some .boolean }, accessFlags := 0, code := some k7c12 }
def k7c13 : Code := { maxStack := 4, maxLocals := 3, code := jdk_42_method_158_code, exceptionTable := #[], attributes := #[] }
def k7m13 : Method := { name := "checkBoundsBeginEnd", desc := "(III)V", sig := { parameters := [.int, .int, .int], returnType := none }, accessFlags := 8, code := some k7c13 }
/-- java/lang/String -/
def k7 : Class := { plain "java/lang/String" (some 0) with
  accessFlags := 49
  interfaces := #[2, 3, 4, 5, 6]
  cf := some (fileOf pool7 10 #[.nestMembers #[1103]] #[{ accessFlags := 1, nameIndex := 5, descriptorIndex := 6, attributes := #[] }, { accessFlags := 1, nameIndex := 5, descriptorIndex := 1010, attributes := #[] }, { accessFlags := 1, nameIndex := 5, descriptorIndex := 1233, attributes := #[] }, { accessFlags := 1, nameIndex := 507, descriptorIndex := 334, attributes := #[] }, { accessFlags := 1, nameIndex := 543, descriptorIndex := 573, attributes := #[] }, { accessFlags := 1, nameIndex := 683, descriptorIndex := 684, attributes := #[] }, { accessFlags := 9, nameIndex := 782, descriptorIndex := 783, attributes := #[] }, { accessFlags := 0, nameIndex := 532, descriptorIndex := 821, attributes := #[] }, { accessFlags := 2, nameIndex := 5, descriptorIndex := 29, attributes := #[] }, { accessFlags := 0, nameIndex := 5, descriptorIndex := 491, attributes := #[] }, { accessFlags := 0, nameIndex := 5, descriptorIndex := 211, attributes := #[] }, { accessFlags := 0, nameIndex := 17, descriptorIndex := 337, attributes := #[] }, { accessFlags := 0, nameIndex := 494, descriptorIndex := 142, attributes := #[] }, { accessFlags := 8, nameIndex := 523, descriptorIndex := 524, attributes := #[] }] 49 2 #[1106, 1108, 575, 1110, 1112] #[{ accessFlags := 18, nameIndex := 13, descriptorIndex := 14, attributes := #[] }, { accessFlags := 18, nameIndex := 17, descriptorIndex := 18, attributes := #[] }, { accessFlags := 2, nameIndex := 21, descriptorIndex := 22, attributes := #[] }, { accessFlags := 2, nameIndex := 25, descriptorIndex := 26, attributes := #[] }, { accessFlags := 26, nameIndex := 1116, descriptorIndex := 1117, attributes := #[] }, { accessFlags := 24, nameIndex := 40, descriptorIndex := 26, attributes := #[] }, { accessFlags := 26, nameIndex := 1101, descriptorIndex := 1102, attributes := #[] }, { accessFlags := 26, nameIndex := 1121, descriptorIndex := 1122, attributes := #[] }, { accessFlags := 25, nameIndex := 599, descriptorIndex := 600, attributes := #[] }, { accessFlags := 24, nameIndex := 1125, descriptorIndex := 18, attributes := #[] }, { accessFlags := 24, nameIndex := 1127, descriptorIndex := 18, attributes := #[] }])
  fields := #[{ name := "value", type := (.array .byte), accessFlags := 18, slot := 0, constantValue := 0 }, { name := "coder", type := .byte, accessFlags := 18, slot := 1, constantValue := 0 }, { name := "hash", type := .int, accessFlags := 2, slot := 2, constantValue := 0 }, { name := "hashIsZero", type := .boolean, accessFlags := 2, slot := 3, constantValue := 0 }, { name := "serialVersionUID", type := .long, accessFlags := 26, slot := 0, constantValue := 0 }, { name := "COMPACT_STRINGS", type := .boolean, accessFlags := 24, slot := 1, constantValue := 0 }, { name := "serialPersistentFields", type := (.array (.object "java/io/ObjectStreamField")), accessFlags := 26, slot := 2, constantValue := 0 }, { name := "REPL", type := .char, accessFlags := 26, slot := 3, constantValue := 0 }, { name := "CASE_INSENSITIVE_ORDER", type := (.object "java/util/Comparator"), accessFlags := 25, slot := 4, constantValue := 0 }, { name := "LATIN1", type := .byte, accessFlags := 24, slot := 5, constantValue := 0 }, { name := "UTF16", type := .byte, accessFlags := 24, slot := 6, constantValue := 0 }]
  methods := #[k7m0, k7m1, k7m2, k7m3, k7m4, k7m5, k7m6, k7m7, k7m8, k7m9, k7m10, k7m11, k7m12, k7m13]
  instanceTypes := #[(.array .byte), .byte, .int, .boolean]
  staticTypes := #[.long, .boolean, (.array (.object "java/io/ObjectStreamField")), .char, (.object "java/util/Comparator"), .byte, .byte]
  resolved := Array.replicate 1451 none
  statics := some 0 }

def pool8 : Array CpInfo := pool [(6, .class_ 8), (1, u "java/lang/Object"), (0, u "<init>"), (0, u "()V"), (1, .class_ 14), (1, u "java/lang/StringUTF16"), (31, u "$assertionsDisabled"), (0, u "Z"), (13, u "HI_BYTE_SHIFT"), (0, u "I"), (2, u "LO_BYTE_SHIFT"), (49, .methodref 12 116), (0, .nameAndType 117 118), (0, u "compress"), (0, u "([CI[BII)I"), (3, u "([CII)[B"), (138, u "coderFromArrayLen"), (0, u "([BI)B"), (106, .class_ 371), (1, u "java/lang/StringUTF16$LinesSpliterator"), (58, u "MAX_LENGTH"), (196, .class_ 628), (0, u "java/lang/StringUTF16$CodePointsSpliterator"), (0, .class_ 630), (0, u "java/lang/StringUTF16$CharsSpliterator")] 4

def k8m0 : Method := { name := "<init>", desc := "()V", sig := { parameters := [], returnType := none }, accessFlags := 0, code := none }
def k8c1 : Code := { maxStack := 2, maxLocals := 2, code := jdk_52_method_15_code, exceptionTable := #[], attributes := #[] }
def k8m1 : Method := { name := "coderFromArrayLen", desc := "([BI)B", sig := { parameters := [(.array .byte), .int], returnType := some .byte }, accessFlags := 8, code := some k8c1 }
def k8c2 : Code := { maxStack := 5, maxLocals := 6, code := jdk_52_method_16_code, exceptionTable := #[], attributes := #[] }
def k8m2 : Method := { name := "compress", desc := "([CII)[B", sig := { parameters := [(.array .char), .int, .int], returnType := some (.array .byte) }, accessFlags := 9, code := some k8c2 }
def k8c3 : Code := { maxStack := 3, maxLocals := 7, code := jdk_52_method_21_code, exceptionTable := #[], attributes := #[] }
def k8m3 : Method := { name := "compress", desc := "([CI[BII)I", sig := { parameters := [(.array .char), .int, (.array .byte), .int, .int], returnType := some .int }, accessFlags := 9, code := some k8c3 }
/-- java/lang/StringUTF16 -/
def k8 : Class := { plain "java/lang/StringUTF16" (some 0) with
  accessFlags := 48
  interfaces := #[]
  cf := some (fileOf pool8 12 #[.nestMembers #[627, 629, 369]] #[{ accessFlags := 0, nameIndex := 9, descriptorIndex := 10, attributes := #[] }, { accessFlags := 8, nameIndex := 261, descriptorIndex := 262, attributes := #[] }, { accessFlags := 9, nameIndex := 117, descriptorIndex := 122, attributes := #[] }, { accessFlags := 9, nameIndex := 117, descriptorIndex := 118, attributes := #[] }] 48 6 #[] #[{ accessFlags := 26, nameIndex := 61, descriptorIndex := 62, attributes := #[] }, { accessFlags := 26, nameIndex := 65, descriptorIndex := 62, attributes := #[] }, { accessFlags := 24, nameIndex := 430, descriptorIndex := 62, attributes := #[] }, { accessFlags := 4120, nameIndex := 46, descriptorIndex := 47, attributes := #[] }])
  fields := #[{ name := "HI_BYTE_SHIFT", type := .int, accessFlags := 26, slot := 0, constantValue := 0 }, { name := "LO_BYTE_SHIFT", type := .int, accessFlags := 26, slot := 1, constantValue := 0 }, { name := "MAX_LENGTH", type := .int, accessFlags := 24, slot := 2, constantValue := 0 }, { name := "$assertionsDisabled", type := .boolean, accessFlags := 4120, slot := 3, constantValue := 0 }]
  methods := #[k8m0, k8m1, k8m2, k8m3]
  instanceTypes := #[]
  staticTypes := #[.int, .int, .int, .boolean]
  resolved := Array.replicate 635 none
  statics := none }

def pool9 : Array CpInfo := pool [(1, .methodref 2 3), (0, .class_ 4), (0, .nameAndType 5 6), (0, u "java/lang/Object"), (0, u "<init>"), (0, u "()V"), (0, .class_ 8), (0, u "java/lang/Record")] 13

def k9c0 : Code := { maxStack := 1, maxLocals := 1, code := jdk_30_method_1_code, exceptionTable := #[], attributes := #[] }
def k9m0 : Method := { name := "<init>", desc := "()V", sig := { parameters := [], returnType := none }, accessFlags := 4, code := some k9c0 }
/-- java/lang/Record -/
def k9 : Class := { plain "java/lang/Record" (some 0) with
  accessFlags := 1057
  interfaces := #[]
  cf := some (fileOf pool9 7 #[] #[{ accessFlags := 4, nameIndex := 5, descriptorIndex := 6, attributes := #[] }] 1057 2 #[] #[])
  fields := #[]
  methods := #[k9m0]
  instanceTypes := #[]
  staticTypes := #[]
  resolved := Array.replicate 22 none
  statics := none }

def pool10 : Array CpInfo := pool [(1, .methodref 2 3), (0, .class_ 4), (0, .nameAndType 5 6), (0, u "java/lang/Record"), (0, u "<init>"), (0, u "()V"), (0, .fieldref 8 9), (0, .class_ 10), (0, .nameAndType 11 12), (0, u "com/example/crosswarden/crosswarden/web/Destination"), (0, u "url"), (0, u "Ljava/lang/String;"), (0, .fieldref 8 14), (0, .nameAndType 15 12), (0, u "host"), (0, .fieldref 8 17), (0, .nameAndType 18 19), (0, u "query"), (0, u "Z"), (0, .fieldref 8 21), (0, .nameAndType 22 12), (0, u "fragment"), (18, .class_ 42), (0, u "java/lang/String"), (24, u "()Ljava/lang/String;"), (0, .string 69), (0, u ""), (32, u "(Ljava/lang/String;Ljava/lang/String;ZLjava/lang/String;)V"), (4, .methodref 41 108), (0, .nameAndType 109 110), (0, u "length"), (0, u "()I"), (0, .methodref 41 112), (0, .nameAndType 113 114), (0, u "substring"), (0, u "(II)Ljava/lang/String;"), (0, .class_ 116), (0, u "java/lang/StringBuilder"), (0, .methodref 115 3), (0, .string 119), (0, u "#"), (0, .methodref 115 121), (0, .nameAndType 122 123), (0, u "append"), (0, u "(Ljava/lang/String;)Ljava/lang/StringBuilder;"), (0, .methodref 115 125), (0, .nameAndType 126 67), (0, u "toString"), (0, .string 128), (0, u "&"), (0, .string 130), (0, u "?"), (2, u "withArguments"), (0, u "(Ljava/lang/String;)Ljava/lang/String;")] 112

def k10c0 : Code := { maxStack := 2, maxLocals := 5, code := prog_12_method_1_code, exceptionTable := #[], attributes := #[] }
def k10m0 : Method := { name := "<init>", desc := "(Ljava/lang/String;Ljava/lang/String;ZLjava/lang/String;)V", sig := { parameters := [(.object "java/lang/String"), (.object "java/lang/String"), .boolean, (.object "java/lang/String")], returnType := none }, accessFlags := 0, code := some k10c0 }
def k10c1 : Code := { maxStack := 4, maxLocals := 4, code := prog_12_method_3_code, exceptionTable := #[], attributes := #[] }
def k10m1 : Method := { name := "withArguments", desc := "(Ljava/lang/String;)Ljava/lang/String;", sig := { parameters := [(.object "java/lang/String")], returnType := some (.object "java/lang/String") }, accessFlags := 0, code := some k10c1 }
/-- com/example/crosswarden/crosswarden/web/Destination -/
def k10 : Class := { plain "com/example/crosswarden/crosswarden/web/Destination" (some 9) with
  accessFlags := 48
  interfaces := #[]
  cf := some (fileOf pool10 8 #[] #[{ accessFlags := 0, nameIndex := 5, descriptorIndex := 102, attributes := #[] }, { accessFlags := 0, nameIndex := 133, descriptorIndex := 134, attributes := #[] }] 48 2 #[] #[{ accessFlags := 18, nameIndex := 11, descriptorIndex := 12, attributes := #[] }, { accessFlags := 18, nameIndex := 15, descriptorIndex := 12, attributes := #[] }, { accessFlags := 18, nameIndex := 18, descriptorIndex := 19, attributes := #[] }, { accessFlags := 18, nameIndex := 22, descriptorIndex := 12, attributes := #[] }])
  fields := #[{ name := "url", type := (.object "java/lang/String"), accessFlags := 18, slot := 0, constantValue := 0 }, { name := "host", type := (.object "java/lang/String"), accessFlags := 18, slot := 1, constantValue := 0 }, { name := "query", type := .boolean, accessFlags := 18, slot := 2, constantValue := 0 }, { name := "fragment", type := (.object "java/lang/String"), accessFlags := 18, slot := 3, constantValue := 0 }]
  methods := #[k10m0, k10m1]
  instanceTypes := #[(.object "java/lang/String"), (.object "java/lang/String"), .boolean, (.object "java/lang/String")]
  staticTypes := #[]
  resolved := Array.replicate 247 none
  statics := none }

def pool11 : Array CpInfo := pool [(2, .class_ 4), (1, u "java/lang/Object"), (0, u "<init>"), (0, u "()V"), (17, .class_ 26), (1, u "jdk/internal/util/Preconditions"), (20, u "checkFromToIndex"), (7, .class_ 56), (0, u "jdk/internal/util/Preconditions$4"), (57, .class_ 115), (0, u "jdk/internal/util/Preconditions$1"), (7, u "SIOOBE_FORMATTER"), (0, u "Ljava/util/function/BiFunction;"), (0, .class_ 126), (0, u "jdk/internal/util/Preconditions$2"), (3, u "AIOOBE_FORMATTER"), (0, .class_ 132), (0, u "jdk/internal/util/Preconditions$3"), (3, u "IOOBE_FORMATTER"), (46, u "(IIILjava/util/function/BiFunction;)I")] 10

def k11m0 : Method := { name := "<init>", desc := "()V", sig := { parameters := [], returnType := none }, accessFlags := 1, code := none }
def k11c1 : Code := { maxStack := 4, maxLocals := 4, code := jdk_41_method_12_code, exceptionTable := #[], attributes := #[] }
def k11m1 : Method := { name := "checkFromToIndex", desc := "(IIILjava/util/function/BiFunction;)I", sig := { parameters := [.int, .int, .int, (.object "java/util/function/BiFunction")], returnType := some .int }, accessFlags := 9, code := some k11c1 }
/-- jdk/internal/util/Preconditions -/
def k11 : Class := { plain "jdk/internal/util/Preconditions" (some 0) with
  accessFlags := 33
  interfaces := #[]
  cf := some (fileOf pool11 24 #[.nestMembers #[55, 131, 125, 114]] #[{ accessFlags := 1, nameIndex := 5, descriptorIndex := 6, attributes := #[] }, { accessFlags := 9, nameIndex := 47, descriptorIndex := 183, attributes := #[] }] 33 2 #[] #[{ accessFlags := 25, nameIndex := 123, descriptorIndex := 124, attributes := #[] }, { accessFlags := 25, nameIndex := 130, descriptorIndex := 124, attributes := #[] }, { accessFlags := 25, nameIndex := 136, descriptorIndex := 124, attributes := #[] }])
  fields := #[{ name := "SIOOBE_FORMATTER", type := (.object "java/util/function/BiFunction"), accessFlags := 25, slot := 0, constantValue := 0 }, { name := "AIOOBE_FORMATTER", type := (.object "java/util/function/BiFunction"), accessFlags := 25, slot := 1, constantValue := 0 }, { name := "IOOBE_FORMATTER", type := (.object "java/util/function/BiFunction"), accessFlags := 25, slot := 2, constantValue := 0 }]
  methods := #[k11m0, k11m1]
  instanceTypes := #[]
  staticTypes := #[(.object "java/util/function/BiFunction"), (.object "java/util/function/BiFunction"), (.object "java/util/function/BiFunction")]
  resolved := Array.replicate 194 none
  statics := some 1 }

def pool12 : Array CpInfo := pool [(1, .class_ 2), (0, u "java/lang/String"), (1, .class_ 6), (1, u "java/lang/Object"), (0, u "<init>"), (0, u "()V"), (5, .class_ 16), (1, u "java/lang/StringLatin1"), (73, u "canEncode"), (14, u "(C)Z"), (6, .methodref 1 113), (0, .nameAndType 7 114), (0, u "([BB)V"), (6, u "$assertionsDisabled"), (0, u "Z"), (8, .class_ 133), (1, u "java/util/Arrays"), (62, u "newString"), (0, u "([BII)Ljava/lang/String;"), (23, .class_ 223), (1, u "java/lang/StringLatin1$LinesSpliterator"), (8, .methodref 131 233), (0, .nameAndType 234 235), (0, u "copyOfRange"), (0, u "([BII)[B"), (45, u "equals"), (0, u "([B[B)Z"), (97, u "toBytes"), (1, u "(C)[B"), (7, .class_ 391), (0, u "java/lang/StringLatin1$CharsSpliterator")] 3

def k12m0 : Method := { name := "<init>", desc := "()V", sig := { parameters := [], returnType := none }, accessFlags := 0, code := none }
def k12c1 : Code := { maxStack := 2, maxLocals := 1, code := jdk_43_method_3_code, exceptionTable := #[], attributes := #[] }
def k12m1 : Method := { name := "canEncode", desc := "(C)Z", sig := { parameters := [.char], returnType := some .boolean }, accessFlags := 9, code := some k12c1 }
def k12c2 : Code := { maxStack := 3, maxLocals := 3, code := jdk_43_method_13_code, exceptionTable := #[], attributes := #[] }
def k12m2 : Method := { name := "equals", desc := "([B[B)Z", sig := { parameters := [(.array .byte), (.array .byte)], returnType := some .boolean }, accessFlags := 9, code := some k12c2 }
def k12c3 : Code := { maxStack := 4, maxLocals := 1, code := jdk_43_method_46_code, exceptionTable := #[], attributes := #[] }
def k12m3 : Method := { name := "toBytes", desc := "(C)[B", sig := { parameters := [.char], returnType := some (.array .byte) }, accessFlags := 9, code := some k12c3 }
def k12c4 : Code := { maxStack := 6, maxLocals := 3, code := jdk_43_method_47_code, exceptionTable := #[], attributes := #[] }
def k12m4 : Method := { name := "newString", desc := "([BII)Ljava/lang/String;", sig := { parameters := [(.array .byte), .int, .int], returnType := some (.object "java/lang/String") }, accessFlags := 9, code := some k12c4 }
/-- java/lang/StringLatin1 -/
def k12 : Class := { plain "java/lang/StringLatin1" (some 0) with
  accessFlags := 48
  interfaces := #[]
  cf := some (fileOf pool12 14 #[.nestMembers #[390, 221]] #[{ accessFlags := 0, nameIndex := 7, descriptorIndex := 8, attributes := #[] }, { accessFlags := 9, nameIndex := 90, descriptorIndex := 105, attributes := #[] }, { accessFlags := 9, nameIndex := 281, descriptorIndex := 282, attributes := #[] }, { accessFlags := 9, nameIndex := 380, descriptorIndex := 382, attributes := #[] }, { accessFlags := 9, nameIndex := 196, descriptorIndex := 197, attributes := #[] }] 48 4 #[] #[{ accessFlags := 4120, nameIndex := 121, descriptorIndex := 122, attributes := #[] }])
  fields := #[{ name := "$assertionsDisabled", type := .boolean, accessFlags := 4120, slot := 0, constantValue := 0 }]
  methods := #[k12m0, k12m1, k12m2, k12m3, k12m4]
  instanceTypes := #[]
  staticTypes := #[.boolean]
  resolved := Array.replicate 395 none
  statics := none }

def pool13 : Array CpInfo := pool [(2, .class_ 4), (1, u "java/lang/Object"), (0, u "<init>"), (0, u "()V"), (7, .class_ 16), (1, u "java/util/Arrays"), (57, .class_ 76), (1, u "java/util/Arrays$NaturalOrder"), (36, .class_ 115), (1, u "java/util/Arrays$LegacyMergeSort"), (1, u "Z"), (21, u "copyOfRange"), (10, .methodref 151 152), (0, .class_ 153), (0, .nameAndType 154 155), (0, u "java/lang/System"), (0, u "arraycopy"), (0, u "(Ljava/lang/Object;ILjava/lang/Object;II)V"), (148, .methodref 305 306), (0, .class_ 307), (0, .nameAndType 308 309), (0, u "java/lang/Math"), (0, u "min"), (0, u "(II)I"), (29, .methodref 14 340), (0, .nameAndType 341 342), (0, u "copyOfRangeByte"), (0, u "([BII)[B"), (0, .methodref 14 344), (0, .nameAndType 345 346), (0, u "checkLength"), (0, u "(II)V"), (28, .class_ 376), (0, u "java/util/Arrays$ArrayList"), (68, u "$assertionsDisabled"), (269, u "MIN_ARRAY_SORT_GRAN"), (0, u "I"), (2, u "INSERTIONSORT_THRESHOLD"), (255, .class_ 976), (0, u "java/util/Arrays$ArrayItr")] 52

def k13m0 : Method := { name := "<init>", desc := "()V", sig := { parameters := [], returnType := none }, accessFlags := 2, code := none }
def k13c1 : Code := { maxStack := 4, maxLocals := 2, code := jdk_65_method_131_code, exceptionTable := #[], attributes := #[] }
def k13m1 : Method := { name := "checkLength", desc := "(II)V", sig := { parameters := [.int, .int], returnType := none }, accessFlags := 10, code := some k13c1 }
def k13c2 : Code := { maxStack := 3, maxLocals := 3, code := jdk_65_method_132_code, exceptionTable := #[], attributes := #[] }
def k13m2 : Method := { name := "copyOfRange", desc := "([BII)[B", sig := { parameters := [(.array .byte), .int, .int], returnType := some (.array .byte) }, accessFlags := 9, code := some k13c2 }
def k13c3 : Code := { maxStack := 6, maxLocals := 5, code := jdk_65_method_133_code, exceptionTable := #[], attributes := #[] }
def k13m3 : Method := { name := "copyOfRangeByte", desc := "([BII)[B", sig := { parameters := [(.array .byte), .int, .int], returnType := some (.array .byte) }, accessFlags := 10, code := some k13c3 }
/-- java/util/Arrays -/
def k13 : Class := { plain "java/util/Arrays" (some 0) with
  accessFlags := 49
  interfaces := #[]
  cf := some (fileOf pool13 14 #[.nestMembers #[975, 375, 113, 74]] #[{ accessFlags := 2, nameIndex := 5, descriptorIndex := 6, attributes := #[] }, { accessFlags := 10, nameIndex := 345, descriptorIndex := 346, attributes := #[] }, { accessFlags := 9, nameIndex := 139, descriptorIndex := 342, attributes := #[] }, { accessFlags := 10, nameIndex := 341, descriptorIndex := 342, attributes := #[] }] 49 2 #[] #[{ accessFlags := 26, nameIndex := 715, descriptorIndex := 716, attributes := #[] }, { accessFlags := 26, nameIndex := 719, descriptorIndex := 716, attributes := #[] }, { accessFlags := 4120, nameIndex := 445, descriptorIndex := 117, attributes := #[] }])
  fields := #[{ name := "MIN_ARRAY_SORT_GRAN", type := .int, accessFlags := 26, slot := 0, constantValue := 0 }, { name := "INSERTIONSORT_THRESHOLD", type := .int, accessFlags := 26, slot := 1, constantValue := 0 }, { name := "$assertionsDisabled", type := .boolean, accessFlags := 4120, slot := 2, constantValue := 0 }]
  methods := #[k13m0, k13m1, k13m2, k13m3]
  instanceTypes := #[]
  staticTypes := #[.int, .int, .boolean]
  resolved := Array.replicate 1029 none
  statics := none }

def pool14 : Array CpInfo := pool [(1, .class_ 2), (0, u "java/lang/Math"), (1, .class_ 6), (1, u "java/lang/Object"), (0, u "<init>"), (0, u "()V"), (89, .class_ 100), (1, u "java/lang/Math$RandomNumberGeneratorHolder"), (71, u "negativeZeroFloatBits"), (0, u "J"), (2, u "negativeZeroDoubleBits"), (24, u "min"), (43, u "$assertionsDisabled"), (0, u "Z"), (88, u "(II)I"), (2, u "twoToTheDoubleScaleDown"), (0, u "D"), (4, u "twoToTheDoubleScaleUp"), (9, u "E"), (3, u "PI"), (2, u "TAU"), (2, u "DEGREES_TO_RADIANS"), (0, u "RADIANS_TO_DEGREES")] 94

def k14m0 : Method := { name := "<init>", desc := "()V", sig := { parameters := [], returnType := none }, accessFlags := 2, code := none }
def k14c1 : Code := { maxStack := 2, maxLocals := 2, code := jdk_29_method_69_code, exceptionTable := #[], attributes := #[] }
def k14m1 : Method := { name := "min", desc := "(II)I", sig := { parameters := [.int, .int], returnType := some .int }, accessFlags := 9, code := some k14c1 }
/-- java/lang/Math -/
def k14 : Class := { plain "java/lang/Math" (some 0) with
  accessFlags := 49
  interfaces := #[]
  cf := some (fileOf pool14 1 #[.nestMembers #[98]] #[{ accessFlags := 2, nameIndex := 7, descriptorIndex := 8, attributes := #[] }, { accessFlags := 9, nameIndex := 201, descriptorIndex := 335, attributes := #[] }] 49 4 #[] #[{ accessFlags := 25, nameIndex := 354, descriptorIndex := 339, attributes := #[] }, { accessFlags := 25, nameIndex := 358, descriptorIndex := 339, attributes := #[] }, { accessFlags := 25, nameIndex := 361, descriptorIndex := 339, attributes := #[] }, { accessFlags := 26, nameIndex := 364, descriptorIndex := 339, attributes := #[] }, { accessFlags := 26, nameIndex := 365, descriptorIndex := 339, attributes := #[] }, { accessFlags := 26, nameIndex := 172, descriptorIndex := 173, attributes := #[] }, { accessFlags := 26, nameIndex := 176, descriptorIndex := 173, attributes := #[] }, { accessFlags := 8, nameIndex := 344, descriptorIndex := 339, attributes := #[] }, { accessFlags := 8, nameIndex := 338, descriptorIndex := 339, attributes := #[] }, { accessFlags := 4120, nameIndex := 245, descriptorIndex := 246, attributes := #[] }])
  fields := #[{ name := "E", type := .double, accessFlags := 25, slot := 0, constantValue := 0 }, { name := "PI", type := .double, accessFlags := 25, slot := 1, constantValue := 0 }, { name := "TAU", type := .double, accessFlags := 25, slot := 2, constantValue := 0 }, { name := "DEGREES_TO_RADIANS", type := .double, accessFlags := 26, slot := 3, constantValue := 0 }, { name := "RADIANS_TO_DEGREES", type := .double, accessFlags := 26, slot := 4, constantValue := 0 }, { name := "negativeZeroFloatBits", type := .long, accessFlags := 26, slot := 5, constantValue := 0 }, { name := "negativeZeroDoubleBits", type := .long, accessFlags := 26, slot := 6, constantValue := 0 }, { name := "twoToTheDoubleScaleUp", type := .double, accessFlags := 8, slot := 7, constantValue := 0 }, { name := "twoToTheDoubleScaleDown", type := .double, accessFlags := 8, slot := 8, constantValue := 0 }, { name := "$assertionsDisabled", type := .boolean, accessFlags := 4120, slot := 9, constantValue := 0 }]
  methods := #[k14m0, k14m1]
  instanceTypes := #[]
  staticTypes := #[.double, .double, .double, .double, .double, .long, .long, .double, .double, .boolean]
  resolved := Array.replicate 460 none
  statics := none }

def pool15 : Array CpInfo := pool [(2, .class_ 4), (1, u "java/lang/Object"), (0, u "<init>"), (0, u "()V"), (1, .class_ 10), (1, u "java/lang/System"), (0, u "allowSecurityManager"), (0, u "I"), (16, u "cons"), (0, u "Ljava/io/Console;"), (77, .class_ 110), (1, u "java/lang/System$CallersHolder"), (43, u "initialErrStream"), (0, u "Ljava/io/PrintStream;"), (19, u "security"), (0, u "Ljava/lang/SecurityManager;"), (31, .class_ 209), (0, u "java/lang/System$1"), (7, u "props"), (0, u "Ljava/util/Properties;"), (2, u "lineSeparator"), (0, u "Ljava/lang/String;"), (96, .class_ 321), (1, u "java/lang/System$LoggerFinder"), (5, .class_ 328), (0, u "java/lang/System$Logger"), (67, u "err"), (2, u "out"), (91, u "notSupportedJnuEncoding"), (15, u "in"), (17, u "initialIn"), (0, u "Ljava/io/InputStream;"), (35, u "bootLayer"), (0, u "Ljava/lang/ModuleLayer;"), (99, .class_ 664), (0, u "java/lang/System$2"), (9, u "NEVER"), (2, u "MAYBE"), (49, u "arraycopy"), (0, u "(Ljava/lang/Object;ILjava/lang/Object;II)V"), (72, .class_ 802), (0, u "java/lang/System$Logger$Level")] 31

def k15m0 : Method := { name := "<init>", desc := "()V", sig := { parameters := [], returnType := none }, accessFlags := 2, code := none }
def k15m1 : Method := { name := "arraycopy", desc := "(Ljava/lang/Object;ILjava/lang/Object;II)V", sig := { parameters := [(.object "java/lang/Object"), .int, (.object "java/lang/Object"), .int, .int], returnType := none }, accessFlags := 265, code := none }
/-- java/lang/System -/
def k15 : Class := { plain "java/lang/System" (some 0) with
  accessFlags := 49
  interfaces := #[]
  cf := some (fileOf pool15 8 #[.nestMembers #[319, 327, 801, 108, 663, 208]] #[{ accessFlags := 2, nameIndex := 5, descriptorIndex := 6, attributes := #[] }, { accessFlags := 265, nameIndex := 727, descriptorIndex := 728, attributes := #[] }] 49 2 #[] #[{ accessFlags := 25, nameIndex := 507, descriptorIndex := 526, attributes := #[] }, { accessFlags := 25, nameIndex := 399, descriptorIndex := 155, attributes := #[] }, { accessFlags := 25, nameIndex := 396, descriptorIndex := 155, attributes := #[] }, { accessFlags := 10, nameIndex := 525, descriptorIndex := 526, attributes := #[] }, { accessFlags := 26, nameIndex := 674, descriptorIndex := 12, attributes := #[] }, { accessFlags := 26, nameIndex := 677, descriptorIndex := 12, attributes := #[] }, { accessFlags := 10, nameIndex := 11, descriptorIndex := 12, attributes := #[] }, { accessFlags := 74, nameIndex := 175, descriptorIndex := 176, attributes := #[] }, { accessFlags := 10, nameIndex := 491, descriptorIndex := 222, attributes := #[] }, { accessFlags := 74, nameIndex := 29, descriptorIndex := 30, attributes := #[] }, { accessFlags := 74, nameIndex := 154, descriptorIndex := 155, attributes := #[] }, { accessFlags := 10, nameIndex := 217, descriptorIndex := 218, attributes := #[] }, { accessFlags := 10, nameIndex := 221, descriptorIndex := 222, attributes := #[] }, { accessFlags := 8, nameIndex := 562, descriptorIndex := 563, attributes := #[] }])
  fields := #[{ name := "in", type := (.object "java/io/InputStream"), accessFlags := 25, slot := 0, constantValue := 0 }, { name := "out", type := (.object "java/io/PrintStream"), accessFlags := 25, slot := 1, constantValue := 0 }, { name := "err", type := (.object "java/io/PrintStream"), accessFlags := 25, slot := 2, constantValue := 0 }, { name := "initialIn", type := (.object "java/io/InputStream"), accessFlags := 10, slot := 3, constantValue := 0 }, { name := "NEVER", type := .int, accessFlags := 26, slot := 4, constantValue := 0 }, { name := "MAYBE", type := .int, accessFlags := 26, slot := 5, constantValue := 0 }, { name := "allowSecurityManager", type := .int, accessFlags := 10, slot := 6, constantValue := 0 }, { name := "security", type := (.object "java/lang/SecurityManager"), accessFlags := 74, slot := 7, constantValue := 0 }, { name := "notSupportedJnuEncoding", type := (.object "java/lang/String"), accessFlags := 10, slot := 8, constantValue := 0 }, { name := "cons", type := (.object "java/io/Console"), accessFlags := 74, slot := 9, constantValue := 0 }, { name := "initialErrStream", type := (.object "java/io/PrintStream"), accessFlags := 74, slot := 10, constantValue := 0 }, { name := "props", type := (.object "java/util/Properties"), accessFlags := 10, slot := 11, constantValue := 0 }, { name := "lineSeparator", type := (.object "java/lang/String"), accessFlags := 10, slot := 12, constantValue := 0 }, { name := "bootLayer", type := (.object "java/lang/ModuleLayer"), accessFlags := 8, slot := 13, constantValue := 0 }]
  methods := #[k15m0, k15m1]
  instanceTypes := #[]
  staticTypes := #[(.object "java/io/InputStream"), (.object "java/io/PrintStream"), (.object "java/io/PrintStream"), (.object "java/io/InputStream"), .int, .int, .int, (.object "java/lang/SecurityManager"), (.object "java/lang/String"), (.object "java/io/Console"), (.object "java/io/PrintStream"), (.object "java/util/Properties"), (.object "java/lang/String"), (.object "java/lang/ModuleLayer")]
  resolved := Array.replicate 834 none
  statics := none }

def pool16 : Array CpInfo := pool [(1, .class_ 2), (0, u "java/lang/Appendable"), (0, .class_ 4), (0, u "java/lang/Object")] 9

/-- java/lang/Appendable -/
def k16 : Class := { plain "java/lang/Appendable" (some 0) with
  accessFlags := 1537
  interfaces := #[]
  cf := some (fileOf pool16 1 #[] #[] 1537 3 #[] #[])
  fields := #[]
  methods := #[]
  instanceTypes := #[]
  staticTypes := #[]
  resolved := Array.replicate 14 none
  statics := none }

def pool17 : Array CpInfo := pool [(1, .class_ 2), (0, u "java/lang/String"), (0, .methodref 4 5), (0, .class_ 6), (0, .nameAndType 7 8), (0, u "java/lang/Object"), (0, u "<init>"), (0, u "()V"), (1, .class_ 12), (1, u "java/lang/AbstractStringBuilder"), (0, u "EMPTYVALUE"), (0, u "[B"), (0, .fieldref 10 16), (0, .nameAndType 17 14), (0, u "value"), (0, .fieldref 1 19), (0, .nameAndType 20 21), (0, u "COMPACT_STRINGS"), (0, u "Z"), (0, .fieldref 10 23), (0, .nameAndType 24 25), (0, u "coder"), (0, u "B"), (6, .methodref 1 33), (0, .nameAndType 34 35), (0, u "length"), (0, u "()I"), (4, .methodref 1 41), (0, .nameAndType 24 42), (0, u "()B"), (2, u "append"), (0, u "(Ljava/lang/String;)Ljava/lang/AbstractStringBuilder;"), (1, .class_ 49), (0, u "java/lang/CharSequence"), (19, u "(Ljava/lang/String;)V"), (5, u "maybeLatin1"), (3, .fieldref 10 80), (0, .nameAndType 81 82), (0, u "count"), (0, u "I"), (2, u "isLatin1"), (0, u "()Z"), (13, .methodref 10 101), (0, .nameAndType 102 103), (0, u "ensureCapacityInternal"), (0, u "(I)V"), (104, .methodref 10 209), (0, .nameAndType 210 211), (0, u "putStringAt"), (0, u "(ILjava/lang/String;)V"), (5, u "inflateIfNeededFor"), (2, .nameAndType 221 222), (0, u "getBytes"), (0, u "([BIB)V"), (174, .methodref 10 398), (0, .nameAndType 217 69), (0, .methodref 1 220), (3, u "()[B"), (40, .class_ 445), (0, u "java/lang/Appendable"), (106, u "getValue")] 56

def k17m0 : Method := { name := "<init>", desc := "()V", sig := { parameters := [], returnType := none }, accessFlags := 0, code := none }
def k17c1 : Code := { maxStack := 2, maxLocals := 2, code := jdk_68_method_2_code, exceptionTable := #[], attributes := #[] }
def k17m1 : Method := { name := "<init>", desc := "(I)V", sig := { parameters := [.int], returnType := none }, accessFlags := 0, code := some k17c1 }
def k17c2 : Code := { maxStack := 1, maxLocals := 1, code := jdk_68_method_6_code, exceptionTable := #[], attributes := #[] }
def k17m2 : Method := { name := "length", desc := "()I", sig := { parameters := [], returnType := some .int }, accessFlags := 1, code := some k17c2 }
def k17c3 : Code := { maxStack := 4, maxLocals := 3, code := jdk_68_method_9_code, exceptionTable := #[], attributes := #[] }
def k17m3 : Method := { name := "ensureCapacityInternal", desc := "(I)V", sig := { parameters := [.int], returnType := none }, accessFlags := 2, code := some k17c3 }
def k17c4 : Code := { maxStack := 3, maxLocals := 3, code := jdk_68_method_22_code, exceptionTable := #[], attributes := #[] }
def k17m4 : Method := { name := "append", desc := "(Ljava/lang/String;)Ljava/lang/AbstractStringBuilder;", sig := { parameters := [(.object "java/lang/String")], returnType := some (.object "java/lang/AbstractStringBuilder") }, accessFlags := 1, code := some k17c4 }
def k17c5 : Code := { maxStack := 1, maxLocals := 1, code := jdk_68_method_64_code, exceptionTable := #[], attributes := #[] }
def k17m5 : Method := { name := "getValue", desc := "()[B", sig := { parameters := [], returnType := some (.array .byte) }, accessFlags := 16, code := some k17c5 }
def k17c6 : Code := { maxStack := 1, maxLocals := 1, code := jdk_68_method_68_code, exceptionTable := #[], attributes := #[] }
def k17m6 : Method := { name := "isLatin1", desc := "()Z", sig := { parameters := [], returnType := some .boolean }, accessFlags := 16, code := some k17c6 }
def k17c7 : Code := { maxStack := 2, maxLocals := 2, code := jdk_68_method_71_code, exceptionTable := #[], attributes := #[] }
def k17m7 : Method := { name := "inflateIfNeededFor", desc := "(Ljava/lang/String;)V", sig := { parameters := [(.object "java/lang/String")], returnType := none }, accessFlags := 2, code := some k17c7 }
def k17c8 : Code := { maxStack := 4, maxLocals := 3, code := jdk_68_method_73_code, exceptionTable := #[], attributes := #[] }
def k17m8 : Method := { name := "putStringAt", desc := "(ILjava/lang/String;)V", sig := { parameters := [.int, (.object "java/lang/String")], returnType := none }, accessFlags := 2, code := some k17c8 }
/-- java/lang/AbstractStringBuilder -/
def k17 : Class := { plain "java/lang/AbstractStringBuilder" (some 0) with
  accessFlags := 1056
  interfaces := #[16, 4]
  cf := some (fileOf pool17 10 #[] #[{ accessFlags := 0, nameIndex := 7, descriptorIndex := 8, attributes := #[] }, { accessFlags := 0, nameIndex := 7, descriptorIndex := 103, attributes := #[] }, { accessFlags := 1, nameIndex := 34, descriptorIndex := 35, attributes := #[] }, { accessFlags := 2, nameIndex := 102, descriptorIndex := 103, attributes := #[] }, { accessFlags := 1, nameIndex := 45, descriptorIndex := 46, attributes := #[] }, { accessFlags := 16, nameIndex := 552, descriptorIndex := 403, attributes := #[] }, { accessFlags := 16, nameIndex := 85, descriptorIndex := 86, attributes := #[] }, { accessFlags := 2, nameIndex := 217, descriptorIndex := 69, attributes := #[] }, { accessFlags := 2, nameIndex := 210, descriptorIndex := 211, attributes := #[] }] 1056 4 #[444, 48] #[{ accessFlags := 0, nameIndex := 17, descriptorIndex := 14, attributes := #[] }, { accessFlags := 0, nameIndex := 24, descriptorIndex := 25, attributes := #[] }, { accessFlags := 0, nameIndex := 75, descriptorIndex := 21, attributes := #[] }, { accessFlags := 0, nameIndex := 81, descriptorIndex := 82, attributes := #[] }, { accessFlags := 26, nameIndex := 13, descriptorIndex := 14, attributes := #[] }])
  fields := #[{ name := "value", type := (.array .byte), accessFlags := 0, slot := 0, constantValue := 0 }, { name := "coder", type := .byte, accessFlags := 0, slot := 1, constantValue := 0 }, { name := "maybeLatin1", type := .boolean, accessFlags := 0, slot := 2, constantValue := 0 }, { name := "count", type := .int, accessFlags := 0, slot := 3, constantValue := 0 }, { name := "EMPTYVALUE", type := (.array .byte), accessFlags := 26, slot := 0, constantValue := 0 }]
  methods := #[k17m0, k17m1, k17m2, k17m3, k17m4, k17m5, k17m6, k17m7, k17m8]
  instanceTypes := #[(.array .byte), .byte, .boolean, .int]
  staticTypes := #[(.array .byte)]
  resolved := Array.replicate 609 none
  statics := none }

def pool18 : Array CpInfo := pool [(1, .methodref 2 3), (0, .class_ 4), (0, .nameAndType 5 6), (0, u "java/lang/AbstractStringBuilder"), (0, u "<init>"), (0, u "(I)V"), (11, .class_ 20), (1, u "java/lang/String"), (3, .class_ 26), (1, u "java/lang/StringBuilder"), (0, u "append"), (0, u "(Ljava/lang/String;)Ljava/lang/StringBuilder;"), (0, .methodref 2 30), (0, .nameAndType 27 31), (0, u "(Ljava/lang/String;)Ljava/lang/AbstractStringBuilder;"), (105, .methodref 18 138), (0, .nameAndType 5 139), (0, u "(Ljava/lang/StringBuilder;)V"), (5, u "()V"), (10, u "()I"), (186, .methodref 2 344), (0, .nameAndType 345 156), (0, u "length"), (3, .class_ 350), (0, u "java/lang/Appendable"), (0, .class_ 352), (0, u "java/io/Serializable"), (0, .class_ 354), (0, u "java/lang/Comparable"), (0, .class_ 356), (0, u "java/lang/CharSequence"), (0, u "serialVersionUID"), (0, u "J"), (40, u "toString"), (0, u "()Ljava/lang/String;")] 21

def k18c0 : Code := { maxStack := 2, maxLocals := 1, code := jdk_67_method_1_code, exceptionTable := #[], attributes := #[] }
def k18m0 : Method := { name := "<init>", desc := "()V", sig := { parameters := [], returnType := none }, accessFlags := 1, code := some k18c0 }
def k18c1 : Code := { maxStack := 2, maxLocals := 2, code := jdk_67_method_7_code, exceptionTable := #[], attributes := #[] }
def k18m1 : Method := { name := "append", desc := "(Ljava/lang/String;)Ljava/lang/StringBuilder;", sig := { parameters := [(.object "java/lang/String")], returnType := some (.object "java/lang/StringBuilder") }, accessFlags := 1, code := some k18c1 }
def k18c2 : Code := { maxStack := 3, maxLocals := 1, code := jdk_67_method_42_code, exceptionTable := #[], attributes := #[] }
def k18m2 : Method := { name := "toString", desc := "()Ljava/lang/String;", sig := { parameters := [], returnType := some (.object "java/lang/String") }, accessFlags := 1, code := some k18c2 }
def k18c3 : Code := { maxStack := 1, maxLocals := 1, code := jdk_67_method_93_code, exceptionTable := #[], attributes := #[] }
def k18m3 : Method := { name := "length", desc := "()I", sig := { parameters := [], returnType := some .int }, accessFlags := 4161, code := some k18c3 }
/-- java/lang/StringBuilder -/
def k18 : Class := { plain "java/lang/StringBuilder" (some 17) with
  accessFlags := 49
  interfaces := #[16, 2, 3, 4]
  cf := some (fileOf pool18 24 #[] #[{ accessFlags := 1, nameIndex := 5, descriptorIndex := 145, attributes := #[] }, { accessFlags := 1, nameIndex := 27, descriptorIndex := 28, attributes := #[] }, { accessFlags := 1, nameIndex := 399, descriptorIndex := 400, attributes := #[] }, { accessFlags := 4161, nameIndex := 345, descriptorIndex := 156, attributes := #[] }] 49 2 #[349, 351, 353, 355] #[{ accessFlags := 24, nameIndex := 357, descriptorIndex := 358, attributes := #[] }])
  fields := #[{ name := "serialVersionUID", type := .long, accessFlags := 24, slot := 0, constantValue := 0 }]
  methods := #[k18m0, k18m1, k18m2, k18m3]
  instanceTypes := #[(.array .byte), .byte, .boolean, .int]
  staticTypes := #[.long]
  resolved := Array.replicate 422 none
  statics := none }

def pool19 : Array CpInfo := pool [(9, u "<init>"), (6, .class_ 18), (1, u "java/lang/Object"), (0, u "()V"), (1, .class_ 23), (1, u "jdk/internal/util/ArraysSupport"), (0, u "LOG2_ARRAY_LONG_INDEX_SCALE"), (0, u "I"), (2, u "U"), (0, u "Ljdk/internal/misc/Unsafe;"), (8, u "BIG_ENDIAN"), (0, u "Z"), (8, u "LOG2_BYTE_BIT_SIZE"), (4, u "LOG2_ARRAY_INT_INDEX_SCALE"), (54, u "JLA"), (0, u "Ljdk/internal/access/JavaLangAccess;"), (11, u "LOG2_ARRAY_BOOLEAN_INDEX_SCALE"), (9, u "LOG2_ARRAY_BYTE_INDEX_SCALE"), (5, u "LOG2_ARRAY_CHAR_INDEX_SCALE"), (5, u "LOG2_ARRAY_SHORT_INDEX_SCALE"), (18, u "LOG2_ARRAY_FLOAT_INDEX_SCALE"), (24, u "LOG2_ARRAY_DOUBLE_INDEX_SCALE"), (89, u "T_BOOLEAN"), (2, u "T_CHAR"), (1, u "T_FLOAT"), (1, u "T_DOUBLE"), (1, u "T_BYTE"), (1, u "T_SHORT"), (1, u "T_INT"), (1, u "T_LONG"), (1, u "SOFT_MAX_ARRAY_LENGTH")] 83

def k19m0 : Method := { name := "<init>", desc := "()V", sig := { parameters := [], returnType := none }, accessFlags := 2, code := none }
/-- jdk/internal/util/ArraysSupport -/
def k19 : Class := { plain "jdk/internal/util/ArraysSupport" (some 0) with
  accessFlags := 33
  interfaces := #[]
  cf := some (fileOf pool19 21 #[] #[{ accessFlags := 2, nameIndex := 9, descriptorIndex := 19, attributes := #[] }] 33 16 #[] #[{ accessFlags := 24, nameIndex := 28, descriptorIndex := 29, attributes := #[] }, { accessFlags := 26, nameIndex := 38, descriptorIndex := 39, attributes := #[] }, { accessFlags := 25, nameIndex := 121, descriptorIndex := 25, attributes := #[] }, { accessFlags := 25, nameIndex := 131, descriptorIndex := 25, attributes := #[] }, { accessFlags := 25, nameIndex := 137, descriptorIndex := 25, attributes := #[] }, { accessFlags := 25, nameIndex := 143, descriptorIndex := 25, attributes := #[] }, { accessFlags := 25, nameIndex := 53, descriptorIndex := 25, attributes := #[] }, { accessFlags := 25, nameIndex := 24, descriptorIndex := 25, attributes := #[] }, { accessFlags := 25, nameIndex := 162, descriptorIndex := 25, attributes := #[] }, { accessFlags := 25, nameIndex := 187, descriptorIndex := 25, attributes := #[] }, { accessFlags := 26, nameIndex := 48, descriptorIndex := 25, attributes := #[] }, { accessFlags := 25, nameIndex := 277, descriptorIndex := 25, attributes := #[] }, { accessFlags := 25, nameIndex := 280, descriptorIndex := 25, attributes := #[] }, { accessFlags := 25, nameIndex := 282, descriptorIndex := 25, attributes := #[] }, { accessFlags := 25, nameIndex := 284, descriptorIndex := 25, attributes := #[] }, { accessFlags := 25, nameIndex := 286, descriptorIndex := 25, attributes := #[] }, { accessFlags := 25, nameIndex := 288, descriptorIndex := 25, attributes := #[] }, { accessFlags := 25, nameIndex := 290, descriptorIndex := 25, attributes := #[] }, { accessFlags := 25, nameIndex := 292, descriptorIndex := 25, attributes := #[] }, { accessFlags := 26, nameIndex := 108, descriptorIndex := 109, attributes := #[] }, { accessFlags := 25, nameIndex := 294, descriptorIndex := 25, attributes := #[] }])
  fields := #[{ name := "U", type := (.object "jdk/internal/misc/Unsafe"), accessFlags := 24, slot := 0, constantValue := 0 }, { name := "BIG_ENDIAN", type := .boolean, accessFlags := 26, slot := 1, constantValue := 0 }, { name := "LOG2_ARRAY_BOOLEAN_INDEX_SCALE", type := .int, accessFlags := 25, slot := 2, constantValue := 0 }, { name := "LOG2_ARRAY_BYTE_INDEX_SCALE", type := .int, accessFlags := 25, slot := 3, constantValue := 0 }, { name := "LOG2_ARRAY_CHAR_INDEX_SCALE", type := .int, accessFlags := 25, slot := 4, constantValue := 0 }, { name := "LOG2_ARRAY_SHORT_INDEX_SCALE", type := .int, accessFlags := 25, slot := 5, constantValue := 0 }, { name := "LOG2_ARRAY_INT_INDEX_SCALE", type := .int, accessFlags := 25, slot := 6, constantValue := 0 }, { name := "LOG2_ARRAY_LONG_INDEX_SCALE", type := .int, accessFlags := 25, slot := 7, constantValue := 0 }, { name := "LOG2_ARRAY_FLOAT_INDEX_SCALE", type := .int, accessFlags := 25, slot := 8, constantValue := 0 }, { name := "LOG2_ARRAY_DOUBLE_INDEX_SCALE", type := .int, accessFlags := 25, slot := 9, constantValue := 0 }, { name := "LOG2_BYTE_BIT_SIZE", type := .int, accessFlags := 26, slot := 10, constantValue := 0 }, { name := "T_BOOLEAN", type := .int, accessFlags := 25, slot := 11, constantValue := 0 }, { name := "T_CHAR", type := .int, accessFlags := 25, slot := 12, constantValue := 0 }, { name := "T_FLOAT", type := .int, accessFlags := 25, slot := 13, constantValue := 0 }, { name := "T_DOUBLE", type := .int, accessFlags := 25, slot := 14, constantValue := 0 }, { name := "T_BYTE", type := .int, accessFlags := 25, slot := 15, constantValue := 0 }, { name := "T_SHORT", type := .int, accessFlags := 25, slot := 16, constantValue := 0 }, { name := "T_INT", type := .int, accessFlags := 25, slot := 17, constantValue := 0 }, { name := "T_LONG", type := .int, accessFlags := 25, slot := 18, constantValue := 0 }, { name := "JLA", type := (.object "jdk/internal/access/JavaLangAccess"), accessFlags := 26, slot := 19, constantValue := 0 }, { name := "SOFT_MAX_ARRAY_LENGTH", type := .int, accessFlags := 25, slot := 20, constantValue := 0 }]
  methods := #[k19m0]
  instanceTypes := #[]
  staticTypes := #[(.object "jdk/internal/misc/Unsafe"), .boolean, .int, .int, .int, .int, .int, .int, .int, .int, .int, .int, .int, .int, .int, .int, .int, .int, .int, (.object "jdk/internal/access/JavaLangAccess"), .int]
  resolved := Array.replicate 378 none
  statics := none }

def pool20 : Array CpInfo := pool [(1, u "java/lang/Cloneable"), (0, .class_ 1), (0, u "java/lang/Object"), (0, .class_ 3)] 3

/-- java/lang/Cloneable -/
def k20 : Class := { plain "java/lang/Cloneable" (some 0) with
  accessFlags := 1537
  interfaces := #[]
  cf := some (fileOf pool20 2 #[] #[] 1537 4 #[] #[])
  fields := #[]
  methods := #[]
  instanceTypes := #[]
  staticTypes := #[]
  resolved := Array.replicate 8 none
  statics := none }

/-- the primitive byte -/
def k21 : Class := { plain "byte" none with kind := .primitive 'B', accessFlags := 0x411 }
/-- [B -/
def k22 : Class := { plain "[B" (some 0) with kind := .array 21 .byte, interfaces := #[20, 2], accessFlags := 1041 }

/-- the primitive char -/
def k23 : Class := { plain "char" none with kind := .primitive 'C', accessFlags := 0x411 }
/-- [C -/
def k24 : Class := { plain "[C" (some 0) with kind := .array 23 .char, interfaces := #[20, 2], accessFlags := 1041 }

/-- the primitive int -/
def k25 : Class := { plain "int" none with kind := .primitive 'I', accessFlags := 0x411 }
/-- [I -/
def k26 : Class := { plain "[I" (some 0) with kind := .array 25 .int, interfaces := #[20, 2], accessFlags := 1041 }

def heap : Heap := #[{ cls := 7, slots := #[.long 0, .int 1, .null, .int 0, .null, .int 0, .int 0], vm := .statics 7 },
  { cls := 11, slots := #[.null, .null, .null], vm := .statics 11 }]
def classes : Array Class := #[k0, k1, k2, k3, k4, k5, k6, k7, k8, k9, k10, k11, k12, k13, k14, k15, k16, k17, k18, k19, k20, k21, k22, k23, k24, k25, k26]
def interned : List (Array UInt16 × Addr) := []
def slotsUsed : Nat := 10
def theMethod : MethodId := ⟨1, 2⟩
def args0 : Array Value := #[.int 5, .int 5, .int 5, .int 5]
def aboutOver (below : List Frame) : State where
  vm := { classes := classes, interned := interned.toArray }
  heap := heap
  slotsUsed := slotsUsed
  threads := #[{ frames := .invoking theMethod args0 :: below }]
def below0 : List Frame := [.native { method := ⟨0, 0⟩, args := #[] }]
def about1 : State := aboutOver below0
def p0 : Program := .bare "" "" ""
def e0 : Env := launch0.env 0 0 0
theorem w_frames : about1.frames = Frame.invoking theMethod args0 :: below0 := rfl
set_option maxRecDepth 65536 in
theorem w_args : argsFit about1.vm theMethod args0 = true := by decide +kernel
set_option maxRecDepth 65536 in
theorem w_heap : heapFits about1 = true := by decide +kernel
set_option maxRecDepth 65536 in
theorem w_runnable : about1.curStatus? = some .runnable := by decide +kernel
set_option maxRecDepth 65536 in
theorem w_alone : about1.alone = true := by decide +kernel
set_option maxRecDepth 65536 in
theorem w_named : about1.methodNamed? x = some theMethod := by decide +kernel
set_option maxRecDepth 65536 in
theorem w_hears : about1.hears theMethod below0 = true := by decide +kernel
set_option maxRecDepth 65536 in
theorem w_ripe : about1.ripe theMethod args0 below0 = true := by decide +kernel
theorem w_running : about1.status = .running := rfl
set_option maxRecDepth 65536 in
theorem w_room : about1.hasRoom e0.platform room_1 = true :=
  launch0.hasRoom_least _ room_1 (by decide +kernel) (by decide +kernel) (by decide +kernel) (by decide +kernel) (by decide +kernel) (by decide +kernel)
theorem allAtoms_all (ts : List Jvm.Cond) (a : Array Jvm.Value) (st : Jvm.State) : (allAtoms ts).before a st = ts.all (fun c => c.before a st) := by
  induction ts with
  | nil => rfl
  | cons c t ih =>
    show (Jvm.Cond.and c (allAtoms t)).before a st = _
    rw [Jvm.Cond.before_and, ih, List.all_cons]
def words1 : List Jvm.Cond := Jvm.Cond.code x code maxLocals ret :: tables_1
/-- a 'code' word, met by the world's own term for the bytes: nothing is compared byte by byte -/
theorem code_word {y : MethodName} {bytes : ByteArray} {mx : Nat} {rt : Option FieldType} {a : Array Value} {s : State} {m : MethodId} {meth : Method} {c : Code} (h1 : s.methodNamed? y = some m) (h2 : s.vm.method? m = some meth) (h3 : meth.code = some c) (h4 : c.code = bytes)
    (h5 : (c.maxLocals == mx && c.exceptionTable.isEmpty && decide (c.maxStack ≤ mostOperands) && decide (meth.sig.returnType = rt) && !meth.locks && decide (parseMethodDescriptor y.desc = some meth.sig)) = true) : (Jvm.Cond.code y bytes mx rt).before a s = true := by
  simp only [Bool.and_eq_true, beq_iff_eq, Bool.not_eq_true', decide_eq_true_eq] at h5
  obtain ⟨⟨⟨⟨⟨g1, g2⟩, g3⟩, g4⟩, g5⟩, g6⟩ := h5
  simp [Cond.before, Cond.holds, Cond.value, h1, h2, h3, h4, g1, g2, g3, g4, g5, g6]
def isCode : Jvm.Cond → Bool
  | .code _ _ _ _ => true
  | _ => false
theorem all_split {L : List Jvm.Cond} {P : Jvm.Cond → Bool} (h1 : L.all (fun c => isCode c || P c) = true) (h2 : ∀ c ∈ L.filter isCode, P c = true) : L.all P = true := by
  refine List.all_eq_true.mpr fun c hc => ?_
  have h := List.all_eq_true.mp h1 c hc
  rcases Bool.eq_false_or_eq_true (isCode c) with hi | hi
  · exact h2 c (List.mem_filter.mpr ⟨hc, hi⟩)
  · simpa [hi] using h
set_option maxRecDepth 65536 in
theorem w_c0 : (Jvm.Cond.code x code maxLocals ret).before args0 about1 = true := code_word (m := ⟨1, 2⟩) (meth := k1m2) (c := k1c2) (by decide +kernel) rfl rfl rfl (by decide +kernel)
set_option maxRecDepth 65536 in
theorem w_c1 : (Jvm.Cond.code ({ cls := "com/example/crosswarden/crosswarden/web/DestinationWithArgumentsPinLaw", name := "ch", desc := "(II)C" } : Jvm.MethodName) method_2_code (3 : Nat) (Option.some Jvm.ClassFile.FieldType.char)).before args0 about1 = true := code_word (m := ⟨1, 1⟩) (meth := k1m1) (c := k1c1) (by decide +kernel) rfl rfl rfl (by decide +kernel)
set_option maxRecDepth 65536 in
theorem w_c2 : (Jvm.Cond.code ({ cls := "java/lang/String", name := "<init>", desc := "([C)V" } : Jvm.MethodName) jdk_42_method_3_code (2 : Nat) (Option.none : Option Jvm.ClassFile.FieldType)).before args0 about1 = true := code_word (m := ⟨7, 1⟩) (meth := k7m1) (c := k7c1) (by decide +kernel) rfl rfl rfl (by decide +kernel)
set_option maxRecDepth 65536 in
theorem w_c3 : (Jvm.Cond.code ({ cls := "java/lang/String", name := "<init>", desc := "([CIILjava/lang/Void;)V" } : Jvm.MethodName) jdk_42_method_149_code (6 : Nat) (Option.none : Option Jvm.ClassFile.FieldType)).before args0 about1 = true := code_word (m := ⟨7, 8⟩) (meth := k7m8) (c := k7c8) (by decide +kernel) rfl rfl rfl (by decide +kernel)
set_option maxRecDepth 65536 in
theorem w_c4 : (Jvm.Cond.code ({ cls := "java/lang/Object", name := "<init>", desc := "()V" } : Jvm.MethodName) object_method_1_code (1 : Nat) (Option.none : Option Jvm.ClassFile.FieldType)).before args0 about1 = true := code_word (m := ⟨0, 0⟩) (meth := k0m0) (c := k0c0) (by decide +kernel) rfl rfl rfl (by decide +kernel)
set_option maxRecDepth 65536 in
theorem w_c5 : (Jvm.Cond.code ({ cls := "java/lang/StringUTF16", name := "compress", desc := "([CII)[B" } : Jvm.MethodName) jdk_52_method_16_code (6 : Nat) (Option.some (Jvm.ClassFile.FieldType.array Jvm.ClassFile.FieldType.byte))).before args0 about1 = true := code_word (m := ⟨8, 2⟩) (meth := k8m2) (c := k8c2) (by decide +kernel) rfl rfl rfl (by decide +kernel)
set_option maxRecDepth 65536 in
theorem w_c6 : (Jvm.Cond.code ({ cls := "java/lang/StringUTF16", name := "compress", desc := "([CI[BII)I" } : Jvm.MethodName) jdk_52_method_21_code (7 : Nat) (Option.some Jvm.ClassFile.FieldType.int)).before args0 about1 = true := code_word (m := ⟨8, 3⟩) (meth := k8m3) (c := k8c3) (by decide +kernel) rfl rfl rfl (by decide +kernel)
set_option maxRecDepth 65536 in
theorem w_c7 : (Jvm.Cond.code ({ cls := "java/lang/StringUTF16", name := "coderFromArrayLen", desc := "([BI)B" } : Jvm.MethodName) jdk_52_method_15_code (2 : Nat) (Option.some Jvm.ClassFile.FieldType.byte)).before args0 about1 = true := code_word (m := ⟨8, 1⟩) (meth := k8m1) (c := k8c1) (by decide +kernel) rfl rfl rfl (by decide +kernel)
set_option maxRecDepth 65536 in
theorem w_c8 : (Jvm.Cond.code ({ cls := "com/example/crosswarden/crosswarden/web/Destination", name := "<init>", desc := "(Ljava/lang/String;Ljava/lang/String;ZLjava/lang/String;)V" } : Jvm.MethodName) prog_12_method_1_code (5 : Nat) (Option.none : Option Jvm.ClassFile.FieldType)).before args0 about1 = true := code_word (m := ⟨10, 0⟩) (meth := k10m0) (c := k10c0) (by decide +kernel) rfl rfl rfl (by decide +kernel)
set_option maxRecDepth 65536 in
theorem w_c9 : (Jvm.Cond.code ({ cls := "java/lang/Record", name := "<init>", desc := "()V" } : Jvm.MethodName) jdk_30_method_1_code (1 : Nat) (Option.none : Option Jvm.ClassFile.FieldType)).before args0 about1 = true := code_word (m := ⟨9, 0⟩) (meth := k9m0) (c := k9c0) (by decide +kernel) rfl rfl rfl (by decide +kernel)
set_option maxRecDepth 65536 in
theorem w_c10 : (Jvm.Cond.code ({ cls := "com/example/crosswarden/crosswarden/web/Destination", name := "withArguments", desc := "(Ljava/lang/String;)Ljava/lang/String;" } : Jvm.MethodName) prog_12_method_3_code (4 : Nat) (Option.some (Jvm.ClassFile.FieldType.object "java/lang/String"))).before args0 about1 = true := code_word (m := ⟨10, 1⟩) (meth := k10m1) (c := k10c1) (by decide +kernel) rfl rfl rfl (by decide +kernel)
set_option maxRecDepth 65536 in
theorem w_c11 : (Jvm.Cond.code ({ cls := "java/lang/String", name := "length", desc := "()I" } : Jvm.MethodName) jdk_42_method_54_code (1 : Nat) (Option.some Jvm.ClassFile.FieldType.int)).before args0 about1 = true := code_word (m := ⟨7, 3⟩) (meth := k7m3) (c := k7c3) (by decide +kernel) rfl rfl rfl (by decide +kernel)
set_option maxRecDepth 65536 in
theorem w_c12 : (Jvm.Cond.code ({ cls := "java/lang/String", name := "coder", desc := "()B" } : Jvm.MethodName) jdk_42_method_152_code (1 : Nat) (Option.some Jvm.ClassFile.FieldType.byte)).before args0 about1 = true := code_word (m := ⟨7, 11⟩) (meth := k7m11) (c := k7c11) (by decide +kernel) rfl rfl rfl (by decide +kernel)
set_option maxRecDepth 65536 in
theorem w_c13 : (Jvm.Cond.code ({ cls := "java/lang/String", name := "substring", desc := "(II)Ljava/lang/String;" } : Jvm.MethodName) jdk_42_method_92_code (5 : Nat) (Option.some (Jvm.ClassFile.FieldType.object "java/lang/String"))).before args0 about1 = true := code_word (m := ⟨7, 5⟩) (meth := k7m5) (c := k7c5) (by decide +kernel) rfl rfl rfl (by decide +kernel)
set_option maxRecDepth 65536 in
theorem w_c14 : (Jvm.Cond.code ({ cls := "java/lang/String", name := "checkBoundsBeginEnd", desc := "(III)V" } : Jvm.MethodName) jdk_42_method_158_code (3 : Nat) (Option.none : Option Jvm.ClassFile.FieldType)).before args0 about1 = true := code_word (m := ⟨7, 13⟩) (meth := k7m13) (c := k7c13) (by decide +kernel) rfl rfl rfl (by decide +kernel)
set_option maxRecDepth 65536 in
theorem w_c15 : (Jvm.Cond.code ({ cls := "jdk/internal/util/Preconditions", name := "checkFromToIndex", desc := "(IIILjava/util/function/BiFunction;)I" } : Jvm.MethodName) jdk_41_method_12_code (4 : Nat) (Option.some Jvm.ClassFile.FieldType.int)).before args0 about1 = true := code_word (m := ⟨11, 1⟩) (meth := k11m1) (c := k11c1) (by decide +kernel) rfl rfl rfl (by decide +kernel)
set_option maxRecDepth 65536 in
theorem w_c16 : (Jvm.Cond.code ({ cls := "java/lang/String", name := "isLatin1", desc := "()Z" } : Jvm.MethodName) jdk_42_method_154_code (1 : Nat) (Option.some Jvm.ClassFile.FieldType.boolean)).before args0 about1 = true := code_word (m := ⟨7, 12⟩) (meth := k7m12) (c := k7c12) (by decide +kernel) rfl rfl rfl (by decide +kernel)
set_option maxRecDepth 65536 in
theorem w_c17 : (Jvm.Cond.code ({ cls := "java/lang/StringLatin1", name := "newString", desc := "([BII)Ljava/lang/String;" } : Jvm.MethodName) jdk_43_method_47_code (3 : Nat) (Option.some (Jvm.ClassFile.FieldType.object "java/lang/String"))).before args0 about1 = true := code_word (m := ⟨12, 4⟩) (meth := k12m4) (c := k12c4) (by decide +kernel) rfl rfl rfl (by decide +kernel)
set_option maxRecDepth 65536 in
theorem w_c18 : (Jvm.Cond.code ({ cls := "java/util/Arrays", name := "copyOfRange", desc := "([BII)[B" } : Jvm.MethodName) jdk_65_method_132_code (3 : Nat) (Option.some (Jvm.ClassFile.FieldType.array Jvm.ClassFile.FieldType.byte))).before args0 about1 = true := code_word (m := ⟨13, 2⟩) (meth := k13m2) (c := k13c2) (by decide +kernel) rfl rfl rfl (by decide +kernel)
set_option maxRecDepth 65536 in
theorem w_c19 : (Jvm.Cond.code ({ cls := "java/util/Arrays", name := "copyOfRangeByte", desc := "([BII)[B" } : Jvm.MethodName) jdk_65_method_133_code (5 : Nat) (Option.some (Jvm.ClassFile.FieldType.array Jvm.ClassFile.FieldType.byte))).before args0 about1 = true := code_word (m := ⟨13, 3⟩) (meth := k13m3) (c := k13c3) (by decide +kernel) rfl rfl rfl (by decide +kernel)
set_option maxRecDepth 65536 in
theorem w_c20 : (Jvm.Cond.code ({ cls := "java/util/Arrays", name := "checkLength", desc := "(II)V" } : Jvm.MethodName) jdk_65_method_131_code (2 : Nat) (Option.none : Option Jvm.ClassFile.FieldType)).before args0 about1 = true := code_word (m := ⟨13, 1⟩) (meth := k13m1) (c := k13c1) (by decide +kernel) rfl rfl rfl (by decide +kernel)
set_option maxRecDepth 65536 in
theorem w_c21 : (Jvm.Cond.code ({ cls := "java/lang/Math", name := "min", desc := "(II)I" } : Jvm.MethodName) jdk_29_method_69_code (2 : Nat) (Option.some Jvm.ClassFile.FieldType.int)).before args0 about1 = true := code_word (m := ⟨14, 1⟩) (meth := k14m1) (c := k14c1) (by decide +kernel) rfl rfl rfl (by decide +kernel)
set_option maxRecDepth 65536 in
theorem w_c22 : (Jvm.Cond.code ({ cls := "java/lang/String", name := "<init>", desc := "([BB)V" } : Jvm.MethodName) jdk_42_method_151_code (3 : Nat) (Option.none : Option Jvm.ClassFile.FieldType)).before args0 about1 = true := code_word (m := ⟨7, 10⟩) (meth := k7m10) (c := k7c10) (by decide +kernel) rfl rfl rfl (by decide +kernel)
set_option maxRecDepth 65536 in
theorem w_c23 : (Jvm.Cond.code ({ cls := "java/lang/StringBuilder", name := "<init>", desc := "()V" } : Jvm.MethodName) jdk_67_method_1_code (1 : Nat) (Option.none : Option Jvm.ClassFile.FieldType)).before args0 about1 = true := code_word (m := ⟨18, 0⟩) (meth := k18m0) (c := k18c0) (by decide +kernel) rfl rfl rfl (by decide +kernel)
set_option maxRecDepth 65536 in
theorem w_c24 : (Jvm.Cond.code ({ cls := "java/lang/AbstractStringBuilder", name := "<init>", desc := "(I)V" } : Jvm.MethodName) jdk_68_method_2_code (2 : Nat) (Option.none : Option Jvm.ClassFile.FieldType)).before args0 about1 = true := code_word (m := ⟨17, 1⟩) (meth := k17m1) (c := k17c1) (by decide +kernel) rfl rfl rfl (by decide +kernel)
set_option maxRecDepth 65536 in
theorem w_c25 : (Jvm.Cond.code ({ cls := "java/lang/StringBuilder", name := "append", desc := "(Ljava/lang/String;)Ljava/lang/StringBuilder;" } : Jvm.MethodName) jdk_67_method_7_code (2 : Nat) (Option.some (Jvm.ClassFile.FieldType.object "java/lang/StringBuilder"))).before args0 about1 = true := code_word (m := ⟨18, 1⟩) (meth := k18m1) (c := k18c1) (by decide +kernel) rfl rfl rfl (by decide +kernel)
set_option maxRecDepth 65536 in
theorem w_c26 : (Jvm.Cond.code ({ cls := "java/lang/AbstractStringBuilder", name := "append", desc := "(Ljava/lang/String;)Ljava/lang/AbstractStringBuilder;" } : Jvm.MethodName) jdk_68_method_22_code (3 : Nat) (Option.some (Jvm.ClassFile.FieldType.object "java/lang/AbstractStringBuilder"))).before args0 about1 = true := code_word (m := ⟨17, 4⟩) (meth := k17m4) (c := k17c4) (by decide +kernel) rfl rfl rfl (by decide +kernel)
set_option maxRecDepth 65536 in
theorem w_c27 : (Jvm.Cond.code ({ cls := "java/lang/AbstractStringBuilder", name := "ensureCapacityInternal", desc := "(I)V" } : Jvm.MethodName) jdk_68_method_9_code (3 : Nat) (Option.none : Option Jvm.ClassFile.FieldType)).before args0 about1 = true := code_word (m := ⟨17, 3⟩) (meth := k17m3) (c := k17c3) (by decide +kernel) rfl rfl rfl (by decide +kernel)
set_option maxRecDepth 65536 in
theorem w_c28 : (Jvm.Cond.code ({ cls := "java/lang/AbstractStringBuilder", name := "putStringAt", desc := "(ILjava/lang/String;)V" } : Jvm.MethodName) jdk_68_method_73_code (3 : Nat) (Option.none : Option Jvm.ClassFile.FieldType)).before args0 about1 = true := code_word (m := ⟨17, 8⟩) (meth := k17m8) (c := k17c8) (by decide +kernel) rfl rfl rfl (by decide +kernel)
set_option maxRecDepth 65536 in
theorem w_c29 : (Jvm.Cond.code ({ cls := "java/lang/AbstractStringBuilder", name := "inflateIfNeededFor", desc := "(Ljava/lang/String;)V" } : Jvm.MethodName) jdk_68_method_71_code (2 : Nat) (Option.none : Option Jvm.ClassFile.FieldType)).before args0 about1 = true := code_word (m := ⟨17, 7⟩) (meth := k17m7) (c := k17c7) (by decide +kernel) rfl rfl rfl (by decide +kernel)
set_option maxRecDepth 65536 in
theorem w_c30 : (Jvm.Cond.code ({ cls := "java/lang/String", name := "getBytes", desc := "([BIB)V" } : Jvm.MethodName) jdk_42_method_147_code (4 : Nat) (Option.none : Option Jvm.ClassFile.FieldType)).before args0 about1 = true := code_word (m := ⟨7, 7⟩) (meth := k7m7) (c := k7c7) (by decide +kernel) rfl rfl rfl (by decide +kernel)
set_option maxRecDepth 65536 in
theorem w_c31 : (Jvm.Cond.code ({ cls := "java/lang/StringBuilder", name := "toString", desc := "()Ljava/lang/String;" } : Jvm.MethodName) jdk_67_method_42_code (1 : Nat) (Option.some (Jvm.ClassFile.FieldType.object "java/lang/String"))).before args0 about1 = true := code_word (m := ⟨18, 2⟩) (meth := k18m2) (c := k18c2) (by decide +kernel) rfl rfl rfl (by decide +kernel)
set_option maxRecDepth 65536 in
theorem w_c32 : (Jvm.Cond.code ({ cls := "java/lang/String", name := "<init>", desc := "(Ljava/lang/StringBuilder;)V" } : Jvm.MethodName) jdk_42_method_53_code (2 : Nat) (Option.none : Option Jvm.ClassFile.FieldType)).before args0 about1 = true := code_word (m := ⟨7, 2⟩) (meth := k7m2) (c := k7c2) (by decide +kernel) rfl rfl rfl (by decide +kernel)
set_option maxRecDepth 65536 in
theorem w_c33 : (Jvm.Cond.code ({ cls := "java/lang/String", name := "<init>", desc := "(Ljava/lang/AbstractStringBuilder;Ljava/lang/Void;)V" } : Jvm.MethodName) jdk_42_method_150_code (5 : Nat) (Option.none : Option Jvm.ClassFile.FieldType)).before args0 about1 = true := code_word (m := ⟨7, 9⟩) (meth := k7m9) (c := k7c9) (by decide +kernel) rfl rfl rfl (by decide +kernel)
set_option maxRecDepth 65536 in
theorem w_c34 : (Jvm.Cond.code ({ cls := "java/lang/AbstractStringBuilder", name := "getValue", desc := "()[B" } : Jvm.MethodName) jdk_68_method_64_code (1 : Nat) (Option.some (Jvm.ClassFile.FieldType.array Jvm.ClassFile.FieldType.byte))).before args0 about1 = true := code_word (m := ⟨17, 5⟩) (meth := k17m5) (c := k17c5) (by decide +kernel) rfl rfl rfl (by decide +kernel)
set_option maxRecDepth 65536 in
theorem w_c35 : (Jvm.Cond.code ({ cls := "java/lang/StringBuilder", name := "length", desc := "()I" } : Jvm.MethodName) jdk_67_method_93_code (1 : Nat) (Option.some Jvm.ClassFile.FieldType.int)).before args0 about1 = true := code_word (m := ⟨18, 3⟩) (meth := k18m3) (c := k18c3) (by decide +kernel) rfl rfl rfl (by decide +kernel)
set_option maxRecDepth 65536 in
theorem w_c36 : (Jvm.Cond.code ({ cls := "java/lang/AbstractStringBuilder", name := "length", desc := "()I" } : Jvm.MethodName) jdk_68_method_6_code (1 : Nat) (Option.some Jvm.ClassFile.FieldType.int)).before args0 about1 = true := code_word (m := ⟨17, 2⟩) (meth := k17m2) (c := k17c2) (by decide +kernel) rfl rfl rfl (by decide +kernel)
set_option maxRecDepth 65536 in
theorem w_c37 : (Jvm.Cond.code ({ cls := "java/lang/AbstractStringBuilder", name := "isLatin1", desc := "()Z" } : Jvm.MethodName) jdk_68_method_68_code (1 : Nat) (Option.some Jvm.ClassFile.FieldType.boolean)).before args0 about1 = true := code_word (m := ⟨17, 6⟩) (meth := k17m6) (c := k17c6) (by decide +kernel) rfl rfl rfl (by decide +kernel)
set_option maxRecDepth 65536 in
theorem w_c38 : (Jvm.Cond.code ({ cls := "java/lang/String", name := "equals", desc := "(Ljava/lang/Object;)Z" } : Jvm.MethodName) jdk_42_method_66_code (3 : Nat) (Option.some Jvm.ClassFile.FieldType.boolean)).before args0 about1 = true := code_word (m := ⟨7, 4⟩) (meth := k7m4) (c := k7c4) (by decide +kernel) rfl rfl rfl (by decide +kernel)
set_option maxRecDepth 65536 in
theorem w_c39 : (Jvm.Cond.code ({ cls := "java/lang/StringLatin1", name := "equals", desc := "([B[B)Z" } : Jvm.MethodName) jdk_43_method_13_code (3 : Nat) (Option.some Jvm.ClassFile.FieldType.boolean)).before args0 about1 = true := code_word (m := ⟨12, 2⟩) (meth := k12m2) (c := k12c2) (by decide +kernel) rfl rfl rfl (by decide +kernel)
set_option maxRecDepth 65536 in
theorem w_c40 : (Jvm.Cond.code ({ cls := "java/lang/String", name := "valueOf", desc := "(C)Ljava/lang/String;" } : Jvm.MethodName) jdk_42_method_139_code (1 : Nat) (Option.some (Jvm.ClassFile.FieldType.object "java/lang/String"))).before args0 about1 = true := code_word (m := ⟨7, 6⟩) (meth := k7m6) (c := k7c6) (by decide +kernel) rfl rfl rfl (by decide +kernel)
set_option maxRecDepth 65536 in
theorem w_c41 : (Jvm.Cond.code ({ cls := "java/lang/StringLatin1", name := "canEncode", desc := "(C)Z" } : Jvm.MethodName) jdk_43_method_3_code (1 : Nat) (Option.some Jvm.ClassFile.FieldType.boolean)).before args0 about1 = true := code_word (m := ⟨12, 1⟩) (meth := k12m1) (c := k12c1) (by decide +kernel) rfl rfl rfl (by decide +kernel)
set_option maxRecDepth 65536 in
theorem w_c42 : (Jvm.Cond.code ({ cls := "java/lang/StringLatin1", name := "toBytes", desc := "(C)[B" } : Jvm.MethodName) jdk_43_method_46_code (1 : Nat) (Option.some (Jvm.ClassFile.FieldType.array Jvm.ClassFile.FieldType.byte))).before args0 about1 = true := code_word (m := ⟨12, 3⟩) (meth := k12m3) (c := k12c3) (by decide +kernel) rfl rfl rfl (by decide +kernel)
def codes1 : List Jvm.Cond := [Jvm.Cond.code x code maxLocals ret, Jvm.Cond.code ({ cls := "com/example/crosswarden/crosswarden/web/DestinationWithArgumentsPinLaw", name := "ch", desc := "(II)C" } : Jvm.MethodName) method_2_code (3 : Nat) (Option.some Jvm.ClassFile.FieldType.char), Jvm.Cond.code ({ cls := "java/lang/String", name := "<init>", desc := "([C)V" } : Jvm.MethodName) jdk_42_method_3_code (2 : Nat) (Option.none : Option Jvm.ClassFile.FieldType), Jvm.Cond.code ({ cls := "java/lang/String", name := "<init>", desc := "([CIILjava/lang/Void;)V" } : Jvm.MethodName) jdk_42_method_149_code (6 : Nat) (Option.none : Option Jvm.ClassFile.FieldType), Jvm.Cond.code ({ cls := "java/lang/Object", name := "<init>", desc := "()V" } : Jvm.MethodName) object_method_1_code (1 : Nat) (Option.none : Option Jvm.ClassFile.FieldType), Jvm.Cond.code ({ cls := "java/lang/StringUTF16", name := "compress", desc := "([CII)[B" } : Jvm.MethodName) jdk_52_method_16_code (6 : Nat) (Option.some (Jvm.ClassFile.FieldType.array Jvm.ClassFile.FieldType.byte)), Jvm.Cond.code ({ cls := "java/lang/StringUTF16", name := "compress", desc := "([CI[BII)I" } : Jvm.MethodName) jdk_52_method_21_code (7 : Nat) (Option.some Jvm.ClassFile.FieldType.int), Jvm.Cond.code ({ cls := "java/lang/StringUTF16", name := "coderFromArrayLen", desc := "([BI)B" } : Jvm.MethodName) jdk_52_method_15_code (2 : Nat) (Option.some Jvm.ClassFile.FieldType.byte), Jvm.Cond.code ({ cls := "com/example/crosswarden/crosswarden/web/Destination", name := "<init>", desc := "(Ljava/lang/String;Ljava/lang/String;ZLjava/lang/String;)V" } : Jvm.MethodName) prog_12_method_1_code (5 : Nat) (Option.none : Option Jvm.ClassFile.FieldType), Jvm.Cond.code ({ cls := "java/lang/Record", name := "<init>", desc := "()V" } : Jvm.MethodName) jdk_30_method_1_code (1 : Nat) (Option.none : Option Jvm.ClassFile.FieldType), Jvm.Cond.code ({ cls := "com/example/crosswarden/crosswarden/web/Destination", name := "withArguments", desc := "(Ljava/lang/String;)Ljava/lang/String;" } : Jvm.MethodName) prog_12_method_3_code (4 : Nat) (Option.some (Jvm.ClassFile.FieldType.object "java/lang/String")), Jvm.Cond.code ({ cls := "java/lang/String", name := "length", desc := "()I" } : Jvm.MethodName) jdk_42_method_54_code (1 : Nat) (Option.some Jvm.ClassFile.FieldType.int), Jvm.Cond.code ({ cls := "java/lang/String", name := "coder", desc := "()B" } : Jvm.MethodName) jdk_42_method_152_code (1 : Nat) (Option.some Jvm.ClassFile.FieldType.byte), Jvm.Cond.code ({ cls := "java/lang/String", name := "substring", desc := "(II)Ljava/lang/String;" } : Jvm.MethodName) jdk_42_method_92_code (5 : Nat) (Option.some (Jvm.ClassFile.FieldType.object "java/lang/String")), Jvm.Cond.code ({ cls := "java/lang/String", name := "checkBoundsBeginEnd", desc := "(III)V" } : Jvm.MethodName) jdk_42_method_158_code (3 : Nat) (Option.none : Option Jvm.ClassFile.FieldType), Jvm.Cond.code ({ cls := "jdk/internal/util/Preconditions", name := "checkFromToIndex", desc := "(IIILjava/util/function/BiFunction;)I" } : Jvm.MethodName) jdk_41_method_12_code (4 : Nat) (Option.some Jvm.ClassFile.FieldType.int), Jvm.Cond.code ({ cls := "java/lang/String", name := "isLatin1", desc := "()Z" } : Jvm.MethodName) jdk_42_method_154_code (1 : Nat) (Option.some Jvm.ClassFile.FieldType.boolean), Jvm.Cond.code ({ cls := "java/lang/StringLatin1", name := "newString", desc := "([BII)Ljava/lang/String;" } : Jvm.MethodName) jdk_43_method_47_code (3 : Nat) (Option.some (Jvm.ClassFile.FieldType.object "java/lang/String")), Jvm.Cond.code ({ cls := "java/util/Arrays", name := "copyOfRange", desc := "([BII)[B" } : Jvm.MethodName) jdk_65_method_132_code (3 : Nat) (Option.some (Jvm.ClassFile.FieldType.array Jvm.ClassFile.FieldType.byte)), Jvm.Cond.code ({ cls := "java/util/Arrays", name := "copyOfRangeByte", desc := "([BII)[B" } : Jvm.MethodName) jdk_65_method_133_code (5 : Nat) (Option.some (Jvm.ClassFile.FieldType.array Jvm.ClassFile.FieldType.byte)), Jvm.Cond.code ({ cls := "java/util/Arrays", name := "checkLength", desc := "(II)V" } : Jvm.MethodName) jdk_65_method_131_code (2 : Nat) (Option.none : Option Jvm.ClassFile.FieldType), Jvm.Cond.code ({ cls := "java/lang/Math", name := "min", desc := "(II)I" } : Jvm.MethodName) jdk_29_method_69_code (2 : Nat) (Option.some Jvm.ClassFile.FieldType.int), Jvm.Cond.code ({ cls := "java/lang/String", name := "<init>", desc := "([BB)V" } : Jvm.MethodName) jdk_42_method_151_code (3 : Nat) (Option.none : Option Jvm.ClassFile.FieldType), Jvm.Cond.code ({ cls := "java/lang/StringBuilder", name := "<init>", desc := "()V" } : Jvm.MethodName) jdk_67_method_1_code (1 : Nat) (Option.none : Option Jvm.ClassFile.FieldType), Jvm.Cond.code ({ cls := "java/lang/AbstractStringBuilder", name := "<init>", desc := "(I)V" } : Jvm.MethodName) jdk_68_method_2_code (2 : Nat) (Option.none : Option Jvm.ClassFile.FieldType), Jvm.Cond.code ({ cls := "java/lang/StringBuilder", name := "append", desc := "(Ljava/lang/String;)Ljava/lang/StringBuilder;" } : Jvm.MethodName) jdk_67_method_7_code (2 : Nat) (Option.some (Jvm.ClassFile.FieldType.object "java/lang/StringBuilder")), Jvm.Cond.code ({ cls := "java/lang/AbstractStringBuilder", name := "append", desc := "(Ljava/lang/String;)Ljava/lang/AbstractStringBuilder;" } : Jvm.MethodName) jdk_68_method_22_code (3 : Nat) (Option.some (Jvm.ClassFile.FieldType.object "java/lang/AbstractStringBuilder")), Jvm.Cond.code ({ cls := "java/lang/AbstractStringBuilder", name := "ensureCapacityInternal", desc := "(I)V" } : Jvm.MethodName) jdk_68_method_9_code (3 : Nat) (Option.none : Option Jvm.ClassFile.FieldType), Jvm.Cond.code ({ cls := "java/lang/AbstractStringBuilder", name := "putStringAt", desc := "(ILjava/lang/String;)V" } : Jvm.MethodName) jdk_68_method_73_code (3 : Nat) (Option.none : Option Jvm.ClassFile.FieldType), Jvm.Cond.code ({ cls := "java/lang/AbstractStringBuilder", name := "inflateIfNeededFor", desc := "(Ljava/lang/String;)V" } : Jvm.MethodName) jdk_68_method_71_code (2 : Nat) (Option.none : Option Jvm.ClassFile.FieldType), Jvm.Cond.code ({ cls := "java/lang/String", name := "getBytes", desc := "([BIB)V" } : Jvm.MethodName) jdk_42_method_147_code (4 : Nat) (Option.none : Option Jvm.ClassFile.FieldType), Jvm.Cond.code ({ cls := "java/lang/StringBuilder", name := "toString", desc := "()Ljava/lang/String;" } : Jvm.MethodName) jdk_67_method_42_code (1 : Nat) (Option.some (Jvm.ClassFile.FieldType.object "java/lang/String")), Jvm.Cond.code ({ cls := "java/lang/String", name := "<init>", desc := "(Ljava/lang/StringBuilder;)V" } : Jvm.MethodName) jdk_42_method_53_code (2 : Nat) (Option.none : Option Jvm.ClassFile.FieldType), Jvm.Cond.code ({ cls := "java/lang/String", name := "<init>", desc := "(Ljava/lang/AbstractStringBuilder;Ljava/lang/Void;)V" } : Jvm.MethodName) jdk_42_method_150_code (5 : Nat) (Option.none : Option Jvm.ClassFile.FieldType), Jvm.Cond.code ({ cls := "java/lang/AbstractStringBuilder", name := "getValue", desc := "()[B" } : Jvm.MethodName) jdk_68_method_64_code (1 : Nat) (Option.some (Jvm.ClassFile.FieldType.array Jvm.ClassFile.FieldType.byte)), Jvm.Cond.code ({ cls := "java/lang/StringBuilder", name := "length", desc := "()I" } : Jvm.MethodName) jdk_67_method_93_code (1 : Nat) (Option.some Jvm.ClassFile.FieldType.int), Jvm.Cond.code ({ cls := "java/lang/AbstractStringBuilder", name := "length", desc := "()I" } : Jvm.MethodName) jdk_68_method_6_code (1 : Nat) (Option.some Jvm.ClassFile.FieldType.int), Jvm.Cond.code ({ cls := "java/lang/AbstractStringBuilder", name := "isLatin1", desc := "()Z" } : Jvm.MethodName) jdk_68_method_68_code (1 : Nat) (Option.some Jvm.ClassFile.FieldType.boolean), Jvm.Cond.code ({ cls := "java/lang/String", name := "equals", desc := "(Ljava/lang/Object;)Z" } : Jvm.MethodName) jdk_42_method_66_code (3 : Nat) (Option.some Jvm.ClassFile.FieldType.boolean), Jvm.Cond.code ({ cls := "java/lang/StringLatin1", name := "equals", desc := "([B[B)Z" } : Jvm.MethodName) jdk_43_method_13_code (3 : Nat) (Option.some Jvm.ClassFile.FieldType.boolean), Jvm.Cond.code ({ cls := "java/lang/String", name := "valueOf", desc := "(C)Ljava/lang/String;" } : Jvm.MethodName) jdk_42_method_139_code (1 : Nat) (Option.some (Jvm.ClassFile.FieldType.object "java/lang/String")), Jvm.Cond.code ({ cls := "java/lang/StringLatin1", name := "canEncode", desc := "(C)Z" } : Jvm.MethodName) jdk_43_method_3_code (1 : Nat) (Option.some Jvm.ClassFile.FieldType.boolean), Jvm.Cond.code ({ cls := "java/lang/StringLatin1", name := "toBytes", desc := "(C)[B" } : Jvm.MethodName) jdk_43_method_46_code (1 : Nat) (Option.some (Jvm.ClassFile.FieldType.array Jvm.ClassFile.FieldType.byte))]
set_option maxRecDepth 65536 in
theorem codes_eq : words1.filter isCode = codes1 := rfl
theorem w_codes : ∀ c ∈ words1.filter isCode, c.before args0 about1 = true := by
  rw [codes_eq]
  intro c hc
  simp only [codes1, List.mem_cons, List.not_mem_nil, or_false] at hc
  rcases hc with rfl | rfl | rfl | rfl | rfl | rfl | rfl | rfl | rfl | rfl | rfl | rfl | rfl | rfl | rfl | rfl | rfl | rfl | rfl | rfl | rfl | rfl | rfl | rfl | rfl | rfl | rfl | rfl | rfl | rfl | rfl | rfl | rfl | rfl | rfl | rfl | rfl | rfl | rfl | rfl | rfl | rfl | rfl
  · exact w_c0
  · exact w_c1
  · exact w_c2
  · exact w_c3
  · exact w_c4
  · exact w_c5
  · exact w_c6
  · exact w_c7
  · exact w_c8
  · exact w_c9
  · exact w_c10
  · exact w_c11
  · exact w_c12
  · exact w_c13
  · exact w_c14
  · exact w_c15
  · exact w_c16
  · exact w_c17
  · exact w_c18
  · exact w_c19
  · exact w_c20
  · exact w_c21
  · exact w_c22
  · exact w_c23
  · exact w_c24
  · exact w_c25
  · exact w_c26
  · exact w_c27
  · exact w_c28
  · exact w_c29
  · exact w_c30
  · exact w_c31
  · exact w_c32
  · exact w_c33
  · exact w_c34
  · exact w_c35
  · exact w_c36
  · exact w_c37
  · exact w_c38
  · exact w_c39
  · exact w_c40
  · exact w_c41
  · exact w_c42
set_option maxRecDepth 65536 in
theorem w_t1 : (words1.take 24).all (fun c => isCode c || c.before args0 about1) = true := by decide +kernel
set_option maxRecDepth 65536 in
theorem w_t2 : ((words1.drop 24).take 24).all (fun c => isCode c || c.before args0 about1) = true := by decide +kernel
set_option maxRecDepth 65536 in
theorem w_t3 : (((words1.drop 24).drop 24).take 24).all (fun c => isCode c || c.before args0 about1) = true := by decide +kernel
set_option maxRecDepth 65536 in
theorem w_t4 : ((((words1.drop 24).drop 24).drop 24).take 24).all (fun c => isCode c || c.before args0 about1) = true := by decide +kernel
set_option maxRecDepth 65536 in
theorem w_t5 : (((((words1.drop 24).drop 24).drop 24).drop 24).take 24).all (fun c => isCode c || c.before args0 about1) = true := by decide +kernel
set_option maxRecDepth 65536 in
theorem w_t6 : ((((((words1.drop 24).drop 24).drop 24).drop 24).drop 24).take 24).all (fun c => isCode c || c.before args0 about1) = true := by decide +kernel
set_option maxRecDepth 65536 in
theorem w_t7 : (((((((words1.drop 24).drop 24).drop 24).drop 24).drop 24).drop 24).take 24).all (fun c => isCode c || c.before args0 about1) = true := by decide +kernel
set_option maxRecDepth 65536 in
theorem w_t8 : ((((((((words1.drop 24).drop 24).drop 24).drop 24).drop 24).drop 24).drop 24).take 24).all (fun c => isCode c || c.before args0 about1) = true := by decide +kernel
set_option maxRecDepth 65536 in
theorem w_t9 : (((((((((words1.drop 24).drop 24).drop 24).drop 24).drop 24).drop 24).drop 24).drop 24).take 24).all (fun c => isCode c || c.before args0 about1) = true := by decide +kernel
set_option maxRecDepth 65536 in
theorem w_t10 : (((((((((words1.drop 24).drop 24).drop 24).drop 24).drop 24).drop 24).drop 24).drop 24).drop 24).all (fun c => isCode c || c.before args0 about1) = true := by decide +kernel
theorem w_tables : (allAtoms (Jvm.Cond.code x code maxLocals ret :: tables_1)).before args0 about1 = true := by
  rw [allAtoms_all]
  show words1.all (fun c => c.before args0 about1) = true
  refine all_split ?_ w_codes
  rw [← List.take_append_drop 24 words1, List.all_append, w_t1, ← List.take_append_drop 24 (words1.drop 24), List.all_append, w_t2, ← List.take_append_drop 24 ((words1.drop 24).drop 24), List.all_append, w_t3, ← List.take_append_drop 24 (((words1.drop 24).drop 24).drop 24), List.all_append, w_t4, ← List.take_append_drop 24 ((((words1.drop 24).drop 24).drop 24).drop 24), List.all_append, w_t5, ← List.take_append_drop 24 (((((words1.drop 24).drop 24).drop 24).drop 24).drop 24), List.all_append, w_t6, ← List.take_append_drop 24 ((((((words1.drop 24).drop 24).drop 24).drop 24).drop 24).drop 24), List.all_append, w_t7, ← List.take_append_drop 24 (((((((words1.drop 24).drop 24).drop 24).drop 24).drop 24).drop 24).drop 24), List.all_append, w_t8, ← List.take_append_drop 24 ((((((((words1.drop 24).drop 24).drop 24).drop 24).drop 24).drop 24).drop 24).drop 24), List.all_append, w_t9, w_t10]
  rfl
set_option maxRecDepth 65536 in
theorem w_rest : rest_1_c.before args0 about1 = true := by decide +kernel
set_option maxRecDepth 65536 in
theorem w_case : (Jvm.Cond.and given_1 narrow_1).before args0 about1 = true := by decide +kernel
set_option maxRecDepth 65536 in
theorem w_consts : constsHeld consts_1 about1 := Jvm.Lit.constsHeldB_iff.mp (by decide +kernel)
theorem w_applies : (headSpec (Jvm.Cond.code x code maxLocals ret :: tables_1) room_1).applies x e0.platform about1 = true :=
  (Spec.applies_iff w_frames).mpr ⟨w_running, w_runnable, w_alone, w_named, w_hears, w_ripe, w_room, w_tables⟩
theorem atStart : AtStart classFile x code maxLocals ret World_1 tables_1 room_1 Calls_1 rest_1 Pre_1 launch0 p0 e0 about1 theMethod args0 below0 :=
  ⟨lists_1, trivial, launch0.admits_env _ _ _, launch0.least_env, fairChoices_fair.cas, fairChoices_fair.clock, w_frames, w_args, w_heap, w_applies, ⟨w_consts, trivial⟩, w_rest, w_case⟩
end start1
theorem witness_1 : WitnessClaimed_1 := ⟨start1.p0, start1.e0, start1.about1, start1.theMethod, start1.args0, start1.below0, start1.atStart⟩
end Jvm.Pilot.@@N@@
