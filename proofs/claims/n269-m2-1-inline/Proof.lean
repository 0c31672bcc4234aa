import JvmDerived
import JvmDerived.Pilot.@@N@@Statement
import JvmDerived.Pilot.@@N@@Code
set_option linter.unusedVariables false
set_option linter.unusedSimpArgs false
namespace Jvm.OwnW
open Sem ClassFile Op Lib Bundle Jvm.Stand Jvm.Free Jvm.LawKit Jvm.RoadKit
/-! OwnW: a walk as one goal. Go: 'from every state of the walk that stands over this heap, with this frame, the method comes to its end with Q'. Each step is one lemma; tables, written places, rebased starts and booked constants ride inside. -/
abbrev Gb : Type := Launch × State × Array Value × List (String × Nat)
abbrev Gb.l (G : Gb) : Launch := G.1
abbrev Gb.Z (G : Gb) : State := G.2.1
abbrev Gb.a0 (G : Gb) : Array Value := G.2.2.1
abbrev Gb.EL (G : Gb) : List (String × Nat) := G.2.2.2
abbrev Cx : Type := (Program × Env × State × MethodId) × (Array Value × List Frame × Method × Code)
abbrev Cx.p (B : Cx) : Program := B.1.1
abbrev Cx.e (B : Cx) : Env := B.1.2.1
abbrev Cx.s (B : Cx) : State := B.1.2.2.1
abbrev Cx.m (B : Cx) : MethodId := B.1.2.2.2
abbrev Cx.as (B : Cx) : Array Value := B.2.1
abbrev Cx.bl (B : Cx) : List Frame := B.2.2.1
abbrev Cx.mt (B : Cx) : Method := B.2.2.2.1
abbrev Cx.c (B : Cx) : Code := B.2.2.2.2
abbrev Mt : Type := (String × String × Room) × (List (Nat × Instr × Nat) × Nat × Option FieldType)
abbrev Mt.own (M : Mt) : String := M.1.1
abbrev Mt.nm (M : Mt) : String := M.1.2.1
abbrev Mt.R (M : Mt) : Room := M.1.2.2
abbrev Mt.P (M : Mt) : List (Nat × Instr × Nat) := M.2.1
abbrev Mt.maxL (M : Mt) : Nat := M.2.2.1
abbrev Mt.ret (M : Mt) : Option FieldType := M.2.2.2
abbrev Wd (G : Gb) (d : Jvm.Cond) : Prop := d.before G.a0 G.Z = true
def Wo (G : Gb) (B : Cx) (own : String) (R : Room) (h : Heap) (sf : List Addr) (cells slots : Nat) (T : State) (vm0 : Vm) (k0 : Nat) (locs : List Loc) : Prop :=
  Stand B.p G.l B.e R (B.s.setVm vm0) B.m B.as B.bl B.mt B.c T locs cells slots ∧ T.heap = h ∧ B.s.Since vm0 k0 ∧ k0 ≤ h.size ∧
  G.Z.Warmed39 vm0 ∧ vm0.findClass own = some B.m.cls ∧ Fr G.Z.heap.size locs ∧ Ext G.Z.heap h ∧ CHr G.Z G.EL B.s.vm B.s.heap vm0 h ∧
  ∀ x ∈ sf, Safe G.Z G.EL vm0 h x ∧ x < h.size
def Fin (G : Gb) (B : Cx) (R : Room) (Q : Option Value → Heap → (Addr → Prop) → Prop) (u : State) : Prop :=
  ∃ (t : State) (v : Option Value) (L : List Loc), Steps B.p.tables B.e B.bl u t ∧ t.status = .running ∧ Ended t B.bl (.returned v) ∧ Q v t.heap (fun x => Safe G.Z G.EL t.vm t.heap x ∧ x < t.heap.size) ∧ Fr G.Z.heap.size L ∧ Ext G.Z.heap t.heap ∧
    CHr G.Z G.EL B.s.vm B.s.heap t.vm t.heap ∧ ReturnedEndW B.s (.returned v) t L R.cells R.slots
def Go (G : Gb) (B : Cx) (M : Mt) (Q : Option Value → Heap → (Addr → Prop) → Prop) (h : Heap) (sf : List Addr) (cells slots pc : Nat) (Ls : Array Slot) (st : List Value) : Prop :=
  ∀ T vm0 k0 locs, Wo G B M.own M.R h sf cells slots T vm0 k0 locs → Fin G B M.R Q (T.setTop (mkF B.m pc Ls st))
def Kd (G : Gb) (B : Cx) (M : Mt) : Prop :=
  B.p.tables.exec = Jvm.exec ∧ (∀ q ∈ M.P, decode B.c.code q.1 = .ok q.2) ∧ B.c.maxLocals = M.maxL ∧ B.mt.sig.returnType = M.ret ∧ B.mt.locks = false ∧ B.mt.name = M.nm ∧ EW G.Z G.a0 G.EL
/-- a contract: from these arguments over this heap it returns, and Q holds of what is returned and of the heap behind -/
def Ctr (G : Gb) (ws : List Jvm.Cond) (y : MethodName) (bytes : ByteArray) (maxL : Nat) (ret : Option FieldType) (rm : Room) (as' : Array Value) (h : Heap) (sf : List Addr) (Q : Option Value → Heap → (Addr → Prop) → Prop) : Prop :=
  MetFree G.l y (head1 (Jvm.Cond.code y bytes maxL ret :: ws) rm)
    (fun a U => a = as' ∧ G.Z.Warmed39 U.vm ∧ U.heap = h ∧ CHv G.Z G.EL U.vm h ∧ Ext G.Z.heap h ∧ ∀ x ∈ sf, Safe G.Z G.EL U.vm h x ∧ x < h.size) (fun _ _ _ _ _ => True)
    (fun _ U o U' => ∃ v L, o = .returned v ∧ (Q v U'.heap (fun x => Safe G.Z G.EL U'.vm U'.heap x ∧ x < U'.heap.size) ∧ Fr G.Z.heap.size L ∧ Ext G.Z.heap U'.heap) ∧ CHr G.Z G.EL U.vm U.heap U'.vm U'.heap ∧ ReturnedEndW U o U' L rm.cells rm.slots)
section Base
variable {G : Gb} {B : Cx} {M : Mt} {R : Room} {Q : Option Value → Heap → (Addr → Prop) → Prop} {h : Heap} {sf : List Addr} {cells slots pc : Nat} {Ls : Array Slot} {st : List Value}
theorem Fin.pre {u u' : State} (f : Fin G B R Q u') (k : ∀ target, Steps B.p.tables B.e B.bl u' target → Steps B.p.tables B.e B.bl u target) : Fin G B R Q u := by
  obtain ⟨t, v, L, s, r⟩ := f
  exact ⟨t, v, L, k _ s, r⟩
theorem ef_ok {m : MethodId} {as' : Array Value} {n : Nat} {Ls : Array Slot} (q : argsToLocals as' n = Ls) : entryFrame m as' n = mkF m 0 Ls [] := by
  subst q
  rfl
theorem Kd.dec (K : Kd G B M) {k : Nat} {i : Instr} {len : Nat} (hd : M.P[k]? = some (pc, i, len)) : decode B.c.code pc = .ok (i, len) := K.2.1 (pc, i, len) (List.mem_of_getElem? hd)
/-! ### plain steps -/
def intAt (Ls : Array Slot) (k : Nat) : Option Int32 := match Ls[k]? with | some (.val (.int v)) => some v | _ => none
def longAt (Ls : Array Slot) (k : Nat) : Option Int64 := match Ls[k]? with | some (.val (.long v)) => some v | _ => none
def refAt (Ls : Array Slot) (k : Nat) : Option Value := match Ls[k]? with | some (.val (.ref a)) => some (.ref a) | some (.val .null) => some .null | _ => none
theorem intAt_ok {k : Nat} {v : Int32} (q : intAt Ls k = some v) : Ls[k]? = some (.val (.int v)) := by
  unfold intAt at q; split at q
  · rename_i u; cases q; exact u
  · cases q
theorem longAt_ok {k : Nat} {v : Int64} (q : longAt Ls k = some v) : Ls[k]? = some (.val (.long v)) := by
  unfold longAt at q; split at q
  · rename_i u; cases q; exact u
  · cases q
theorem refAt_ok {k : Nat} {v : Value} (q : refAt Ls k = some v) : Ls[k]? = some (.val v) ∧ v.isRef = true := by
  unfold refAt at q; split at q
  · rename_i u; cases q; exact ⟨u, rfl⟩
  · rename_i u; cases q; exact ⟨u, rfl⟩
  · cases q
def sem1 (i : Instr) (n pc : Nat) (Ls : Array Slot) (st : List Value) : Option (Nat × Array Slot × List Value) :=
  match i, n, st with
  | .aconst_null, 1, st => some (pc + 1, Ls, .null :: st)
  | .iconst z, 1, st => some (pc + 1, Ls, .int (Int32.ofInt z) :: st)
  | .bipush z, 2, st => some (pc + 2, Ls, .int (Int8.ofInt z).toInt32 :: st)
  | .sipush z, 3, st => some (pc + 3, Ls, .int (Int16.ofInt z).toInt32 :: st)
  | .iload k, 2, st => (intAt Ls k).map fun v => (pc + 2, Ls, .int v :: st)
  | .iload_n k, 1, st => (intAt Ls k.val).map fun v => (pc + 1, Ls, .int v :: st)
  | .lload k, 2, st => (longAt Ls k).map fun v => (pc + 2, Ls, .long v :: st)
  | .lload_n k, 1, st => (longAt Ls k.val).map fun v => (pc + 1, Ls, .long v :: st)
  | .aload k, 2, st => (refAt Ls k).map fun v => (pc + 2, Ls, v :: st)
  | .aload_n k, 1, st => (refAt Ls k.val).map fun v => (pc + 1, Ls, v :: st)
  | .istore k, 2, .int x :: st => (storeLocals Ls k (.int x)).map fun l => (pc + 2, l, st)
  | .istore_n k, 1, .int x :: st => (storeLocals Ls k.val (.int x)).map fun l => (pc + 1, l, st)
  | .astore k, 2, .ref x :: st => (storeLocals Ls k (.ref x)).map fun l => (pc + 2, l, st)
  | .astore k, 2, .null :: st => (storeLocals Ls k .null).map fun l => (pc + 2, l, st)
  | .astore_n k, 1, .ref x :: st => (storeLocals Ls k.val (.ref x)).map fun l => (pc + 1, l, st)
  | .astore_n k, 1, .null :: st => (storeLocals Ls k.val .null).map fun l => (pc + 1, l, st)
  | .pop, 1, x :: st => if x.category = 1 then some (pc + 1, Ls, st) else none
  | .dup, 1, x :: st => if x.category = 1 then some (pc + 1, Ls, x :: x :: st) else none
  | .dup_x1, 1, x :: y :: st => if x.category = 1 then (if y.category = 1 then some (pc + 1, Ls, x :: y :: x :: st) else none) else none
  | .iadd, 1, .int y :: .int x :: st => some (pc + 1, Ls, .int (x + y) :: st)
  | .isub, 1, .int y :: .int x :: st => some (pc + 1, Ls, .int (x - y) :: st)
  | .imul, 1, .int y :: .int x :: st => some (pc + 1, Ls, .int (x * y) :: st)
  | .iand, 1, .int y :: .int x :: st => some (pc + 1, Ls, .int (x &&& y) :: st)
  | .ior, 1, .int y :: .int x :: st => some (pc + 1, Ls, .int (x ||| y) :: st)
  | .ixor, 1, .int y :: .int x :: st => some (pc + 1, Ls, .int (x ^^^ y) :: st)
  | .ishl, 1, .int y :: .int x :: st => some (pc + 1, Ls, .int (x <<< (y &&& 31)) :: st)
  | .ishr, 1, .int y :: .int x :: st => some (pc + 1, Ls, .int (x >>> (y &&& 31)) :: st)
  | .iushr, 1, .int y :: .int x :: st => some (pc + 1, Ls, .int (XT.ushr x y) :: st)
  | .lushr, 1, .int y :: .long x :: st => some (pc + 1, Ls, .long (XT.ushrL x y) :: st)
  | .i2l, 1, .int x :: st => some (pc + 1, Ls, .long x.toInt64 :: st)
  | .l2i, 1, .long x :: st => some (pc + 1, Ls, .int x.toInt32 :: st)
  | .i2b, 1, .int x :: st => some (pc + 1, Ls, .int x.toInt8.toInt32 :: st)
  | .i2c, 1, .int x :: st => some (pc + 1, Ls, .int x.toUInt32.toUInt16.toUInt32.toInt32 :: st)
  | .lcmp, 1, .long y :: .long x :: st => some (pc + 1, Ls, .int (XT.cmpL x y) :: st)
  | .iinc k z, 3, st => (intAt Ls k).bind fun x => (storeLocals Ls k (.int (x + Int32.ofInt z))).map fun l => (pc + 3, l, st)
  | .goto o, 3, st => if 0 ≤ (pc : Int) + o then some (((pc : Int) + o).toNat, Ls, st) else none
  | _, _, _ => none
theorem sem1_ok {tb : Tables} [Ours tb] {e : Env} {below : List Frame} {T target : State} {m : MethodId} {c : Code} (h : At T m c below) (hx : tb.exec = Jvm.exec) {i : Instr} {n : Nat} {f : Nat × Array Slot × List Value}
    (hd : decode c.code pc = .ok (i, n)) (hs : sem1 i n pc Ls st = some f) (hr : Steps tb e below (T.setTop (mkF m f.1 f.2.1 f.2.2)) target) : Steps tb e below (T.setTop (mkF m pc Ls st)) target := by
  unfold sem1 at hs
  split at hs
  · cases hs; exact XS.aconstNull h hx rfl hd hr
  · cases hs; exact XS.iconst h hx rfl hd hr
  · cases hs; exact XS.bipush h hx rfl hd hr
  · cases hs; exact XS.sipush h hx rfl hd hr
  · obtain ⟨v, q, rfl⟩ := Option.map_eq_some_iff.mp hs; exact XS.iload h hx rfl hd (intAt_ok q) hr
  · obtain ⟨v, q, rfl⟩ := Option.map_eq_some_iff.mp hs; exact XS.iloadN h hx rfl hd (intAt_ok q) hr
  · obtain ⟨v, q, rfl⟩ := Option.map_eq_some_iff.mp hs; exact XT.lload h hx rfl hd (longAt_ok q) hr
  · obtain ⟨v, q, rfl⟩ := Option.map_eq_some_iff.mp hs; exact XT.lloadN h hx rfl hd (longAt_ok q) hr
  · obtain ⟨v, q, rfl⟩ := Option.map_eq_some_iff.mp hs; exact XS.aload h hx rfl hd (refAt_ok q).1 (refAt_ok q).2 hr
  · obtain ⟨v, q, rfl⟩ := Option.map_eq_some_iff.mp hs; exact XS.aloadN h hx rfl hd (refAt_ok q).1 (refAt_ok q).2 hr
  · obtain ⟨v, q, rfl⟩ := Option.map_eq_some_iff.mp hs; exact XS.istore h hx rfl hd rfl q hr
  · obtain ⟨v, q, rfl⟩ := Option.map_eq_some_iff.mp hs; exact XS.istoreN h hx rfl hd rfl q hr
  · obtain ⟨v, q, rfl⟩ := Option.map_eq_some_iff.mp hs; exact XS.astore h hx rfl hd rfl rfl q hr
  · obtain ⟨v, q, rfl⟩ := Option.map_eq_some_iff.mp hs; exact XS.astore h hx rfl hd rfl rfl q hr
  · obtain ⟨v, q, rfl⟩ := Option.map_eq_some_iff.mp hs; exact XS.astoreN h hx rfl hd rfl rfl q hr
  · obtain ⟨v, q, rfl⟩ := Option.map_eq_some_iff.mp hs; exact XS.astoreN h hx rfl hd rfl rfl q hr
  · split at hs
    · rename_i q; cases hs; exact XT.pop h hx rfl hd rfl q hr
    · cases hs
  · split at hs
    · rename_i q; cases hs; exact XS.dup h hx rfl hd rfl q hr
    · cases hs
  · split at hs
    · rename_i q
      split at hs
      · rename_i q'; cases hs; exact XT.dupX1 h hx rfl hd rfl q q' hr
      · cases hs
    · cases hs
  · cases hs; exact XS.iadd h hx rfl hd rfl hr
  · cases hs; exact XS.isub h hx rfl hd rfl hr
  · cases hs; exact XS.imul h hx rfl hd rfl hr
  · cases hs; exact XS.iand h hx rfl hd rfl hr
  · cases hs; exact XT.ior h hx rfl hd rfl hr
  · cases hs; exact XT.ixor h hx rfl hd rfl hr
  · cases hs; exact XT.ishl h hx rfl hd rfl hr
  · cases hs; exact XT.ishr h hx rfl hd rfl hr
  · cases hs; exact XT.iushr h hx rfl hd rfl hr
  · cases hs; exact XT.lushr h hx rfl hd rfl hr
  · cases hs; exact XT.i2l h hx rfl hd rfl hr
  · cases hs; exact XT.l2i h hx rfl hd rfl hr
  · cases hs; exact XT.i2b h hx rfl hd rfl hr
  · cases hs; exact XT.i2c h hx rfl hd rfl hr
  · cases hs; exact XT.lcmp h hx rfl hd rfl hr
  · obtain ⟨x, q, hs⟩ := Option.bind_eq_some_iff.mp hs
    obtain ⟨v, q', rfl⟩ := Option.map_eq_some_iff.mp hs; exact XS.iinc h hx rfl hd (intAt_ok q) q' hr
  · split at hs
    · rename_i q; cases hs; exact XS.goto h hx rfl (pc0 := pc) rfl hd q rfl hr
    · cases hs
  · cases hs
def runs : Nat → List (Nat × Instr × Nat) → Nat × Array Slot × List Value → Option (Nat × Array Slot × List Value)
  | 0, _, f => some f
  | _ + 1, [], _ => none
  | n + 1, q :: P, f => if q.1 = f.1 then (sem1 q.2.1 q.2.2 f.1 f.2.1 f.2.2).bind fun f' => runs n P f' else none
theorem runs_ok {tb : Tables} [Ours tb] {e : Env} {below : List Frame} {T target : State} {m : MethodId} {c : Code} (h : At T m c below) (hx : tb.exec = Jvm.exec) : ∀ (n : Nat) (P : List (Nat × Instr × Nat)) (f f' : Nat × Array Slot × List Value),
    (∀ q ∈ P, decode c.code q.1 = .ok q.2) → runs n P f = some f' → Steps tb e below (T.setTop (mkF m f'.1 f'.2.1 f'.2.2)) target → Steps tb e below (T.setTop (mkF m f.1 f.2.1 f.2.2)) target
  | 0, _, f, f', _, hs, hr => by cases hs; exact hr
  | _ + 1, [], _, _, _, hs, _ => by cases hs
  | n + 1, q :: P, f, f', hP, hs, hr => by
    simp only [runs] at hs
    split at hs
    · rename_i u
      obtain ⟨g, q1, q2⟩ := Option.bind_eq_some_iff.mp hs
      exact sem1_ok h hx (by rw [← u]; exact hP q (List.mem_cons_self ..)) q1 (runs_ok h hx n P g f' (fun z hz => hP z (List.mem_cons_of_mem _ hz)) q2 hr)
    · cases hs
theorem go_run (K : Kd G B M) (k n : Nat) {pc' : Nat} {Ls' : Array Slot} {st' : List Value} (hr : runs n (M.P.drop k) (pc, Ls, st) = some (pc', Ls', st')) (g : Go G B M Q h sf cells slots pc' Ls' st') : Go G B M Q h sf cells slots pc Ls st := by
  intro T vm0 k0 locs W
  exact (g T vm0 k0 locs W).pre fun target q => runs_ok W.1.here K.1 n _ (pc, Ls, st) (pc', Ls', st') (fun z hz => K.2.1 z (List.mem_of_mem_drop hz)) hr q
/-! ### branches -/
theorem go_if2 (K : Kd G B M) {k : Nat} {cd : ClassFile.Cond} {o : Int} {x : Int32} (hd : M.P[k]? = some (pc, .ifCond cd o, 3)) {pc' : Nat} (ho : 0 ≤ (pc : Int) + o ∧ ((pc : Int) + o).toNat = pc') {A : Prop} [Decidable A] (hA : A → ifCond.holds cd x = true) (hN : ¬ A → ifCond.holds cd x = false)
    (gT : A → Go G B M Q h sf cells slots pc' Ls st) (gF : ¬ A → Go G B M Q h sf cells slots (pc + 3) Ls st) : Go G B M Q h sf cells slots pc Ls (.int x :: st) := by
  intro T vm0 k0 locs W
  by_cases a : A
  · exact (gT a T vm0 k0 locs W).pre fun target hr => XS.ifYes W.1.here K.1 rfl (pc0 := pc) (pc' := pc') rfl (K.dec hd) rfl (hA a) ho.1 ho.2 hr
  · exact (gF a T vm0 k0 locs W).pre fun target hr => XS.ifNo W.1.here K.1 rfl (K.dec hd) rfl (hN a) hr
theorem go_icmp2 (K : Kd G B M) {k : Nat} {cd : ClassFile.Cond} {o : Int} {x y : Int32} (hd : M.P[k]? = some (pc, .if_icmp cd o, 3)) {pc' : Nat} (ho : 0 ≤ (pc : Int) + o ∧ ((pc : Int) + o).toNat = pc') {A : Prop} [Decidable A] (hA : A → if_icmp.holds cd x y = true) (hN : ¬ A → if_icmp.holds cd x y = false)
    (gT : A → Go G B M Q h sf cells slots pc' Ls st) (gF : ¬ A → Go G B M Q h sf cells slots (pc + 3) Ls st) : Go G B M Q h sf cells slots pc Ls (.int y :: .int x :: st) := by
  intro T vm0 k0 locs W
  by_cases a : A
  · exact (gT a T vm0 k0 locs W).pre fun target hr => XS.icmpYes W.1.here K.1 rfl (pc0 := pc) (pc' := pc') rfl (K.dec hd) rfl (hA a) ho.1 ho.2 hr
  · exact (gF a T vm0 k0 locs W).pre fun target hr => XS.icmpNo W.1.here K.1 rfl (K.dec hd) rfl (hN a) hr
theorem go_ifeq (K : Kd G B M) {k : Nat} {o : Int} {x : Int32} (hd : M.P[k]? = some (pc, .ifCond .eq o, 3)) {pc' : Nat} (ho : 0 ≤ (pc : Int) + o ∧ ((pc : Int) + o).toNat = pc') (gT : x = 0 → Go G B M Q h sf cells slots pc' Ls st) (gF : ¬ x = 0 → Go G B M Q h sf cells slots (pc + 3) Ls st) : Go G B M Q h sf cells slots pc Ls (.int x :: st) :=
  go_if2 K hd ho (fun q => by rw [if0]; exact (teq q).1) (fun q => by rw [if0]; exact (feq q).1) gT gF
theorem go_ifne (K : Kd G B M) {k : Nat} {o : Int} {x : Int32} (hd : M.P[k]? = some (pc, .ifCond .ne o, 3)) {pc' : Nat} (ho : 0 ≤ (pc : Int) + o ∧ ((pc : Int) + o).toNat = pc') (gT : ¬ x = 0 → Go G B M Q h sf cells slots pc' Ls st) (gF : x = 0 → Go G B M Q h sf cells slots (pc + 3) Ls st) : Go G B M Q h sf cells slots pc Ls (.int x :: st) :=
  go_if2 K hd ho (A := ¬ x = 0) (fun q => by rw [if0]; exact (feq q).2) (fun q => by rw [if0]; exact (teq (Decidable.not_not.mp q)).2) gT (fun q => gF (Decidable.not_not.mp q))
theorem go_iflt (K : Kd G B M) {k : Nat} {o : Int} {x : Int32} (hd : M.P[k]? = some (pc, .ifCond .lt o, 3)) {pc' : Nat} (ho : 0 ≤ (pc : Int) + o ∧ ((pc : Int) + o).toNat = pc') (gT : x < 0 → Go G B M Q h sf cells slots pc' Ls st) (gF : ¬ x < 0 → Go G B M Q h sf cells slots (pc + 3) Ls st) : Go G B M Q h sf cells slots pc Ls (.int x :: st) :=
  go_if2 K hd ho (fun q => by rw [if0]; exact (tlt q).1) (fun q => by rw [if0]; exact (flt q).1) gT gF
theorem go_ifge (K : Kd G B M) {k : Nat} {o : Int} {x : Int32} (hd : M.P[k]? = some (pc, .ifCond .ge o, 3)) {pc' : Nat} (ho : 0 ≤ (pc : Int) + o ∧ ((pc : Int) + o).toNat = pc') (gT : ¬ x < 0 → Go G B M Q h sf cells slots pc' Ls st) (gF : x < 0 → Go G B M Q h sf cells slots (pc + 3) Ls st) : Go G B M Q h sf cells slots pc Ls (.int x :: st) :=
  go_if2 K hd ho (A := ¬ x < 0) (fun q => by rw [if0]; exact (flt q).2.1) (fun q => by rw [if0]; exact (tlt (Decidable.not_not.mp q)).2.1) gT (fun q => gF (Decidable.not_not.mp q))
theorem go_ifgt (K : Kd G B M) {k : Nat} {o : Int} {x : Int32} (hd : M.P[k]? = some (pc, .ifCond .gt o, 3)) {pc' : Nat} (ho : 0 ≤ (pc : Int) + o ∧ ((pc : Int) + o).toNat = pc') (gT : 0 < x → Go G B M Q h sf cells slots pc' Ls st) (gF : ¬ 0 < x → Go G B M Q h sf cells slots (pc + 3) Ls st) : Go G B M Q h sf cells slots pc Ls (.int x :: st) :=
  go_if2 K hd ho (fun q => by rw [if0]; exact (tlt q).2.2.1) (fun q => by rw [if0]; exact (flt q).2.2.1) gT gF
theorem go_ifle (K : Kd G B M) {k : Nat} {o : Int} {x : Int32} (hd : M.P[k]? = some (pc, .ifCond .le o, 3)) {pc' : Nat} (ho : 0 ≤ (pc : Int) + o ∧ ((pc : Int) + o).toNat = pc') (gT : ¬ 0 < x → Go G B M Q h sf cells slots pc' Ls st) (gF : 0 < x → Go G B M Q h sf cells slots (pc + 3) Ls st) : Go G B M Q h sf cells slots pc Ls (.int x :: st) :=
  go_if2 K hd ho (A := ¬ 0 < x) (fun q => by rw [if0]; exact (flt q).2.2.2) (fun q => by rw [if0]; exact (tlt (Decidable.not_not.mp q)).2.2.2) gT (fun q => gF (Decidable.not_not.mp q))
theorem go_icmpeq (K : Kd G B M) {k : Nat} {o : Int} {x y : Int32} (hd : M.P[k]? = some (pc, .if_icmp .eq o, 3)) {pc' : Nat} (ho : 0 ≤ (pc : Int) + o ∧ ((pc : Int) + o).toNat = pc') (gT : x = y → Go G B M Q h sf cells slots pc' Ls st) (gF : ¬ x = y → Go G B M Q h sf cells slots (pc + 3) Ls st) : Go G B M Q h sf cells slots pc Ls (.int y :: .int x :: st) :=
  go_icmp2 K hd ho (fun q => (teq q).1) (fun q => (feq q).1) gT gF
theorem go_icmpne (K : Kd G B M) {k : Nat} {o : Int} {x y : Int32} (hd : M.P[k]? = some (pc, .if_icmp .ne o, 3)) {pc' : Nat} (ho : 0 ≤ (pc : Int) + o ∧ ((pc : Int) + o).toNat = pc') (gT : ¬ x = y → Go G B M Q h sf cells slots pc' Ls st) (gF : x = y → Go G B M Q h sf cells slots (pc + 3) Ls st) : Go G B M Q h sf cells slots pc Ls (.int y :: .int x :: st) :=
  go_icmp2 K hd ho (A := ¬ x = y) (fun q => (feq q).2) (fun q => (teq (Decidable.not_not.mp q)).2) gT (fun q => gF (Decidable.not_not.mp q))
theorem go_icmplt (K : Kd G B M) {k : Nat} {o : Int} {x y : Int32} (hd : M.P[k]? = some (pc, .if_icmp .lt o, 3)) {pc' : Nat} (ho : 0 ≤ (pc : Int) + o ∧ ((pc : Int) + o).toNat = pc') (gT : x < y → Go G B M Q h sf cells slots pc' Ls st) (gF : ¬ x < y → Go G B M Q h sf cells slots (pc + 3) Ls st) : Go G B M Q h sf cells slots pc Ls (.int y :: .int x :: st) :=
  go_icmp2 K hd ho (fun q => (tlt q).1) (fun q => (flt q).1) gT gF
theorem go_icmpge (K : Kd G B M) {k : Nat} {o : Int} {x y : Int32} (hd : M.P[k]? = some (pc, .if_icmp .ge o, 3)) {pc' : Nat} (ho : 0 ≤ (pc : Int) + o ∧ ((pc : Int) + o).toNat = pc') (gT : ¬ x < y → Go G B M Q h sf cells slots pc' Ls st) (gF : x < y → Go G B M Q h sf cells slots (pc + 3) Ls st) : Go G B M Q h sf cells slots pc Ls (.int y :: .int x :: st) :=
  go_icmp2 K hd ho (A := ¬ x < y) (fun q => (flt q).2.1) (fun q => (tlt (Decidable.not_not.mp q)).2.1) gT (fun q => gF (Decidable.not_not.mp q))
theorem go_icmpgt (K : Kd G B M) {k : Nat} {o : Int} {x y : Int32} (hd : M.P[k]? = some (pc, .if_icmp .gt o, 3)) {pc' : Nat} (ho : 0 ≤ (pc : Int) + o ∧ ((pc : Int) + o).toNat = pc') (gT : y < x → Go G B M Q h sf cells slots pc' Ls st) (gF : ¬ y < x → Go G B M Q h sf cells slots (pc + 3) Ls st) : Go G B M Q h sf cells slots pc Ls (.int y :: .int x :: st) :=
  go_icmp2 K hd ho (fun q => (tlt q).2.2.1) (fun q => (flt q).2.2.1) gT gF
theorem go_icmple (K : Kd G B M) {k : Nat} {o : Int} {x y : Int32} (hd : M.P[k]? = some (pc, .if_icmp .le o, 3)) {pc' : Nat} (ho : 0 ≤ (pc : Int) + o ∧ ((pc : Int) + o).toNat = pc') (gT : ¬ y < x → Go G B M Q h sf cells slots pc' Ls st) (gF : y < x → Go G B M Q h sf cells slots (pc + 3) Ls st) : Go G B M Q h sf cells slots pc Ls (.int y :: .int x :: st) :=
  go_icmp2 K hd ho (A := ¬ y < x) (fun q => (flt q).2.2.2) (fun q => (tlt (Decidable.not_not.mp q)).2.2.2) gT (fun q => gF (Decidable.not_not.mp q))
theorem go_ifnullY (K : Kd G B M) {k : Nat} {o : Int} (hd : M.P[k]? = some (pc, .ifnull o, 3)) {pc' : Nat} (ho : 0 ≤ (pc : Int) + o ∧ ((pc : Int) + o).toNat = pc') (g : Go G B M Q h sf cells slots pc' Ls st) : Go G B M Q h sf cells slots pc Ls (.null :: st) := by
  intro T vm0 k0 locs W
  exact (g T vm0 k0 locs W).pre fun target hr => XS.ifnullYes W.1.here K.1 rfl (pc0 := pc) (pc' := pc') rfl (K.dec hd) rfl ho.1 ho.2 hr
theorem go_ifnullN (K : Kd G B M) {k : Nat} {o : Int} {a : Addr} (hd : M.P[k]? = some (pc, .ifnull o, 3)) (g : Go G B M Q h sf cells slots (pc + 3) Ls st) : Go G B M Q h sf cells slots pc Ls (.ref a :: st) := by
  intro T vm0 k0 locs W
  exact (g T vm0 k0 locs W).pre fun target hr => XS.ifnullNo W.1.here K.1 rfl (K.dec hd) rfl hr
theorem go_ifnonY (K : Kd G B M) {k : Nat} {o : Int} {a : Addr} (hd : M.P[k]? = some (pc, .ifnonnull o, 3)) {pc' : Nat} (ho : 0 ≤ (pc : Int) + o ∧ ((pc : Int) + o).toNat = pc') (g : Go G B M Q h sf cells slots pc' Ls st) : Go G B M Q h sf cells slots pc Ls (.ref a :: st) := by
  intro T vm0 k0 locs W
  exact (g T vm0 k0 locs W).pre fun target hr => XT.ifnonnullYes W.1.here K.1 rfl (pc0 := pc) (pc' := pc') rfl (K.dec hd) rfl ho.1 ho.2 hr
theorem go_ifnonN (K : Kd G B M) {k : Nat} {o : Int} (hd : M.P[k]? = some (pc, .ifnonnull o, 3)) (g : Go G B M Q h sf cells slots (pc + 3) Ls st) : Go G B M Q h sf cells slots pc Ls (.null :: st) := by
  intro T vm0 k0 locs W
  exact (g T vm0 k0 locs W).pre fun target hr => XT.ifnonnullNo W.1.here K.1 rfl (K.dec hd) rfl hr
theorem go_acmp (K : Kd G B M) {k : Nat} {cd : ACond} {o : Int} {x y : Value} (hd : M.P[k]? = some (pc, .if_acmp cd o, 3)) (h1 : x.isRef = true) (h2 : y.isRef = true) {same : Bool} (hq : decide (x = y) = same) {pc' : Nat} (ho : 0 ≤ (pc : Int) + o) (hp : pc' = if acV cd same = true then ((pc : Int) + o).toNat else pc + 3)
    (g : Go G B M Q h sf cells slots pc' Ls st) : Go G B M Q h sf cells slots pc Ls (y :: x :: st) := by
  intro T vm0 k0 locs W
  exact (g T vm0 k0 locs W).pre fun target hr => RoadKit.acmp W.1 K.1 rfl h1 h2 (pc0 := pc) rfl (K.dec hd) rfl hq ho hp hr
theorem go_irem (K : Kd G B M) {k : Nat} {x y : Int32} (hd : M.P[k]? = some (pc, .irem, 1)) (hy : y ≠ 0) (g : Go G B M Q h sf cells slots (pc + 1) Ls (.int (x % y) :: st)) : Go G B M Q h sf cells slots pc Ls (.int y :: .int x :: st) := by
  intro T vm0 k0 locs W
  exact (g T vm0 k0 locs W).pre fun target hr => iremM W.1 K.1 rfl (K.dec hd) rfl hy hr
/-! ### the end -/
theorem go_leave (K : Kd G B M) {v : Option Value} (hv : M.ret = none → v = none) (q : ∀ Sf : Addr → Prop, (∀ x ∈ sf, Sf x) → Q v h Sf)
    (rt : ∀ (T : State) (vm0 : Vm) (locs : List Loc) (fs : List Frame), Stand B.p G.l B.e M.R (B.s.setVm vm0) B.m B.as B.bl B.mt B.c T locs cells slots →
      (∀ (f : JFrame) (acts : List Action), f.method = B.m → f.locked = none → f.entered = [] → (doReturn B.e (T.setTop f) acts v).1 = T.setFrames fs) → Steps B.p.tables B.e B.bl (T.setTop (mkF B.m pc Ls st)) (T.setFrames fs))
    (hc : cells ≤ M.R.cells) (hs : slots ≤ M.R.slots) : Go G B M Q h sf cells slots pc Ls st := by
  intro T vm0 k0 locs W
  obtain ⟨X, eT, hS, hk, hZ, hown, hF, hE, hC, hs0⟩ := W
  obtain ⟨fs, hr, hrun, hend, hW⟩ := X.leaveW hS (by rw [eT]; exact hk) (v := v) (fun z => hv (by rw [← K.2.2.2.1]; exact z)) K.2.2.2.2.1
  obtain ⟨w1, w2, w3, w4⟩ := hW
  have A := CHv.at X hZ K.2.2.2.2.2.2 hC.1
  refine ⟨_, v, locs, rt T vm0 locs fs X hr, hrun, hend, ?_, hF, ?_, ?_, w1, w2, w3, w4.mono hc hs⟩
  · show Q v T.heap (fun x => Safe G.Z G.EL T.vm T.heap x ∧ x < T.heap.size)
    rw [eT]
    exact q _ fun x hx => ⟨A.safe (hs0 x hx).2 (hs0 x hx).1, (hs0 x hx).2⟩
  · show Ext G.Z.heap T.heap
    rw [eT]; exact hE
  · show CHr G.Z G.EL B.s.vm B.s.heap T.vm T.heap
    rw [eT]; exact hC.trans A
theorem go_return (K : Kd G B M) {k : Nat} (hd : M.P[k]? = some (pc, .return_, 1)) (hr : M.ret = none) (hc : Nat.ble cells M.R.cells = true) (hs : Nat.ble slots M.R.slots = true) (q : ∀ Sf : Addr → Prop, (∀ x ∈ sf, Sf x) → Q none h Sf) : Go G B M Q h sf cells slots pc Ls [] :=
  go_leave K (fun _ => rfl) q (fun T vm0 locs fs X hl => X.returnOut K.1 (K.2.2.2.1.trans hr) (K.dec hd) hl) (Nat.le_of_ble_eq_true hc) (Nat.le_of_ble_eq_true hs)
theorem go_ret (K : Kd G B M) {k : Nat} {i : Instr} {t : FieldType} {w : Value} (hd : M.P[k]? = some (pc, i, 1)) (hr : M.ret = some t) (hn : narrow t w = w)
    (hi : (i = .ireturn ∧ (t = .int ∨ t = .boolean ∨ t = .byte ∨ t = .char ∨ t = .short) ∧ ∃ z, w = .int z) ∨ (i = .lreturn ∧ t = .long ∧ ∃ z, w = .long z) ∨ (i = .dreturn ∧ t = .double ∧ ∃ z, w = .double z) ∨ (i = .freturn ∧ t = .float ∧ ∃ z, w = .float z) ∨ (i = .areturn ∧ t.isReference = true ∧ w.isRef = true))
    (hc : Nat.ble cells M.R.cells = true) (hs : Nat.ble slots M.R.slots = true) (q : ∀ Sf : Addr → Prop, (∀ x ∈ sf, Sf x) → Q (some w) h Sf) : Go G B M Q h sf cells slots pc Ls (w :: st) :=
  go_leave K (fun z => by rw [hr] at z; cases z) q (fun T vm0 locs fs X hl => retOut X K.1 (K.2.2.2.1.trans hr) hn hi (K.dec hd) hl) (Nat.le_of_ble_eq_true hc) (Nat.le_of_ble_eq_true hs)
theorem go_ireturn (K : Kd G B M) {k : Nat} {t : FieldType} {z : Int32} (hd : M.P[k]? = some (pc, .ireturn, 1)) (hr : M.ret = some t) (ht : t = .int ∨ t = .boolean ∨ t = .byte ∨ t = .char ∨ t = .short) (hn : narrow t (.int z) = .int z) (hc : Nat.ble cells M.R.cells = true) (hs : Nat.ble slots M.R.slots = true) (q : ∀ Sf : Addr → Prop, (∀ x ∈ sf, Sf x) → Q (some (.int z)) h Sf) : Go G B M Q h sf cells slots pc Ls (.int z :: st) :=
  go_ret K hd hr hn (Or.inl ⟨rfl, ht, z, rfl⟩) hc hs q
theorem go_areturn (K : Kd G B M) {k : Nat} {t : FieldType} {w : Value} (hd : M.P[k]? = some (pc, .areturn, 1)) (hr : M.ret = some t) (ht : t.isReference = true) (hw : w.isRef = true) (hn : narrow t w = w) (hc : Nat.ble cells M.R.cells = true) (hs : Nat.ble slots M.R.slots = true) (q : ∀ Sf : Addr → Prop, (∀ x ∈ sf, Sf x) → Q (some w) h Sf) : Go G B M Q h sf cells slots pc Ls (w :: st) :=
  go_ret K hd hr hn (Or.inr (Or.inr (Or.inr (Or.inr ⟨rfl, ht, hw⟩)))) hc hs q
theorem go_lreturn (K : Kd G B M) {k : Nat} {z : Int64} (hd : M.P[k]? = some (pc, .lreturn, 1)) (hr : M.ret = some .long) (hc : Nat.ble cells M.R.cells = true) (hs : Nat.ble slots M.R.slots = true) (q : ∀ Sf : Addr → Prop, (∀ x ∈ sf, Sf x) → Q (some (.long z)) h Sf) : Go G B M Q h sf cells slots pc Ls (.long z :: st) :=
  go_ret K hd hr rfl (Or.inr (Or.inl ⟨rfl, rfl, z, rfl⟩)) hc hs q
end Base
end Jvm.OwnW
namespace Jvm.OwnW
open Sem ClassFile Op Lib Bundle Jvm.Stand Jvm.Free Jvm.LawKit Jvm.RoadKit
section Heap
variable {G : Gb} {B : Cx} {M : Mt} {R : Room} {Q : Option Value → Heap → (Addr → Prop) → Prop} {h : Heap} {sf : List Addr} {cells slots pc : Nat} {Ls : Array Slot} {st : List Value}
theorem go_getfield (K : Kd G B M) {k ix : Nat} {R0 O n d host : String} {a : Addr} {v : Value} (hd : M.P[k]? = some (pc, .getfield ix, 3)) (w : Wd G (.fieldLink M.own ix R0 n d) ∨ Wd G (.fieldLinkNest M.own ix R0 n d host)) (via : Via G.Z R0 O n d) (F : Fld G.Z h a O n d v)
    (g : Go G B M Q h sf cells slots (pc + 3) Ls (v :: st)) : Go G B M Q h sf cells slots pc Ls (.ref a :: st) := by
  intro T vm0 k0 locs W
  obtain ⟨X, eT, hS, hk, hZ, hown, hF, hE, hC, hs⟩ := W
  obtain ⟨T', X', e', st'⟩ := RoadKit.getF X K.1 hZ hown w via eT F (g := mkF B.m pc Ls (.ref a :: st)) rfl rfl (K.dec hd)
  exact (g T' vm0 k0 locs ⟨X', e', hS, hk, hZ, hown, hF, hE, hC, hs⟩).pre st'
theorem go_getstatic (K : Kd G B M) {k ix : Nat} {R0 O n d host : String} {v : Value} (hd : M.P[k]? = some (pc, .getstatic ix, 3)) (w : Wd G (.fieldLink M.own ix R0 n d) ∨ Wd G (.fieldLinkNest M.own ix R0 n d host)) (via : Via G.Z R0 O n d) (F : Sta G.Z G.Z.heap O n d v)
    (g : Go G B M Q h sf cells slots (pc + 3) Ls (v :: st)) : Go G B M Q h sf cells slots pc Ls st := by
  intro T vm0 k0 locs W
  obtain ⟨X, eT, hS, hk, hZ, hown, hF, hE, hC, hs⟩ := W
  obtain ⟨T', X', e', st'⟩ := getS2 X K.1 hZ hown w via eT (F.ext hE) (g := mkF B.m pc Ls st) rfl (K.dec hd)
  exact (g T' vm0 k0 locs ⟨X', e', hS, hk, hZ, hown, hF, hE, hC, hs⟩).pre st'
theorem go_new (K : Kd G B M) {k ix n : Nat} {C : String} (hd : M.P[k]? = some (pc, .new ix, 3)) (w : Wd G (.classLink M.own ix C)) (wi : Wd G (.instantiable C n)) (wz : Wd G (.initialized C)) (hc : Nat.ble (cells + 1) M.R.cells = true) (hl : Nat.ble (slots + n) M.R.slots = true)
    (g : ∀ (h' : Heap) (a : Addr), a = h.size → G.Z.heap.size ≤ a → Ext h h' → Exa G.Z h' a C → (∀ {O nm d : String} {ty : FieldType}, Laid G.Z G.a0 C O nm d → parseFieldDescriptor d = some ty → Fld G.Z h' a O nm d (defaultValue ty)) → Go G B M Q h' (a :: sf) (cells + 1) (slots + n) (pc + 3) Ls (.ref a :: st)) : Go G B M Q h sf cells slots pc Ls st := by
  intro T vm0 k0 locs W
  obtain ⟨X, eT, hS, hk, hZ, hown, hF, hE, hC, hs⟩ := W
  obtain ⟨T', h', X', e', E', A', D', -, st'⟩ := newO X K.1 hZ hown w wi wz eT (g := mkF B.m pc Ls st) rfl (K.dec hd) (Nat.le_of_ble_eq_true hc) (Nat.le_of_ble_eq_true hl)
  refine (g h' h.size rfl hE.1 E' A' D' T' vm0 k0 locs ⟨X', e', hS, Nat.le_trans hk E'.1, hZ, hown, hF, ⟨Nat.le_trans hE.1 E'.1, fun x c q => E'.2 x c (hE.2 x c q)⟩, hC.trans (CHr.ext E' hC.1), fun x hx => ?_⟩).pre st'
  rcases List.mem_cons.mp hx with rfl | hx
  · exact ⟨Safe.ext E' hC.1 (Safe.new (Nat.le_refl _)), A'.lt⟩
  · exact ⟨Safe.ext E' hC.1 (hs x hx).1, Nat.lt_of_lt_of_le (hs x hx).2 E'.1⟩
theorem go_wr (K : Kd G B M) {a : Addr} {sl pc' : Nat} {v : Value} {st' : List Value} (ha : G.Z.heap.size ≤ a) (hsf : a ∈ sf ∨ ∀ vm0 : Vm, G.Z.vm.Alike vm0 → Safe G.Z G.EL vm0 h a)
    (law : ∀ (T : State) (vm0 : Vm) (locs : List Loc), Stand B.p G.l B.e M.R (B.s.setVm vm0) B.m B.as B.bl B.mt B.c T locs cells slots → T.heap = h → G.Z.Warmed39 vm0 → vm0.findClass M.own = some B.m.cls →
      ∃ (T' : State) (h' : Heap), Stand B.p G.l B.e M.R (B.s.setVm vm0) B.m B.as B.bl B.mt B.c T' (locs ++ [⟨a, sl⟩]) cells slots ∧ T'.heap = h' ∧ Wr h h' a sl v ∧ ∀ target, Steps B.p.tables B.e B.bl (T'.setTop (mkF B.m pc' Ls st')) target → Steps B.p.tables B.e B.bl (T.setTop (mkF B.m pc Ls st)) target)
    (g : ∀ h' : Heap, Wr h h' a sl v → Go G B M Q h' sf cells slots pc' Ls st') : Go G B M Q h sf cells slots pc Ls st := by
  intro T vm0 k0 locs W
  obtain ⟨X, eT, hS, hk, hZ, hown, hF, hE, hC, hs⟩ := W
  obtain ⟨T', h', X', e', W', st''⟩ := law T vm0 locs X eT hZ hown
  have S : Safe G.Z G.EL vm0 h a := hsf.elim (fun q => (hs a q).1) (fun q => q vm0 hZ.alike)
  exact (g h' W' T' vm0 k0 _ ⟨X', e', hS, by rw [W'.size]; exact hk, hZ, hown, Fr.snoc X' hF ha, (Old.wr (n0 := G.Z.heap.size) ⟨rfl, hE⟩ W' ha).2, hC.trans (CHr.wr W' S hC.1), fun x hx => ⟨Safe.wr W' S hC.1 (hs x hx).1, by rw [W'.size]; exact (hs x hx).2⟩⟩).pre st''
theorem go_putfield (K : Kd G B M) {k ix kk : Nat} {R0 O n d host C : String} {ty : FieldType} {a : Addr} {v old : Value} (hd : M.P[k]? = some (pc, .putfield ix, 3)) (w : Wd G (.fieldLink M.own ix R0 n d) ∨ Wd G (.fieldLinkNest M.own ix R0 n d host)) (via : Via G.Z R0 O n d) (F : Fld G.Z h a O n d old) (E : Exa G.Z h a C)
    (L : Wd G (.lays C O n d) ∨ (Wd G (.laysFinal C O n d) ∧ M.own = O ∧ M.nm = "<init>")) (wi : Wd G (.instantiable C kk)) (hty : parseFieldDescriptor d = some ty) (hn : narrow ty v = v) (hf : fits ty v = true) (ha : G.Z.heap.size ≤ a) (hsf : a ∈ sf ∨ (C ≠ "java/lang/String" ∧ C ≠ "[B"))
    (g : ∀ h' : Heap, Wr h h' a (RoadKit.slotOf G.Z O n d) v → Go G B M Q h' sf cells slots (pc + 3) Ls st) : Go G B M Q h sf cells slots pc Ls (v :: .ref a :: st) :=
  go_wr K ha (hsf.imp id fun q vm0 hal => Safe.exa hal E q.1 q.2) (fun T vm0 locs X eT hZ hown => RoadKit.putF X K.1 hZ hown w via eT F E (L.imp id fun q => ⟨q.1, q.2.1, K.2.2.2.2.2.1.trans q.2.2⟩) wi hty hn hf (g := mkF B.m pc Ls (v :: .ref a :: st)) rfl rfl (K.dec hd)) g
theorem go_newarray (K : Kd G B M) {k cap : Nat} {aty : ArrayType} {n : Int32} (hd : M.P[k]? = some (pc, .newarray aty, 2)) (w : Wd G (.arrayClass (newarray.typeOf aty))) (hn : ¬ n < 0) (hcap : n.toNatClampNeg ≤ cap) (hb : Nat.ble (cap * 8) 536870912 = true) (hc : Nat.ble (cells + 1) M.R.cells = true) (hl : Nat.ble (slots + cap) M.R.slots = true)
    (g : ∀ (h' : Heap) (a : Addr) (kA : ClassId), a = h.size → G.Z.heap.size ≤ a → Ext h h' → Arv G.Z h' a kA (newarray.typeOf aty) n [] (defaultValue (newarray.typeOf aty)) → Go G B M Q h' (a :: sf) (cells + 1) (slots + cap) (pc + 2) Ls (.ref a :: st)) : Go G B M Q h sf cells slots pc Ls (.int n :: st) := by
  intro T vm0 k0 locs W
  obtain ⟨X, eT, hS, hk, hZ, hown, hF, hE, hC, hs⟩ := W
  obtain ⟨T', h', cA, X', e', E', A', st'⟩ := newP X K.1 hZ w eT (g := mkF B.m pc Ls (.int n :: st)) rfl (K.dec hd) rfl hn hcap (Nat.le_of_ble_eq_true hb) (Nat.le_of_ble_eq_true hc) (Nat.le_of_ble_eq_true hl)
  refine (g h' h.size cA rfl hE.1 E' (Arv.new A' hn) T' vm0 k0 locs ⟨X', e', hS, Nat.le_trans hk E'.1, hZ, hown, hF, ⟨Nat.le_trans hE.1 E'.1, fun x c q => E'.2 x c (hE.2 x c q)⟩, hC.trans (CHr.ext E' hC.1), fun x hx => ?_⟩).pre st'
  rcases List.mem_cons.mp hx with rfl | hx
  · exact ⟨Safe.ext E' hC.1 (Safe.new (Nat.le_refl _)), A'.lt⟩
  · exact ⟨Safe.ext E' hC.1 (hs x hx).1, Nat.lt_of_lt_of_le (hs x hx).2 E'.1⟩
theorem go_castore (K : Kd G B M) {k i : Nat} {a : Addr} {kA : ClassId} {z j x : Int32} {vs : List Value} {dv : Value} (hd : M.P[k]? = some (pc, .castore, 1)) (A : Arv G.Z h a kA .char z vs dv) (hj : ¬ j < 0 ∧ j < z) (hi : j.toNatClampNeg = i) (hl : i < vs.length) (ha : G.Z.heap.size ≤ a)
    (g : ∀ h' : Heap, Wr h h' a j.toNatClampNeg (.int (nar .char x)) → Arv G.Z h' a kA .char z (vs.set i (.int (nar .char x))) dv → Go G B M Q h' sf cells slots (pc + 1) Ls st) : Go G B M Q h sf cells slots pc Ls (.int x :: .int j :: .ref a :: st) := by
  obtain ⟨c, A1, q1, S, q3, H, Gf⟩ := A
  exact go_wr K ha (Or.inr fun vm0 hal => Safe.arr hal A1 (by decide)) (fun T vm0 locs X eT hZ hown => stC X K.1 hZ eT A1 (inb_of S hj) (g := mkF B.m pc Ls (.int x :: .int j :: .ref a :: st)) rfl rfl (K.dec hd)) fun h' W => g h' W (Arv.set A1 q1 S q3 H Gf (fits_nar_char _) W i hi hl)
theorem go_bastore (K : Kd G B M) {k i : Nat} {a : Addr} {kA : ClassId} {z j x : Int32} {vs : List Value} {dv : Value} (hd : M.P[k]? = some (pc, .bastore, 1)) (A : Arv G.Z h a kA .byte z vs dv) (hj : ¬ j < 0 ∧ j < z) (hi : j.toNatClampNeg = i) (hl : i < vs.length) (ha : G.Z.heap.size ≤ a) (hsf : a ∈ sf)
    (g : ∀ h' : Heap, Wr h h' a j.toNatClampNeg (.int (nar .byte x)) → Arv G.Z h' a kA .byte z (vs.set i (.int (nar .byte x))) dv → Go G B M Q h' sf cells slots (pc + 1) Ls st) : Go G B M Q h sf cells slots pc Ls (.int x :: .int j :: .ref a :: st) := by
  obtain ⟨c, A1, q1, S, q3, H, Gf⟩ := A
  exact go_wr K ha (Or.inl hsf) (fun T vm0 locs X eT hZ hown => stB X K.1 hZ eT A1 (inb_of S hj) (g := mkF B.m pc Ls (.int x :: .int j :: .ref a :: st)) rfl rfl (K.dec hd)) fun h' W => g h' W (Arv.set A1 q1 S q3 H Gf (fits_nar_byte _) W i hi hl)
theorem go_iastore (K : Kd G B M) {k i : Nat} {a : Addr} {kA : ClassId} {z j x : Int32} {vs : List Value} {dv : Value} (hd : M.P[k]? = some (pc, .iastore, 1)) (A : Arv G.Z h a kA .int z vs dv) (hj : ¬ j < 0 ∧ j < z) (hi : j.toNatClampNeg = i) (hl : i < vs.length) (ha : G.Z.heap.size ≤ a)
    (g : ∀ h' : Heap, Wr h h' a j.toNatClampNeg (.int x) → Arv G.Z h' a kA .int z (vs.set i (.int x)) dv → Go G B M Q h' sf cells slots (pc + 1) Ls st) : Go G B M Q h sf cells slots pc Ls (.int x :: .int j :: .ref a :: st) := by
  obtain ⟨c, A1, q1, S, q3, H, Gf⟩ := A
  exact go_wr K ha (Or.inr fun vm0 hal => Safe.arr hal A1 (by decide)) (fun T vm0 locs X eT hZ hown => stI X K.1 hZ eT A1 (inb_of S hj) (g := mkF B.m pc Ls (.int x :: .int j :: .ref a :: st)) rfl rfl (K.dec hd)) fun h' W => g h' W (Arv.set A1 q1 S q3 H Gf rfl W i hi hl)
theorem go_caload (K : Kd G B M) {k : Nat} {a : Addr} {kA : ClassId} {z j : Int32} {vs : List Value} {v dv : Value} (hd : M.P[k]? = some (pc, .caload, 1)) (A : Arv G.Z h a kA .char z vs dv) (hj : ¬ j < 0 ∧ j < z) (hv : vs.getD j.toNatClampNeg dv = v)
    (g : Go G B M Q h sf cells slots (pc + 1) Ls (v :: st)) : Go G B M Q h sf cells slots pc Ls (.int j :: .ref a :: st) := by
  intro T vm0 k0 locs W
  obtain ⟨c, A1, q1, S, q3, H, Gf⟩ := A
  have X := W.1
  exact (g T vm0 k0 locs W).pre fun target hr => X.caload K.1 (j := j) (v := v) (by rw [W.2.1]; exact A1.1) (State.isArrayOf_alike W.2.2.2.2.1.alike A1.2.1) A1.2.2 (inb_of S hj) (H.at (inb_of S hj) hv) (g := mkF B.m pc Ls (.int j :: .ref a :: st)) rfl rfl (K.dec hd) _ hr
theorem go_baload (K : Kd G B M) {k : Nat} {a : Addr} {kA : ClassId} {z j : Int32} {vs : List Value} {v dv : Value} (hd : M.P[k]? = some (pc, .baload, 1)) (A : Arv G.Z h a kA .byte z vs dv) (hj : ¬ j < 0 ∧ j < z) (hv : vs.getD j.toNatClampNeg dv = v)
    (g : Go G B M Q h sf cells slots (pc + 1) Ls (v :: st)) : Go G B M Q h sf cells slots pc Ls (.int j :: .ref a :: st) := by
  intro T vm0 k0 locs W
  obtain ⟨c, A1, q1, S, q3, H, Gf⟩ := A
  have X := W.1
  exact (g T vm0 k0 locs W).pre fun target hr => X.baloadBytes K.1 (j := j) (v := v) (by rw [W.2.1]; exact A1.1) (State.isArrayOf_alike W.2.2.2.2.1.alike A1.2.1) A1.2.2 (inb_of S hj) (H.at (inb_of S hj) hv) (g := mkF B.m pc Ls (.int j :: .ref a :: st)) rfl rfl (K.dec hd) _ hr
theorem go_iaload (K : Kd G B M) {k : Nat} {a : Addr} {kA : ClassId} {z j : Int32} {vs : List Value} {v dv : Value} (hd : M.P[k]? = some (pc, .iaload, 1)) (A : Arv G.Z h a kA .int z vs dv) (hj : ¬ j < 0 ∧ j < z) (hv : vs.getD j.toNatClampNeg dv = v)
    (g : Go G B M Q h sf cells slots (pc + 1) Ls (v :: st)) : Go G B M Q h sf cells slots pc Ls (.int j :: .ref a :: st) := by
  intro T vm0 k0 locs W
  obtain ⟨c, A1, q1, S, q3, H, Gf⟩ := A
  have X := W.1
  exact (g T vm0 k0 locs W).pre fun target hr => X.iaload K.1 (j := j) (v := v) (by rw [W.2.1]; exact A1.1) (State.isArrayOf_alike W.2.2.2.2.1.alike A1.2.1) A1.2.2 (inb_of S hj) (H.at (inb_of S hj) hv) (g := mkF B.m pc Ls (.int j :: .ref a :: st)) rfl rfl (K.dec hd) _ hr
theorem go_aaload (K : Kd G B M) {k : Nat} {a : Addr} {kA : ClassId} {ty : FieldType} {z j : Int32} {vs : List Value} {v dv : Value} (hd : M.P[k]? = some (pc, .aaload, 1)) (A : Arv G.Z h a kA ty z vs dv) (hty : ty.isReference = true) (hj : ¬ j < 0 ∧ j < z) (hv : vs.getD j.toNatClampNeg dv = v)
    (g : Go G B M Q h sf cells slots (pc + 1) Ls (v :: st)) : Go G B M Q h sf cells slots pc Ls (.int j :: .ref a :: st) := by
  intro T vm0 k0 locs W
  obtain ⟨c, A1, q1, S, q3, H, Gf⟩ := A
  have X := W.1
  exact (g T vm0 k0 locs W).pre fun target hr => X.aaload K.1 (j := j) (v := v) (by rw [W.2.1]; exact A1.1) (State.isArrayOf_alike W.2.2.2.2.1.alike A1.2.1) hty A1.2.2 (inb_of S hj) (H.at (inb_of S hj) hv) (g := mkF B.m pc Ls (.int j :: .ref a :: st)) rfl rfl (K.dec hd) _ hr
theorem go_arraylength (K : Kd G B M) {k : Nat} {a : Addr} {kA : ClassId} {ty : FieldType} {z : Int32} {vs : List Value} {dv : Value} (hd : M.P[k]? = some (pc, .arraylength, 1)) (A : Arv G.Z h a kA ty z vs dv)
    (g : Go G B M Q h sf cells slots (pc + 1) Ls (.int z :: st)) : Go G B M Q h sf cells slots pc Ls (.ref a :: st) := by
  intro T vm0 k0 locs W
  obtain ⟨c, A1, q1, S, q3, H, Gf⟩ := A
  have X := W.1
  exact (g T vm0 k0 locs W).pre fun target hr => X.arraylength K.1 (by rw [W.2.1]; exact A1.1) (State.isArrayOf_alike W.2.2.2.2.1.alike A1.2.1) (g := mkF B.m pc Ls (.ref a :: st)) rfl rfl (K.dec hd) _ (by rw [len_of S q3]; exact hr)
theorem go_cast (K : Kd G B M) {k ix : Nat} {C : String} {a : Addr} (hd : M.P[k]? = some (pc, .checkcast ix, 3)) (w : Wd G (.classLink M.own ix C)) (F : Ins G.Z h a C true)
    (g : Go G B M Q h sf cells slots (pc + 3) Ls (.ref a :: st)) : Go G B M Q h sf cells slots pc Ls (.ref a :: st) := by
  intro T vm0 k0 locs W
  obtain ⟨X, eT, hS, hk, hZ, hown, hF, hE, hC, hs⟩ := W
  obtain ⟨T', X', e', st'⟩ := castY X K.1 hZ hown w eT F (g := mkF B.m pc Ls (.ref a :: st)) rfl rfl (K.dec hd)
  exact (g T' vm0 k0 locs ⟨X', e', hS, hk, hZ, hown, hF, hE, hC, hs⟩).pre st'
theorem go_instY (K : Kd G B M) {k ix : Nat} {C : String} {a : Addr} (hd : M.P[k]? = some (pc, .instanceof ix, 3)) (w : Wd G (.classLink M.own ix C)) (F : Ins G.Z h a C true)
    (g : Go G B M Q h sf cells slots (pc + 3) Ls (.int 1 :: st)) : Go G B M Q h sf cells slots pc Ls (.ref a :: st) := by
  intro T vm0 k0 locs W
  obtain ⟨X, eT, hS, hk, hZ, hown, hF, hE, hC, hs⟩ := W
  obtain ⟨T', X', e', st'⟩ := instY X K.1 hZ hown w eT F (g := mkF B.m pc Ls (.ref a :: st)) rfl rfl (K.dec hd)
  exact (g T' vm0 k0 locs ⟨X', e', hS, hk, hZ, hown, hF, hE, hC, hs⟩).pre st'
theorem go_instN (K : Kd G B M) {k ix : Nat} {C D : String} {a : Addr} (hd : M.P[k]? = some (pc, .instanceof ix, 3)) (w : Wd G (.classLink M.own ix C)) (E : Exa G.Z h a D) (F : ∃ c t, G.Z.vm.findClass D = some c ∧ G.Z.vm.findClass C = some t ∧ G.Z.vm.assignable c t = false)
    (g : Go G B M Q h sf cells slots (pc + 3) Ls (.int 0 :: st)) : Go G B M Q h sf cells slots pc Ls (.ref a :: st) := by
  intro T vm0 k0 locs W
  obtain ⟨X, eT, hS, hk, hZ, hown, hF, hE, hC, hs⟩ := W
  obtain ⟨T', X', e', st'⟩ := instNo X K.1 hZ hown w eT E F (g := mkF B.m pc Ls (.ref a :: st)) rfl rfl (K.dec hd)
  exact (g T' vm0 k0 locs ⟨X', e', hS, hk, hZ, hown, hF, hE, hC, hs⟩).pre st'
theorem go_inst0 (K : Kd G B M) {k ix : Nat} (hd : M.P[k]? = some (pc, .instanceof ix, 3)) (g : Go G B M Q h sf cells slots (pc + 3) Ls (.int 0 :: st)) : Go G B M Q h sf cells slots pc Ls (.null :: st) := by
  intro T vm0 k0 locs W
  exact (g T vm0 k0 locs W).pre fun target hr => W.1.instanceofNull K.1 (g := mkF B.m pc Ls (.null :: st)) rfl rfl (K.dec hd) target hr
theorem go_init0 (K : Kd G B M) {k ix : Nat} {a : Addr} (hd : M.P[k]? = some (pc, .invokespecial ix, 3)) (w1 : Wd G (.methodLink M.own ix Lib.objectInit)) (w2 : Wd G (.instanceMethod Lib.objectInit)) (w3 : Wd G (.code Lib.objectInit ⟨#[0xb1]⟩ 1 none)) (hsz : Ls.size = M.maxL)
    (hf : Nat.ble 1 M.R.frames = true) (hl : Nat.ble ((st.map fun v => v.category).sum + 12) M.R.locals = true) (g : Go G B M Q h sf cells slots (pc + 3) Ls st) : Go G B M Q h sf cells slots pc Ls (.ref a :: st) := by
  intro T vm0 k0 locs W
  obtain ⟨X, eT, hS, hk, hZ, hown, hF, hE, hC, hs⟩ := W
  obtain ⟨T', X', e', st'⟩ := initO X K.1 hZ hown w1 w2 w3 eT (g := mkF B.m pc Ls (.ref a :: st)) rfl (hsz.trans K.2.2.1.symm) rfl (K.dec hd) (Nat.le_of_ble_eq_true hf) (W := (st.map fun v => v.category).sum) (by show 2 * 0 + _ ≤ _; omega) (Nat.le_of_ble_eq_true hl)
  exact (g T' vm0 k0 locs ⟨X', e', hS, hk, hZ, hown, hF, hE, hC, hs⟩).pre st'
theorem go_ldcI (K : Kd G B M) {k ix : Nat} {v : Int32} (hd : M.P[k]? = some (pc, .ldc ix, 2)) (w : Wd G (.constant M.own ix v)) (g : Go G B M Q h sf cells slots (pc + 2) Ls (.int v :: st)) : Go G B M Q h sf cells slots pc Ls st := by
  intro T vm0 k0 locs W
  obtain ⟨X, eT, hS, hk, hZ, hown, hF, hE, hC, hs⟩ := id W
  exact (g T vm0 k0 locs W).pre (X.ldcInt K.1 hown (mv hZ w) (g := mkF B.m pc Ls st) rfl (K.dec hd))
/-- 'ldc' of a String constant, of which nothing is asked -/
theorem go_ldc (K : Kd G B M) {k ix n : Nat} {text : String} (hd : M.P[k]? = some (pc, .ldc ix, 2)) (w : Wd G (.stringLink M.own ix text)) (wS : ∀ d ∈ Bundle.stringAtoms, Wd G d) (hn : Nat.ble (4 * text.toList.length) n = true) (hb : Nat.ble n 536870912 = true) (hc : Nat.ble (cells + 2) M.R.cells = true) (hl : Nat.ble (slots + (n + 4)) M.R.slots = true)
    (g : ∀ (h' : Heap) (a : Addr), Ext h h' → Go G B M Q h' sf (cells + 2) (slots + (n + 4)) (pc + 2) Ls (.ref a :: st)) : Go G B M Q h sf cells slots pc Ls st := by
  intro T vm0 k0 locs W
  obtain ⟨X, eT, hS, hk, hZ, hown, hF, hE, hC, hs⟩ := W
  obtain ⟨a, T', h', k1, X', e', E', hS', hk', hZ', hown', hC', -, st'⟩ := ldcOH X K.1 hZ hown w wS eT hS hk K.2.2.2.2.2.2 hC.1 (g := mkF B.m pc Ls st) rfl (K.dec hd) (Nat.le_of_ble_eq_true hn) (Nat.le_of_ble_eq_true hb) (Nat.le_of_ble_eq_true hc) (Nat.le_of_ble_eq_true hl)
  exact (g h' a E' T' T'.vm k1 locs ⟨X', e', hS', hk', hZ', hown', hF, ⟨Nat.le_trans hE.1 E'.1, fun x c q => E'.2 x c (hE.2 x c q)⟩, hC.trans hC', fun x hx => ⟨hC'.safe (hs x hx).2 (hs x hx).1, Nat.lt_of_lt_of_le (hs x hx).2 E'.1⟩⟩).pre st'
/-- 'ldc' of a String constant whose text is known -/
theorem go_ldcS (K : Kd G B M) {k ix n : Nat} {text : String} (hd : M.P[k]? = some (pc, .ldc ix, 2)) (w : Wd G (.stringLink M.own ix text)) (wS : ∀ d ∈ Bundle.stringAtoms, Wd G d) (hmem : (M.own, ix) ∈ G.EL)
    {vs : List Value} {z : Int32} (ht : (∀ c ∈ text.toList, c.toNat < 256) ∧ text.toList.map (fun c => Value.int (Jvm.Lit.byteI c.toNat.toUInt16)) = vs) (hz : ¬ z < 0) (hzl : z.toNatClampNeg = vs.length)
    (hn : Nat.ble (4 * text.toList.length) n = true) (hb : Nat.ble n 536870912 = true) (hc : Nat.ble (cells + 2) M.R.cells = true) (hl : Nat.ble (slots + (n + 4)) M.R.slots = true)
    (g : ∀ (h' : Heap) (a b : Addr) (kb : ClassId), Ext h h' → Exa G.Z h' a "java/lang/String" → Fld G.Z h' a "java/lang/String" "coder" "B" (.int 0) → Fld G.Z h' a "java/lang/String" "value" "[B" (.ref b) → Arv G.Z h' b kb .byte z vs (.int 0) → (∀ x ∈ sf, x ≠ a ∧ x ≠ b) →
      Go G B M Q h' sf (cells + 2) (slots + (n + 4)) (pc + 2) Ls (.ref a :: st)) : Go G B M Q h sf cells slots pc Ls st := by
  intro T vm0 k0 locs W
  obtain ⟨X, eT, hS, hk, hZ, hown, hF, hE, hC, hs⟩ := W
  obtain ⟨a, T', h', k1, b, kb, X', e', E', hS', hk', hZ', hown', A1, A2, A3, A4, -, -, hC', -, hne, st'⟩ := ldcCH X K.1 hZ hown w wS eT hS hk K.2.2.2.2.2.2 hmem hC.1 ht hz hzl (g := mkF B.m pc Ls st) rfl (K.dec hd) (Nat.le_of_ble_eq_true hn) (Nat.le_of_ble_eq_true hb) (Nat.le_of_ble_eq_true hc) (Nat.le_of_ble_eq_true hl)
  have hsf : ∀ x ∈ sf, Safe G.Z G.EL T'.vm h' x ∧ x < h'.size := fun x hx => ⟨hC'.safe (hs x hx).2 (hs x hx).1, Nat.lt_of_lt_of_le (hs x hx).2 E'.1⟩
  exact (g h' a b kb E' A1 A2 A3 A4 (fun x hx => hne x (hsf x hx).1) T' T'.vm k1 locs ⟨X', e', hS', hk', hZ', hown', hF, ⟨Nat.le_trans hE.1 E'.1, fun x c q => E'.2 x c (hE.2 x c q)⟩, hC.trans hC', hsf⟩).pre st'
end Heap
/-! ### contracts and calls -/
section Calls
variable {G : Gb} {B : Cx} {M : Mt} {R : Room} {Q : Option Value → Heap → (Addr → Prop) → Prop} {h : Heap} {sf : List Addr} {cells slots pc : Nat} {Ls : Array Slot} {st : List Value}
theorem ctr_of (M : Mt) {ws : List Jvm.Cond} {y : MethodName} {bytes : ByteArray} {as' : Array Value} (ho : M.own = y.cls) (hnm : M.nm = y.name) (pf : plainFor y = true) (hP : ∀ q ∈ M.P, decode bytes q.1 = .ok q.2) (hEL : EW G.Z G.a0 G.EL) {Ls : Array Slot} (ef : ∀ m, entryFrame m as' M.maxL = mkF m 0 Ls [])
    (H : ∀ B : Cx, Kd G B M → Ext G.Z.heap h → Go G B M Q h sf 0 0 0 Ls []) : Ctr G ws y bytes M.maxL M.ret M.R as' h sf Q := by
  refine MetFree.of_bodySF pf hisR ?_
  intro p e s m args below meth c s₁ Bd hml hP' hK
  obtain ⟨rfl, hZ, hh, hCH, hE, hs⟩ := hP'
  have hK : Kd G ((p, e, s, m), (args, below, meth, c)) M := ⟨Bd.exec, fun q hq => by show decode c.code q.1 = _; rw [Bd.bytes]; exact hP q hq, hml, Bd.returns, Bd.notSynchronized, (name_of_methodNamed Bd.named Bd.method).1.trans hnm.symm, hEL⟩
  have X0 : Stand p G.l e M.R s m args below meth c s₁ [] 0 0 := Stand.of_body Bd
  have X1 : Stand p G.l e M.R (s.setVm s.vm) m args below meth c s₁ [] 0 0 := X0
  have e0 : s₁.heap = h := by rw [← hh, Bd.state]; rfl
  have hown : s.vm.findClass M.own = some m.cls := by rw [ho]; exact findClass_of_methodNamed Bd.named
  have hb : CHr G.Z G.EL s.vm s.heap s.vm h := by rw [hh]; exact CHr.refl hCH
  obtain ⟨t, v, L, k1, k2, k3, k4, k5, k6, k7, k8⟩ := H ((p, e, s, m), (args, below, meth, c)) hK hE s₁ s.vm 0 [] ⟨X1, e0, (State.WarmedH.refl s).since 0, Nat.zero_le _, hZ, hown, Fr.nil _, hE, hb, hs⟩
  refine ⟨t, .returned v, ?_, k2, k3, v, L, rfl, ⟨k4, k5, k6⟩, k7, k8⟩
  rw [ef m]
  exact k1
theorem backG {y : MethodName} {bytes : ByteArray} {maxL : Nat} {ret : Option FieldType} {rm : Room} {len W : Nat} {as' : Array Value} {Qc : Option Value → Heap → (Addr → Prop) → Prop} {sf' : List Addr} {p : Program} {e : Env} {below : List Frame} {s : State} {args : Array Value} {vm0 : Vm}
    (C : Ctr G [] y bytes maxL ret rm as' h sf' Qc) (hZ : G.Z.Warmed39 vm0) (wc : Wd G (.code y bytes maxL ret)) (wz : Wd G (.initialized y.cls)) (hf : rm.frames + 1 ≤ R.frames) (hl : W + (maxL + 11) + rm.locals ≤ R.locals) (hEL : EW G.Z G.a0 G.EL) (H : CHv G.Z G.EL vm0 h) (hE : Ext G.Z.heap h) (hs : ∀ x ∈ sf', Safe G.Z G.EL vm0 h x ∧ x < h.size) :
    BackS G.l R p e below (s.setVm vm0) args y len W (fun A a => a = as' ∧ A.U.heap = h ∧ A.cells + rm.cells ≤ R.cells ∧ A.slots + rm.slots ≤ R.slots)
      (fun A _ v B => ∃ L, (Qc v B.U.heap (fun x => Safe G.Z G.EL B.U.vm B.U.heap x ∧ x < B.U.heap.size) ∧ Fr G.Z.heap.size L ∧ Ext G.Z.heap B.U.heap) ∧ B.locs = A.locs ++ L ∧ B.cells = A.cells + rm.cells ∧ B.slots = A.slots + rm.slots ∧ CHr G.Z G.EL vm0 h B.U.vm B.U.heap) := by
  refine BackS.of_freeW (bytes := bytes) (maxL := maxL) (ret := ret) (E := fun _ first o t L k n => k = rm.cells ∧ n = rm.slots ∧ (∃ v, o = .returned v ∧ Qc v t.heap (fun x => Safe G.Z G.EL t.vm t.heap x ∧ x < t.heap.size) ∧ Fr G.Z.heap.size L ∧ Ext G.Z.heap t.heap) ∧ CHr G.Z G.EL first.vm first.heap t.vm t.heap) C hf hl ?_ ?_ ?_ ?_ ?_
  · intro m meth c A a Y hp
    have hU : G.Z.Warmed39 A.U.vm := wtrans (s := s.setVm vm0) hZ Y.warmed
    refine ⟨?_, mv hU wc, mv hU wz, hp.2.2.1, hp.2.2.2⟩
    show (Jvm.Cond.and _ .tt).before a A.U = true
    rw [Cond.before_and, mv hU wc]; rfl
  · intro m meth c A a g mk Y hp
    have A1 := CHv.at Y hZ hEL H
    exact ⟨hp.1, wtrans (s := s.setVm vm0) hZ Y.warmed, hp.2.1, A1.1, hE, fun x hx => ⟨A1.safe (hs x hx).2 (hs x hx).1, (hs x hx).2⟩⟩
  · intros; trivial
  · intro _ _ _ _ q
    obtain ⟨v, L, h1, h2, h3, h4⟩ := q
    exact ⟨L, _, _, h4, rfl, rfl, ⟨v, h1, h2⟩, h3⟩
  · intro m meth c A a g mk v t L k n Y hp _ _ q
    obtain ⟨e1, e2, ⟨v', e3, e4⟩, e5⟩ := q
    cases e3; subst e1 e2
    refine ⟨L, e4, rfl, rfl, rfl, (CHv.at Y hZ hEL H).trans ?_⟩
    rw [← hp.2.1]; exact e5
/-- the room that a call asks of its maker -/
def rok (R : Room) (rest : List Value) (maxL : Nat) (rm : Room) (cells slots : Nat) : Bool :=
  Nat.ble (rm.frames + 1) R.frames && (Nat.ble ((rest.map fun v => v.category).sum + (maxL + 11) + rm.locals) R.locals && (Nat.ble (cells + rm.cells) R.cells && Nat.ble (slots + rm.slots) R.slots))
theorem rok_ok {rest : List Value} {maxL : Nat} {rm : Room} (q : rok R rest maxL rm cells slots = true) : rm.frames + 1 ≤ R.frames ∧ (rest.map fun v => v.category).sum + (maxL + 11) + rm.locals ≤ R.locals ∧ cells + rm.cells ≤ R.cells ∧ slots + rm.slots ≤ R.slots := by
  simp only [rok, Bool.and_eq_true] at q
  exact ⟨Nat.le_of_ble_eq_true q.1, Nat.le_of_ble_eq_true q.2.1, Nat.le_of_ble_eq_true q.2.2.1, Nat.le_of_ble_eq_true q.2.2.2⟩
/-- behind any call: the walk goes on -/
theorem call_on {rm : Room} {Qc : Option Value → Heap → (Addr → Prop) → Prop} {pc' : Nat} {rest : List Value} {T : State} {vm0 : Vm} {k0 : Nat} {locs : List Loc} (W : Wo G B M.own M.R h sf cells slots T vm0 k0 locs)
    (call : ∃ (v : Option Value) (vm₁ : Vm) (A : Pt), (B.s.setVm vm0).WarmedH vm₁ ∧ Stand B.p G.l B.e M.R ((B.s.setVm vm0).setVm A.U.vm) B.m B.as B.bl B.mt B.c A.U A.locs A.cells A.slots ∧ (B.s.setVm vm0).Since A.U.vm A.U.heap.size ∧ T.heap.size ≤ A.U.heap.size ∧
      (∃ L, (Qc v A.U.heap (fun x => Safe G.Z G.EL A.U.vm A.U.heap x ∧ x < A.U.heap.size) ∧ Fr G.Z.heap.size L ∧ Ext G.Z.heap A.U.heap) ∧ A.locs = locs ++ L ∧ A.cells = cells + rm.cells ∧ A.slots = slots + rm.slots ∧ CHr G.Z G.EL vm0 h A.U.vm A.U.heap) ∧
      Steps B.p.tables B.e B.bl (T.setTop (mkF B.m pc Ls st)) (A.U.setTop (mkF B.m pc' Ls (v.toList ++ rest))))
    (g : ∀ (v : Option Value) (h' : Heap) (Sf : Addr → Prop), h.size ≤ h'.size → Qc v h' Sf → ∃ nw : List Addr, (∀ x ∈ nw, Sf x) ∧ Go G B M Q h' (nw ++ sf) (cells + rm.cells) (slots + rm.slots) pc' Ls (v.toList ++ rest)) : Fin G B M.R Q (T.setTop (mkF B.m pc Ls st)) := by
  obtain ⟨X, eT, hS, hk, hZ, hown, hF, hE, hC, hs⟩ := W
  obtain ⟨v, vm₁, ⟨U, L0, c0, n0⟩, -, X', hS', hgr, ⟨L, ⟨hq, hfr, hext⟩, e1, e2, e3, hC'⟩, stp⟩ := call
  dsimp only [Pt.U, Pt.locs, Pt.cells, Pt.slots] at X' hS' hgr hq hfr hext e1 e2 e3 hC' stp
  subst e1 e2 e3
  rw [eT] at hgr
  obtain ⟨nw, n1, n2⟩ := g v U.heap _ hgr hq
  refine (n2 U U.vm U.heap.size _ ⟨X', rfl, hS.trans hS' (Nat.le_trans hk hgr), Nat.le_refl _, State.Warmed39.trans (t := B.s.setVm vm0) hZ hS'.1, (hS'.1.alike.findClass _ _).trans hown, hF.app hfr, hext, hC.trans hC', fun x hx => ?_⟩).pre fun target hr => stp.trans hr
  rcases List.mem_append.mp hx with hx | hx
  · exact n1 x hx
  · exact ⟨hC'.safe (hs x hx).2 (hs x hx).1, Nat.lt_of_lt_of_le (hs x hx).2 hgr⟩
theorem go_staticN (K : Kd G B M) {k ix : Nat} {y : MethodName} {bytes : ByteArray} {maxL : Nat} {ret : Option FieldType} {rm : Room} {argsL rest : List Value} {ps : List FieldType} {rt : Option FieldType} {sf' : List Addr} {Qc : Option Value → Heap → (Addr → Prop) → Prop} (hd : M.P[k]? = some (pc, .invokestatic ix, 3))
    (w1 : Wd G (.methodLink M.own ix y)) (w2 : Wd G (.static y)) (w3 : Wd G (.initialized y.cls)) (w4 : Wd G (.code y bytes maxL ret)) (hy : y.cls ≠ "java/lang/invoke/MethodHandle" ∧ y.cls ≠ "java/lang/invoke/VarHandle") (pd : parseMethodDescriptor y.desc = some ⟨ps, rt⟩)
    (C : Ctr G [] y bytes maxL ret rm argsL.toArray h sf' Qc) (hst : st = argsL.reverse ++ rest) (hlen : argsL.length = ps.length) (hsz : Ls.size = M.maxL) (hsub : ∀ x ∈ sf', x ∈ sf) (hrm : rok M.R rest maxL rm cells slots = true)
    (g : ∀ (v : Option Value) (h' : Heap) (Sf : Addr → Prop), h.size ≤ h'.size → Qc v h' Sf → ∃ nw : List Addr, (∀ x ∈ nw, Sf x) ∧ Go G B M Q h' (nw ++ sf) (cells + rm.cells) (slots + rm.slots) (pc + 3) Ls (v.toList ++ rest)) : Go G B M Q h sf cells slots pc Ls st := by
  intro T vm0 k0 locs W
  obtain ⟨r1, r2, r3, r4⟩ := rok_ok hrm
  obtain ⟨X, eT, hS, hk, hZ, hown, hF, hE, hC, hs⟩ := id W
  subst hst
  exact call_on W (callSS X K.1 hown (mv hZ w1) (mv hZ w2) (mv hZ w3) (mv hZ w4) hy (backG (W := (rest.map fun v => v.category).sum) C hZ w4 w3 r1 r2 K.2.2.2.2.2.2 hC.1 hE (fun x hx => hs x (hsub x hx))) (g := mkF B.m pc Ls (argsL.reverse ++ rest)) rfl (hsz.trans K.2.2.1.symm) (argsL := argsL) (rest := rest) (lenOf pd hlen) rfl (by show 2 * 0 + _ ≤ _; omega) (K.dec hd) (fun vm₁ _ => ⟨rfl, eT, r3, r4⟩)) g
theorem go_static (K : Kd G B M) {k ix : Nat} {y : MethodName} {bytes : ByteArray} {maxL : Nat} {ret : Option FieldType} {rm : Room} {argsL rest : List Value} {ps : List FieldType} {rt : Option FieldType} {sf' : List Addr} {Qc : Option Value → Heap → (Addr → Prop) → Prop} (hd : M.P[k]? = some (pc, .invokestatic ix, 3))
    (w1 : Wd G (.methodLink M.own ix y)) (w2 : Wd G (.static y)) (w3 : Wd G (.initialized y.cls)) (w4 : Wd G (.code y bytes maxL ret)) (hy : y.cls ≠ "java/lang/invoke/MethodHandle" ∧ y.cls ≠ "java/lang/invoke/VarHandle") (pd : parseMethodDescriptor y.desc = some ⟨ps, rt⟩)
    (C : Ctr G [] y bytes maxL ret rm argsL.toArray h sf' Qc) (hst : st = argsL.reverse ++ rest) (hlen : argsL.length = ps.length) (hsz : Ls.size = M.maxL) (hsub : ∀ x ∈ sf', x ∈ sf) (hrm : rok M.R rest maxL rm cells slots = true)
    (g : ∀ (v : Option Value) (h' : Heap) (Sf : Addr → Prop), h.size ≤ h'.size → Qc v h' Sf → Go G B M Q h' sf (cells + rm.cells) (slots + rm.slots) (pc + 3) Ls (v.toList ++ rest)) : Go G B M Q h sf cells slots pc Ls st :=
  go_staticN K hd w1 w2 w3 w4 hy pd C hst hlen hsz hsub hrm fun v h' Sf z q => ⟨[], (fun _ u => nomatch u), g v h' Sf z q⟩
theorem go_specialN (K : Kd G B M) {k ix : Nat} {y : MethodName} {bytes : ByteArray} {maxL : Nat} {rm : Room} {a : Addr} {argsL rest : List Value} {ps : List FieldType} {rt : Option FieldType} {sf' : List Addr} {Qc : Option Value → Heap → (Addr → Prop) → Prop} (hd : M.P[k]? = some (pc, .invokespecial ix, 3)) (hy1 : y.name = "<init>")
    (w1 : Wd G (.methodLink M.own ix y)) (w2 : Wd G (.instanceMethod y)) (w3 : Wd G (.initialized y.cls)) (w4 : Wd G (.code y bytes maxL none)) (hy : y.cls ≠ "java/lang/invoke/MethodHandle" ∧ y.cls ≠ "java/lang/invoke/VarHandle") (pd : parseMethodDescriptor y.desc = some ⟨ps, rt⟩)
    (C : Ctr G [] y bytes maxL none rm (.ref a :: argsL).toArray h sf' Qc) (hst : st = argsL.reverse ++ .ref a :: rest) (hlen : argsL.length = ps.length) (hsz : Ls.size = M.maxL) (hsub : ∀ x ∈ sf', x ∈ sf) (hrm : rok M.R rest maxL rm cells slots = true)
    (g : ∀ (v : Option Value) (h' : Heap) (Sf : Addr → Prop), h.size ≤ h'.size → Qc v h' Sf → ∃ nw : List Addr, (∀ x ∈ nw, Sf x) ∧ Go G B M Q h' (nw ++ sf) (cells + rm.cells) (slots + rm.slots) (pc + 3) Ls (v.toList ++ rest)) : Go G B M Q h sf cells slots pc Ls st := by
  intro T vm0 k0 locs W
  obtain ⟨r1, r2, r3, r4⟩ := rok_ok hrm
  obtain ⟨X, eT, hS, hk, hZ, hown, hF, hE, hC, hs⟩ := id W
  subst hst
  exact call_on W (X.specialBackS K.1 hy1 hown (mv hZ w1) (mv hZ w2) (mv hZ w4) hy (backG (W := (rest.map fun v => v.category).sum) C hZ w4 w3 r1 r2 K.2.2.2.2.2.2 hC.1 hE (fun x hx => hs x (hsub x hx))) (g := mkF B.m pc Ls (argsL.reverse ++ .ref a :: rest)) rfl (hsz.trans K.2.2.1.symm) (Steps.refl _) (a := a) (argsL := argsL) (rest := rest) (lenOf pd hlen) rfl (by show 2 * 0 + _ ≤ _; omega) (K.dec hd) (fun vm₁ _ => ⟨rfl, eT, r3, r4⟩)) g
theorem go_special (K : Kd G B M) {k ix : Nat} {y : MethodName} {bytes : ByteArray} {maxL : Nat} {rm : Room} {a : Addr} {argsL rest : List Value} {ps : List FieldType} {rt : Option FieldType} {sf' : List Addr} {Qc : Option Value → Heap → (Addr → Prop) → Prop} (hd : M.P[k]? = some (pc, .invokespecial ix, 3)) (hy1 : y.name = "<init>")
    (w1 : Wd G (.methodLink M.own ix y)) (w2 : Wd G (.instanceMethod y)) (w3 : Wd G (.initialized y.cls)) (w4 : Wd G (.code y bytes maxL none)) (hy : y.cls ≠ "java/lang/invoke/MethodHandle" ∧ y.cls ≠ "java/lang/invoke/VarHandle") (pd : parseMethodDescriptor y.desc = some ⟨ps, rt⟩)
    (C : Ctr G [] y bytes maxL none rm (.ref a :: argsL).toArray h sf' Qc) (hst : st = argsL.reverse ++ .ref a :: rest) (hlen : argsL.length = ps.length) (hsz : Ls.size = M.maxL) (hsub : ∀ x ∈ sf', x ∈ sf) (hrm : rok M.R rest maxL rm cells slots = true)
    (g : ∀ (v : Option Value) (h' : Heap) (Sf : Addr → Prop), h.size ≤ h'.size → Qc v h' Sf → Go G B M Q h' sf (cells + rm.cells) (slots + rm.slots) (pc + 3) Ls (v.toList ++ rest)) : Go G B M Q h sf cells slots pc Ls st :=
  go_specialN K hd hy1 w1 w2 w3 w4 hy pd C hst hlen hsz hsub hrm fun v h' Sf z q => ⟨[], (fun _ u => nomatch u), g v h' Sf z q⟩
theorem go_virtualN (K : Kd G B M) {k ix : Nat} {y z : MethodName} {bytes : ByteArray} {maxL : Nat} {ret : Option FieldType} {rm : Room} {C : String} {a : Addr} {argsL rest : List Value} {ps : List FieldType} {rt : Option FieldType} {sf' : List Addr} {Qc : Option Value → Heap → (Addr → Prop) → Prop} (hd : M.P[k]? = some (pc, .invokevirtual ix, 3))
    (w1 : Wd G (.methodLink M.own ix y)) (w2 : Wd G (.declares y)) (w3 : Wd G (.selects C y z)) (w4 : Wd G (.instanceMethod z)) (w5 : Wd G (.initialized z.cls)) (w6 : Wd G (.code z bytes maxL ret)) (hy : y.cls ≠ "java/lang/invoke/MethodHandle" ∧ y.cls ≠ "java/lang/invoke/VarHandle") (pd : parseMethodDescriptor y.desc = some ⟨ps, rt⟩) (E : Exa G.Z h a C)
    (nf : ∀ vm0 : Vm, G.Z.Warmed39 vm0 → NotFace (B.s.setVm vm0) y)
    (Ct : Ctr G [] z bytes maxL ret rm (.ref a :: argsL).toArray h sf' Qc) (hst : st = argsL.reverse ++ .ref a :: rest) (hlen : argsL.length = ps.length) (hsz : Ls.size = M.maxL) (hsub : ∀ x ∈ sf', x ∈ sf) (hrm : rok M.R rest maxL rm cells slots = true)
    (g : ∀ (v : Option Value) (h' : Heap) (Sf : Addr → Prop), h.size ≤ h'.size → Qc v h' Sf → ∃ nw : List Addr, (∀ x ∈ nw, Sf x) ∧ Go G B M Q h' (nw ++ sf) (cells + rm.cells) (slots + rm.slots) (pc + 3) Ls (v.toList ++ rest)) : Go G B M Q h sf cells slots pc Ls st := by
  intro T vm0 k0 locs W
  obtain ⟨r1, r2, r3, r4⟩ := rok_ok hrm
  obtain ⟨X, eT, hS, hk, hZ, hown, hF, hE, hC, hs⟩ := id W
  obtain ⟨cB, kB, i1, i2, i3⟩ := isOf (s := B.s.setVm vm0) hZ eT E
  subst hst
  exact call_on W (X.virtualBackS K.1 hown (mv hZ w1) (mv hZ w2) (nf vm0 hZ) (mv hZ w3) (mv hZ w4) hy (backG (W := (rest.map fun v => v.category).sum) Ct hZ w6 w5 r1 r2 K.2.2.2.2.2.2 hC.1 hE (fun x hx => hs x (hsub x hx))) i1 i3 (g := mkF B.m pc Ls (argsL.reverse ++ .ref a :: rest)) rfl (hsz.trans K.2.2.1.symm) (Steps.refl _) (argsL := argsL) (rest := rest) (lenOf pd hlen) rfl (by show 2 * 0 + _ ≤ _; omega) (K.dec hd) (fun vm₁ _ => ⟨rfl, eT, r3, r4⟩)) g
theorem go_virtual (K : Kd G B M) {k ix : Nat} {y z : MethodName} {bytes : ByteArray} {maxL : Nat} {ret : Option FieldType} {rm : Room} {C : String} {a : Addr} {argsL rest : List Value} {ps : List FieldType} {rt : Option FieldType} {sf' : List Addr} {Qc : Option Value → Heap → (Addr → Prop) → Prop} (hd : M.P[k]? = some (pc, .invokevirtual ix, 3))
    (w1 : Wd G (.methodLink M.own ix y)) (w2 : Wd G (.declares y)) (w3 : Wd G (.selects C y z)) (w4 : Wd G (.instanceMethod z)) (w5 : Wd G (.initialized z.cls)) (w6 : Wd G (.code z bytes maxL ret)) (hy : y.cls ≠ "java/lang/invoke/MethodHandle" ∧ y.cls ≠ "java/lang/invoke/VarHandle") (pd : parseMethodDescriptor y.desc = some ⟨ps, rt⟩) (E : Exa G.Z h a C)
    (nf : ∀ vm0 : Vm, G.Z.Warmed39 vm0 → NotFace (B.s.setVm vm0) y)
    (Ct : Ctr G [] z bytes maxL ret rm (.ref a :: argsL).toArray h sf' Qc) (hst : st = argsL.reverse ++ .ref a :: rest) (hlen : argsL.length = ps.length) (hsz : Ls.size = M.maxL) (hsub : ∀ x ∈ sf', x ∈ sf) (hrm : rok M.R rest maxL rm cells slots = true)
    (g : ∀ (v : Option Value) (h' : Heap) (Sf : Addr → Prop), h.size ≤ h'.size → Qc v h' Sf → Go G B M Q h' sf (cells + rm.cells) (slots + rm.slots) (pc + 3) Ls (v.toList ++ rest)) : Go G B M Q h sf cells slots pc Ls st :=
  go_virtualN K hd w1 w2 w3 w4 w5 w6 hy pd E nf Ct hst hlen hsz hsub hrm fun v h' Sf z q => ⟨[], (fun _ u => nomatch u), g v h' Sf z q⟩
end Calls
end Jvm.OwnW
namespace Jvm.OwnW
open Sem ClassFile Op Lib Bundle Jvm.Stand Jvm.Free Jvm.LawKit Jvm.RoadKit
section Small
variable {G : Gb} {B : Cx} {M : Mt} {Q : Option Value → Heap → (Addr → Prop) → Prop} {h h0 h1 h2 : Heap} {sf : List Addr} {cells slots pc : Nat} {Ls : Array Slot} {st : List Value} {a b : Addr}
theorem Ext.rf (h : Heap) : Ext h h := ⟨Nat.le_refl _, fun _ _ q => q⟩
theorem Ext.tr (E : Ext h0 h1) (F : Ext h1 h2) : Ext h0 h2 := ⟨Nat.le_trans E.1 F.1, fun x c q => F.2 x c (E.2 x c q)⟩
theorem Ext.keepN {ws : List Addr} (E : Ext h0 h1) (K : Keep h1 h2 ws) (q : ∀ x ∈ ws, h0.size ≤ x) : Ext h0 h2 :=
  ⟨Nat.le_trans E.1 K.1, fun x c r => K.2.1 x c (E.2 x c r) fun z => absurd (Array.getElem?_eq_some_iff.mp r).1 (Nat.not_lt.mpr (q x z))⟩
theorem Ext.wrN {sl : Nat} {v : Value} (E : Ext h0 h1) (W : Wr h1 h2 a sl v) (q : h0.size ≤ a) : Ext h0 h2 := Ext.keepN E (Keep.of_wr W) (allS q all0)
theorem Ext.keep0 {ws : List Addr} (E : Ext h0 h1) : Keep h0 h1 ws := (Keep.refl h0 ws).ext E
theorem sub0 : ∀ x ∈ ([] : List Addr), x ∈ sf := fun _ q => nomatch q
theorem subS {L : List Addr} (m : a ∈ sf) (r : ∀ x ∈ L, x ∈ sf) : ∀ x ∈ a :: L, x ∈ sf := fun x q => (List.mem_cons.mp q).elim (fun u => u ▸ m) (r x)
theorem nfS {C : String} {y : MethodName} {s : State} (w : Wd G (.selects C y y)) : ∀ vm0 : Vm, G.Z.Warmed39 vm0 → NotFace (s.setVm vm0) y := fun vm0 hZ => notFace_of_selects (args := #[]) (mv (s := s.setVm vm0) hZ w)
/-- the sheet's words, the constants whose text is asked, what the String laws ask -/
def Gl (ts : List Jvm.Cond) (el : List (String × Nat)) (G : Gb) : Prop := (∀ d ∈ ts, Wd G d) ∧ G.EL = el ∧ EW G.Z G.a0 G.EL ∧ (∀ d ∈ Bundle.stringAtoms, Wd G d) ∧ ∃ z : Int32, Sta G.Z G.Z.heap "java/lang/String" "COMPACT_STRINGS" "Z" (.int z) ∧ ¬ z = 0
variable {ts : List Jvm.Cond} {es : List (String × Nat)}
theorem Gl.w (H : Gl ts es G) {d : Jvm.Cond} (k : Nat) (q : ts[k]? = some d) : Wd G d := H.1 d (List.mem_of_getElem? q)
theorem Gl.el (H : Gl ts es G) : EW G.Z G.a0 G.EL := H.2.2.1
theorem Gl.ws (H : Gl ts es G) : ∀ d ∈ Bundle.stringAtoms, Wd G d := H.2.2.2.1
theorem Gl.cs (H : Gl ts es G) : ∃ z : Int32, Sta G.Z G.Z.heap "java/lang/String" "COMPACT_STRINGS" "Z" (.int z) ∧ ¬ z = 0 := H.2.2.2.2
theorem Gl.mem (H : Gl ts es G) {p : String × Nat} (q : p ∈ es) : p ∈ G.EL := H.2.1 ▸ q
/-! ### Strings -/
def by8 (cs : List Int32) : List Value := cs.map fun c => Value.int c.toInt8.toInt32
def Lat (cs : List Int32) : Prop := cs.length ≤ 4000 ∧ ∀ c ∈ cs, ¬ c < 0 ∧ ¬ (255 : Int32) < c
def Str (G : Gb) (h : Heap) (a : Addr) (cs : List Int32) : Prop := ∃ (t : Addr) (kb : ClassId), Exa G.Z h a "java/lang/String" ∧ Fld G.Z h a "java/lang/String" "coder" "B" (.int 0) ∧ Fld G.Z h a "java/lang/String" "value" "[B" (.ref t) ∧ Arv G.Z h t kb .byte cs.length.toInt32 (by8 cs) (.int 0)
variable {cs ds : List Int32}
theorem Str.exa (S : Str G h a cs) : Exa G.Z h a "java/lang/String" := by obtain ⟨t, kb, h1, -⟩ := S; exact h1
theorem Str.lt (S : Str G h a cs) : a < h.size := S.exa.lt
theorem Str.ext (S : Str G h a cs) (E : Ext h h1) : Str G h1 a cs := by
  obtain ⟨t, kb, e1, e2, e3, e4⟩ := S
  exact ⟨t, kb, Exa.ext E e1, Fld.ext E e2, Fld.ext E e3, e4.ext E⟩
theorem by8_len : (by8 cs).length = cs.length := by simp [by8]
theorem len_nn {n : Nat} (q : n < 2 ^ 31) : ¬ n.toInt32 < 0 := by
  rw [Int32.lt_iff_toInt_lt, len_toInt q]; have : (0 : Int32).toInt = 0 := rfl
  omega
theorem len_nat {n : Nat} (q : n < 2 ^ 31) : n.toInt32.toNatClampNeg = n := by
  simp only [Int32.toNatClampNeg, len_toInt q]; rfl
theorem len_lt {i n : Nat} (hn : n < 2 ^ 31) (q : i < n) : i.toInt32 < n.toInt32 := by
  rw [Int32.lt_iff_toInt_lt, len_toInt hn, len_toInt (Nat.lt_trans q hn)]; omega
theorem len_nlt {i n : Nat} (hi : i < 2 ^ 31) (q : n ≤ i) : ¬ i.toInt32 < n.toInt32 := by
  rw [Int32.lt_iff_toInt_lt, len_toInt hi, len_toInt (Nat.lt_of_le_of_lt q hi)]; omega
theorem len_succ (i : Nat) : i.toInt32 + Int32.ofInt 1 = (i + 1).toInt32 := by
  rw [show Int32.ofInt 1 = (1 : Nat).toInt32 from rfl]
  exact (Int32.ofNat_add i 1).symm
theorem lat_lt (q : Lat cs) : cs.length < 2 ^ 31 := Nat.lt_of_le_of_lt q.1 (by decide)
/-- 'ldc' of a constant whose text is asked, as a Str -/
theorem go_ldcT (K : Kd G B M) {k ix n : Nat} {text : String} (hd : M.P[k]? = some (pc, .ldc ix, 2)) (w : Wd G (.stringLink M.own ix text)) (wS : ∀ d ∈ Bundle.stringAtoms, Wd G d) (hmem : (M.own, ix) ∈ G.EL)
    (ht : (∀ c ∈ text.toList, c.toNat < 256) ∧ text.toList.map (fun c => Value.int (Jvm.Lit.byteI c.toNat.toUInt16)) = by8 cs) (hz : cs.length < 2 ^ 31)
    (hn : Nat.ble (4 * text.toList.length) n = true) (hb : Nat.ble n 536870912 = true) (hc : Nat.ble (cells + 2) M.R.cells = true) (hl : Nat.ble (slots + (n + 4)) M.R.slots = true)
    (g : ∀ (h' : Heap) (a : Addr), Ext h h' → Str G h' a cs → Go G B M Q h' sf (cells + 2) (slots + (n + 4)) (pc + 2) Ls (.ref a :: st)) : Go G B M Q h sf cells slots pc Ls st :=
  go_ldcS K hd w wS hmem ht (len_nn hz) (by rw [len_nat hz, by8_len]) hn hb hc hl fun h' a b kb E1 e1 e2 e3 e4 _ => g h' a E1 ⟨b, kb, e1, e2, e3, e4⟩
theorem c8_lat (x : Int32) : ¬ (x &&& 255) < 0 ∧ ¬ (255 : Int32) < (x &&& 255) := by
  have q := c_and x 255 (by decide)
  simp only [Int32.lt_iff_toInt_lt]
  have e1 : (255 : Int32).toInt = 255 := by decide
  have e0 : (0 : Int32).toInt = 0 := by decide
  rw [e1] at q ⊢; rw [e0]; omega
theorem nar_c8 (x : Int32) : nar .char (x &&& 255) = x &&& 255 := i2c_mask x
theorem nar_i2c8 (x : Int32) : nar .char (x &&& 255).toUInt32.toUInt16.toUInt32.toInt32 = x &&& 255 := by rw [i2c_mask]; exact i2c_mask x
theorem i8_idem (x : Int32) : x.toInt8.toInt32.toInt8.toInt32 = x.toInt8.toInt32 := by rw [Int8.toInt8_toInt32]
theorem Arv.ty_ne {k1 k2 : ClassId} {t1 t2 : FieldType} {z1 z2 : Int32} {v1 v2 : List Value} {d1 d2 : Value} (A : Arv G.Z h a k1 t1 z1 v1 d1) (A' : Arv G.Z h b k2 t2 z2 v2 d2) (q : t1 ≠ t2) : a ≠ b := fun e => by
  subst e
  obtain ⟨c1, ⟨x1, ⟨-, kk, y1, p1, z1⟩, -⟩, -⟩ := A
  obtain ⟨c2, ⟨x2, ⟨-, kk', y2, p2, z2⟩, -⟩, -⟩ := A'
  cases x1.symm.trans x2
  cases y1.symm.trans y2
  have := z1.symm.trans z2
  injection this with _ e
  exact q e
end Small
end Jvm.OwnW
namespace Jvm.OwnW
open Sem ClassFile Op Lib Bundle Jvm.Stand Jvm.Free Jvm.LawKit Jvm.RoadKit
section Small2
variable {G : Gb} {h h1 : Heap} {a b : Addr} {cs ds : List Int32}
theorem Str.wrO {C : String} {n sl : Nat} {v : Value} (S : Str G h b cs) (E : Exa G.Z h a C) (hC : C ≠ "java/lang/String") (wi : Wd G (.instantiable C n)) (W : Wr h h1 a sl v) : Str G h1 b cs := by
  obtain ⟨t, kb, e1, e2, e3, e4⟩ := S
  have n1 : b ≠ a := fun q => (Exa.ne E e1 hC) q.symm
  have n2 : t ≠ a := (Exa.neArv E e4 wi).symm
  exact ⟨t, kb, Exa.wr W e1, Fld.other W e2 (Or.inl n1), Fld.other W e3 (Or.inl n1), e4.other W n2⟩
theorem get_map {i : Nat} (q : i < cs.length) : (cs.map Value.int).getD i (.int 0) = .int cs[i] := by
  simp [List.getD_eq_getElem?_getD, q]
theorem get_by8 {i : Nat} (q : i < cs.length) : (by8 cs).getD i (.int 0) = .int cs[i].toInt8.toInt32 := by
  simp [by8, List.getD_eq_getElem?_getD, q]
theorem set_by8 {i k : Nat} (q : i < cs.length) : (by8 (cs.take i) ++ List.replicate (k + 1) (Value.int 0)).set i (.int (nar .byte cs[i].toInt8.toInt32)) = by8 (cs.take (i + 1)) ++ List.replicate k (Value.int 0) := by
  have e : nar .byte cs[i].toInt8.toInt32 = cs[i].toInt8.toInt32 := i8_idem _
  have l : (by8 (cs.take i)).length = i := by rw [by8_len, List.length_take]; omega
  rw [e, List.set_append_right _ _ (Nat.le_of_eq l), l, Nat.sub_self, List.replicate_succ, List.set_cons_zero, List.take_succ_eq_append_getElem q]
  show _ = List.map _ (cs.take i ++ [cs[i]]) ++ _
  rw [List.map_append, List.append_assoc]
  rfl
theorem len_zero {n : Nat} (hn : n < 2 ^ 31) (q : n.toInt32 = 0) : n = 0 := by
  have e := congrArg Int32.toInt q
  rw [len_toInt hn] at e
  have : (0 : Int32).toInt = 0 := rfl
  omega
theorem len_inj {n m : Nat} (hn : n < 2 ^ 31) (hm : m < 2 ^ 31) (q : n.toInt32 = m.toInt32) : n = m := by
  have e := congrArg Int32.toInt q
  rw [len_toInt hn, len_toInt hm] at e
  omega
/-- the low byte, as signed, tells a char of 0 to 255 -/
theorem i8_inj {x y : Int32} (hx : ¬ x < 0 ∧ ¬ (255 : Int32) < x) (hy : ¬ y < 0 ∧ ¬ (255 : Int32) < y) (q : x.toInt8.toInt32 = y.toInt8.toInt32) : x = y := by
  have e := congrArg Int32.toInt q
  have a1 := c_i2b x
  have a2 := c_i2b y
  simp only [Int32.lt_iff_toInt_lt] at hx hy
  have e0 : (0 : Int32).toInt = 0 := by decide
  have e1 : (255 : Int32).toInt = 255 := by decide
  rw [e0, e1] at hx hy
  apply Int32.toInt_inj.mp
  omega
theorem by8_inj : ∀ {cs ds : List Int32}, (∀ c ∈ cs, ¬ c < 0 ∧ ¬ (255 : Int32) < c) → (∀ c ∈ ds, ¬ c < 0 ∧ ¬ (255 : Int32) < c) → by8 cs = by8 ds → cs = ds
  | [], [], _, _, _ => rfl
  | [], _ :: _, _, _, q => by cases q
  | _ :: _, [], _, _, q => by cases q
  | c :: cs, d :: ds, h1, h2, q => by
    simp only [by8, List.map_cons, List.cons.injEq, Value.int.injEq] at q
    rw [i8_inj (h1 c (List.mem_cons_self ..)) (h2 d (List.mem_cons_self ..)) q.1, by8_inj (fun x hx => h1 x (List.mem_cons_of_mem _ hx)) (fun x hx => h2 x (List.mem_cons_of_mem _ hx)) q.2]
/-- one String, one text -/
theorem Str.inj (hl : Lat cs) (hl' : Lat ds) (S : Str G h a cs) (S' : Str G h a ds) : cs = ds := by
  obtain ⟨t, kb, -, -, e3, c, A, -, z1, -, H, -⟩ := S
  obtain ⟨t', kb', -, -, f3, c', A', -, z2, -, H', -⟩ := S'
  have et : t = t' := by
    by_cases u : (Value.ref t) = .ref t'
    · exact Value.ref.inj u
    · exact absurd rfl (Fld.ne e3 f3 u)
  subst et
  cases A.1.symm.trans A'.1
  have n1 := lat_lt hl
  have n2 := lat_lt hl'
  rw [len_nat n1] at z1
  rw [len_nat n2] at z2
  refine by8_inj hl.2 hl'.2 (List.ext_getElem (by rw [by8_len, by8_len]; omega) fun i q1 q2 => ?_)
  have u1 := H i (by rw [by8_len] at q1; omega)
  have u2 := H' i (by rw [by8_len] at q1; omega)
  have := Option.some.inj (u1.symm.trans u2)
  rw [List.getD_eq_getElem?_getD, List.getD_eq_getElem?_getD, List.getElem?_eq_getElem q1, List.getElem?_eq_getElem q2] at this
  exact this
end Small2
end Jvm.OwnW
namespace Jvm.OwnW
open Sem ClassFile Op Lib Bundle Jvm.Stand Jvm.Free Jvm.LawKit Jvm.RoadKit
theorem bool_n {b : Int32} (q : b = 0 ∨ b = 1) : narrow .boolean (.int b) = .int b := by rcases q with rfl | rfl <;> rfl
theorem bool_f {b : Int32} (q : b = 0 ∨ b = 1) : fits .boolean (.int b) = true := by rcases q with rfl | rfl <;> rfl
theorem lat1 {x : Int32} (q : ¬ x < 0 ∧ ¬ (255 : Int32) < x) : Lat [x] := ⟨(by simp), fun c hc => by cases List.mem_singleton.mp hc; exact q⟩
theorem lat0 : Lat [] := ⟨(by decide), fun c hc => nomatch hc⟩
theorem latC {x : Int32} {cs : List Int32} (q : ¬ x < 0 ∧ ¬ (255 : Int32) < x) (l : Lat cs) (hn : cs.length + 1 ≤ 4000) : Lat (x :: cs) := ⟨hn, fun c hc => by
  rcases List.mem_cons.mp hc with rfl | hc
  · exact q
  · exact l.2 c hc⟩
end Jvm.OwnW
namespace Jvm.OwnW
open Sem ClassFile Op Lib Bundle Jvm.Stand Jvm.Free Jvm.LawKit Jvm.RoadKit
theorem shr0 (x : Int32) : x >>> ((0 : Int32) &&& 31) = x := by
  have e := c_ishr x 0 0 (by decide)
  apply Int32.toInt_inj.mp
  rw [e]; simp
theorem c8_id {c : Int32} (q : ¬ c < 0 ∧ ¬ (255 : Int32) < c) : c &&& 255 = c := by
  apply Int32.toInt_inj.mp
  rw [c_mask c 255 8 (by decide) (by decide)]
  simp only [Int32.lt_iff_toInt_lt] at q
  have e0 : (0 : Int32).toInt = 0 := by decide
  have e1 : (255 : Int32).toInt = 255 := by decide
  rw [e0, e1] at q
  have : ((2 ^ 8 : Nat) : Int) = 256 := by decide
  rw [this]; omega
theorem nar_id {c : Int32} (q : ¬ c < 0 ∧ ¬ (255 : Int32) < c) : nar .char c = c := by
  have e := nar_c8 c
  rw [c8_id q] at e
  exact e
theorem char_n {c : Int32} (q : ¬ c < 0 ∧ ¬ (255 : Int32) < c) : narrow .char (.int c) = .int c := congrArg Value.int (nar_id q)
theorem b8_char {c : Int32} (q : ¬ c < 0 ∧ ¬ (255 : Int32) < c) : (c.toInt8.toInt32 &&& (255 : Int32)).toUInt32.toUInt16.toUInt32.toInt32 = c := by
  rw [i2c_mask]
  apply Int32.toInt_inj.mp
  rw [c_mask _ 255 8 (by decide) (by decide)]
  have a1 := c_i2b c
  simp only [Int32.lt_iff_toInt_lt] at q
  have e0 : (0 : Int32).toInt = 0 := by decide
  have e1 : (255 : Int32).toInt = 255 := by decide
  rw [e0, e1] at q
  have : ((2 ^ 8 : Nat) : Int) = 256 := by decide
  rw [this]; omega
end Jvm.OwnW
namespace Jvm.OwnW
open Sem ClassFile Op Lib Bundle Jvm.Stand Jvm.Free Jvm.LawKit Jvm.RoadKit
theorem Str.keepO {G : Gb} {h h1 : Heap} {a b : Addr} {cs : List Int32} {C : String} {n : Nat} (S : Str G h b cs) (E : Exa G.Z h a C) (hC : C ≠ "java/lang/String") (wi : Wd G (.instantiable C n)) (K : Keep h h1 [a]) : Str G h1 b cs := by
  obtain ⟨t, kb, e1, e2, e3, e4⟩ := S
  have n1 : b ≠ a := fun q => (Exa.ne E e1 hC) q.symm
  have n2 : t ≠ a := (Exa.neArv E e4 wi).symm
  exact ⟨t, kb, e1.keep K, e2.keep K (ninS n1 nin0), e3.keep K (ninS n1 nin0), e4.keep K (ninS n2 nin0)⟩
end Jvm.OwnW
namespace Jvm.OwnW
theorem cmpL_self (x : Int64) : Jvm.Free.XT.cmpL x x = 0 := by simp [Jvm.Free.XT.cmpL]
end Jvm.OwnW
namespace Jvm.OwnW
open Sem ClassFile Op Lib Bundle Jvm.Stand Jvm.Free Jvm.LawKit Jvm.RoadKit
theorem rem3 (x : Int32) : (x &&& 3) % 3 = 0 ∨ (x &&& 3) % 3 = 1 ∨ (x &&& 3) % 3 = 2 := by
  have a := c_and x 3 (by decide)
  have b := (c_irem (x &&& 3) 3 3 (by decide)).1 a.1
  have e0 : (0 : Int32).toInt = 0 := by decide
  have e1 : (1 : Int32).toInt = 1 := by decide
  have e2 : (2 : Int32).toInt = 2 := by decide
  rcases (by omega : (x &&& 3).toInt % 3 = 0 ∨ (x &&& 3).toInt % 3 = 1 ∨ (x &&& 3).toInt % 3 = 2) with q | q | q
  · exact Or.inl (Int32.toInt_inj.mp (by rw [b, q, e0]))
  · exact Or.inr (Or.inl (Int32.toInt_inj.mp (by rw [b, q, e1])))
  · exact Or.inr (Or.inr (Int32.toInt_inj.mp (by rw [b, q, e2])))
theorem tok_fin {r kk s : Int32} {A B C : Prop} (sp : (r = 1 ∧ A ∧ B) ∨ (r = 0 ∧ ¬ (A ∧ B))) (hk : (kk = 1 ∧ C) ∨ (kk = 0 ∧ ¬ C)) (hs : (s = 1 ∧ B) ∨ (s = 0 ∧ ¬ B)) (hc : A ↔ C) : r = if kk = 0 then 0 else if s = 0 then 0 else 1 := by
  rcases hk with ⟨rfl, c⟩ | ⟨rfl, c⟩
  · rcases hs with ⟨rfl, b⟩ | ⟨rfl, b⟩
    · rcases sp with ⟨u, -⟩ | ⟨-, u⟩
      · rw [u]; simp
      · exact absurd ⟨hc.mpr c, b⟩ u
    · rcases sp with ⟨-, -, u⟩ | ⟨u, -⟩
      · exact absurd u b
      · rw [u]; simp
  · rcases sp with ⟨-, u, -⟩ | ⟨u, -⟩
    · exact absurd (hc.mp u) c
    · rw [u]; simp
/-- the text that a maker of Strings of up to two chars makes -/
def Mk2 (n c0 c1 : Int32) (cs : List Int32) : Prop := (n = 0 ∧ cs = []) ∨ (¬ n = 0 ∧ n = 1 ∧ cs = [c0]) ∨ (¬ n = 0 ∧ ¬ n = 1 ∧ cs = [c0, c1])
theorem Mk2.zero {c0 c1 : Int32} {cs : List Int32} (q : Mk2 0 c0 c1 cs) : cs = [] := by rcases q with ⟨-, q⟩ | ⟨q, -⟩ | ⟨q, -⟩ <;> first | exact q | exact absurd rfl q
theorem Mk2.one {c0 c1 : Int32} {cs : List Int32} (q : Mk2 1 c0 c1 cs) : cs = [c0] := by rcases q with ⟨q, -⟩ | ⟨-, -, q⟩ | ⟨-, q, -⟩ <;> first | exact q | exact absurd rfl q | exact absurd q (by decide)
theorem Mk2.two {c0 c1 : Int32} {cs : List Int32} (q : Mk2 2 c0 c1 cs) : cs = [c0, c1] := by rcases q with ⟨q, -⟩ | ⟨-, q, -⟩ | ⟨-, -, q⟩ <;> first | exact q | exact absurd q (by decide)
/-- two such texts -/
theorem Mk2.same {n m c0 c1 d0 d1 : Int32} {cs ds : List Int32} (hn : n = 0 ∨ n = 1 ∨ n = 2) (hm : m = 0 ∨ m = 1 ∨ m = 2) (q : Mk2 n c0 c1 cs) (r : Mk2 m d0 d1 ds) : cs = ds ↔ (n = m ∧ (n < 1 ∨ c0 = d0) ∧ (n < 2 ∨ c1 = d1)) := by
  rcases hn with rfl | rfl | rfl <;> rcases hm with rfl | rfl | rfl <;> (first | rw [q.zero] | rw [q.one] | rw [q.two]) <;> (first | rw [r.zero] | rw [r.one] | rw [r.two]) <;> simp
end Jvm.OwnW
namespace Jvm.OwnW
open Sem ClassFile Op Lib Bundle Jvm.Stand Jvm.Free Jvm.LawKit Jvm.RoadKit
theorem nar_ii {c : Int32} (q : ¬ c < 0 ∧ ¬ (255 : Int32) < c) : nar .char c.toUInt32.toUInt16.toUInt32.toInt32 = c := by
  have e : c.toUInt32.toUInt16.toUInt32.toInt32 = c := nar_id q
  rw [e]; exact nar_id q
theorem x8_lat (x y : Int32) : ¬ ((x &&& 255) ^^^ (y &&& 255)) < 0 ∧ ¬ (255 : Int32) < ((x &&& 255) ^^^ (y &&& 255)) := by
  have e : (x &&& 255) ^^^ (y &&& 255) = (x ^^^ y) &&& 255 := by
    apply Int32.toBitVec_inj.mp
    simp only [Int32.toBitVec_xor, Int32.toBitVec_and]
    apply BitVec.eq_of_getLsbD_eq
    intro i hi
    simp only [BitVec.getLsbD_and, BitVec.getLsbD_xor]
    cases x.toBitVec.getLsbD i <;> cases y.toBitVec.getLsbD i <;> cases (255 : Int32).toBitVec.getLsbD i <;> rfl
  rw [e]; exact c8_lat _
/-- a class under Object alone can't be cast to another one that is no interface -/
theorem noCast {G : Gb} {C O K : String} {n : Nat} (w : Wd G (.superclass C O)) (w0 : Wd G (.noSuperclass O)) (wi : Wd G (.instantiable K n)) (h1 : C ≠ K) (h2 : O ≠ K) : ∃ c t, G.Z.vm.findClass C = some c ∧ G.Z.vm.findClass K = some t ∧ G.Z.vm.assignable c t = false := by
  obtain ⟨c, hc⟩ := found_sup w
  obtain ⟨p, k, kp, a1, a2, a3, a4, a5, -, a7⟩ := Cond.superclass_spec hc w
  obtain ⟨o, ko, b1, b2, b3, -, -⟩ := Cond.noSuperclass_spec w0
  cases b1.symm.trans a1
  obtain ⟨t, kt, c1, c2, c3, c4, c5, -⟩ := Cond.instantiable_spec wi
  have n1 := ids_ne hc c1 h1
  have n2 := ids_ne b1 c1 h2
  have c4' := (Bool.or_eq_false_iff.mp c4).1
  refine ⟨c, t, hc, c1, ?_⟩
  show G.Z.vm.assignableAux (255 + 1) c t = false
  simp [Vm.assignableAux, n1, a2, c2, a5, c3, c4', Vm.isSubclass, Vm.isSubclassAux, a4]
  generalize G.Z.vm.classes.size = f
  cases f <;> simp [Vm.isSubclassAux, n2, b2, b3]
end Jvm.OwnW
namespace Jvm.OwnW
open Jvm.RoadKit
theorem fld_apart {args : Array Value} {s : State} {t u : Term} {C n d : String} {a b : Addr} {i j : Value} (e1 : t.eval args s none [] s = some (.ref a)) (e2 : u.eval args s none [] s = some (.ref b)) (f1 : (Term.field t C n d).eval args s none [] s = some i) (f2 : (Term.field u C n d).eval args s none [] s = some j) (q : i ≠ j) : a ≠ b := fun e => by
  subst e
  rw [fld_at e1] at f1
  rw [fld_at e2] at f2
  exact q (Option.some.inj (f1.symm.trans f2))
end Jvm.OwnW
namespace Jvm.OwnW
open Sem ClassFile Op Lib Bundle Jvm.Stand Jvm.Free Jvm.LawKit Jvm.RoadKit
section More
variable {G : Gb} {B : Cx} {M : Mt} {R : Room} {Q : Option Value → Heap → (Addr → Prop) → Prop} {h : Heap} {sf : List Addr} {cells slots pc : Nat} {Ls : Array Slot} {st : List Value}
theorem sameM {y z : MethodName} {C : String} (wd : Wd G (.declares y)) (ws : Wd G (.selects C z z)) (hc : y.cls = z.cls) (hy : y.cls ≠ "java/lang/invoke/MethodHandle" ∧ y.cls ≠ "java/lang/invoke/VarHandle") : Wd G (.sameMethod y.cls y.cls y.name y.desc) := by
  obtain ⟨r0, r, hn, -⟩ := Cond.declares_spec wd
  obtain ⟨c2, r2, m2, q1, q2, q3, q4, kP, hkP, hkPi⟩ := Cond.selects_spec ws
  have e1 := findClass_of_methodNamed hn
  have e2 := findClass_of_methodNamed q3
  rw [← hc] at e2
  have e3 : m2.cls = r0.cls := Option.some.inj (e2.symm.trans e1)
  have e4 := State.methodFound?_of_named hn hy
  have e5 : G.Z.methodNamed? ⟨y.cls, y.name, y.desc⟩ = some r0 := hn
  rw [e3] at hkP
  show (Jvm.Cond.sameMethod y.cls y.cls y.name y.desc).before G.a0 G.Z = true
  simp [Cond.before, Cond.holds, Cond.value, e1, e4, e5, hkP, hkPi]
/-- a method's class is no interface, told by another method of it -/
theorem nfO {C : String} {y z : MethodName} {s : State} (w : Wd G (.selects C z z)) (hc : y.cls = z.cls) : ∀ vm0 : Vm, G.Z.Warmed39 vm0 → NotFace (s.setVm vm0) y := fun vm0 hZ r0 h0 => by
  obtain ⟨c2, r2, m2, q1, q2, q3, q4, kP, hkP, hkPi⟩ := Cond.selects_spec (mv (s := s.setVm vm0) (args := #[]) hZ w)
  have e1 := findClass_of_methodNamed h0
  have e2 := findClass_of_methodNamed q3
  rw [hc] at e1
  have e3 : m2.cls = r0.cls := Option.some.inj (e2.symm.trans e1)
  exact ⟨kP, by rw [← e3]; exact hkP, hkPi⟩
theorem go_superN (K : Kd G B M) {k ix : Nat} {y : MethodName} {bytes : ByteArray} {maxL : Nat} {ret : Option FieldType} {rm : Room} {C : String} {a : Addr} {argsL rest : List Value} {ps : List FieldType} {rt : Option FieldType} {sf' : List Addr} {Qc : Option Value → Heap → (Addr → Prop) → Prop} (hd : M.P[k]? = some (pc, .invokespecial ix, 3))
    (w1 : Wd G (.methodLink M.own ix y)) (w2 : Wd G (.sameMethod y.cls y.cls y.name y.desc)) (w3 : Wd G (.instanceMethod y)) (w4 : Wd G (.superclass M.own y.cls)) (w5 : Wd G (.initialized y.cls)) (w6 : Wd G (.code y bytes maxL ret)) (hn : y.name ≠ "<init>") (pd : parseMethodDescriptor y.desc = some ⟨ps, rt⟩) (E : Exa G.Z h a C)
    (Ct : Ctr G [] y bytes maxL ret rm (.ref a :: argsL).toArray h sf' Qc) (hst : st = argsL.reverse ++ .ref a :: rest) (hlen : argsL.length = ps.length) (hsz : Ls.size = M.maxL) (hsub : ∀ x ∈ sf', x ∈ sf) (hrm : rok M.R rest maxL rm cells slots = true)
    (g : ∀ (v : Option Value) (h' : Heap) (Sf : Addr → Prop), h.size ≤ h'.size → Qc v h' Sf → ∃ nw : List Addr, (∀ x ∈ nw, Sf x) ∧ Go G B M Q h' (nw ++ sf) (cells + rm.cells) (slots + rm.slots) (pc + 3) Ls (v.toList ++ rest)) : Go G B M Q h sf cells slots pc Ls st := by
  intro T vm0 k0 locs W
  obtain ⟨r1, r2, r3, r4⟩ := rok_ok hrm
  obtain ⟨X, eT, hS, hk, hZ, hown, hF, hE, hC, hs⟩ := id W
  subst hst
  exact call_on W (superBackS X K.1 hZ hown w1 w2 w3 w4 hn (backG (W := (rest.map fun v => v.category).sum) Ct hZ w6 w5 r1 r2 K.2.2.2.2.2.2 hC.1 hE (fun x hx => hs x (hsub x hx))) eT (Ins.self E) (g := mkF B.m pc Ls (argsL.reverse ++ .ref a :: rest)) rfl (hsz.trans K.2.2.1.symm) w6 (argsL := argsL) (rest := rest) (lenOf pd hlen) rfl (by show 2 * 0 + _ ≤ _; omega) (K.dec hd) (fun vm₁ _ => ⟨rfl, eT, r3, r4⟩)) g
theorem go_super (K : Kd G B M) {k ix : Nat} {y : MethodName} {bytes : ByteArray} {maxL : Nat} {ret : Option FieldType} {rm : Room} {C : String} {a : Addr} {argsL rest : List Value} {ps : List FieldType} {rt : Option FieldType} {sf' : List Addr} {Qc : Option Value → Heap → (Addr → Prop) → Prop} (hd : M.P[k]? = some (pc, .invokespecial ix, 3))
    (w1 : Wd G (.methodLink M.own ix y)) (w2 : Wd G (.sameMethod y.cls y.cls y.name y.desc)) (w3 : Wd G (.instanceMethod y)) (w4 : Wd G (.superclass M.own y.cls)) (w5 : Wd G (.initialized y.cls)) (w6 : Wd G (.code y bytes maxL ret)) (hn : y.name ≠ "<init>") (pd : parseMethodDescriptor y.desc = some ⟨ps, rt⟩) (E : Exa G.Z h a C)
    (Ct : Ctr G [] y bytes maxL ret rm (.ref a :: argsL).toArray h sf' Qc) (hst : st = argsL.reverse ++ .ref a :: rest) (hlen : argsL.length = ps.length) (hsz : Ls.size = M.maxL) (hsub : ∀ x ∈ sf', x ∈ sf) (hrm : rok M.R rest maxL rm cells slots = true)
    (g : ∀ (v : Option Value) (h' : Heap) (Sf : Addr → Prop), h.size ≤ h'.size → Qc v h' Sf → Go G B M Q h' sf (cells + rm.cells) (slots + rm.slots) (pc + 3) Ls (v.toList ++ rest)) : Go G B M Q h sf cells slots pc Ls st :=
  go_superN K hd w1 w2 w3 w4 w5 w6 hn pd E Ct hst hlen hsz hsub hrm fun v h' Sf z q => ⟨[], (fun _ u => nomatch u), g v h' Sf z q⟩
/-- invokevirtual of a method that the receiver's class takes as it stands, the entry's own class declaring it: private ones too -/
theorem go_virt0N (K : Kd G B M) {k ix : Nat} {y : MethodName} {bytes : ByteArray} {maxL : Nat} {ret : Option FieldType} {rm : Room} {C : String} {a : Addr} {argsL rest : List Value} {ps : List FieldType} {rt : Option FieldType} {sf' : List Addr} {Qc : Option Value → Heap → (Addr → Prop) → Prop} (hd : M.P[k]? = some (pc, .invokevirtual ix, 3))
    (w1 : Wd G (.methodLink M.own ix y)) (w3 : Wd G (.selects C y y)) (w4 : Wd G (.instanceMethod y)) (w5 : Wd G (.initialized y.cls)) (w6 : Wd G (.code y bytes maxL ret)) (hy : y.cls ≠ "java/lang/invoke/MethodHandle" ∧ y.cls ≠ "java/lang/invoke/VarHandle") (pd : parseMethodDescriptor y.desc = some ⟨ps, rt⟩) (E : Exa G.Z h a C)
    (Ct : Ctr G [] y bytes maxL ret rm (.ref a :: argsL).toArray h sf' Qc) (hst : st = argsL.reverse ++ .ref a :: rest) (hlen : argsL.length = ps.length) (hsz : Ls.size = M.maxL) (hsub : ∀ x ∈ sf', x ∈ sf) (hrm : rok M.R rest maxL rm cells slots = true)
    (g : ∀ (v : Option Value) (h' : Heap) (Sf : Addr → Prop), h.size ≤ h'.size → Qc v h' Sf → ∃ nw : List Addr, (∀ x ∈ nw, Sf x) ∧ Go G B M Q h' (nw ++ sf) (cells + rm.cells) (slots + rm.slots) (pc + 3) Ls (v.toList ++ rest)) : Go G B M Q h sf cells slots pc Ls st := by
  intro T vm0 k0 locs W
  obtain ⟨r1, r2, r3, r4⟩ := rok_ok hrm
  obtain ⟨X, eT, hS, hk, hZ, hown, hF, hE, hC, hs⟩ := id W
  obtain ⟨cB, kB, i1, i2, cellB, i3, i4, i5⟩ := isOf (s := B.s.setVm vm0) hZ eT E
  subst hst
  have v3 : (Jvm.Cond.selects C y y).before B.as (B.s.setVm vm0) = true := mv hZ w3
  have v4 : (Jvm.Cond.instanceMethod y).before B.as (B.s.setVm vm0) = true := mv hZ w4
  have v6 : (Jvm.Cond.code y bytes maxL ret).before B.as (B.s.setVm vm0) = true := mv hZ w6
  obtain ⟨mk, methM, hnamed, hmethM, hstM, habM⟩ := Cond.instanceMethod_spec v4
  obtain ⟨methM', cM, hmethM', -, -, -, -, -, -, hsigM⟩ := Cond.code_spec hnamed v6
  cases hmethM.symm.trans hmethM'
  obtain ⟨c2, r2', m2, q1, q2, q3, q4, kP, hkP, hkPi⟩ := Cond.selects_spec v3
  cases i1.symm.trans q1
  cases (State.methodFound?_of_named hnamed hy).symm.trans q2
  cases hnamed.symm.trans q3
  have hselP : selectMethod B.e.platform (B.s.setVm vm0).vm cellB.cls mk = .method mk := by rw [Launch.admits_selectMethod X.admits, i4]; exact q4
  have hlen' : ∀ sig, parseMethodDescriptor y.desc = some sig → argsL.length = sig.parameters.length := lenOf pd hlen
  have hK := backG (R := M.R) (p := B.p) (e := B.e) (below := B.bl) (s := B.s) (args := B.as) (len := 3) (W := (rest.map fun v => v.category).sum) Ct hZ w6 w5 r1 r2 K.2.2.2.2.2.2 hC.1 hE (fun x hx => hs x (hsub x hx))
  refine call_on W ?_ g
  obtain ⟨vm₁, X₁, hstep₁⟩ := X.invokevirtual K.1 hown (mv hZ w1) hnamed hmethM hstM hkP hkPi hy (a := a) (cell := cellB) i3 (fun z u => by rw [u] at i5; cases i5) hselP hmethM habM hkP hkPi (g := mkF B.m pc Ls (argsL.reverse ++ .ref a :: rest)) rfl (argsL := argsL) (rest := rest) (hlen' _ hsigM) rfl (K.dec hd)
  obtain ⟨v, A, X', hS', hgr, hpost, hsteps⟩ := hK B.m B.mt B.c ⟨T.setVm vm₁, locs, cells, slots⟩ { mkF B.m pc Ls (argsL.reverse ++ .ref a :: rest) with stack := rest } (.invokevirtual ix) mk (.ref a :: argsL).toArray X₁ rfl (hsz.trans K.2.2.1.symm) (K.dec hd) (by show 2 * 0 + (rest.map fun v => v.category).sum ≤ _; omega) (X₁.named hnamed) ⟨rfl, eT, r3, r4⟩
  exact ⟨v, vm₁, A, X₁.warmed, X', hS', hgr, hpost, (hstep₁ _ fun acts => by rw [doInvoke_state]; exact Steps.refl _).trans hsteps⟩
theorem go_virt0 (K : Kd G B M) {k ix : Nat} {y : MethodName} {bytes : ByteArray} {maxL : Nat} {ret : Option FieldType} {rm : Room} {C : String} {a : Addr} {argsL rest : List Value} {ps : List FieldType} {rt : Option FieldType} {sf' : List Addr} {Qc : Option Value → Heap → (Addr → Prop) → Prop} (hd : M.P[k]? = some (pc, .invokevirtual ix, 3))
    (w1 : Wd G (.methodLink M.own ix y)) (w3 : Wd G (.selects C y y)) (w4 : Wd G (.instanceMethod y)) (w5 : Wd G (.initialized y.cls)) (w6 : Wd G (.code y bytes maxL ret)) (hy : y.cls ≠ "java/lang/invoke/MethodHandle" ∧ y.cls ≠ "java/lang/invoke/VarHandle") (pd : parseMethodDescriptor y.desc = some ⟨ps, rt⟩) (E : Exa G.Z h a C)
    (Ct : Ctr G [] y bytes maxL ret rm (.ref a :: argsL).toArray h sf' Qc) (hst : st = argsL.reverse ++ .ref a :: rest) (hlen : argsL.length = ps.length) (hsz : Ls.size = M.maxL) (hsub : ∀ x ∈ sf', x ∈ sf) (hrm : rok M.R rest maxL rm cells slots = true)
    (g : ∀ (v : Option Value) (h' : Heap) (Sf : Addr → Prop), h.size ≤ h'.size → Qc v h' Sf → Go G B M Q h' sf (cells + rm.cells) (slots + rm.slots) (pc + 3) Ls (v.toList ++ rest)) : Go G B M Q h sf cells slots pc Ls st :=
  go_virt0N K hd w1 w3 w4 w5 w6 hy pd E Ct hst hlen hsz hsub hrm fun v h' Sf z q => ⟨[], (fun _ u => nomatch u), g v h' Sf z q⟩
/-- System.arraycopy between arrays of one primitive kind -/
theorem go_arraycopy (K : Kd G B M) {k ix : Nat} {a b : Addr} {kA kB : ClassId} {ty : FieldType} {z z' sp dp nn : Int32} {vs vd us : List Value} {dv dd : Value} (hd : M.P[k]? = some (pc, .invokestatic ix, 3))
    (w1 : Wd G (.methodLink M.own ix Jvm.Stand.acN)) (w2 : Wd G (.native Jvm.Stand.acN)) (w3 : Wd G (.static Jvm.Stand.acN)) (w4 : Wd G (.initialized "java/lang/System")) (A : Arv G.Z h a kA ty z vs dv) (A' : Arv G.Z h b kB ty z' vd dd) (hp : refKind ty = false)
    (h1 : ¬ sp < 0) (h2 : ¬ dp < 0) (h3 : ¬ nn < 0) (h4 : sp.toNatClampNeg + nn.toNatClampNeg ≤ z.toNatClampNeg) (h5 : dp.toNatClampNeg + nn.toNatClampNeg ≤ z'.toNatClampNeg)
    (hus : us = (List.range nn.toNatClampNeg).map fun i => vs.getD (sp.toNatClampNeg + i) dv) (hl : dp.toNatClampNeg + nn.toNatClampNeg ≤ vd.length) (ge : G.Z.heap.size ≤ b) (hsf : b ∈ sf ∨ ty ≠ .byte) (hsz : Ls.size = M.maxL)
    (hf : Nat.ble 1 M.R.frames = true) (hlo : Nat.ble ((st.map fun v => v.category).sum + (nativeFrameWords "java/lang/System" "arraycopy" 5 + 11)) M.R.locals = true)
    (g : ∀ h' : Heap, Keep h h' [b] → Arv G.Z h' b kB ty z' (vd.take dp.toNatClampNeg ++ us ++ vd.drop (dp.toNatClampNeg + nn.toNatClampNeg)) dd → Go G B M Q h' sf cells slots (pc + 3) Ls st) : Go G B M Q h sf cells slots pc Ls (.int nn :: .int dp :: .ref b :: .int sp :: .ref a :: st) := by
  intro T vm0 k0 locs W
  obtain ⟨X, eT, hS, hk, hZ, hown, hF, hE, hC, hs⟩ := W
  have S : Safe G.Z G.EL vm0 h b := hsf.elim (fun q => (hs b q).1) (fun q => Safe.arv hZ.alike A' q)
  obtain ⟨T', h', L, X', e', N', K', A2, st'⟩ := cpA X K.1 hZ hown w1 w2 w3 w4 eT A A' (Or.inl ⟨rfl, hp⟩) h1 h2 h3 h4 h5 hus hl hF ge (g := mkF B.m pc Ls (.int nn :: .int dp :: .ref b :: .int sp :: .ref a :: st)) rfl (hsz.trans K.2.2.1.symm) rfl (K.dec hd) (Nat.le_of_ble_eq_true hf) (W := (st.map fun v => v.category).sum) (by show 2 * 0 + _ ≤ _; omega) (Nat.le_of_ble_eq_true hlo)
  have sa : ∀ x ∈ [b], Safe G.Z G.EL vm0 h x := allS S all0
  exact (g h' K' A2 T' vm0 k0 L ⟨X', e', hS, Nat.le_trans hk K'.1, hZ, hown, N', (Old.keep (n0 := G.Z.heap.size) ⟨rfl, hE⟩ K' (allS ge all0)).2, hC.trans (CHr.keep K' sa hC.1), fun x hx => ⟨Safe.keep K' sa hC.1 (hs x hx).1, Nat.lt_of_lt_of_le (hs x hx).2 K'.1⟩⟩).pre st'
end More
end Jvm.OwnW
namespace Jvm.OwnW
open Sem ClassFile Op Lib Bundle Jvm.Stand Jvm.Free Jvm.LawKit Jvm.RoadKit
section Bld
variable {G : Gb} {h h1 : Heap} {a t : Addr} {kb : ClassId} {cs ds : List Int32} {m : Nat}
/-- a StringBuilder a over the byte[] t of m bytes, holding the chars cs -/
def Sb (G : Gb) (h : Heap) (a t : Addr) (kb : ClassId) (cs : List Int32) (m : Nat) : Prop :=
  Exa G.Z h a "java/lang/StringBuilder" ∧ Fld G.Z h a "java/lang/AbstractStringBuilder" "value" "[B" (.ref t) ∧ Fld G.Z h a "java/lang/AbstractStringBuilder" "coder" "B" (.int 0) ∧
  Fld G.Z h a "java/lang/AbstractStringBuilder" "count" "I" (.int cs.length.toInt32) ∧ Arv G.Z h t kb .byte m.toInt32 (by8 cs ++ List.replicate (m - cs.length) (.int 0)) (.int 0) ∧ cs.length ≤ m ∧ m < 2 ^ 31
theorem Sb.ext (S : Sb G h a t kb cs m) (E : Ext h h1) : Sb G h1 a t kb cs m := by
  obtain ⟨e1, e2, e3, e4, e5, e6⟩ := S
  exact ⟨Exa.ext E e1, Fld.ext E e2, Fld.ext E e3, Fld.ext E e4, e5.ext E, e6⟩
theorem Sb.exa (S : Sb G h a t kb cs m) : Exa G.Z h a "java/lang/StringBuilder" := S.1
theorem Str.keep2 {C : String} {n : Nat} {b : Addr} (S : Str G h b cs) (E : Exa G.Z h a C) (hC : C ≠ "java/lang/String") (wi : Wd G (.instantiable C n)) (ws : Wd G (.instantiable "java/lang/String" 4)) (A : Arv G.Z h t kb .byte m.toInt32 ((by8 ds) ++ List.replicate (m - ds.length) (.int 0)) (.int 0)) (hne : ∀ u, Fld G.Z h b "java/lang/String" "value" "[B" (.ref u) → u ≠ t) (K : Keep h h1 [a, t]) : Str G h1 b cs := by
  obtain ⟨u, ku, e1, e2, e3, e4⟩ := S
  have n1 : b ≠ a := fun q => (Exa.ne E e1 hC) q.symm
  have n2 : u ≠ a := (Exa.neArv E e4 wi).symm
  have n3 : b ≠ t := Exa.neArv e1 A ws
  have n4 : u ≠ t := hne u e3
  exact ⟨u, ku, e1.keep K, e2.keep K (ninS n1 (ninS n3 nin0)), e3.keep K (ninS n1 (ninS n3 nin0)), e4.keep K (ninS n2 (ninS n4 nin0))⟩
theorem shl0 (x : Int32) : x <<< ((0 : Int32) &&& 31) = x := by
  rw [shlm (m := 1) (by decide)]; simp
theorem add_len (n k : Nat) : n.toInt32 + k.toInt32 = (n + k).toInt32 := (Int32.ofNat_add n k).symm
theorem sub_len {n k : Nat} (q : k ≤ n) : n.toInt32 - k.toInt32 = (n - k).toInt32 := by
  have e := add_len (n - k) k
  rw [Nat.sub_add_cancel q] at e
  rw [← e, Int32.add_sub_cancel]
theorem le_len {n k : Nat} (hk : k < 2 ^ 31) (q : n ≤ k) : ¬ 0 < n.toInt32 - k.toInt32 := by
  have h1 := len_toInt (Nat.lt_of_le_of_lt q hk)
  have h2 := len_toInt hk
  have h3 := c_isub n.toInt32 k.toInt32
  have h4 := rng32 (n.toInt32 - k.toInt32)
  rw [h1, h2] at h3
  rw [Int32.lt_iff_toInt_lt]
  have e0 : (0 : Int32).toInt = 0 := rfl
  rw [e0]; omega
theorem len_ge {p q : Nat} (hp : p < 2 ^ 31) (hq : q < 2 ^ 31) (h : q ≤ p) (u : ¬ q.toInt32 < p.toInt32) : p.toInt32 = q.toInt32 := by
  rcases Nat.lt_or_ge q p with v | v
  · exact absurd (len_lt hp v) u
  · rw [Nat.le_antisymm v h]
theorem map_range {vs : List Value} {d : Value} {i n : Nat} (q : i + n ≤ vs.length) : (List.range n).map (fun k => vs.getD (i + k) d) = (vs.drop i).take n := by
  apply List.ext_getElem
  · simp; omega
  · intro j p1 p2
    have hj : i + j < vs.length := by simp at p1; omega
    simp [List.getD_eq_getElem?_getD, hj]
theorem by8_app : by8 (cs ++ ds) = by8 cs ++ by8 ds := by simp [by8]
theorem by8_take {n : Nat} : by8 (cs.take n) = (by8 cs).take n := by simp [by8, List.map_take]
theorem by8_drop {n : Nat} : by8 (cs.drop n) = (by8 cs).drop n := by simp [by8, List.map_drop]
/-- the chars ds put behind cs -/
theorem sb_put (q : cs.length + ds.length ≤ m) : (by8 cs ++ List.replicate (m - cs.length) (Value.int 0)).take cs.length ++ by8 ds ++ (by8 cs ++ List.replicate (m - cs.length) (Value.int 0)).drop (cs.length + ds.length) = by8 (cs ++ ds) ++ List.replicate (m - (cs ++ ds).length) (Value.int 0) := by
  have l : (by8 cs).length = cs.length := by8_len
  rw [List.take_append_of_le_length (by omega), List.take_of_length_le (by omega), List.drop_append, List.drop_of_length_le (by omega), List.nil_append, l, by8_app, List.length_append]
  congr 1
  rw [List.drop_replicate]
  congr 1
  omega
end Bld
end Jvm.OwnW
namespace Jvm.OwnW
open Sem ClassFile Op Lib Bundle Jvm.Stand Jvm.Free Jvm.LawKit Jvm.RoadKit
section More
variable {G : Gb} {B : Cx} {M : Mt} {Q : Option Value → Heap → (Addr → Prop) → Prop} {h : Heap} {sf : List Addr} {cells slots pc : Nat} {Ls : Array Slot} {st : List Value}
/-- 'getfield' over an entry that is resolved -/
theorem go_getfieldR (K : Kd G B M) {k ix : Nat} {O n d : String} {a : Addr} {v : Value} (hd : M.P[k]? = some (pc, .getfield ix, 3)) (w : Wd G (.fieldRef M.own ix O n d)) (F : Fld G.Z h a O n d v)
    (g : Go G B M Q h sf cells slots (pc + 3) Ls (v :: st)) : Go G B M Q h sf cells slots pc Ls (.ref a :: st) := by
  intro T vm0 k0 locs W
  obtain ⟨X, eT, hS, hk, hZ, hown, hF, hE, hC, hs⟩ := W
  have hW : G.Z.Warmed39 T.vm := wtrans hZ X.warmed
  have w' := Cond.fieldRef_warmed39 hW w
  have hcur : T.vm.findClass M.own = some B.m.cls := by
    rw [X.warmed.alike.findClass]; exact hown
  obtain ⟨c, k1, i, f, hi, hr⟩ := Cond.fieldRef_spec (cur := B.m.cls) (s := G.Z.setVm T.vm) hcur w'
  obtain ⟨cell, cf, k2, i2, f2, h1, h2, h3, h4, -, -, h7⟩ := F
  obtain ⟨k', hi', -⟩ := State.fieldFound?_setVm (s := G.Z) hW.alike h2
  cases hi.symm.trans hi'
  refine (g T vm0 k0 locs ⟨X, eT, hS, hk, hZ, hown, hF, hE, hC, hs⟩).pre (fun target hrest => ?_)
  have hd' := K.dec hd
  jvm_step X.here [K.1, hd', getfield.wp_ready (e := B.e) (s := T) (f := mkF B.m pc Ls (.ref a :: st)) X.here.top hr h3 rfl (show T.heap[a]? = some cell by rw [eT]; exact h1) h4 h7]
  exact hrest
/-- invokeinterface; the entry's own interface declares the method -/
theorem go_interfaceN (K : Kd G B M) {k ix cnt : Nat} {xi y : MethodName} {bytes : ByteArray} {maxL : Nat} {ret : Option FieldType} {rm : Room} {C : String} {a : Addr} {argsL rest : List Value} {ps : List FieldType} {rt : Option FieldType} {sf' : List Addr} {Qc : Option Value → Heap → (Addr → Prop) → Prop} (hd : M.P[k]? = some (pc, .invokeinterface ix cnt, 5))
    (w1 : Wd G (.methodLink M.own ix xi)) (w2 : Wd G (.declares xi)) (w3 : Wd G (.interfaceMethod xi.cls xi.cls xi.name xi.desc)) (w4 : Wd G (.selects C xi y)) (w5 : Wd G (.instanceMethod y)) (w6 : Wd G (.publicMethod y)) (w7 : Wd G (.unhidden C xi.name xi.desc)) (w8 : Wd G (.castable C xi.cls)) (w9 : Wd G (.initialized y.cls)) (w10 : Wd G (.code y bytes maxL ret)) (hfa : ((Jvm.Cond.interfaceMethod xi.cls xi.cls xi.name xi.desc).onTables && (Jvm.Cond.interfaceMethod xi.cls xi.cls xi.name xi.desc).keepsFace) = true)
    (hy : xi.cls ≠ "java/lang/invoke/MethodHandle" ∧ xi.cls ≠ "java/lang/invoke/VarHandle") (pd : parseMethodDescriptor xi.desc = some ⟨ps, rt⟩) (E : Exa G.Z h a C)
    (Ct : Ctr G [] y bytes maxL ret rm (.ref a :: argsL).toArray h sf' Qc) (hst : st = argsL.reverse ++ .ref a :: rest) (hlen : argsL.length = ps.length) (hsz : Ls.size = M.maxL) (hsub : ∀ x ∈ sf', x ∈ sf) (hrm : rok M.R rest maxL rm cells slots = true)
    (g : ∀ (v : Option Value) (h' : Heap) (Sf : Addr → Prop), h.size ≤ h'.size → Qc v h' Sf → ∃ nw : List Addr, (∀ x ∈ nw, Sf x) ∧ Go G B M Q h' (nw ++ sf) (cells + rm.cells) (slots + rm.slots) (pc + 5) Ls (v.toList ++ rest)) : Go G B M Q h sf cells slots pc Ls st := by
  intro T vm0 k0 locs W
  obtain ⟨r1, r2, r3, r4⟩ := rok_ok hrm
  obtain ⟨X, eT, hS, hk, hZ, hown, hF, hE, hC, hs⟩ := id W
  obtain ⟨cB, kB, i1, i2, i3⟩ := isOf (s := B.s.setVm vm0) hZ eT E
  subst hst
  exact call_on W (X.interfaceBackS K.1 hown (mv hZ w1) (mv hZ w2) (mv hZ w3 hfa) (mv hZ w4) (mv hZ w5) (mv hZ w6) (mv hZ w7) (mv hZ w8) hy (backG (W := (rest.map fun v => v.category).sum) Ct hZ w10 w9 r1 r2 K.2.2.2.2.2.2 hC.1 hE (fun x hx => hs x (hsub x hx))) i1 i2 i3 (g := mkF B.m pc Ls (argsL.reverse ++ .ref a :: rest)) rfl (hsz.trans K.2.2.1.symm) (Steps.refl _) (argsL := argsL) (rest := rest) (lenOf pd hlen) rfl (by show 2 * 0 + _ ≤ _; omega) (K.dec hd) (fun vm₁ _ => ⟨rfl, eT, r3, r4⟩)) g
theorem go_interface (K : Kd G B M) {k ix cnt : Nat} {xi y : MethodName} {bytes : ByteArray} {maxL : Nat} {ret : Option FieldType} {rm : Room} {C : String} {a : Addr} {argsL rest : List Value} {ps : List FieldType} {rt : Option FieldType} {sf' : List Addr} {Qc : Option Value → Heap → (Addr → Prop) → Prop} (hd : M.P[k]? = some (pc, .invokeinterface ix cnt, 5))
    (w1 : Wd G (.methodLink M.own ix xi)) (w2 : Wd G (.declares xi)) (w3 : Wd G (.interfaceMethod xi.cls xi.cls xi.name xi.desc)) (w4 : Wd G (.selects C xi y)) (w5 : Wd G (.instanceMethod y)) (w6 : Wd G (.publicMethod y)) (w7 : Wd G (.unhidden C xi.name xi.desc)) (w8 : Wd G (.castable C xi.cls)) (w9 : Wd G (.initialized y.cls)) (w10 : Wd G (.code y bytes maxL ret)) (hfa : ((Jvm.Cond.interfaceMethod xi.cls xi.cls xi.name xi.desc).onTables && (Jvm.Cond.interfaceMethod xi.cls xi.cls xi.name xi.desc).keepsFace) = true)
    (hy : xi.cls ≠ "java/lang/invoke/MethodHandle" ∧ xi.cls ≠ "java/lang/invoke/VarHandle") (pd : parseMethodDescriptor xi.desc = some ⟨ps, rt⟩) (E : Exa G.Z h a C)
    (Ct : Ctr G [] y bytes maxL ret rm (.ref a :: argsL).toArray h sf' Qc) (hst : st = argsL.reverse ++ .ref a :: rest) (hlen : argsL.length = ps.length) (hsz : Ls.size = M.maxL) (hsub : ∀ x ∈ sf', x ∈ sf) (hrm : rok M.R rest maxL rm cells slots = true)
    (g : ∀ (v : Option Value) (h' : Heap) (Sf : Addr → Prop), h.size ≤ h'.size → Qc v h' Sf → Go G B M Q h' sf (cells + rm.cells) (slots + rm.slots) (pc + 5) Ls (v.toList ++ rest)) : Go G B M Q h sf cells slots pc Ls st :=
  go_interfaceN K hd w1 w2 w3 w4 w5 w6 w7 w8 w9 w10 hfa hy pd E Ct hst hlen hsz hsub hrm fun v h' Sf z q => ⟨[], (fun _ u => nomatch u), g v h' Sf z q⟩
end More
theorem lt_len {i n : Nat} (hn : n < 2 ^ 31) (hi : i < 2 ^ 31) (q : i.toInt32 < n.toInt32) : i < n := by
  rcases Nat.lt_or_ge i n with u | u
  · exact u
  · exact absurd q (len_nlt hi u)
theorem lat_app {cs ds : List Int32} (p : Lat cs) (q : Lat ds) (hn : cs.length + ds.length ≤ 4000) : Lat (cs ++ ds) :=
  ⟨by rw [List.length_append]; exact hn, fun c hc => (List.mem_append.mp hc).elim (p.2 c) (q.2 c)⟩
theorem out_len (n k : Nat) : (n + (k + 1)).toInt32 = n.toInt32 + 1 + k.toInt32 := by
  rw [show n.toInt32 + 1 = (n + 1).toInt32 from add_len n 1, add_len]
  congr 1
  omega
theorem and3 (x : Int32) : x &&& 3 = 0 ∨ x &&& 3 = 1 ∨ x &&& 3 = 2 ∨ x &&& 3 = 3 := by
  have q := c_and x 3 (by decide)
  have h1 := rng32 (x &&& 3)
  have e3 : (3 : Int32).toInt = 3 := by decide
  rw [e3] at q
  have h2 : (x &&& 3).toInt = 0 ∨ (x &&& 3).toInt = 1 ∨ (x &&& 3).toInt = 2 ∨ (x &&& 3).toInt = 3 := by omega
  rcases h2 with u | u | u | u
  · exact Or.inl (Int32.toInt_inj.mp (u.trans (by decide)))
  · exact Or.inr (Or.inl (Int32.toInt_inj.mp (u.trans (by decide))))
  · exact Or.inr (Or.inr (Or.inl (Int32.toInt_inj.mp (u.trans (by decide)))))
  · exact Or.inr (Or.inr (Or.inr (Int32.toInt_inj.mp (u.trans (by decide)))))
end Jvm.OwnW
namespace Jvm.OwnW
open Sem ClassFile Op Lib Bundle Jvm.Stand Jvm.Free Jvm.LawKit Jvm.RoadKit
theorem len_small {s : State} {args : Array Value} {t : Term} {x : Addr} {cl : Cell} {v : Value} (ht : t.eval args s none [] s = some (.ref x)) (ha : s.arrayAt? x = some cl) (hl : (Term.length t).eval args s none [] s = some v) : cl.slots.size < 2 ^ 31 :=
  Decidable.byContradiction fun nq => by simp [Term.eval, ht, ha, nq] at hl
/-- a String that stands in the heap at the start, as a sheet's words say it -/
theorem str_start {G : Gb} {args : Array Value} {t : Term} {a : Addr} {cs : List Int32} (hf : Fit G.Z) (ev : t.eval args G.Z none [] G.Z = some (.ref a)) (hx : (Cond.exactly t "java/lang/String").value args G.Z none G.Z [] = some true)
    (hA : (Cond.arrayOf (.field t "java/lang/String" "value" "[B") .byte).value args G.Z none G.Z [] = some true) (hl : (Term.length (.field t "java/lang/String" "value" "[B")).eval args G.Z none [] G.Z = some (.int cs.length.toInt32))
    (hc : (Term.field t "java/lang/String" "coder" "B").eval args G.Z none [] G.Z = some (.int 0)) (hm : cs.length < 2 ^ 31)
    (he : ∀ (x : Addr) (cl : Cell), (Term.field t "java/lang/String" "value" "[B").eval args G.Z none [] G.Z = some (.ref x) → G.Z.heap[x]? = some cl → HasL cl 0 (by8 cs)) : Str G G.Z.heap a cs := by
  obtain ⟨x, ex⟩ := arr_v hA
  obtain ⟨cl, A⟩ := Arr.start ex hA
  have ha : G.Z.arrayAt? x = some cl := Arr.fin (Vm.Alike.refl _) A
  have q : cl.slots.size < 2 ^ 31 := Decidable.byContradiction fun nq => nq (len_small ex ha hl)
  have e : cl.slots.size.toInt32 = cs.length.toInt32 := by
    have u := (len_f ex ha q).symm.trans hl
    exact Value.int.inj (Option.some.inj u)
  refine ⟨x, cl.cls, Exa.start ev hx, Fld.start (by rw [← fld_at ev]; exact hc), Fld.start (by rw [← fld_at ev]; exact ex), Arv.start hf A q e (len_nn hm) (by rw [len_nat hm, by8_len]) (he x cl ex A.1)⟩
end Jvm.OwnW
namespace Jvm.OwnW
open Sem ClassFile Op Lib Bundle Jvm.Stand Jvm.Free Jvm.LawKit Jvm.RoadKit
theorem ushr1_nn (x : Int32) : 0 ≤ (XT.ushr x 1).toInt := by
  have q : (XT.ushr x 1).toInt = _ := c_iushr x 1 1 (by decide) (by decide)
  rw [q]
  exact Int.ediv_nonneg (Int.emod_nonneg _ (by decide)) (by decide)
theorem i32_eq {x : Int32} (k : Int32) (q : x.toInt = k.toInt) : x = k := Int32.toInt_inj.mp q
theorem rem4 (x : Int32) : XT.ushr x 1 % 4 = 0 ∨ XT.ushr x 1 % 4 = 1 ∨ XT.ushr x 1 % 4 = 2 ∨ XT.ushr x 1 % 4 = 3 := by
  have b := (c_irem (XT.ushr x 1) 4 4 (by decide)).1 (ushr1_nn x)
  rcases (by omega : (XT.ushr x 1).toInt % 4 = 0 ∨ (XT.ushr x 1).toInt % 4 = 1 ∨ (XT.ushr x 1).toInt % 4 = 2 ∨ (XT.ushr x 1).toInt % 4 = 3) with q | q | q | q
  · exact Or.inl (i32_eq 0 (b.trans q))
  · exact Or.inr (Or.inl (i32_eq 1 (b.trans q)))
  · exact Or.inr (Or.inr (Or.inl (i32_eq 2 (b.trans q))))
  · exact Or.inr (Or.inr (Or.inr (i32_eq 3 (b.trans q))))
theorem rem5 (x : Int32) : XT.ushr x 1 % 5 = 0 ∨ XT.ushr x 1 % 5 = 1 ∨ XT.ushr x 1 % 5 = 2 ∨ XT.ushr x 1 % 5 = 3 ∨ XT.ushr x 1 % 5 = 4 := by
  have b := (c_irem (XT.ushr x 1) 5 5 (by decide)).1 (ushr1_nn x)
  rcases (by omega : (XT.ushr x 1).toInt % 5 = 0 ∨ (XT.ushr x 1).toInt % 5 = 1 ∨ (XT.ushr x 1).toInt % 5 = 2 ∨ (XT.ushr x 1).toInt % 5 = 3 ∨ (XT.ushr x 1).toInt % 5 = 4) with q | q | q | q | q
  · exact Or.inl (i32_eq 0 (b.trans q))
  · exact Or.inr (Or.inl (i32_eq 1 (b.trans q)))
  · exact Or.inr (Or.inr (Or.inl (i32_eq 2 (b.trans q))))
  · exact Or.inr (Or.inr (Or.inr (Or.inl (i32_eq 3 (b.trans q)))))
  · exact Or.inr (Or.inr (Or.inr (Or.inr (i32_eq 4 (b.trans q)))))
end Jvm.OwnW
namespace Jvm.OwnW
open Sem ClassFile Op Lib Bundle Jvm.Stand Jvm.Free Jvm.LawKit Jvm.RoadKit
theorem url_len {us fs : List Int32} : (us ++ (35 : Int32) :: fs).length.toInt32 - fs.length.toInt32 - (1 : Int32) = us.length.toInt32 := by
  rw [sub_len (n := (us ++ (35 : Int32) :: fs).length) (k := fs.length) (by simp only [List.length_append, List.length_cons]; omega)]
  rw [show ((us ++ (35 : Int32) :: fs).length - fs.length).toInt32 - (1 : Int32) = ((us ++ (35 : Int32) :: fs).length - fs.length - 1).toInt32 from sub_len (k := 1) (by simp only [List.length_append, List.length_cons]; omega)]
  congr 1
  simp only [List.length_append, List.length_cons]
  omega
end Jvm.OwnW
namespace Jvm.OwnW
open Sem ClassFile Op Lib Bundle Jvm.Stand Jvm.Free Jvm.LawKit Jvm.RoadKit
section Cl
variable {G : Gb} {B : Cx} {M : Mt} {Q : Option Value → Heap → (Addr → Prop) → Prop} {h : Heap} {sf : List Addr} {cells slots pc : Nat} {Ls : Array Slot} {st : List Value}
theorem go_cast0 (K : Kd G B M) {k ix : Nat} (hd : M.P[k]? = some (pc, .checkcast ix, 3)) (g : Go G B M Q h sf cells slots (pc + 3) Ls (.null :: st)) : Go G B M Q h sf cells slots pc Ls (.null :: st) := by
  intro T vm0 k0 locs W
  exact (g T vm0 k0 locs W).pre fun target hr => W.1.checkcastNull K.1 (g := mkF B.m pc Ls (.null :: st)) rfl rfl (K.dec hd) target hr
/-- clone() of an array -/
theorem go_clone (K : Kd G B M) {k ix cap : Nat} {ad : String} {a : Addr} {kA : ClassId} {ty : FieldType} {z : Int32} {vs : List Value} {dv : Value} (hd : M.P[k]? = some (pc, .invokevirtual ix, 3))
    (w1 : Wd G (.methodLink M.own ix ⟨ad, "clone", "()Ljava/lang/Object;"⟩)) (w2 : Wd G (.sameMethod ad "java/lang/Object" "clone" "()Ljava/lang/Object;")) (w3 : Wd G (.native ⟨"java/lang/Object", "clone", "()Ljava/lang/Object;"⟩)) (w4 : Wd G (.instanceMethod ⟨"java/lang/Object", "clone", "()Ljava/lang/Object;"⟩))
    (w5 : Wd G (.selects ad ⟨ad, "clone", "()Ljava/lang/Object;"⟩ ⟨"java/lang/Object", "clone", "()Ljava/lang/Object;"⟩)) (w6 : Wd G (.castable ad "java/lang/Cloneable")) (A : Arv G.Z h a kA ty z vs dv) (E : Exa G.Z h a ad) (hsz : Ls.size = M.maxL)
    (hf : Nat.ble 1 M.R.frames = true) (hlo : Nat.ble ((st.map fun v => v.category).sum + 14) M.R.locals = true) (hcap : z.toNatClampNeg ≤ cap) (hc : Nat.ble (cells + 1) M.R.cells = true) (hl : Nat.ble (slots + cap) M.R.slots = true)
    (g : ∀ (h' : Heap) (b : Addr), b = h.size → G.Z.heap.size ≤ b → Ext h h' → Arv G.Z h' b kA ty z vs dv → Exa G.Z h' b ad → Go G B M Q h' (b :: sf) (cells + 1) (slots + cap) (pc + 3) Ls (.ref b :: st)) : Go G B M Q h sf cells slots pc Ls (.ref a :: st) := by
  intro T vm0 k0 locs W
  obtain ⟨X, eT, hS, hk, hZ, hown, hF, hE, hC, hs⟩ := W
  obtain ⟨cl, A1, q1, S, q3, H, Gf⟩ := A
  have FC : FitC G.Z cl := fitC_of A1 fun i hi v hv => by rw [H i hi] at hv; cases hv; exact Gf i hi
  obtain ⟨T', h', X', e', E', A2, E2, st'⟩ := cloneA X K.1 hZ hown w1 w2 w3 w4 w5 w6 eT A1 E FC (g := mkF B.m pc Ls (.ref a :: st)) rfl (hsz.trans K.2.2.1.symm) rfl (K.dec hd) (Nat.le_of_ble_eq_true hf) (W := (st.map fun v => v.category).sum) (by show 2 * 0 + _ ≤ _; omega) (Nat.le_of_ble_eq_true hlo) (by rw [S]; exact hcap) (Nat.le_of_ble_eq_true hc) (Nat.le_of_ble_eq_true hl)
  refine (g h' h.size rfl hE.1 E' ⟨cloneOf cl, A2, q1, S, q3, H, Gf⟩ E2 T' vm0 k0 locs ⟨X', e', hS, Nat.le_trans hk E'.1, hZ, hown, hF, ⟨Nat.le_trans hE.1 E'.1, fun x c q => E'.2 x c (hE.2 x c q)⟩, hC.trans (CHr.ext E' hC.1), fun x hx => ?_⟩).pre st'
  rcases List.mem_cons.mp hx with rfl | hx
  · exact ⟨Safe.ext E' hC.1 (Safe.new (Nat.le_refl _)), A2.lt⟩
  · exact ⟨Safe.ext E' hC.1 (hs x hx).1, Nat.lt_of_lt_of_le (hs x hx).2 E'.1⟩
/-- a char[] of n chars below 256, whichever -/
def Cz (G : Gb) (h : Heap) (a : Addr) (kA : ClassId) (n : Nat) : Prop := ∃ xs : List Int32, xs.length = n ∧ (∀ c ∈ xs, ¬ c < 0 ∧ ¬ (255 : Int32) < c) ∧ Arv G.Z h a kA .char n.toInt32 (xs.map Value.int) (.int 0)
theorem Cz.ext {h' : Heap} {a : Addr} {kA : ClassId} {n : Nat} (C : Cz G h a kA n) (E : Ext h h') : Cz G h' a kA n := by
  obtain ⟨xs, l, r, A⟩ := C
  exact ⟨xs, l, r, A.ext E⟩
theorem go_castoreZ (K : Kd G B M) {k n : Nat} {a : Addr} {kA : ClassId} {j x : Int32} (hd : M.P[k]? = some (pc, .castore, 1)) (A : Cz G h a kA n) (hj : ¬ j < 0 ∧ j < n.toInt32) (hn : n < 2 ^ 31) (ha : G.Z.heap.size ≤ a) (hx : ¬ x < 0 ∧ ¬ (255 : Int32) < x)
    (g : ∀ h' : Heap, Wr h h' a j.toNatClampNeg (.int (nar .char x)) → Cz G h' a kA n → Go G B M Q h' sf cells slots (pc + 1) Ls st) : Go G B M Q h sf cells slots pc Ls (.int x :: .int j :: .ref a :: st) := by
  obtain ⟨xs, l, r, A⟩ := A
  have hjn : j.toNatClampNeg < n := by
    have h1 := Int32.lt_iff_toInt_lt.mp hj.2
    have h2 : ¬ j.toInt < 0 := fun q => hj.1 (Int32.lt_iff_toInt_lt.mpr q)
    rw [len_toInt hn] at h1
    simp only [Int32.toNatClampNeg]
    omega
  refine go_castore K hd A hj rfl (by rw [List.length_map, l]; exact hjn) ha fun h' W A' => g h' W ⟨xs.set j.toNatClampNeg x, by rw [List.length_set, l], fun c hc => ?_, ?_⟩
  · rcases List.mem_or_eq_of_mem_set hc with hc | rfl
    · exact r c hc
    · exact hx
  · rw [nar_id hx] at A'
    rw [List.map_set]
    exact A'
end Cl
end Jvm.OwnW
namespace Jvm.OwnW
theorem len8 {xs : List Int32} (q : xs.length = 8) : ∃ x0 x1 x2 x3 x4 x5 x6 x7, xs = [x0, x1, x2, x3, x4, x5, x6, x7] := by
  match xs, q with
  | [x0, x1, x2, x3, x4, x5, x6, x7], _ => exact ⟨x0, x1, x2, x3, x4, x5, x6, x7, rfl⟩
/-- the role that a label names -/
def lbl (W D P : List Int32) (b0 b1 b2 : Addr) (cs : List Int32) : Value := if cs = W then .ref b0 else if cs = D then .ref b1 else if cs = P then .ref b2 else .null
theorem lbl0 {W D P cs : List Int32} {b0 b1 b2 : Addr} (q : cs = W) : lbl W D P b0 b1 b2 cs = .ref b0 := if_pos q
theorem lbl1 {W D P cs : List Int32} {b0 b1 b2 : Addr} (n : ¬ cs = W) (q : cs = D) : lbl W D P b0 b1 b2 cs = .ref b1 := (if_neg n).trans (if_pos q)
theorem lbl2 {W D P cs : List Int32} {b0 b1 b2 : Addr} (n : ¬ cs = W) (n1 : ¬ cs = D) (q : cs = P) : lbl W D P b0 b1 b2 cs = .ref b2 := (if_neg n).trans ((if_neg n1).trans (if_pos q))
theorem lbl3 {W D P cs : List Int32} {b0 b1 b2 : Addr} (n : ¬ cs = W) (n1 : ¬ cs = D) (n2 : ¬ cs = P) : lbl W D P b0 b1 b2 cs = .null := (if_neg n).trans ((if_neg n1).trans (if_neg n2))
end Jvm.OwnW
namespace Jvm.OwnW
open Sem ClassFile Op Lib Bundle Jvm.Stand Jvm.Free Jvm.LawKit Jvm.RoadKit
theorem mod_in {x : Int32} {n : Nat} (h1 : 1 ≤ n) (h6 : n ≤ 6) : ¬ (x &&& 2147483647) % n.toInt32 < 0 ∧ (x &&& 2147483647) % n.toInt32 < (8 : Nat).toInt32 := by
  have a := (c_and x 2147483647 (by decide)).1
  have e : n.toInt32.toInt = n := len_toInt (by omega)
  have b := (c_irem (x &&& 2147483647) n.toInt32 n e).1 a
  have e8 : ((8 : Nat).toInt32).toInt = 8 := by decide
  have e0 : (0 : Int32).toInt = 0 := by decide
  simp only [Int32.lt_iff_toInt_lt, b, e8, e0]
  have p1 := Int.emod_nonneg (x &&& 2147483647).toInt (show (n : Int) ≠ 0 by omega)
  have p2 := Int.emod_lt_of_pos (x &&& 2147483647).toInt (show (0 : Int) < n by omega)
  omega
theorem eqv_r {Z : State} {args : Array Value} {X F : Term} {b : Addr} (hF : F.eval args Z none [] Z = some (.ref b)) (h : (Cond.eq X F).value args Z none Z [] = some true) : X.eval args Z none [] Z = some (.ref b) := by
  simp only [Cond.value, hF] at h
  cases hx : X.eval args Z none [] Z with
  | none => simp [hx] at h
  | some x => cases x <;> simp [hx] at h ⊢ <;> exact h
theorem arr3_start {G : Gb} {args : Array Value} {t : Term} {a : Addr} {ty : FieldType} {v0 v1 v2 : Value} (hf : Fit G.Z) (ev : t.eval args G.Z none [] G.Z = some (.ref a)) (hA : (Cond.arrayOf t ty).value args G.Z none G.Z [] = some true) (hl : (Term.length t).eval args G.Z none [] G.Z = some (.int 3))
    (e0 : (Term.elem t (.int 0)).eval args G.Z none [] G.Z = some v0) (e1 : (Term.elem t (.int 1)).eval args G.Z none [] G.Z = some v1) (e2 : (Term.elem t (.int 2)).eval args G.Z none [] G.Z = some v2) : ∃ k, Arv G.Z G.Z.heap a k ty (3 : Int32) [v0, v1, v2] .null := by
  obtain ⟨cl, A⟩ := Arr.start ev hA
  have ha : G.Z.arrayAt? a = some cl := Arr.fin (Vm.Alike.refl _) A
  have q : cl.slots.size < 2 ^ 31 := Decidable.byContradiction fun nq => by simp [Term.eval, ev, ha, nq] at hl
  have e : cl.slots.size.toInt32 = 3 := Value.int.inj (Option.some.inj ((len_f ev ha q).symm.trans hl))
  exact ⟨cl.cls, Arv.start hf A q e (by decide) rfl ⟨(elem_in e0 ev (Term.int_eval 0) A.1).2, (elem_in e1 ev (Term.int_eval 1) A.1).2, (elem_in e2 ev (Term.int_eval 2) A.1).2, trivial⟩⟩
end Jvm.OwnW
namespace Jvm.OwnW
open Sem ClassFile Op Lib Bundle Jvm.Stand Jvm.Free Jvm.LawKit Jvm.RoadKit
section Gr
variable {G : Gb} {B : Cx} {M : Mt} {Q : Option Value → Heap → (Addr → Prop) → Prop} {h h1 : Heap} {sf : List Addr} {cells slots pc : Nat} {Ls : Array Slot} {st : List Value} {a t : Addr} {kb : ClassId} {cs ds : List Int32} {m : Nat}
/-- 'newarray', the array's class known by its name too -/
theorem go_newarrayE (K : Kd G B M) {k cap : Nat} {aty : ArrayType} {n : Int32} {ad : String} (hd : M.P[k]? = some (pc, .newarray aty, 2)) (w : Wd G (.arrayClass (newarray.typeOf aty))) (had : "[" ++ (newarray.typeOf aty).toString = ad) (hn : ¬ n < 0) (hcap : n.toNatClampNeg ≤ cap) (hb : Nat.ble (cap * 8) 536870912 = true) (hc : Nat.ble (cells + 1) M.R.cells = true) (hl : Nat.ble (slots + cap) M.R.slots = true)
    (g : ∀ (h' : Heap) (a : Addr) (kA : ClassId), a = h.size → G.Z.heap.size ≤ a → Ext h h' → Arv G.Z h' a kA (newarray.typeOf aty) n [] (defaultValue (newarray.typeOf aty)) → Exa G.Z h' a ad → Go G B M Q h' (a :: sf) (cells + 1) (slots + cap) (pc + 2) Ls (.ref a :: st)) : Go G B M Q h sf cells slots pc Ls (.int n :: st) := by
  intro T vm0 k0 locs W
  obtain ⟨X, eT, hS, hk, hZ, hown, hF, hE, hC, hs⟩ := W
  obtain ⟨T', h', cA, X', e', E', A', E2, st'⟩ := newPE X K.1 hZ w eT (g := mkF B.m pc Ls (.int n :: st)) rfl (K.dec hd) rfl hn hcap (Nat.le_of_ble_eq_true hb) (Nat.le_of_ble_eq_true hc) (Nat.le_of_ble_eq_true hl) had
  refine (g h' h.size cA rfl hE.1 E' (Arv.new A' hn) E2 T' vm0 k0 locs ⟨X', e', hS, Nat.le_trans hk E'.1, hZ, hown, hF, ⟨Nat.le_trans hE.1 E'.1, fun x c q => E'.2 x c (hE.2 x c q)⟩, hC.trans (CHr.ext E' hC.1), fun x hx => ?_⟩).pre st'
  rcases List.mem_cons.mp hx with rfl | hx
  · exact ⟨Safe.ext E' hC.1 (Safe.new (Nat.le_refl _)), A'.lt⟩
  · exact ⟨Safe.ext E' hC.1 (hs x hx).1, Nat.lt_of_lt_of_le (hs x hx).2 E'.1⟩
/-- a builder whose array is a byte[] by its class's name -/
def Sx (G : Gb) (h : Heap) (a t : Addr) (kb : ClassId) (cs : List Int32) (m : Nat) : Prop := Sb G h a t kb cs m ∧ Exa G.Z h t "[B"
theorem Sx.ext (S : Sx G h a t kb cs m) (E : Ext h h1) : Sx G h1 a t kb cs m := ⟨S.1.ext E, Exa.ext E S.2⟩
theorem Sx.exa (S : Sx G h a t kb cs m) : Exa G.Z h a "java/lang/StringBuilder" := S.1.1
end Gr
/-- the bytes behind the grown array's first part -/
theorem grow_list {cs : List Int32} (q : cs.length ≤ 16) : (List.replicate 34 (Value.int 0)).take 0 ++ (by8 cs ++ List.replicate (16 - cs.length) (Value.int 0)) ++ (List.replicate 34 (Value.int 0)).drop (0 + 16) = by8 cs ++ List.replicate (34 - cs.length) (Value.int 0) := by
  rw [List.take_zero, List.nil_append, List.append_assoc, List.drop_replicate, List.replicate_append_replicate]
  congr 2
  omega
end Jvm.OwnW
namespace Jvm.OwnW
theorem i32_anti {x y : Int32} (p : ¬ x < y) (q : ¬ y < x) : x = y := by
  rw [Int32.lt_iff_toInt_lt] at p q
  exact Int32.toInt_inj.mp (by omega)
theorem gt_len {n k : Nat} (hn : n < 2 ^ 31) (q : k < n) : 0 < n.toInt32 - k.toInt32 := by
  rw [sub_len (Nat.le_of_lt q)]
  exact len_lt (i := 0) (by omega) (by omega)
theorem hm34 {m : Nat} (q : m = 16 ∨ m = 34) : m ≤ 34 := by omega
end Jvm.OwnW
namespace Jvm.OwnW
open Sem ClassFile Op Lib Bundle Jvm.Stand Jvm.Free Jvm.LawKit Jvm.RoadKit
section Ne
variable {G : Gb} {B : Cx} {M : Mt} {Q : Option Value → Heap → (Addr → Prop) → Prop} {h : Heap} {sf : List Addr} {cells slots pc : Nat} {Ls : Array Slot} {st : List Value}
theorem mvM {Z s : State} {a0 args : Array Value} {own host : String} {y : MethodName} {index : Nat} (hZ : Z.Warmed39 s.vm) (w : (Cond.methodLinkNest own index y host).before a0 Z = true) : (Cond.methodLinkNest own index y host).before args s = true := (Cond.methodLinkNest_wide hZ w :)
/-- invokestatic of a nest-mate's method -/
theorem go_staticM (K : Kd G B M) {k ix : Nat} {y : MethodName} {host : String} {bytes : ByteArray} {maxL : Nat} {ret : Option FieldType} {rm : Room} {argsL rest : List Value} {ps : List FieldType} {rt : Option FieldType} {sf' : List Addr} {Qc : Option Value → Heap → (Addr → Prop) → Prop} (hd : M.P[k]? = some (pc, .invokestatic ix, 3))
    (w1 : Wd G (.methodLinkNest M.own ix y host)) (w2 : Wd G (.static y)) (w3 : Wd G (.initialized y.cls)) (w4 : Wd G (.code y bytes maxL ret)) (hy : y.cls ≠ "java/lang/invoke/MethodHandle" ∧ y.cls ≠ "java/lang/invoke/VarHandle") (pd : parseMethodDescriptor y.desc = some ⟨ps, rt⟩)
    (C : Ctr G [] y bytes maxL ret rm argsL.toArray h sf' Qc) (hst : st = argsL.reverse ++ rest) (hlen : argsL.length = ps.length) (hsz : Ls.size = M.maxL) (hsub : ∀ x ∈ sf', x ∈ sf) (hrm : rok M.R rest maxL rm cells slots = true)
    (g : ∀ (v : Option Value) (h' : Heap) (Sf : Addr → Prop), h.size ≤ h'.size → Qc v h' Sf → Go G B M Q h' sf (cells + rm.cells) (slots + rm.slots) (pc + 3) Ls (v.toList ++ rest)) : Go G B M Q h sf cells slots pc Ls st := by
  intro T vm0 k0 locs W
  obtain ⟨r1, r2, r3, r4⟩ := rok_ok hrm
  obtain ⟨X, eT, hS, hk, hZ, hown, hF, hE, hC, hs⟩ := id W
  subst hst
  exact call_on W (callSNS X K.1 hown (mvM hZ w1) (mv hZ w2) (mv hZ w3) (mv hZ w4) hy (backG (W := (rest.map fun v => v.category).sum) C hZ w4 w3 r1 r2 K.2.2.2.2.2.2 hC.1 hE (fun x hx => hs x (hsub x hx))) (g := mkF B.m pc Ls (argsL.reverse ++ rest)) rfl (hsz.trans K.2.2.1.symm) (argsL := argsL) (rest := rest) (lenOf pd hlen) rfl (by show 2 * 0 + _ ≤ _; omega) (K.dec hd) (fun vm₁ _ => ⟨rfl, eT, r3, r4⟩)) (fun v h' Sf z q => ⟨[], (fun _ u => nomatch u), g v h' Sf z q⟩)
end Ne
/-- what CType.declaring gives -/
def dec (xs ds : List Int32) : List Int32 := if ds = [] then xs else xs ++ (32 : Int32) :: ds
end Jvm.OwnW
namespace Jvm.OwnW
theorem go_mono {G : Gb} {B : Cx} {M : Mt} {Q : Option Value → Heap → (Addr → Prop) → Prop} {h : Heap} {sf : List Addr} {cells slots cells' slots' pc : Nat} {Ls : Array Slot} {st : List Value} (g : Go G B M Q h sf cells' slots' pc Ls st) (hc : cells ≤ cells') (hn : slots ≤ slots') : Go G B M Q h sf cells slots pc Ls st := by
  intro T vm0 k0 locs W
  obtain ⟨X, r⟩ := W
  exact g T vm0 k0 locs ⟨X.mono hc hn, r⟩
end Jvm.OwnW
@@BLOCK:LamKit.lean.txt@@
namespace Jvm.OwnW
open Sem ClassFile Op Lib Bundle Jvm.Stand Jvm.Free Jvm.LawKit Jvm.RoadKit Jvm.Lambda
section Lm
variable {G : Gb} {B : Cx} {M : Mt} {Q : Option Value → Heap → (Addr → Prop) → Prop} {h h1 : Heap} {sf : List Addr} {cells slots pc : Nat} {Ls : Array Slot} {st : List Value}
/-- as ctr_of; the walk is told its method's name -/
theorem ctr_ofL (M : Mt) {ws : List Jvm.Cond} {y : MethodName} {bytes : ByteArray} {as' : Array Value} (ho : M.own = y.cls) (hnm : M.nm = y.name) (pf : plainFor y = true) (hP : ∀ q ∈ M.P, decode bytes q.1 = .ok q.2) (hEL : EW G.Z G.a0 G.EL) {Ls : Array Slot} (ef : ∀ m, entryFrame m as' M.maxL = mkF m 0 Ls [])
    (H : ∀ B : Cx, Kd G B M → Ext G.Z.heap h → B.s.methodNamed? y = some B.m → Go G B M Q h sf 0 0 0 Ls []) : Ctr G ws y bytes M.maxL M.ret M.R as' h sf Q := by
  refine MetFree.of_bodySF pf hisR ?_
  intro p e s m args below meth c s₁ Bd hml hP' hK
  obtain ⟨rfl, hZ, hh, hCH, hE, hs⟩ := hP'
  have hK : Kd G ((p, e, s, m), (args, below, meth, c)) M := ⟨Bd.exec, fun q hq => by show decode c.code q.1 = _; rw [Bd.bytes]; exact hP q hq, hml, Bd.returns, Bd.notSynchronized, (name_of_methodNamed Bd.named Bd.method).1.trans hnm.symm, hEL⟩
  have X0 : Stand p G.l e M.R s m args below meth c s₁ [] 0 0 := Stand.of_body Bd
  have X1 : Stand p G.l e M.R (s.setVm s.vm) m args below meth c s₁ [] 0 0 := X0
  have e0 : s₁.heap = h := by rw [← hh, Bd.state]; rfl
  have hown : s.vm.findClass M.own = some m.cls := by rw [ho]; exact findClass_of_methodNamed Bd.named
  have hb : CHr G.Z G.EL s.vm s.heap s.vm h := by rw [hh]; exact CHr.refl hCH
  obtain ⟨t, v, L, k1, k2, k3, k4, k5, k6, k7, k8⟩ := H ((p, e, s, m), (args, below, meth, c)) hK hE Bd.named s₁ s.vm 0 [] ⟨X1, e0, (State.WarmedH.refl s).since 0, Nat.zero_le _, hZ, hown, Fr.nil _, hE, hb, hs⟩
  refine ⟨t, .returned v, ?_, k2, k3, v, L, rfl, ⟨k4, k5, k6⟩, k7, k8⟩
  rw [ef m]
  exact k1
/-- a function object of the shape σ, made in the class called 'host', holding vals -/
def Lam (G : Gb) (h : Heap) (a : Addr) (host : String) (σ : Lambda.Shape) (vals : List Value) : Prop :=
  ∃ cK : ClassId, LamKit.Made G.Z host σ cK ∧ h[a]? = some { cls := cK, slots := vals.toArray, vm := .none }
theorem go_lambda (K : Kd G B M) {k ix n fi : Nat} {y : MethodName} {σ : Lambda.Shape} {vals rest : List Value} (hd : M.P[k]? = some (pc, .invokedynamic ix, 5)) (hB : B.s.methodNamed? y = some B.m)
    (w : Wd G (.lambdaSite y pc ix σ)) (wO : Wd G (.instantiable "java/lang/Object" 0)) (hcap : σ.captured ≠ []) (hok : LamKit.capOK σ y.cls fi 0 = true) (hst : st = vals.reverse ++ rest) (hlen : vals.length = σ.captured.length) (hn : vals.length = n)
    (hfit : ∀ (i : Nat) t v, σ.captured[i]? = some t → vals[i]? = some v → narrow t v = v ∧ fits t v = true) (hsz : Ls.size = M.maxL)
    (hw : Nat.ble ((st.map fun v => v.category).sum + 3072) M.R.locals = true) (hc : Nat.ble (cells + 1) M.R.cells = true) (hl : Nat.ble (slots + n) M.R.slots = true)
    (g : ∀ (h' : Heap) (a : Addr), a = h.size → G.Z.heap.size ≤ a → Ext h h' → Lam G h' a y.cls σ vals → Go G B M Q h' (a :: sf) (cells + 1) (slots + n) (pc + 5) Ls (.ref a :: rest)) : Go G B M Q h sf cells slots pc Ls st := by
  intro T vm0 k0 locs W
  obtain ⟨X, eT, hS, hk, hZ, hown, hF, hE, hC, hs⟩ := W
  obtain ⟨cK, one, hat⟩ := Cond.lambdaSite_spec w
  obtain ⟨mD, kD, cfD, i0, p0, lk, hmD, hkD, hcfD, hsh, -, hfind, hmade, hcan, hll⟩ := State.lambdaAt?_spec hat
  have e1 := State.methodNamed?_setVm (s := G.Z) hZ.alike y
  have e2 := State.methodNamed?_setVm (s := B.s) hS.1.alike y
  have e3 : (G.Z.setVm vm0).methodNamed? y = (B.s.setVm vm0).methodNamed? y := rfl
  rw [e1, e2, hmD, hB] at e3
  have e4 : mD = B.m := Option.some.inj e3
  subst e4
  obtain ⟨kD', hkD', hnameD⟩ := className_of_methodNamed hmD
  cases hkD.symm.trans hkD'
  rcases hll with ⟨a, cell, -, -, hc0, -⟩ | ⟨rfl, -, -⟩
  · exact absurd hc0 hcap
  obtain ⟨b, nt, desc, site, q1, q2, q3, q4⟩ := shapeOf?_site hsh
  obtain ⟨kc, f, hkc, hkind, hty, -⟩ := LamKit.made_cap hok hkD hnameD hmade (LamKit.noFields wO (State.WarmedH.refl G.Z))
  obtain ⟨k1, hk1, hk1e⟩ := hZ.alike.2.2 _ _ hkD
  obtain ⟨kc1, hkc1, hkc1e⟩ := hZ.alike.2.2 _ _ hkc
  have t1 : kc1.instanceTypes = σ.captured.toArray := by rw [hkc1e]; exact hty
  have t2 : kc1.kind = .ordinary := by rw [hkc1e]; exact hkind
  have hz : ((kc1.instanceTypes.toList.zip vals).map fun (t, v) => narrow t v) = vals := by rw [t1]; exact LamKit.zip_narrow _ _ hlen fun i t v a b => (hfit i t v a b).1
  have hww : B.e.platform.lambdaLinkWords = 3072 := by rw [X.admits.platform]
  have hw' := Nat.le_of_ble_eq_true hw
  have q := X.lambdaMakes K.1 (g := mkF B.m pc Ls st) rfl (hsz.trans K.2.2.1.symm) (K.dec hd) (vals := vals) (rest := rest) (k := k1) (kc := kc1) hk1 (by rw [hk1e]; exact hfind) (by rw [hk1e]; exact hcfD) q1 q2 (parseLong_of_parse q3) (by rw [q4]; exact hlen) hst hkc1
    (by rw [hww]; show 2 * 0 + (st.map fun v => v.category).sum + 3072 ≤ _; omega) (Nat.le_of_ble_eq_true hc) (by rw [hz, hn]; exact Nat.le_of_ble_eq_true hl)
    (fun i v hv => by
      rw [hz] at hv
      have hv' : vals[i]? = some v := by simpa using hv
      have hi : i < σ.captured.length := by rw [← hlen]; exact (List.getElem?_eq_some_iff.mp hv').1
      have := (hfit i _ v (List.getElem?_eq_getElem hi) hv').2
      have hkc2 : (B.s.setVm vm0).vm.classes[cK]? = some kc1 := hkc1
      simp only [State.fitsSlot, State.slotType?]
      rw [hkc2]
      simp [t2, t1, List.getElem?_eq_getElem hi, this])
  rw [hz] at q
  obtain ⟨X', st'⟩ := q
  have hzn : vals.toArray.size = n := by rw [List.size_toArray]; exact hn
  rw [hzn] at X'
  subst eT
  have hN : (T.heap.push ({ cls := cK, slots := vals.toArray, vm := .none } : Cell))[T.heap.size]? = some { cls := cK, slots := vals.toArray, vm := .none } := by simp
  have E' : Ext T.heap (T.heap.push ({ cls := cK, slots := vals.toArray, vm := .none } : Cell)) := ⟨by simp, fun x c q => by
    have hlt := (Array.getElem?_eq_some_iff.mp q).1
    exact (Array.getElem?_push_lt hlt).trans ((Array.getElem?_eq_getElem hlt).symm.trans q)⟩
  refine (g _ T.heap.size rfl hE.1 E' ⟨cK, ⟨_, kD, hkD, hnameD, hmade, hcan⟩, hN⟩ (T.pushCell { cls := cK, slots := vals.toArray, vm := .none }) vm0 k0 locs ⟨X', rfl, hS, Nat.le_trans hk E'.1, hZ, hown, hF, ⟨Nat.le_trans hE.1 E'.1, fun x c q => E'.2 x c (hE.2 x c q)⟩, hC.trans (CHr.ext E' hC.1), fun x hx => ?_⟩).pre st'
  rcases List.mem_cons.mp hx with rfl | hx
  · exact ⟨Safe.ext E' hC.1 (Safe.new (Nat.le_refl _)), (Array.getElem?_eq_some_iff.mp hN).1⟩
  · exact ⟨Safe.ext E' hC.1 (hs x hx).1, Nat.lt_of_lt_of_le (hs x hx).2 E'.1⟩
theorem Lam.ext {a : Addr} {host : String} {σ : Lambda.Shape} {vals : List Value} (L : Lam G h a host σ vals) (E : Ext h h1) : Lam G h1 a host σ vals := by
  obtain ⟨cK, m, q⟩ := L
  exact ⟨cK, m, E.2 _ _ q⟩
theorem Lam.keep {a : Addr} {host : String} {σ : Lambda.Shape} {vals : List Value} {ws : List Addr} (L : Lam G h a host σ vals) (K : Keep h h1 ws) (n : a ∉ ws) : Lam G h1 a host σ vals := by
  obtain ⟨cK, m, q⟩ := L
  exact ⟨cK, m, K.2.1 _ _ q n⟩
theorem Lam.lt {a : Addr} {host : String} {σ : Lambda.Shape} {vals : List Value} (L : Lam G h a host σ vals) : a < h.size := by
  obtain ⟨cK, m, q⟩ := L
  exact (Array.getElem?_eq_some_iff.mp q).1
/-! ### steps -/
theorem go_anewarray (K : Kd G B M) {k ix cap : Nat} {C ad : String} {n : Int32} (hd : M.P[k]? = some (pc, .anewarray ix, 3)) (w1 : Wd G (.classLink M.own ix C)) (w2 : Wd G (.arrayOver (.object C))) (had : "[" ++ (FieldType.object C).toString = ad) (hn : ¬ n < 0) (hcap : n.toNatClampNeg ≤ cap) (hb : Nat.ble (cap * 8) 536870912 = true) (hc : Nat.ble (cells + 1) M.R.cells = true) (hl : Nat.ble (slots + cap) M.R.slots = true)
    (g : ∀ (h' : Heap) (a : Addr) (kA : ClassId), a = h.size → G.Z.heap.size ≤ a → Ext h h' → Arv G.Z h' a kA (.object C) n [] .null → Exa G.Z h' a ad → Ovr G.Z kA C → Go G B M Q h' (a :: sf) (cells + 1) (slots + cap) (pc + 3) Ls (.ref a :: st)) : Go G B M Q h sf cells slots pc Ls (.int n :: st) := by
  intro T vm0 k0 locs W
  obtain ⟨X, eT, hS, hk, hZ, hown, hF, hE, hC, hs⟩ := W
  obtain ⟨T', h', cA, X', e', E', A', E2, O, st'⟩ := newRE X K.1 hZ hown w1 w2 eT (g := mkF B.m pc Ls (.int n :: st)) rfl (K.dec hd) rfl hn hcap (Nat.le_of_ble_eq_true hb) (Nat.le_of_ble_eq_true hc) (Nat.le_of_ble_eq_true hl) had
  refine (g h' h.size cA rfl hE.1 E' (Arv.new A' hn) E2 O T' vm0 k0 locs ⟨X', e', hS, Nat.le_trans hk E'.1, hZ, hown, hF, ⟨Nat.le_trans hE.1 E'.1, fun x c q => E'.2 x c (hE.2 x c q)⟩, hC.trans (CHr.ext E' hC.1), fun x hx => ?_⟩).pre st'
  rcases List.mem_cons.mp hx with rfl | hx
  · exact ⟨Safe.ext E' hC.1 (Safe.new (Nat.le_refl _)), A'.lt⟩
  · exact ⟨Safe.ext E' hC.1 (hs x hx).1, Nat.lt_of_lt_of_le (hs x hx).2 E'.1⟩
theorem go_aastore (K : Kd G B M) {k i : Nat} {a b : Addr} {kA : ClassId} {C : String} {z j : Int32} {vs : List Value} {dv : Value} (hd : M.P[k]? = some (pc, .aastore, 1)) (A : Arv G.Z h a kA (.object C) z vs dv) (O : Ovr G.Z kA C) (I : Ins G.Z h b C true) (hj : ¬ j < 0 ∧ j < z) (hi : j.toNatClampNeg = i) (hl : i < vs.length) (ha : G.Z.heap.size ≤ a)
    (g : ∀ h' : Heap, Wr h h' a j.toNatClampNeg (.ref b) → Arv G.Z h' a kA (.object C) z (vs.set i (.ref b)) dv → Go G B M Q h' sf cells slots (pc + 1) Ls st) : Go G B M Q h sf cells slots pc Ls (.ref b :: .int j :: .ref a :: st) := by
  obtain ⟨c, A1, q1, S, q3, H, Gf⟩ := A
  exact go_wr K ha (Or.inr fun vm0 hal => Safe.arr hal A1 (fun q => nomatch q)) (fun T vm0 locs X eT hZ hown => stR X K.1 hZ eT A1 (inb_of S hj) rfl (Sto.ofV A1 q1 O I) (g := mkF B.m pc Ls (.ref b :: .int j :: .ref a :: st)) rfl rfl (K.dec hd)) fun h' W => g h' W (Arv.set A1 q1 S q3 H Gf rfl W i hi hl)
/-- invokespecial of a constructor over an entry that is resolved -/
theorem go_specialR (K : Kd G B M) {k ix : Nat} {y : MethodName} {bytes : ByteArray} {maxL : Nat} {rm : Room} {a : Addr} {argsL rest : List Value} {ps : List FieldType} {rt : Option FieldType} {sf' : List Addr} {Qc : Option Value → Heap → (Addr → Prop) → Prop} (hd : M.P[k]? = some (pc, .invokespecial ix, 3)) (hy1 : y.name = "<init>")
    (w1 : Wd G (.methodRef M.own ix y)) (w2 : Wd G (.instanceMethod y)) (w3 : Wd G (.initialized y.cls)) (w4 : Wd G (.code y bytes maxL none)) (hy : y.cls ≠ "java/lang/invoke/MethodHandle" ∧ y.cls ≠ "java/lang/invoke/VarHandle") (pd : parseMethodDescriptor y.desc = some ⟨ps, rt⟩)
    (C : Ctr G [] y bytes maxL none rm (.ref a :: argsL).toArray h sf' Qc) (hst : st = argsL.reverse ++ .ref a :: rest) (hlen : argsL.length = ps.length) (hsz : Ls.size = M.maxL) (hsub : ∀ x ∈ sf', x ∈ sf) (hrm : rok M.R rest maxL rm cells slots = true)
    (g : ∀ (v : Option Value) (h' : Heap) (Sf : Addr → Prop), h.size ≤ h'.size → Qc v h' Sf → Go G B M Q h' sf (cells + rm.cells) (slots + rm.slots) (pc + 3) Ls (v.toList ++ rest)) : Go G B M Q h sf cells slots pc Ls st := by
  intro T vm0 k0 locs W
  obtain ⟨r1, r2, r3, r4⟩ := rok_ok hrm
  obtain ⟨X, eT, hS, hk, hZ, hown, hF, hE, hC, hs⟩ := id W
  subst hst
  have hK := backG (R := M.R) (p := B.p) (e := B.e) (below := B.bl) (s := B.s) (args := B.as) (len := 3) (W := (rest.map fun v => v.category).sum) C hZ w4 w3 r1 r2 K.2.2.2.2.2.2 hC.1 hE (fun x hx => hs x (hsub x hx))
  refine call_on W ?_ (fun v h' Sf z q => ⟨[], (fun _ u => nomatch u), g v h' Sf z q⟩)
  have hW : G.Z.Warmed39 T.vm := wtrans hZ X.warmed
  obtain ⟨mk0, methM0, hn0, -, -, -⟩ := Cond.instanceMethod_spec w2
  have w1' := Cond.methodRef_warmed39 hW hn0 hy w1
  have hcur : (G.Z.setVm T.vm).vm.findClass M.own = some B.m.cls := by
    show T.vm.findClass M.own = some B.m.cls
    rw [X.warmed.alike.findClass]; exact hown
  obtain ⟨mk, c', hf, hready, hfc, hnr⟩ := Cond.methodRef_named B.e (cur := B.m.cls) hcur w1'
  have v2 : (Jvm.Cond.instanceMethod y).before B.as (G.Z.setVm T.vm) = true := mv (s := G.Z.setVm T.vm) hW w2
  have v4 : (Jvm.Cond.code y bytes maxL none).before B.as (G.Z.setVm T.vm) = true := mv (s := G.Z.setVm T.vm) hW w4
  obtain ⟨mk', methM, hnamed, hmethM, hstM, habM⟩ := Cond.instanceMethod_spec v2
  obtain ⟨methM', cM, hmethM', -, -, -, -, -, -, hsigM⟩ := Cond.code_spec hnamed v4
  cases hmethM.symm.trans hmethM'
  cases hf.symm.trans (State.methodFound?_of_named hnamed hy)
  obtain ⟨kO, hkO, hnameO⟩ := className_of_methodNamed hnamed
  obtain ⟨hnm, hdesc⟩ := name_of_methodNamed hnamed hmethM
  have hcl : c' = mk.cls := Option.some.inj (hfc.symm.trans (findClass_of_methodNamed hnamed))
  subst hcl
  have hfound : lookupSpecial T.vm mk.cls "<init>" methM.desc = .method mk := by
    have := lookupSpecial_of_named hnamed hmethM hstM
    rw [hy1, ← hdesc] at this
    exact this
  have hnT : T.methodNamed? y = some mk := hnamed
  obtain ⟨v, A, X', hS', hgr, hpost, hsteps⟩ := hK B.m B.mt B.c ⟨T, locs, cells, slots⟩ { mkF B.m pc Ls (argsL.reverse ++ .ref a :: rest) with stack := rest } (.invokespecial ix) mk (.ref a :: argsL).toArray X rfl (hsz.trans K.2.2.1.symm) (K.dec hd) (by show 2 * 0 + (rest.map fun v => v.category).sum ≤ _; omega) hnT ⟨rfl, eT, r3, r4⟩
  refine ⟨v, T.vm, A, X.warmed, X', hS', hgr, hpost, Steps.trans ?_ hsteps⟩
  have hd' := K.dec hd
  jvm_step X.here [K.1, hd', invokespecial.wp_init (e := B.e) (s := T) (k := kO) (meth := methM) (m := mk) (a := a) (args := argsL) (rest := rest) (f := mkF B.m pc Ls (argsL.reverse ++ .ref a :: rest)) X.here.top hnr hready hkO hmethM (hnm.trans hy1) hstM habM hfound (lenOf pd hlen _ hsigM) rfl]
  intro acts
  rw [doInvoke_state]
  exact Steps.refl _
/-- invokevirtual of a method that a superclass of the entry's class declares -/
theorem go_virtUp (K : Kd G B M) {k ix : Nat} {x y : MethodName} {bytes : ByteArray} {maxL : Nat} {ret : Option FieldType} {rm : Room} {C owner : String} {a : Addr} {argsL rest : List Value} {ps : List FieldType} {rt : Option FieldType} {sf' : List Addr} {Qc : Option Value → Heap → (Addr → Prop) → Prop} (hd : M.P[k]? = some (pc, .invokevirtual ix, 3))
    (w1 : Wd G (.methodLink M.own ix x)) (w2 : Wd G (.sameMethod x.cls owner x.name x.desc)) (w2' : Wd G (.declares ⟨owner, x.name, x.desc⟩)) (ho : owner ≠ "java/lang/invoke/MethodHandle" ∧ owner ≠ "java/lang/invoke/VarHandle") (w3 : Wd G (.selects C x y)) (w4 : Wd G (.instanceMethod y)) (w5 : Wd G (.initialized y.cls)) (w6 : Wd G (.code y bytes maxL ret)) (pd : parseMethodDescriptor x.desc = some ⟨ps, rt⟩) (E : Exa G.Z h a C)
    (Ct : Ctr G [] y bytes maxL ret rm (.ref a :: argsL).toArray h sf' Qc) (hst : st = argsL.reverse ++ .ref a :: rest) (hlen : argsL.length = ps.length) (hsz : Ls.size = M.maxL) (hsub : ∀ x ∈ sf', x ∈ sf) (hrm : rok M.R rest maxL rm cells slots = true)
    (g : ∀ (v : Option Value) (h' : Heap) (Sf : Addr → Prop), h.size ≤ h'.size → Qc v h' Sf → Go G B M Q h' sf (cells + rm.cells) (slots + rm.slots) (pc + 3) Ls (v.toList ++ rest)) : Go G B M Q h sf cells slots pc Ls st := by
  intro T vm0 k0 locs W
  obtain ⟨r1, r2, r3, r4⟩ := rok_ok hrm
  obtain ⟨X, eT, hS, hk, hZ, hown, hF, hE, hC, hs⟩ := id W
  obtain ⟨cB, kB, i1, i2, i3⟩ := isOf (s := B.s.setVm vm0) hZ eT E
  subst hst
  exact call_on W (X.virtualBackUpS K.1 hown (mv hZ w1) (mv hZ w2) (mv hZ w2') ho (mv hZ w3) (mv hZ w4) (backG (W := (rest.map fun v => v.category).sum) Ct hZ w6 w5 r1 r2 K.2.2.2.2.2.2 hC.1 hE (fun x hx => hs x (hsub x hx))) i1 i3 (g := mkF B.m pc Ls (argsL.reverse ++ .ref a :: rest)) rfl (hsz.trans K.2.2.1.symm) (Steps.refl _) (argsL := argsL) (rest := rest) (lenOf pd hlen) rfl (by show 2 * 0 + _ ≤ _; omega) (K.dec hd) (fun vm₁ _ => ⟨rfl, eT, r3, r4⟩)) (fun v h' Sf z q => ⟨[], (fun _ u => nomatch u), g v h' Sf z q⟩)
/-- a private method is the one that its own class selects -/
theorem selP {y : MethodName} {n : Nat} (wp : Wd G (.privateMethod y)) (wi : Wd G (.instanceMethod y)) (wn : Wd G (.instantiable y.cls n)) (hy : y.cls ≠ "java/lang/invoke/MethodHandle" ∧ y.cls ≠ "java/lang/invoke/VarHandle") : Wd G (.selects y.cls y y) := by
  obtain ⟨c, k, q1, q2, -, q4, -, -⟩ := Cond.instantiable_spec wn
  exact selects_self_of_private q1 q2 (Bool.or_eq_false_iff.mp q4).1 (Cond.privateMethod_at wp) wi hy
theorem sameM2 {x y z : MethodName} {C : String} (wd : Wd G (.declares y)) (ws : Wd G (.selects C x z)) (hc : y.cls = z.cls) (hy : y.cls ≠ "java/lang/invoke/MethodHandle" ∧ y.cls ≠ "java/lang/invoke/VarHandle") : Wd G (.sameMethod y.cls y.cls y.name y.desc) := by
  obtain ⟨r0, r, hn, -⟩ := Cond.declares_spec wd
  obtain ⟨c2, r2, m2, q1, q2, q3, q4, kP, hkP, hkPi⟩ := Cond.selects_spec ws
  have e1 := findClass_of_methodNamed hn
  have e2 := findClass_of_methodNamed q3
  rw [← hc] at e2
  have e3 : m2.cls = r0.cls := Option.some.inj (e2.symm.trans e1)
  have e4 := State.methodFound?_of_named hn hy
  have e5 : G.Z.methodNamed? ⟨y.cls, y.name, y.desc⟩ = some r0 := hn
  rw [e3] at hkP
  show (Jvm.Cond.sameMethod y.cls y.cls y.name y.desc).before G.a0 G.Z = true
  simp [Cond.before, Cond.holds, Cond.value, e1, e4, e5, hkP, hkPi]
theorem nfO2 {C : String} {x y z : MethodName} {s : State} (w : Wd G (.selects C x z)) (hc : y.cls = z.cls) : ∀ vm0 : Vm, G.Z.Warmed39 vm0 → NotFace (s.setVm vm0) y := fun vm0 hZ r0 h0 => by
  obtain ⟨c2, r2, m2, q1, q2, q3, q4, kP, hkP, hkPi⟩ := Cond.selects_spec (mv (s := s.setVm vm0) (args := #[]) hZ w)
  have e1 := findClass_of_methodNamed h0
  have e2 := findClass_of_methodNamed q3
  rw [hc] at e1
  have e3 : m2.cls = r0.cls := Option.some.inj (e2.symm.trans e1)
  exact ⟨kP, by rw [← e3]; exact hkP, hkPi⟩
/-! ### facts -/
/-- x is no String and no String's array -/
def Ap (G : Gb) (h : Heap) (x : Addr) : Prop := ∀ (s t : Addr) (kb : ClassId) (z : Int32) (vs : List Value), (Exa G.Z h s "java/lang/String" → s ≠ x) ∧ (Arv G.Z h t kb .byte z vs (.int 0) → t ≠ x)
theorem Ap.of_exa {x : Addr} {C : String} {n : Nat} (E : Exa G.Z h x C) (hC : C ≠ "java/lang/String") (wi : Wd G (.instantiable C n)) : Ap G h x := fun s t kb z vs => ⟨fun F => (Exa.ne E F hC).symm, fun A => (Exa.neArv E A wi).symm⟩
theorem Ap.of_arv {x : Addr} {k : ClassId} {ty : FieldType} {z : Int32} {vs : List Value} {dv : Value} (A : Arv G.Z h x k ty z vs dv) (ht : ty ≠ .byte) (ws : Wd G (.instantiable "java/lang/String" 4)) : Ap G h x := fun s t kb z' vs' => ⟨fun F => Exa.neArv F A ws, fun B => (Arv.ty_ne A B ht).symm⟩
theorem Str.keepAp {b : Addr} {cs : List Int32} {ws : List Addr} (S : Str G h b cs) (K : Keep h h1 ws) (q : ∀ x ∈ ws, Ap G h x) : Str G h1 b cs := by
  obtain ⟨t, kb, e1, e2, e3, e4⟩ := S
  have n1 : b ∉ ws := fun m => (q b m b t kb cs.length.toInt32 (by8 cs)).1 e1 rfl
  have n2 : t ∉ ws := fun m => (q t m b t kb cs.length.toInt32 (by8 cs)).2 e4 rfl
  exact ⟨t, kb, e1.keep K, e2.keep K n1, e3.keep K n1, e4.keep K n2⟩
/-- a Layout la over the list li, its prefix the String pr -/
def Ly (G : Gb) (h : Heap) (la li pr : Addr) (ps : List Int32) : Prop := Exa G.Z h la "com/example/foyer/foyer/Layout" ∧ Fld G.Z h la "com/example/foyer/foyer/Layout" "declared" "Ljava/util/List;" (.ref li) ∧ Fld G.Z h la "com/example/foyer/foyer/Layout" "prefix" "Ljava/lang/String;" (.ref pr) ∧ Str G h pr ps
theorem Ly.ext {la li pr : Addr} {ps : List Int32} (Y : Ly G h la li pr ps) (E : Ext h h1) : Ly G h1 la li pr ps := by
  obtain ⟨a, b, c, d⟩ := Y
  exact ⟨Exa.ext E a, Fld.ext E b, Fld.ext E c, d.ext E⟩
theorem Ly.exa {la li pr : Addr} {ps : List Int32} (Y : Ly G h la li pr ps) : Exa G.Z h la "com/example/foyer/foyer/Layout" := Y.1
theorem Ly.keep {la li pr : Addr} {ps : List Int32} {ws : List Addr} (Y : Ly G h la li pr ps) (K : Keep h h1 ws) (n : la ∉ ws) (q : ∀ x ∈ ws, Ap G h x) : Ly G h1 la li pr ps := by
  obtain ⟨a, b, c, d⟩ := Y
  exact ⟨a.keep K, b.keep K n, c.keep K n, d.keepAp K q⟩
/-- a RegisterArray -/
def Ra (G : Gb) (h : Heap) (r : Addr) (b f n : Int32) (ini : Value) : Prop := Exa G.Z h r "com/example/foyer/foyer/Layout$RegisterArray" ∧ Fld G.Z h r "com/example/foyer/foyer/Layout$RegisterArray" "base" "I" (.int b) ∧ Fld G.Z h r "com/example/foyer/foyer/Layout$RegisterArray" "first" "I" (.int f) ∧ Fld G.Z h r "com/example/foyer/foyer/Layout$RegisterArray" "length" "I" (.int n) ∧ Fld G.Z h r "com/example/foyer/foyer/Layout$RegisterArray" "initial" "Ljava/util/function/IntUnaryOperator;" ini
theorem Ra.ext {r : Addr} {b f n : Int32} {ini : Value} (R : Ra G h r b f n ini) (E : Ext h h1) : Ra G h1 r b f n ini := by
  obtain ⟨a, b, c, d, e⟩ := R
  exact ⟨Exa.ext E a, Fld.ext E b, Fld.ext E c, Fld.ext E d, Fld.ext E e⟩
theorem Ra.exa {r : Addr} {b f n : Int32} {ini : Value} (R : Ra G h r b f n ini) : Exa G.Z h r "com/example/foyer/foyer/Layout$RegisterArray" := R.1
theorem Ra.keep {r : Addr} {b f n : Int32} {ini : Value} {ws : List Addr} (R : Ra G h r b f n ini) (K : Keep h h1 ws) (q : r ∉ ws) : Ra G h1 r b f n ini := by
  obtain ⟨a, b, c, d, e⟩ := R
  exact ⟨a.keep K, b.keep K q, c.keep K q, d.keep K q, e.keep K q⟩
/-- an empty list over the array ed -/
def Al0 (G : Gb) (h : Heap) (li ed : Addr) : Prop := Exa G.Z h li "java/util/ArrayList" ∧ (∃ mc : Int32, Fld G.Z h li "java/util/AbstractList" "modCount" "I" (.int mc)) ∧ Fld G.Z h li "java/util/ArrayList" "elementData" "[Ljava/lang/Object;" (.ref ed) ∧ Fld G.Z h li "java/util/ArrayList" "size" "I" (.int 0) ∧ G.Z.heap.size ≤ li
theorem Al0.ext {li ed : Addr} (L : Al0 G h li ed) (E : Ext h h1) : Al0 G h1 li ed := by
  obtain ⟨a, ⟨mc, b⟩, c, d, e⟩ := L
  exact ⟨Exa.ext E a, ⟨mc, Fld.ext E b⟩, Fld.ext E c, Fld.ext E d, e⟩
theorem Al0.exa {li ed : Addr} (L : Al0 G h li ed) : Exa G.Z h li "java/util/ArrayList" := L.1
theorem Al0.keep {li ed : Addr} {ws : List Addr} (L : Al0 G h li ed) (K : Keep h h1 ws) (n : li ∉ ws) : Al0 G h1 li ed := by
  obtain ⟨a, ⟨mc, b⟩, c, d, e⟩ := L
  exact ⟨a.keep K, ⟨mc, b.keep K n⟩, c.keep K n, d.keep K n, e⟩
/-- a list of k RegisterArrays in an array t of ten, the last one r -/
def Alk (G : Gb) (h : Heap) (li t r : Addr) (kA : ClassId) (k : Nat) (b f n : Int32) (ini : Value) : Prop := Exa G.Z h li "java/util/ArrayList" ∧ (∃ mc : Int32, Fld G.Z h li "java/util/AbstractList" "modCount" "I" (.int mc)) ∧ Fld G.Z h li "java/util/ArrayList" "elementData" "[Ljava/lang/Object;" (.ref t) ∧ Fld G.Z h li "java/util/ArrayList" "size" "I" (.int k.toInt32) ∧
  Exa G.Z h t "[Ljava/lang/Object;" ∧ Ovr G.Z kA "java/lang/Object" ∧ (1 ≤ k ∧ k ≤ 10) ∧ (G.Z.heap.size ≤ li ∧ G.Z.heap.size ≤ t) ∧ (∃ vs : List Value, vs.length = 10 ∧ vs.getD (k - 1) .null = .ref r ∧ Arv G.Z h t kA (.object "java/lang/Object") (10 : Nat).toInt32 vs .null) ∧ Ra G h r b f n ini
variable {li t r : Addr} {kA : ClassId} {k : Nat} {b f n : Int32} {ini : Value}
theorem Alk.ext (L : Alk G h li t r kA k b f n ini) (E : Ext h h1) : Alk G h1 li t r kA k b f n ini := by
  obtain ⟨a, ⟨mc, b⟩, c, d, e, o, kk, ge, ⟨vs, l1, l2, A⟩, R⟩ := L
  exact ⟨Exa.ext E a, ⟨mc, Fld.ext E b⟩, Fld.ext E c, Fld.ext E d, Exa.ext E e, o, kk, ge, ⟨vs, l1, l2, A.ext E⟩, R.ext E⟩
theorem Alk.exa (L : Alk G h li t r kA k b f n ini) : Exa G.Z h li "java/util/ArrayList" := L.1
theorem Alk.exaT (L : Alk G h li t r kA k b f n ini) : Exa G.Z h t "[Ljava/lang/Object;" := L.2.2.2.2.1
theorem Alk.ra (L : Alk G h li t r kA k b f n ini) : Ra G h r b f n ini := L.2.2.2.2.2.2.2.2.2
theorem Alk.exaR (L : Alk G h li t r kA k b f n ini) : Exa G.Z h r "com/example/foyer/foyer/Layout$RegisterArray" := L.ra.1
theorem Alk.ge (L : Alk G h li t r kA k b f n ini) : G.Z.heap.size ≤ t := L.2.2.2.2.2.2.2.1.2
theorem Alk.keep {ws : List Addr} (L : Alk G h li t r kA k b f n ini) (K : Keep h h1 ws) (n1 : li ∉ ws) (n2 : t ∉ ws) (n3 : r ∉ ws) : Alk G h1 li t r kA k b f n ini := by
  obtain ⟨a, ⟨mc, b⟩, c, d, e, o, kk, ge, ⟨vs, l1, l2, A⟩, R⟩ := L
  exact ⟨a.keep K, ⟨mc, b.keep K n1⟩, c.keep K n1, d.keep K n1, e.keep K, o, kk, ge, ⟨vs, l1, l2, A.keep K n2⟩, R.keep K n3⟩
theorem Alk.apT (L : Alk G h li t r kA k b f n ini) (ws : Wd G (.instantiable "java/lang/String" 4)) : Ap G h t := by
  obtain ⟨a, ⟨mc, b⟩, c, d, e, o, kk, ge, ⟨vs, l1, l2, A⟩, R⟩ := L
  exact Ap.of_arv A (fun q => nomatch q) ws
theorem set_last {vs : List Value} {k : Nat} {x : Value} (hl : vs.length = 10) (hk : k < 10) : (vs.set k x).length = 10 ∧ (vs.set k x).getD (k + 1 - 1) .null = x := ⟨by rw [List.length_set]; exact hl, by
  rw [Nat.add_sub_cancel, List.getD_eq_getElem?_getD, List.getElem?_set_self (by omega)]; rfl⟩
theorem cap1 {u : Int32} : ∀ (i : Nat) (t : FieldType) (v : Value), ([FieldType.int] : List FieldType)[i]? = some t → ([Value.int u] : List Value)[i]? = some v → narrow t v = v ∧ fits t v = true := fun i t v h1 h2 => by
  cases i with
  | zero => cases h1; cases h2; exact ⟨rfl, rfl⟩
  | succ i => cases h1
theorem arr0_start {G : Gb} {args : Array Value} {t : Term} {a : Addr} {ty : FieldType} (hf : Fit G.Z) (ev : t.eval args G.Z none [] G.Z = some (.ref a)) (hA : (Cond.arrayOf t ty).value args G.Z none G.Z [] = some true) (hl : (Term.length t).eval args G.Z none [] G.Z = some (.int 0)) : ∃ k, Arv G.Z G.Z.heap a k ty (0 : Int32) [] .null := by
  obtain ⟨cl, A⟩ := Arr.start ev hA
  have ha : G.Z.arrayAt? a = some cl := Arr.fin (Vm.Alike.refl _) A
  have q : cl.slots.size < 2 ^ 31 := Decidable.byContradiction fun nq => by simp [Term.eval, ev, ha, nq] at hl
  have e : cl.slots.size.toInt32 = 0 := Value.int.inj (Option.some.inj ((len_f ev ha q).symm.trans hl))
  exact ⟨cl.cls, Arv.start hf A q e (by decide) rfl trivial⟩
theorem and3p (x : Int32) : (x &&& 3) + 1 + 1 ≠ 0 := by rcases and3 x with q | q | q | q <;> rw [q] <;> decide
theorem and7 (x : Int32) : x &&& 7 = 0 ∨ x &&& 7 = 1 ∨ x &&& 7 = 2 ∨ x &&& 7 = 3 ∨ x &&& 7 = 4 ∨ x &&& 7 = 5 ∨ x &&& 7 = 6 ∨ x &&& 7 = 7 := by
  have q := c_and x 7 (by decide)
  have e3 : (7 : Int32).toInt = 7 := by decide
  rw [e3] at q
  have h2 : (x &&& 7).toInt = 0 ∨ (x &&& 7).toInt = 1 ∨ (x &&& 7).toInt = 2 ∨ (x &&& 7).toInt = 3 ∨ (x &&& 7).toInt = 4 ∨ (x &&& 7).toInt = 5 ∨ (x &&& 7).toInt = 6 ∨ (x &&& 7).toInt = 7 := by omega
  rcases h2 with u | u | u | u | u | u | u | u
  · exact Or.inl (Int32.toInt_inj.mp (u.trans (by decide)))
  · exact Or.inr (Or.inl (Int32.toInt_inj.mp (u.trans (by decide))))
  · exact Or.inr (Or.inr (Or.inl (Int32.toInt_inj.mp (u.trans (by decide)))))
  · exact Or.inr (Or.inr (Or.inr (Or.inl (Int32.toInt_inj.mp (u.trans (by decide))))))
  · exact Or.inr (Or.inr (Or.inr (Or.inr (Or.inl (Int32.toInt_inj.mp (u.trans (by decide)))))))
  · exact Or.inr (Or.inr (Or.inr (Or.inr (Or.inr (Or.inl (Int32.toInt_inj.mp (u.trans (by decide))))))))
  · exact Or.inr (Or.inr (Or.inr (Or.inr (Or.inr (Or.inr (Or.inl (Int32.toInt_inj.mp (u.trans (by decide)))))))))
  · exact Or.inr (Or.inr (Or.inr (Or.inr (Or.inr (Or.inr (Or.inr (Int32.toInt_inj.mp (u.trans (by decide)))))))))
theorem and7p (x : Int32) : 1 + (x &&& 7) ≠ 0 ∧ 1 + (x &&& 7) + 1 ≠ 0 := by rcases and7 x with q | q | q | q | q | q | q | q <;> rw [q] <;> decide
/-- 1 + (x & 0x7fffffff) % n, n from 1 to 8 -/
theorem pid {x a : Int32} : ¬ 1 + (x &&& 2147483647) % (1 + (a &&& 7)) < 1 := by
  have hx := (c_and x 2147483647 (by decide)).1
  obtain ⟨n, hn, hn1, hn8⟩ : ∃ n : Int, (1 + (a &&& 7)).toInt = n ∧ 1 ≤ n ∧ n ≤ 8 := by
    rcases and7 a with q | q | q | q | q | q | q | q <;> rw [q] <;> exact ⟨_, rfl, by decide, by decide⟩
  have b := (c_irem (x &&& 2147483647) (1 + (a &&& 7)) n hn).1 hx
  have p1 := Int.emod_nonneg (x &&& 2147483647).toInt (show n ≠ 0 by omega)
  have p2 := Int.emod_lt_of_pos (x &&& 2147483647).toInt (show (0 : Int) < n by omega)
  have c := c_iadd 1 ((x &&& 2147483647) % (1 + (a &&& 7)))
  have e1 : (1 : Int32).toInt = 1 := by decide
  have r1 := rng32 (1 + (x &&& 2147483647) % (1 + (a &&& 7)))
  rw [Int32.lt_iff_toInt_lt, e1]
  rw [e1, b] at c
  omega
end Lm
end Jvm.OwnW

namespace Jvm.Pilot.@@N@@
open Jvm Jvm.ClassFile Sem Op Lib Jvm.Free Jvm.Stand Jvm.LawKit Jvm.RoadKit Bundle Jvm.OwnW Jvm.Pilot.@@N@@.Jvm.D
abbrev els : List (String × Nat) := consts_1
theorem pd_0 : parseMethodDescriptor "()B" = some ⟨[], (some .byte)⟩ := by decide +kernel
theorem pd_1 : parseMethodDescriptor "(II)V" = some ⟨[.int, .int], none⟩ := by decide +kernel
theorem pd_2 : parseMethodDescriptor "(II)I" = some ⟨[.int, .int], (some .int)⟩ := by decide +kernel
theorem pd_3 : parseMethodDescriptor "([BII)[B" = some ⟨[(.array .byte), .int, .int], (some (.array .byte))⟩ := by decide +kernel
theorem pd_4 : parseMethodDescriptor "(Ljava/lang/String;)V" = some ⟨[(.object "java/lang/String")], none⟩ := by decide +kernel
theorem pd_5 : parseMethodDescriptor "([BIB)V" = some ⟨[(.array .byte), .int, .byte], none⟩ := by decide +kernel
theorem pd_6 : parseMethodDescriptor "()I" = some ⟨[], (some .int)⟩ := by decide +kernel
theorem pd_7 : parseMethodDescriptor "(I)V" = some ⟨[.int], none⟩ := by decide +kernel
theorem pd_8 : parseMethodDescriptor "(ILjava/lang/String;)V" = some ⟨[.int, (.object "java/lang/String")], none⟩ := by decide +kernel
theorem pd_9 : parseMethodDescriptor "(Ljava/lang/String;)Ljava/lang/AbstractStringBuilder;" = some ⟨[(.object "java/lang/String")], (some (.object "java/lang/AbstractStringBuilder"))⟩ := by decide +kernel
theorem pd_10 : parseMethodDescriptor "()[B" = some ⟨[], (some (.array .byte))⟩ := by decide +kernel
theorem pd_11 : parseMethodDescriptor "()Z" = some ⟨[], (some .boolean)⟩ := by decide +kernel
theorem pd_12 : parseMethodDescriptor "(Ljava/lang/AbstractStringBuilder;Ljava/lang/Void;)V" = some ⟨[(.object "java/lang/AbstractStringBuilder"), (.object "java/lang/Void")], none⟩ := by decide +kernel
theorem pd_13 : parseMethodDescriptor "(Ljava/lang/StringBuilder;)V" = some ⟨[(.object "java/lang/StringBuilder")], none⟩ := by decide +kernel
theorem pd_14 : parseMethodDescriptor "()V" = some ⟨[], none⟩ := by decide +kernel
theorem pd_15 : parseMethodDescriptor "(IILjava/util/function/BiFunction;)I" = some ⟨[.int, .int, (.object "java/util/function/BiFunction")], (some .int)⟩ := by decide +kernel
theorem pd_16 : parseMethodDescriptor "(I)Ljava/lang/Object;" = some ⟨[.int], (some (.object "java/lang/Object"))⟩ := by decide +kernel
theorem pd_17 : parseMethodDescriptor "(I)[Ljava/lang/Object;" = some ⟨[.int], (some (.array (.object "java/lang/Object")))⟩ := by decide +kernel
theorem pd_18 : parseMethodDescriptor "()[Ljava/lang/Object;" = some ⟨[], (some (.array (.object "java/lang/Object")))⟩ := by decide +kernel
theorem pd_19 : parseMethodDescriptor "(Ljava/lang/Object;[Ljava/lang/Object;I)V" = some ⟨[(.object "java/lang/Object"), (.array (.object "java/lang/Object")), .int], none⟩ := by decide +kernel
theorem pd_20 : parseMethodDescriptor "(Ljava/lang/String;)Ljava/lang/StringBuilder;" = some ⟨[(.object "java/lang/String")], (some (.object "java/lang/StringBuilder"))⟩ := by decide +kernel
theorem pd_21 : parseMethodDescriptor "()Ljava/lang/String;" = some ⟨[], (some (.object "java/lang/String"))⟩ := by decide +kernel
theorem pd_22 : parseMethodDescriptor "(Ljava/lang/String;IIILjava/util/function/IntUnaryOperator;Z)V" = some ⟨[(.object "java/lang/String"), .int, .int, .int, (.object "java/util/function/IntUnaryOperator"), .boolean], none⟩ := by decide +kernel
theorem pd_23 : parseMethodDescriptor "(Ljava/lang/Object;)Z" = some ⟨[(.object "java/lang/Object")], (some .boolean)⟩ := by decide +kernel
theorem pd_24 : parseMethodDescriptor "(Ljava/lang/String;IILjava/util/function/IntUnaryOperator;Z)Lcom/example/foyer/foyer/Layout$RegisterArray;" = some ⟨[(.object "java/lang/String"), .int, .int, (.object "java/util/function/IntUnaryOperator"), .boolean], (some (.object "com/example/foyer/foyer/Layout$RegisterArray"))⟩ := by decide +kernel
theorem pd_25 : parseMethodDescriptor "(Ljava/util/List;Ljava/lang/String;)V" = some ⟨[(.object "java/util/List"), (.object "java/lang/String")], none⟩ := by decide +kernel
theorem pd_26 : parseMethodDescriptor "(I)I" = some ⟨[.int], (some .int)⟩ := by decide +kernel
theorem pd_27 : parseMethodDescriptor "(Ljava/lang/String;IILjava/util/function/IntUnaryOperator;)Lcom/example/foyer/foyer/Layout$RegisterArray;" = some ⟨[(.object "java/lang/String"), .int, .int, (.object "java/util/function/IntUnaryOperator")], (some (.object "com/example/foyer/foyer/Layout$RegisterArray"))⟩ := by decide +kernel
theorem pd_28 : parseMethodDescriptor "(IILcom/example/foyer/foyer/Layout;)V" = some ⟨[.int, .int, (.object "com/example/foyer/foyer/Layout")], none⟩ := by decide +kernel
theorem pd_29 : parseMethodDescriptor "()Lcom/example/foyer/foyer/Layout;" = some ⟨[], (some (.object "com/example/foyer/foyer/Layout"))⟩ := by decide +kernel
theorem pd_30 : parseMethodDescriptor "(Ljava/lang/String;I)I" = some ⟨[(.object "java/lang/String"), .int], (some .int)⟩ := by decide +kernel
theorem pd_31 : parseMethodDescriptor "(Ljava/lang/String;III)Lcom/example/foyer/foyer/Layout$RegisterArray;" = some ⟨[(.object "java/lang/String"), .int, .int, .int], (some (.object "com/example/foyer/foyer/Layout$RegisterArray"))⟩ := by decide +kernel
theorem pd_32 : parseMethodDescriptor "(ILcom/example/foyer/foyer/Layout;Lcom/example/foyer/foyer/Layout$RegisterArray;)V" = some ⟨[.int, (.object "com/example/foyer/foyer/Layout"), (.object "com/example/foyer/foyer/Layout$RegisterArray")], none⟩ := by decide +kernel
theorem pd_33 : parseMethodDescriptor "(Ljava/lang/String;)Lcom/example/foyer/foyer/Layout;" = some ⟨[(.object "java/lang/String")], (some (.object "com/example/foyer/foyer/Layout"))⟩ := by decide +kernel
theorem pd_34 : parseMethodDescriptor "(I)[I" = some ⟨[.int], (some (.array .int))⟩ := by decide +kernel
theorem pd_35 : parseMethodDescriptor "(IZ)V" = some ⟨[.int, .boolean], none⟩ := by decide +kernel
theorem pd_36 : parseMethodDescriptor "(ILcom/example/foyer/foyer/Registration;)V" = some ⟨[.int, (.object "com/example/foyer/foyer/Registration")], none⟩ := by decide +kernel
theorem pd_37 : parseMethodDescriptor "([II)Z" = some ⟨[(.array .int), .int], (some .boolean)⟩ := by decide +kernel
theorem pn_0 : plainName "java/lang/String" = true := by first | (simp [plainName, overriddenIn]; done) | decide +kernel
def P_cod : List (Nat × Instr × Nat) := [(0, .getstatic 38, 3), (3, .ifCond .eq 10, 3), (6, .aload_n 0, 1), (7, .getfield 15, 3), (10, .goto 4, 3), (13, .iconst 1, 1), (14, .ireturn, 1)]
theorem L_cod : ∀ q ∈ P_cod, decode jdk_42_method_152_code q.1 = .ok q.2 := by decide +kernel
def M_cod : Mt := (("java/lang/String", "coder", ({ frames := 0, cells := 0, slots := 0, locals := 0 } : Room)), P_cod, 1, (some .byte))
set_option maxRecDepth 65536 in
set_option maxHeartbeats 40000000 in
theorem c_cod {G : Gb} (H : Gl tables_1 els G) {h : Heap} {a : Addr} {cs : List Int32} (S1 : Str G h a cs) :
    Ctr G [] (⟨"java/lang/String", "coder", "()B"⟩ : MethodName) jdk_42_method_152_code 1 (some .byte) ({ frames := 0, cells := 0, slots := 0, locals := 0 } : Room) #[.ref a] h [] (fun v h' Sf => v = some (.int 0) ∧ h = h') := by
  refine ctr_of M_cod rfl rfl (plainFor_of_name pn_0) L_cod H.el (Ls := #[.val (.ref a)]) (fun m => ef_ok (by show argsToLocals _ 1 = _; first | (simp [argsToLocals, Value.category]; done) | rfl)) ?_
  intro B K hE
  obtain ⟨cz, hcs, hcz⟩ := H.cs
  obtain ⟨t1, k2, e3, e4, e5, e6⟩ := id S1
  refine go_getstatic K (k := 0) rfl (host := "") (Or.inl (H.w 157 rfl)) Via.refl hcs ?_
  refine go_ifeq K (k := 1) rfl (pc' := 13) (by decide) (fun q => absurd q hcz) (fun _ => ?_)
  refine go_run K 2 1 (pc' := 7) (st' := [(.ref a)]) rfl ?_
  refine go_getfield K (k := 3) rfl (host := "") (Or.inl (H.w 158 rfl)) Via.refl e4 ?_
  refine go_run K 4 1 (pc' := 14) (st' := [(.int (0 : Int32))]) rfl ?_
  refine go_ireturn K (k := 6) rfl rfl (by decide) rfl rfl rfl ?_
  intro Sf hSf
  exact ⟨rfl, rfl⟩
def P_len : List (Nat × Instr × Nat) := [(0, .aload_n 0, 1), (1, .getfield 9, 3), (4, .arraylength, 1), (5, .aload_n 0, 1), (6, .invokevirtual 335, 3), (9, .ishr, 1), (10, .ireturn, 1)]
theorem L_len : ∀ q ∈ P_len, decode jdk_42_method_54_code q.1 = .ok q.2 := by decide +kernel
def M_len : Mt := (("java/lang/String", "length", ({ frames := 1, cells := 0, slots := 0, locals := 13 } : Room)), P_len, 1, (some .int))
set_option maxRecDepth 65536 in
set_option maxHeartbeats 40000000 in
theorem c_len {G : Gb} (H : Gl tables_1 els G) {h : Heap} {a : Addr} {cs : List Int32} (S1 : Str G h a cs) :
    Ctr G [] (⟨"java/lang/String", "length", "()I"⟩ : MethodName) jdk_42_method_54_code 1 (some .int) ({ frames := 1, cells := 0, slots := 0, locals := 13 } : Room) #[.ref a] h [] (fun v h' Sf => v = some (.int cs.length.toInt32) ∧ h = h') := by
  refine ctr_of M_len rfl rfl (plainFor_of_name pn_0) L_len H.el (Ls := #[.val (.ref a)]) (fun m => ef_ok (by show argsToLocals _ 1 = _; first | (simp [argsToLocals, Value.category]; done) | rfl)) ?_
  intro B K hE
  obtain ⟨t1, k2, e3, e4, e5, e6⟩ := id S1
  refine go_run K 0 1 (pc' := 1) (st' := [(.ref a)]) rfl ?_
  refine go_getfield K (k := 1) rfl (host := "") (Or.inl (H.w 151 rfl)) Via.refl e5 ?_
  refine go_arraylength K (k := 2) rfl e6 ?_
  refine go_run K 3 1 (pc' := 6) (st' := [(.ref a), (.int cs.length.toInt32)]) rfl ?_
  refine go_virt0 K (k := 4) rfl (H.w 152 rfl) (H.w 155 rfl) (H.w 154 rfl) (H.w 56 rfl) (H.w 156 rfl) (by decide) pd_0 S1.exa (c_cod H S1) (argsL := []) (rest := [(.int cs.length.toInt32)]) rfl rfl rfl sub0 rfl ?_
  rintro _ _ _ - ⟨rfl, rfl⟩
  show Go G B M_len _ h [] 0 0 9 #[.val (.ref a)] [(.int (0 : Int32)), (.int cs.length.toInt32)]
  refine go_run K 5 1 (pc' := 10) (st' := [(.int (cs.length.toInt32 >>> ((0 : Int32) &&& 31)))]) rfl ?_
  rw [shr0]
  refine go_ireturn K (k := 6) rfl rfl (by decide) rfl rfl rfl ?_
  intro Sf hSf
  exact ⟨rfl, rfl⟩
theorem pf_1 : plainFor (⟨"java/lang/Math", "min", "(II)I"⟩ : MethodName) = true := by decide +kernel
def P_min : List (Nat × Instr × Nat) := [(0, .iload_n 0, 1), (1, .iload_n 1, 1), (2, .if_icmp .gt 7, 3), (5, .iload_n 0, 1), (6, .goto 4, 3), (9, .iload_n 1, 1), (10, .ireturn, 1)]
theorem L_min : ∀ q ∈ P_min, decode jdk_29_method_69_code q.1 = .ok q.2 := by decide +kernel
def M_min : Mt := (("java/lang/Math", "min", ({ frames := 0, cells := 0, slots := 0, locals := 0 } : Room)), P_min, 2, (some .int))
set_option maxRecDepth 65536 in
set_option maxHeartbeats 40000000 in
theorem c_min {G : Gb} (H : Gl tables_1 els G) {h : Heap} {x y : Int32} :
    Ctr G [] (⟨"java/lang/Math", "min", "(II)I"⟩ : MethodName) jdk_29_method_69_code 2 (some .int) ({ frames := 0, cells := 0, slots := 0, locals := 0 } : Room) #[.int x, .int y] h [] (fun v h' Sf => ∃ r : Int32, v = some (.int r) ∧ h = h' ∧ ((r = x ∧ ¬ y < x) ∨ (r = y ∧ y < x))) := by
  refine ctr_of M_min rfl rfl pf_1 L_min H.el (Ls := #[.val (.int x), .val (.int y)]) (fun m => ef_ok (by show argsToLocals _ 2 = _; first | (simp [argsToLocals, Value.category]; done) | rfl)) ?_
  intro B K hE
  refine go_run K 0 2 (pc' := 2) (st' := [(.int y), (.int x)]) rfl ?_
  refine go_icmpgt K (k := 2) rfl (pc' := 9) (by decide) (fun q1 => ?_) (fun q2 => ?_)
  · refine go_run K 5 1 (pc' := 10) (st' := [(.int y)]) rfl ?_
    refine go_ireturn K (k := 6) rfl rfl (by decide) rfl rfl rfl ?_
    intro Sf hSf
    exact ⟨y, rfl, rfl, Or.inr ⟨rfl, q1⟩⟩
  · refine go_run K 3 2 (pc' := 10) (st' := [(.int x)]) rfl ?_
    refine go_ireturn K (k := 6) rfl rfl (by decide) rfl rfl rfl ?_
    intro Sf hSf
    exact ⟨x, rfl, rfl, Or.inl ⟨rfl, q2⟩⟩
theorem pn_2 : plainName "java/util/Arrays" = true := by first | (simp [plainName, overriddenIn]; done) | decide +kernel
def P_ckl : List (Nat × Instr × Nat) := [(0, .iload_n 1, 1), (1, .iload_n 0, 1), (2, .if_icmp .ge 35, 3), (5, .new 43, 3), (8, .dup, 1), (9, .new 45, 3), (12, .dup, 1), (13, .invokespecial 47, 3), (16, .iload_n 0, 1), (17, .invokevirtual 54, 3), (20, .ldc_w 337, 3), (23, .invokevirtual 50, 3), (26, .iload_n 1, 1), (27, .invokevirtual 54, 3), (30, .invokevirtual 61, 3), (33, .invokespecial 65, 3), (36, .athrow, 1), (37, .return_, 1)]
theorem L_ckl : ∀ q ∈ P_ckl, decode jdk_65_method_131_code q.1 = .ok q.2 := by decide +kernel
def M_ckl : Mt := (("java/util/Arrays", "checkLength", ({ frames := 0, cells := 0, slots := 0, locals := 0 } : Room)), P_ckl, 2, none)
set_option maxRecDepth 65536 in
set_option maxHeartbeats 40000000 in
theorem c_ckl {G : Gb} (H : Gl tables_1 els G) {h : Heap} {x y : Int32} (hle : ¬ y < x) :
    Ctr G [] (⟨"java/util/Arrays", "checkLength", "(II)V"⟩ : MethodName) jdk_65_method_131_code 2 none ({ frames := 0, cells := 0, slots := 0, locals := 0 } : Room) #[.int x, .int y] h [] (fun v h' Sf => v = none ∧ h = h') := by
  refine ctr_of M_ckl rfl rfl (plainFor_of_name pn_2) L_ckl H.el (Ls := #[.val (.int x), .val (.int y)]) (fun m => ef_ok (by show argsToLocals _ 2 = _; first | (simp [argsToLocals, Value.category]; done) | rfl)) ?_
  intro B K hE
  refine go_run K 0 2 (pc' := 2) (st' := [(.int x), (.int y)]) rfl ?_
  refine go_icmpge K (k := 2) rfl (pc' := 37) (by decide) (fun _ => ?_) (fun q => absurd q hle)
  refine go_return K (k := 17) rfl rfl rfl rfl ?_
  intro Sf hSf
  exact ⟨rfl, rfl⟩
def P_crb : List (Nat × Instr × Nat) := [(0, .iload_n 1, 1), (1, .iload_n 2, 1), (2, .invokestatic 343, 3), (5, .iload_n 2, 1), (6, .iload_n 1, 1), (7, .isub, 1), (8, .istore_n 3, 1), (9, .iload_n 3, 1), (10, .newarray .byte, 2), (12, .astore 4, 2), (14, .aload_n 0, 1), (15, .iload_n 1, 1), (16, .aload 4, 2), (18, .iconst 0, 1), (19, .aload_n 0, 1), (20, .arraylength, 1), (21, .iload_n 1, 1), (22, .isub, 1), (23, .iload_n 3, 1), (24, .invokestatic 304, 3), (27, .invokestatic 150, 3), (30, .aload 4, 2), (32, .areturn, 1)]
theorem L_crb : ∀ q ∈ P_crb, decode jdk_65_method_133_code q.1 = .ok q.2 := by decide +kernel
def M_crb : Mt := (("java/util/Arrays", "copyOfRangeByte", ({ frames := 1, cells := 1, slots := 16, locals := 18 } : Room)), P_crb, 5, (some (.array .byte)))
set_option maxRecDepth 65536 in
set_option maxHeartbeats 40000000 in
theorem c_crb {G : Gb} (H : Gl tables_1 els G) {h : Heap} {t : Addr} {kt : ClassId} {m i j : Nat} {vs : List Value} (hij : i ≤ j) (hjm : j ≤ m) (hm : m < 2 ^ 31) (hv : vs.length = m) (hcap : j - i ≤ 16) (A1 : Arv G.Z h t kt .byte m.toInt32 vs (.int 0)) :
    Ctr G [] (⟨"java/util/Arrays", "copyOfRangeByte", "([BII)[B"⟩ : MethodName) jdk_65_method_133_code 5 (some (.array .byte)) ({ frames := 1, cells := 1, slots := 16, locals := 18 } : Room) #[.ref t, .int i.toInt32, .int j.toInt32] h [] (fun v h' Sf => ∃ (u : Addr) (ku : ClassId), v = some (.ref u) ∧ Ext h h' ∧ Arv G.Z h' u ku .byte (j - i).toInt32 ((vs.drop i).take (j - i)) (.int 0) ∧ G.Z.heap.size ≤ u ∧ h.size ≤ u ∧ Sf u) := by
  refine ctr_of M_crb rfl rfl (plainFor_of_name pn_2) L_crb H.el (Ls := #[.val (.ref t), .val (.int i.toInt32), .val (.int j.toInt32), .unset, .unset]) (fun m => ef_ok (by show argsToLocals _ 5 = _; first | (simp [argsToLocals, Value.category]; done) | rfl)) ?_
  intro B K hE
  refine go_run K 0 2 (pc' := 2) (st' := [(.int j.toInt32), (.int i.toInt32)]) rfl ?_
  refine go_static K (k := 2) rfl (H.w 225 rfl) (H.w 226 rfl) (H.w 220 rfl) (H.w 227 rfl) (by decide) pd_1 (c_ckl (x := i.toInt32) (y := j.toInt32) H (len_nlt (by omega) hij)) (argsL := [(.int i.toInt32), (.int j.toInt32)]) (rest := []) rfl rfl rfl sub0 rfl ?_
  rintro _ _ _ - ⟨rfl, rfl⟩
  show Go G B M_crb _ h [] 0 0 5 #[.val (.ref t), .val (.int i.toInt32), .val (.int j.toInt32), .unset, .unset] []
  refine go_run K 3 5 (pc' := 10) (Ls' := #[.val (.ref t), .val (.int i.toInt32), .val (.int j.toInt32), .val (.int (j.toInt32 - i.toInt32)), .unset]) (st' := [(.int (j.toInt32 - i.toInt32))]) rfl ?_
  rw [sub_len hij]
  refine go_newarray K (k := 8) rfl (H.w 58 rfl) (len_nn (by omega)) (cap := 16) (by rw [len_nat (by omega)]; exact hcap) rfl rfl rfl ?_
  intro h2 a1 k3 e4 g5 E6 A7
  have A7' : Arv G.Z h2 a1 k3 .byte (j - i).toInt32 (List.replicate (j - i) (.int 0)) (.int 0) := Arv.pad A7 (pad_rep [] _ _)
  refine go_run K 9 6 (pc' := 20) (Ls' := #[.val (.ref t), .val (.int i.toInt32), .val (.int j.toInt32), .val (.int (j - i).toInt32), .val (.ref a1)]) (st' := [(.ref t), (.int (0 : Int32)), (.ref a1), (.int i.toInt32), (.ref t)]) rfl ?_
  have c8 := (A1.ext E6)
  refine go_arraylength K (k := 15) rfl c8 ?_
  refine go_run K 16 3 (pc' := 24) (st' := [(.int (j - i).toInt32), (.int (m.toInt32 - i.toInt32)), (.int (0 : Int32)), (.ref a1), (.int i.toInt32), (.ref t)]) rfl ?_
  rw [sub_len (show i ≤ m by omega)]
  refine go_static K (k := 19) rfl (H.w 228 rfl) (H.w 229 rfl) (H.w 230 rfl) (H.w 231 rfl) (by decide) pd_2 (c_min (x := (m - i).toInt32) (y := (j - i).toInt32) H) (argsL := [(.int (m - i).toInt32), (.int (j - i).toInt32)]) (rest := [(.int (0 : Int32)), (.ref a1), (.int i.toInt32), (.ref t)]) rfl rfl rfl sub0 rfl ?_
  rintro _ _ _ - ⟨r9, rfl, rfl, q10⟩
  show Go G B M_crb _ h2 (a1 :: []) 1 16 27 #[.val (.ref t), .val (.int i.toInt32), .val (.int j.toInt32), .val (.int (j - i).toInt32), .val (.ref a1)] [(.int r9), (.int (0 : Int32)), (.ref a1), (.int i.toInt32), (.ref t)]
  have hr : r9 = (j - i).toInt32 := by
    rcases q10 with ⟨u1, u2⟩ | ⟨u1, -⟩
    · rw [u1]; exact len_ge (by omega) (by omega) (by omega) u2
    · exact u1
  rw [hr]
  refine go_arraycopy K (k := 20) rfl (H.w 232 rfl) (H.w 185 rfl) (H.w 183 rfl) (H.w 184 rfl) c8 A7' rfl (len_nn (by omega)) (by decide) (len_nn (by omega)) (by rw [len_nat (by omega), len_nat (by omega), len_nat (by omega)]; omega) (by rw [len_nat (by omega)]; exact Nat.le_of_eq (Nat.zero_add _)) (us := ((vs.drop i).take (j - i))) (by rw [len_nat (by omega), len_nat (by omega)]; exact (map_range (by omega)).symm) (by rw [len_nat (by omega), List.length_replicate]; exact Nat.le_of_eq (Nat.zero_add _)) g5 (Or.inl (List.mem_cons_self ..)) rfl rfl rfl ?_
  intro h11 K12 A13
  refine go_run K 21 1 (pc' := 32) (st' := [(.ref a1)]) rfl ?_
  have X14 : Ext h h11 := (Ext.keepN E6 K12 (allS (Nat.le_trans (Nat.le_refl _) (Nat.le_of_eq e4.symm)) all0))
  refine go_areturn K (k := 22) rfl rfl rfl rfl rfl rfl rfl ?_
  intro Sf hSf
  refine ⟨a1, k3, rfl, X14, ?_, g5, Nat.le_of_eq e4.symm, hSf _ (List.mem_cons_self ..)⟩
  have u := A13
  rw [show (0 : Int32).toNatClampNeg = 0 from rfl, len_nat (by omega), List.take_zero, List.nil_append, Nat.zero_add, show List.drop (j - i) (List.replicate (j - i) (Value.int 0)) = [] from List.drop_of_length_le (by rw [List.length_replicate]; exact Nat.le_refl _), List.append_nil] at u
  exact u
def P_cor : List (Nat × Instr × Nat) := [(0, .iload_n 1, 1), (1, .ifCond .ne 9, 3), (4, .iload_n 2, 1), (5, .aload_n 0, 1), (6, .arraylength, 1), (7, .if_icmp .eq 10, 3), (10, .aload_n 0, 1), (11, .iload_n 1, 1), (12, .iload_n 2, 1), (13, .invokestatic 339, 3), (16, .areturn, 1), (17, .aload_n 0, 1), (18, .invokevirtual 310, 3), (21, .checkcast 311, 3), (24, .areturn, 1)]
theorem L_cor : ∀ q ∈ P_cor, decode jdk_65_method_132_code q.1 = .ok q.2 := by decide +kernel
def M_cor : Mt := (("java/util/Arrays", "copyOfRange", ({ frames := 2, cells := 1, slots := 16, locals := 34 } : Room)), P_cor, 3, (some (.array .byte)))
set_option maxRecDepth 65536 in
set_option maxHeartbeats 40000000 in
theorem c_cor {G : Gb} (H : Gl tables_1 els G) {h : Heap} {t : Addr} {kt : ClassId} {m i j : Nat} {vs : List Value} (hne : ¬ (i = 0 ∧ j = m)) (hij : i ≤ j) (hjm : j ≤ m) (hm : m < 2 ^ 31) (hv : vs.length = m) (hcap : j - i ≤ 16) (A1 : Arv G.Z h t kt .byte m.toInt32 vs (.int 0)) :
    Ctr G [] (⟨"java/util/Arrays", "copyOfRange", "([BII)[B"⟩ : MethodName) jdk_65_method_132_code 3 (some (.array .byte)) ({ frames := 2, cells := 1, slots := 16, locals := 34 } : Room) #[.ref t, .int i.toInt32, .int j.toInt32] h [] (fun v h' Sf => ∃ (u : Addr) (ku : ClassId), v = some (.ref u) ∧ Ext h h' ∧ Arv G.Z h' u ku .byte (j - i).toInt32 ((vs.drop i).take (j - i)) (.int 0) ∧ G.Z.heap.size ≤ u ∧ h.size ≤ u ∧ Sf u) := by
  refine ctr_of M_cor rfl rfl (plainFor_of_name pn_2) L_cor H.el (Ls := #[.val (.ref t), .val (.int i.toInt32), .val (.int j.toInt32)]) (fun m => ef_ok (by show argsToLocals _ 3 = _; first | (simp [argsToLocals, Value.category]; done) | rfl)) ?_
  intro B K hE
  refine go_run K 0 1 (pc' := 1) (st' := [(.int i.toInt32)]) rfl ?_
  refine go_ifne K (k := 1) rfl (pc' := 10) (by decide) (fun q1 => ?_) (fun q2 => ?_)
  · refine go_run K 6 3 (pc' := 13) (st' := [(.int j.toInt32), (.int i.toInt32), (.ref t)]) rfl ?_
    refine go_staticN K (k := 9) rfl (H.w 222 rfl) (H.w 223 rfl) (H.w 220 rfl) (H.w 224 rfl) (by decide) pd_3 (c_crb (i := i) (j := j) (m := m) H hij hjm hm hv hcap A1) (argsL := [(.ref t), (.int i.toInt32), (.int j.toInt32)]) (rest := []) rfl rfl rfl sub0 rfl ?_
    rintro _ h3 Sf11 - ⟨u4, k5, rfl, E6, A7, g8, f9, s10⟩
    refine ⟨[u4], allS s10 all0, ?_⟩
    show Go G B M_cor _ h3 (u4 :: []) 1 16 16 #[.val (.ref t), .val (.int i.toInt32), .val (.int j.toInt32)] [(.ref u4)]
    refine go_areturn K (k := 10) rfl rfl rfl rfl rfl rfl rfl ?_
    intro Sf hSf
    exact ⟨_, _, rfl, E6, A7, g8, f9, hSf _ (List.mem_cons_self ..)⟩
  · refine go_run K 2 2 (pc' := 6) (st' := [(.ref t), (.int j.toInt32)]) rfl ?_
    refine go_arraylength K (k := 4) rfl A1 ?_
    refine go_icmpeq K (k := 5) rfl (pc' := 17) (by decide) (fun q => absurd q (fun e => hne ⟨len_zero (by omega) q2, len_inj (by omega) (by omega) e⟩)) (fun _ => ?_)
    refine go_run K 6 3 (pc' := 13) (st' := [(.int j.toInt32), (.int i.toInt32), (.ref t)]) rfl ?_
    refine go_staticN K (k := 9) rfl (H.w 222 rfl) (H.w 223 rfl) (H.w 220 rfl) (H.w 224 rfl) (by decide) pd_3 (c_crb (i := i) (j := j) (m := m) H hij hjm hm hv hcap A1) (argsL := [(.ref t), (.int i.toInt32), (.int j.toInt32)]) (rest := []) rfl rfl rfl sub0 rfl ?_
    rintro _ h12 Sf20 - ⟨u13, k14, rfl, E15, A16, g17, f18, s19⟩
    refine ⟨[u13], allS s19 all0, ?_⟩
    show Go G B M_cor _ h12 (u13 :: []) 1 16 16 #[.val (.ref t), .val (.int i.toInt32), .val (.int j.toInt32)] [(.ref u13)]
    refine go_areturn K (k := 10) rfl rfl rfl rfl rfl rfl rfl ?_
    intro Sf hSf
    exact ⟨_, _, rfl, E15, A16, g17, f18, hSf _ (List.mem_cons_self ..)⟩
def P_gby : List (Nat × Instr × Nat) := [(0, .aload_n 0, 1), (1, .invokevirtual 335, 3), (4, .iload_n 3, 1), (5, .if_icmp .ne 23, 3), (8, .aload_n 0, 1), (9, .getfield 9, 3), (12, .iconst 0, 1), (13, .aload_n 1, 1), (14, .iload_n 2, 1), (15, .iload_n 3, 1), (16, .ishl, 1), (17, .aload_n 0, 1), (18, .getfield 9, 3), (21, .arraylength, 1), (22, .invokestatic 212, 3), (25, .goto 18, 3), (28, .aload_n 0, 1), (29, .getfield 9, 3), (32, .iconst 0, 1), (33, .aload_n 1, 1), (34, .iload_n 2, 1), (35, .aload_n 0, 1), (36, .getfield 9, 3), (39, .arraylength, 1), (40, .invokestatic 106, 3), (43, .return_, 1)]
theorem L_gby : ∀ q ∈ P_gby, decode jdk_42_method_147_code q.1 = .ok q.2 := by decide +kernel
def M_gby : Mt := (("java/lang/String", "getBytes", ({ frames := 1, cells := 0, slots := 0, locals := 18 } : Room)), P_gby, 4, none)
set_option maxRecDepth 65536 in
set_option maxHeartbeats 40000000 in
theorem c_gby {G : Gb} (H : Gl tables_1 els G) {h : Heap} {s t : Addr} {kt : ClassId} {ds : List Int32} {m i : Nat} {vd : List Value} (l1 : Lat ds) (S1 : Str G h s ds) (A1 : Arv G.Z h t kt .byte m.toInt32 vd (.int 0)) (hm : m < 2 ^ 31) (hv : vd.length = m) (hi : i + ds.length ≤ m) (g0 : G.Z.heap.size ≤ t) :
    Ctr G [] (⟨"java/lang/String", "getBytes", "([BIB)V"⟩ : MethodName) jdk_42_method_147_code 4 none ({ frames := 1, cells := 0, slots := 0, locals := 18 } : Room) #[.ref s, .ref t, .int i.toInt32, .int 0] h [t] (fun v h' Sf => v = none ∧ Keep h h' [t] ∧ Arv G.Z h' t kt .byte m.toInt32 (vd.take i ++ by8 ds ++ vd.drop (i + ds.length)) (.int 0)) := by
  refine ctr_of M_gby rfl rfl (plainFor_of_name pn_0) L_gby H.el (Ls := #[.val (.ref s), .val (.ref t), .val (.int i.toInt32), .val (.int (0 : Int32))]) (fun m => ef_ok (by show argsToLocals _ 4 = _; first | (simp [argsToLocals, Value.category]; done) | rfl)) ?_
  intro B K hE
  obtain ⟨t1, k2, e3, e4, e5, e6⟩ := id S1
  have hld := lat_lt l1
  refine go_run K 0 1 (pc' := 1) (st' := [(.ref s)]) rfl ?_
  refine go_virt0 K (k := 1) rfl (H.w 152 rfl) (H.w 155 rfl) (H.w 154 rfl) (H.w 56 rfl) (H.w 156 rfl) (by decide) pd_0 S1.exa (c_cod H S1) (argsL := []) (rest := []) rfl rfl rfl sub0 rfl ?_
  rintro _ _ _ - ⟨rfl, rfl⟩
  show Go G B M_gby _ h (t :: []) 0 0 4 #[.val (.ref s), .val (.ref t), .val (.int i.toInt32), .val (.int (0 : Int32))] [(.int (0 : Int32))]
  refine go_run K 2 1 (pc' := 5) (st' := [(.int (0 : Int32)), (.int (0 : Int32))]) rfl ?_
  refine go_icmpne K (k := 3) rfl (pc' := 28) (by decide) (fun q => absurd rfl q) (fun _ => ?_)
  refine go_run K 4 1 (pc' := 9) (st' := [(.ref s)]) rfl ?_
  refine go_getfield K (k := 5) rfl (host := "") (Or.inl (H.w 151 rfl)) Via.refl e5 ?_
  refine go_run K 6 6 (pc' := 18) (st' := [(.ref s), (.int (i.toInt32 <<< ((0 : Int32) &&& 31))), (.ref t), (.int (0 : Int32)), (.ref t1)]) rfl ?_
  rw [shl0]
  refine go_getfield K (k := 12) rfl (host := "") (Or.inl (H.w 151 rfl)) Via.refl e5 ?_
  refine go_arraylength K (k := 13) rfl e6 ?_
  refine go_arraycopy K (k := 14) rfl (H.w 182 rfl) (H.w 185 rfl) (H.w 183 rfl) (H.w 184 rfl) e6 A1 rfl (by decide) (len_nn (by omega)) (len_nn hld) (by rw [len_nat hld]; exact Nat.le_of_eq (Nat.zero_add _)) (by rw [len_nat (by omega), len_nat hld, len_nat hm]; omega) (us := (by8 ds)) (by rw [len_nat hld, show (0 : Int32).toNatClampNeg = 0 from rfl, map_range (by rw [by8_len]; omega), List.drop_zero, List.take_of_length_le (by rw [by8_len]; exact Nat.le_refl _)]) (by rw [len_nat (by omega), len_nat hld]; omega) g0 (Or.inl (List.mem_cons_self ..)) rfl rfl rfl ?_
  intro h7 K8 A9
  refine go_run K 15 1 (pc' := 43) (st' := []) rfl ?_
  refine go_return K (k := 25) rfl rfl rfl rfl ?_
  intro Sf hSf
  refine ⟨rfl, ((Keep.refl _ [t]).trans K8 (allS (Or.inl (List.mem_cons_self ..)) all0)), ?_⟩
  have u := A9
  rw [len_nat (by omega), len_nat hld] at u
  exact u
theorem pn_3 : plainName "java/lang/AbstractStringBuilder" = true := by first | (simp [plainName, overriddenIn]; done) | decide +kernel
def P_inf : List (Nat × Instr × Nat) := [(0, .getstatic 18, 3), (3, .ifCond .eq 18, 3), (6, .aload_n 0, 1), (7, .getfield 22, 3), (10, .aload_n 1, 1), (11, .invokevirtual 40, 3), (14, .if_icmp .eq 7, 3), (17, .aload_n 0, 1), (18, .invokevirtual 195, 3), (21, .return_, 1)]
theorem L_inf : ∀ q ∈ P_inf, decode jdk_68_method_71_code q.1 = .ok q.2 := by decide +kernel
def M_inf : Mt := (("java/lang/AbstractStringBuilder", "inflateIfNeededFor", ({ frames := 1, cells := 0, slots := 0, locals := 13 } : Room)), P_inf, 2, none)
set_option maxRecDepth 65536 in
set_option maxHeartbeats 40000000 in
theorem c_inf {G : Gb} (H : Gl tables_1 els G) {h : Heap} {a s : Addr} {ds : List Int32} (F0 : Fld G.Z h a "java/lang/AbstractStringBuilder" "coder" "B" (.int 0)) (S1 : Str G h s ds) :
    Ctr G [] (⟨"java/lang/AbstractStringBuilder", "inflateIfNeededFor", "(Ljava/lang/String;)V"⟩ : MethodName) jdk_68_method_71_code 2 none ({ frames := 1, cells := 0, slots := 0, locals := 13 } : Room) #[.ref a, .ref s] h [] (fun v h' Sf => v = none ∧ h = h') := by
  refine ctr_of M_inf rfl rfl (plainFor_of_name pn_3) L_inf H.el (Ls := #[.val (.ref a), .val (.ref s)]) (fun m => ef_ok (by show argsToLocals _ 2 = _; first | (simp [argsToLocals, Value.category]; done) | rfl)) ?_
  intro B K hE
  obtain ⟨cz, hcs, hcz⟩ := H.cs
  refine go_getstatic K (k := 0) rfl (host := "") (Or.inl (H.w 131 rfl)) Via.refl hcs ?_
  refine go_ifeq K (k := 1) rfl (pc' := 21) (by decide) (fun q => absurd q hcz) (fun _ => ?_)
  refine go_run K 2 1 (pc' := 7) (st' := [(.ref a)]) rfl ?_
  refine go_getfield K (k := 3) rfl (host := "") (Or.inl (H.w 134 rfl)) Via.refl F0 ?_
  refine go_run K 4 1 (pc' := 11) (st' := [(.ref s), (.int (0 : Int32))]) rfl ?_
  refine go_virt0 K (k := 5) rfl (H.w 176 rfl) (H.w 155 rfl) (H.w 154 rfl) (H.w 56 rfl) (H.w 156 rfl) (by decide) pd_0 S1.exa (c_cod H S1) (argsL := []) (rest := [(.int (0 : Int32))]) rfl rfl rfl sub0 rfl ?_
  rintro _ _ _ - ⟨rfl, rfl⟩
  show Go G B M_inf _ h [] 0 0 14 #[.val (.ref a), .val (.ref s)] [(.int (0 : Int32)), (.int (0 : Int32))]
  refine go_icmpeq K (k := 6) rfl (pc' := 21) (by decide) (fun _ => ?_) (fun q => absurd rfl q)
  refine go_return K (k := 9) rfl rfl rfl rfl ?_
  intro Sf hSf
  exact ⟨rfl, rfl⟩
def P_ecap : List (Nat × Instr × Nat) := [(0, .aload_n 0, 1), (1, .getfield 15, 3), (4, .arraylength, 1), (5, .aload_n 0, 1), (6, .getfield 22, 3), (9, .ishr, 1), (10, .istore_n 2, 1), (11, .iload_n 1, 1), (12, .iload_n 2, 1), (13, .isub, 1), (14, .ifCond .le 24, 3), (17, .aload_n 0, 1), (18, .aload_n 0, 1), (19, .getfield 15, 3), (22, .aload_n 0, 1), (23, .iload_n 1, 1), (24, .invokevirtual 104, 3), (27, .aload_n 0, 1), (28, .getfield 22, 3), (31, .ishl, 1), (32, .invokestatic 108, 3), (35, .putfield 15, 3), (38, .return_, 1)]
theorem L_ecap : ∀ q ∈ P_ecap, decode jdk_68_method_9_code q.1 = .ok q.2 := by decide +kernel
def M_ecap : Mt := (("java/lang/AbstractStringBuilder", "ensureCapacityInternal", ({ frames := 0, cells := 0, slots := 0, locals := 0 } : Room)), P_ecap, 3, none)
set_option maxRecDepth 65536 in
set_option maxHeartbeats 40000000 in
theorem c_ecap {G : Gb} (H : Gl tables_1 els G) {h : Heap} {a t : Addr} {kt : ClassId} {cs : List Int32} {m : Nat} {n : Nat} (hn : n ≤ m) (hm : m < 2 ^ 31) (B1 : Sb G h a t kt cs m) :
    Ctr G [] (⟨"java/lang/AbstractStringBuilder", "ensureCapacityInternal", "(I)V"⟩ : MethodName) jdk_68_method_9_code 3 none ({ frames := 0, cells := 0, slots := 0, locals := 0 } : Room) #[.ref a, .int n.toInt32] h [] (fun v h' Sf => v = none ∧ h = h') := by
  refine ctr_of M_ecap rfl rfl (plainFor_of_name pn_3) L_ecap H.el (Ls := #[.val (.ref a), .val (.int n.toInt32), .unset]) (fun m => ef_ok (by show argsToLocals _ 3 = _; first | (simp [argsToLocals, Value.category]; done) | rfl)) ?_
  intro B K hE
  obtain ⟨e1, e2, e3, e4, e5, e6, e7⟩ := id B1
  refine go_run K 0 1 (pc' := 1) (st' := [(.ref a)]) rfl ?_
  refine go_getfield K (k := 1) rfl (host := "") (Or.inl (H.w 132 rfl)) Via.refl e2 ?_
  refine go_arraylength K (k := 2) rfl e5 ?_
  refine go_run K 3 1 (pc' := 6) (st' := [(.ref a), (.int m.toInt32)]) rfl ?_
  refine go_getfield K (k := 4) rfl (host := "") (Or.inl (H.w 134 rfl)) Via.refl e3 ?_
  refine go_run K 5 5 (pc' := 14) (Ls' := #[.val (.ref a), .val (.int n.toInt32), .val (.int (m.toInt32 >>> ((0 : Int32) &&& 31)))]) (st' := [(.int (n.toInt32 - (m.toInt32 >>> ((0 : Int32) &&& 31))))]) rfl ?_
  rw [shr0]
  refine go_ifle K (k := 10) rfl (pc' := 38) (by decide) (fun _ => ?_) (fun q => absurd q (le_len hm hn))
  refine go_return K (k := 22) rfl rfl rfl rfl ?_
  intro Sf hSf
  exact ⟨rfl, rfl⟩
def P_psa : List (Nat × Instr × Nat) := [(0, .aload_n 0, 1), (1, .aload_n 2, 1), (2, .invokevirtual 397, 3), (5, .aload_n 2, 1), (6, .aload_n 0, 1), (7, .getfield 15, 3), (10, .iload_n 1, 1), (11, .aload_n 0, 1), (12, .getfield 22, 3), (15, .invokevirtual 399, 3), (18, .return_, 1)]
theorem L_psa : ∀ q ∈ P_psa, decode jdk_68_method_73_code q.1 = .ok q.2 := by decide +kernel
def M_psa : Mt := (("java/lang/AbstractStringBuilder", "putStringAt", ({ frames := 2, cells := 0, slots := 0, locals := 33 } : Room)), P_psa, 3, none)
set_option maxRecDepth 65536 in
set_option maxHeartbeats 40000000 in
theorem c_psa {G : Gb} (H : Gl tables_1 els G) {h : Heap} {a t : Addr} {kt : ClassId} {cs : List Int32} {m : Nat} {s : Addr} {ds : List Int32} (l1 : Lat ds) (hsum : cs.length + ds.length ≤ m) (B1 : Sb G h a t kt cs m) (S1 : Str G h s ds) (g0 : G.Z.heap.size ≤ t) :
    Ctr G [] (⟨"java/lang/AbstractStringBuilder", "putStringAt", "(ILjava/lang/String;)V"⟩ : MethodName) jdk_68_method_73_code 3 none ({ frames := 2, cells := 0, slots := 0, locals := 33 } : Room) #[.ref a, .int cs.length.toInt32, .ref s] h [t] (fun v h' Sf => v = none ∧ Keep h h' [t] ∧ Arv G.Z h' t kt .byte m.toInt32 (by8 (cs ++ ds) ++ List.replicate (m - (cs ++ ds).length) (.int 0)) (.int 0)) := by
  refine ctr_of M_psa rfl rfl (plainFor_of_name pn_3) L_psa H.el (Ls := #[.val (.ref a), .val (.int cs.length.toInt32), .val (.ref s)]) (fun m => ef_ok (by show argsToLocals _ 3 = _; first | (simp [argsToLocals, Value.category]; done) | rfl)) ?_
  intro B K hE
  obtain ⟨e1, e2, e3, e4, e5, e6, e7⟩ := id B1
  refine go_run K 0 2 (pc' := 2) (st' := [(.ref s), (.ref a)]) rfl ?_
  refine go_virt0 K (k := 2) rfl (H.w 171 rfl) (H.w 174 rfl) (H.w 172 rfl) (H.w 128 rfl) (H.w 175 rfl) (by decide) pd_4 e1 (c_inf H e3 S1) (argsL := [(.ref s)]) (rest := []) rfl rfl rfl sub0 rfl ?_
  rintro _ _ _ - ⟨rfl, rfl⟩
  show Go G B M_psa _ h (t :: []) 0 0 5 #[.val (.ref a), .val (.int cs.length.toInt32), .val (.ref s)] []
  refine go_run K 3 2 (pc' := 7) (st' := [(.ref a), (.ref s)]) rfl ?_
  refine go_getfield K (k := 5) rfl (host := "") (Or.inl (H.w 132 rfl)) Via.refl e2 ?_
  refine go_run K 6 2 (pc' := 12) (st' := [(.ref a), (.int cs.length.toInt32), (.ref t), (.ref s)]) rfl ?_
  refine go_getfield K (k := 8) rfl (host := "") (Or.inl (H.w 134 rfl)) Via.refl e3 ?_
  refine go_virt0 K (k := 9) rfl (H.w 177 rfl) (H.w 180 rfl) (H.w 179 rfl) (H.w 56 rfl) (H.w 181 rfl) (by decide) pd_5 S1.exa (c_gby (i := cs.length) (m := m) H l1 S1 e5 e7 (by rw [List.length_append, by8_len, List.length_replicate]; omega) hsum g0) (argsL := [(.ref t), (.int cs.length.toInt32), (.int (0 : Int32))]) (rest := []) rfl rfl rfl (subS (List.mem_cons_self ..) sub0) rfl ?_
  rintro _ h8 _ - ⟨rfl, K9, A10⟩
  show Go G B M_psa _ h8 (t :: []) 0 0 18 #[.val (.ref a), .val (.int cs.length.toInt32), .val (.ref s)] []
  refine go_return K (k := 10) rfl rfl rfl rfl ?_
  intro Sf hSf
  refine ⟨rfl, ((Keep.refl _ [t]).trans K9 (allS (Or.inl (List.mem_cons_self ..)) all0)), ?_⟩
  have u := A10
  rw [sb_put hsum] at u
  exact u
def P_aap : List (Nat × Instr × Nat) := [(0, .aload_n 1, 1), (1, .ifnonnull 8, 3), (4, .aload_n 0, 1), (5, .invokevirtual 204, 3), (8, .areturn, 1), (9, .aload_n 1, 1), (10, .invokevirtual 32, 3), (13, .istore_n 2, 1), (14, .aload_n 0, 1), (15, .aload_n 0, 1), (16, .getfield 79, 3), (19, .iload_n 2, 1), (20, .iadd, 1), (21, .invokevirtual 100, 3), (24, .aload_n 0, 1), (25, .aload_n 0, 1), (26, .getfield 79, 3), (29, .aload_n 1, 1), (30, .invokevirtual 208, 3), (33, .aload_n 0, 1), (34, .dup, 1), (35, .getfield 79, 3), (38, .iload_n 2, 1), (39, .iadd, 1), (40, .putfield 79, 3), (43, .aload_n 0, 1), (44, .areturn, 1)]
theorem L_aap : ∀ q ∈ P_aap, decode jdk_68_method_22_code q.1 = .ok q.2 := by decide +kernel
def M_aap : Mt := (("java/lang/AbstractStringBuilder", "append", ({ frames := 3, cells := 0, slots := 0, locals := 47 } : Room)), P_aap, 3, (some (.object "java/lang/AbstractStringBuilder")))
set_option maxRecDepth 65536 in
set_option maxHeartbeats 40000000 in
theorem c_aap {G : Gb} (H : Gl tables_1 els G) {h : Heap} {a t : Addr} {kt : ClassId} {cs : List Int32} {m : Nat} {s : Addr} {ds : List Int32} (l1 : Lat ds) (hsum : cs.length + ds.length ≤ m) (B1 : Sb G h a t kt cs m) (S1 : Str G h s ds) (ga : G.Z.heap.size ≤ a) (g0 : G.Z.heap.size ≤ t) :
    Ctr G [] (⟨"java/lang/AbstractStringBuilder", "append", "(Ljava/lang/String;)Ljava/lang/AbstractStringBuilder;"⟩ : MethodName) jdk_68_method_22_code 3 (some (.object "java/lang/AbstractStringBuilder")) ({ frames := 3, cells := 0, slots := 0, locals := 47 } : Room) #[.ref a, .ref s] h [t] (fun v h' Sf => v = some (.ref a) ∧ Keep h h' [a, t] ∧ Sb G h' a t kt (cs ++ ds) m) := by
  refine ctr_of M_aap rfl rfl (plainFor_of_name pn_3) L_aap H.el (Ls := #[.val (.ref a), .val (.ref s), .unset]) (fun m => ef_ok (by show argsToLocals _ 3 = _; first | (simp [argsToLocals, Value.category]; done) | rfl)) ?_
  intro B K hE
  obtain ⟨e1, e2, e3, e4, e5, e6, e7⟩ := id B1
  refine go_run K 0 1 (pc' := 1) (st' := [(.ref s)]) rfl ?_
  refine go_ifnonY K (k := 1) rfl (pc' := 9) (by decide) ?_
  refine go_run K 5 1 (pc' := 10) (st' := [(.ref s)]) rfl ?_
  refine go_virt0 K (k := 6) rfl (H.w 146 rfl) (H.w 149 rfl) (H.w 148 rfl) (H.w 56 rfl) (H.w 150 rfl) (by decide) pd_6 S1.exa (c_len H S1) (argsL := []) (rest := []) rfl rfl rfl sub0 rfl ?_
  rintro _ _ _ - ⟨rfl, rfl⟩
  show Go G B M_aap _ h (t :: []) 0 0 13 #[.val (.ref a), .val (.ref s), .unset] [(.int (ds).length.toInt32)]
  show Go G B M_aap _ h (t :: []) 0 0 13 #[.val (.ref a), .val (.ref s), .unset] [(.int ds.length.toInt32)]
  refine go_run K 7 3 (pc' := 16) (Ls' := #[.val (.ref a), .val (.ref s), .val (.int ds.length.toInt32)]) (st' := [(.ref a), (.ref a)]) rfl ?_
  refine go_getfield K (k := 10) rfl (host := "") (Or.inl (H.w 159 rfl)) Via.refl e4 ?_
  refine go_run K 11 2 (pc' := 21) (st' := [(.int (cs.length.toInt32 + ds.length.toInt32)), (.ref a)]) rfl ?_
  rw [add_len]
  refine go_virt0 K (k := 13) rfl (H.w 161 rfl) (H.w 164 rfl) (H.w 162 rfl) (H.w 128 rfl) (H.w 165 rfl) (by decide) pd_7 e1 (c_ecap (n := (cs.length + ds.length)) H hsum e7 B1) (argsL := [(.int (cs.length + ds.length).toInt32)]) (rest := []) rfl rfl rfl sub0 rfl ?_
  rintro _ _ _ - ⟨rfl, rfl⟩
  show Go G B M_aap _ h (t :: []) 0 0 24 #[.val (.ref a), .val (.ref s), .val (.int ds.length.toInt32)] []
  refine go_run K 14 2 (pc' := 26) (st' := [(.ref a), (.ref a)]) rfl ?_
  refine go_getfield K (k := 16) rfl (host := "") (Or.inl (H.w 159 rfl)) Via.refl e4 ?_
  refine go_run K 17 1 (pc' := 30) (st' := [(.ref s), (.int cs.length.toInt32), (.ref a)]) rfl ?_
  refine go_virt0 K (k := 18) rfl (H.w 166 rfl) (H.w 169 rfl) (H.w 167 rfl) (H.w 128 rfl) (H.w 170 rfl) (by decide) pd_8 e1 (c_psa H l1 hsum B1 S1 g0) (argsL := [(.int cs.length.toInt32), (.ref s)]) (rest := []) rfl rfl rfl (subS (List.mem_cons_self ..) sub0) rfl ?_
  rintro _ h8 _ - ⟨rfl, K9, A10⟩
  show Go G B M_aap _ h8 (t :: []) 0 0 33 #[.val (.ref a), .val (.ref s), .val (.int ds.length.toInt32)] []
  refine go_run K 19 2 (pc' := 35) (st' := [(.ref a), (.ref a)]) rfl ?_
  have c11 := (e4.keep K9 (ninS (Exa.neArv e1 e5 (H.w 119 rfl)) nin0))
  refine go_getfield K (k := 21) rfl (host := "") (Or.inl (H.w 159 rfl)) Via.refl c11 ?_
  refine go_run K 22 2 (pc' := 40) (st' := [(.int (cs.length.toInt32 + ds.length.toInt32)), (.ref a)]) rfl ?_
  rw [add_len]
  have c12 := (e1.keep K9)
  refine go_putfield K (k := 24) rfl (host := "") (Or.inl (H.w 159 rfl)) Via.refl c11 c12 (Or.inl (H.w 160 rfl)) (H.w 119 rfl) (ty := .int) (by decide) rfl rfl ga (Or.inr (by decide)) ?_
  intro h13 W14
  have c15 := (e2.keep K9 (ninS (Exa.neArv e1 e5 (H.w 119 rfl)) nin0))
  have c16 := (e3.keep K9 (ninS (Exa.neArv e1 e5 (H.w 119 rfl)) nin0))
  have F17 : Exa G.Z h13 a "java/lang/StringBuilder" := Exa.wr W14 c12
  have F18 : Fld G.Z h13 a "java/lang/AbstractStringBuilder" "value" "[B" (.ref t) := Fld.other W14 c15 (Or.inr (slot_ne (Or.inl (H.w 133 rfl)) (Or.inl (H.w 160 rfl)) (by decide) (t := (.array .byte)) (t' := .int) (by decide) (by decide)))
  have F19 : Fld G.Z h13 a "java/lang/AbstractStringBuilder" "coder" "B" (.int (0 : Int32)) := Fld.other W14 c16 (Or.inr (slot_ne (Or.inl (H.w 135 rfl)) (Or.inl (H.w 160 rfl)) (by decide) (t := .byte) (t' := .int) (by decide) (by decide)))
  have F20 : Fld G.Z h13 a "java/lang/AbstractStringBuilder" "count" "I" (.int (cs.length + ds.length).toInt32) := Fld.same W14 c11
  refine go_run K 25 1 (pc' := 44) (st' := [(.ref a)]) rfl ?_
  have c21 := (Arv.other A10 W14 (Exa.neArv c12 A10 (H.w 119 rfl)).symm)
  refine go_areturn K (k := 26) rfl rfl rfl rfl rfl rfl rfl ?_
  intro Sf hSf
  refine ⟨rfl, (((Keep.refl _ [a, t]).trans K9 (allS (Or.inl (List.mem_cons_of_mem _ (List.mem_cons_self ..))) all0)).wr W14 (Or.inl (List.mem_cons_self ..))), F17, F18, F19, ?_, c21, ?_, e7⟩
  · rw [List.length_append]; exact F20
  · rw [List.length_append]; exact hsum
theorem pn_4 : plainName "java/lang/StringBuilder" = true := by first | (simp [plainName, overriddenIn]; done) | decide +kernel
def P_sap : List (Nat × Instr × Nat) := [(0, .aload_n 0, 1), (1, .aload_n 1, 1), (2, .invokespecial 29, 3), (5, .pop, 1), (6, .aload_n 0, 1), (7, .areturn, 1)]
theorem L_sap : ∀ q ∈ P_sap, decode jdk_67_method_7_code q.1 = .ok q.2 := by decide +kernel
def M_sap : Mt := (("java/lang/StringBuilder", "append", ({ frames := 4, cells := 0, slots := 0, locals := 61 } : Room)), P_sap, 2, (some (.object "java/lang/StringBuilder")))
set_option maxRecDepth 65536 in
set_option maxHeartbeats 40000000 in
theorem c_sap {G : Gb} (H : Gl tables_1 els G) {h : Heap} {a t : Addr} {kt : ClassId} {cs : List Int32} {m : Nat} {s : Addr} {ds : List Int32} (l1 : Lat ds) (hsum : cs.length + ds.length ≤ m) (B1 : Sb G h a t kt cs m) (S1 : Str G h s ds) (ga : G.Z.heap.size ≤ a) (g0 : G.Z.heap.size ≤ t) :
    Ctr G [] (⟨"java/lang/StringBuilder", "append", "(Ljava/lang/String;)Ljava/lang/StringBuilder;"⟩ : MethodName) jdk_67_method_7_code 2 (some (.object "java/lang/StringBuilder")) ({ frames := 4, cells := 0, slots := 0, locals := 61 } : Room) #[.ref a, .ref s] h [t] (fun v h' Sf => v = some (.ref a) ∧ Keep h h' [a, t] ∧ Sb G h' a t kt (cs ++ ds) m) := by
  refine ctr_of M_sap rfl rfl (plainFor_of_name pn_4) L_sap H.el (Ls := #[.val (.ref a), .val (.ref s)]) (fun m => ef_ok (by show argsToLocals _ 2 = _; first | (simp [argsToLocals, Value.category]; done) | rfl)) ?_
  intro B K hE
  refine go_run K 0 2 (pc' := 2) (st' := [(.ref s), (.ref a)]) rfl ?_
  refine go_super K (k := 2) rfl (H.w 141 rfl) (sameM (H.w 144 rfl) (H.w 164 rfl) rfl (by decide)) (H.w 142 rfl) (H.w 143 rfl) (H.w 128 rfl) (H.w 145 rfl) (by decide) pd_9 B1.exa (c_aap H l1 hsum B1 S1 ga g0) (argsL := [(.ref s)]) (rest := []) rfl rfl rfl (subS (List.mem_cons_self ..) sub0) rfl ?_
  rintro _ h1 _ - ⟨rfl, K2, B3⟩
  show Go G B M_sap _ h1 (t :: []) 0 0 5 #[.val (.ref a), .val (.ref s)] [(.ref a)]
  refine go_run K 3 2 (pc' := 7) (st' := [(.ref a)]) rfl ?_
  refine go_areturn K (k := 5) rfl rfl rfl rfl rfl rfl rfl ?_
  intro Sf hSf
  exact ⟨rfl, ((Keep.refl _ [a, t]).trans K2 (allS (Or.inl (List.mem_cons_self ..)) (allS (Or.inl (List.mem_cons_of_mem _ (List.mem_cons_self ..))) all0))), B3⟩
def P_asi : List (Nat × Instr × Nat) := [(0, .aload_n 0, 1), (1, .invokespecial 3, 3), (4, .getstatic 18, 3), (7, .ifCond .eq 18, 3), (10, .aload_n 0, 1), (11, .iload_n 1, 1), (12, .newarray .byte, 2), (14, .putfield 15, 3), (17, .aload_n 0, 1), (18, .iconst 0, 1), (19, .putfield 22, 3), (22, .goto 16, 3), (25, .aload_n 0, 1), (26, .iload_n 1, 1), (27, .invokestatic 26, 3), (30, .putfield 15, 3), (33, .aload_n 0, 1), (34, .iconst 1, 1), (35, .putfield 22, 3), (38, .return_, 1)]
theorem L_asi : ∀ q ∈ P_asi, decode jdk_68_method_2_code q.1 = .ok q.2 := by decide +kernel
def M_asi : Mt := (("java/lang/AbstractStringBuilder", "<init>", ({ frames := 1, cells := 1, slots := 16, locals := 12 } : Room)), P_asi, 2, none)
set_option maxRecDepth 65536 in
set_option maxHeartbeats 40000000 in
theorem c_asi {G : Gb} (H : Gl tables_1 els G) {h : Heap} {a : Addr} (E0 : Exa G.Z h a "java/lang/StringBuilder") (V0 : Fld G.Z h a "java/lang/AbstractStringBuilder" "value" "[B" .null) (C0 : Fld G.Z h a "java/lang/AbstractStringBuilder" "coder" "B" (.int 0)) (N0 : Fld G.Z h a "java/lang/AbstractStringBuilder" "count" "I" (.int 0)) (g0 : G.Z.heap.size ≤ a) :
    Ctr G [] (⟨"java/lang/AbstractStringBuilder", "<init>", "(I)V"⟩ : MethodName) jdk_68_method_2_code 2 none ({ frames := 1, cells := 1, slots := 16, locals := 12 } : Room) #[.ref a, .int 16] h [] (fun v h' Sf => v = none ∧ Keep h h' [a] ∧ ∃ (t : Addr) (kt : ClassId), Sb G h' a t kt [] 16 ∧ G.Z.heap.size ≤ t ∧ h.size ≤ t ∧ Sf t) := by
  refine ctr_of M_asi rfl rfl (plainFor_of_name pn_3) L_asi H.el (Ls := #[.val (.ref a), .val (.int (16 : Int32))]) (fun m => ef_ok (by show argsToLocals _ 2 = _; first | (simp [argsToLocals, Value.category]; done) | rfl)) ?_
  intro B K hE
  obtain ⟨cz, hcs, hcz⟩ := H.cs
  refine go_run K 0 1 (pc' := 1) (st' := [(.ref a)]) rfl ?_
  refine go_init0 K (k := 1) rfl (H.w 130 rfl) (H.w 11 rfl) (H.w 12 rfl) rfl rfl rfl ?_
  refine go_getstatic K (k := 2) rfl (host := "") (Or.inl (H.w 131 rfl)) Via.refl hcs ?_
  refine go_ifeq K (k := 3) rfl (pc' := 25) (by decide) (fun q => absurd q hcz) (fun _ => ?_)
  refine go_run K 4 2 (pc' := 12) (st' := [(.int (16 : Int32)), (.ref a)]) rfl ?_
  refine go_newarray K (k := 6) rfl (H.w 58 rfl) (by decide) (cap := 16) (by decide) rfl rfl rfl ?_
  intro h2 a1 k3 e4 g5 E6 A7
  have A7' : Arv G.Z h2 a1 k3 .byte (16 : Nat).toInt32 (by8 [] ++ List.replicate (16 - ([] : List Int32).length) (.int 0)) (.int 0) := Arv.pad A7 (pad_rep [] _ 16)
  have c8 := (V0.ext E6)
  have c9 := (E0.ext E6)
  refine go_putfield K (k := 7) rfl (host := "") (Or.inl (H.w 132 rfl)) Via.refl c8 c9 (Or.inl (H.w 133 rfl)) (H.w 119 rfl) (ty := (.array .byte)) (by decide) rfl rfl g0 (Or.inr (by decide)) ?_
  intro h10 W11
  have c12 := (C0.ext E6)
  have c13 := (N0.ext E6)
  have F14 : Exa G.Z h10 a "java/lang/StringBuilder" := Exa.wr W11 c9
  have F15 : Fld G.Z h10 a "java/lang/AbstractStringBuilder" "value" "[B" (.ref a1) := Fld.same W11 c8
  have F16 : Fld G.Z h10 a "java/lang/AbstractStringBuilder" "coder" "B" (.int (0 : Int32)) := Fld.other W11 c12 (Or.inr (slot_ne (Or.inl (H.w 135 rfl)) (Or.inl (H.w 133 rfl)) (by decide) (t := .byte) (t' := (.array .byte)) (by decide) (by decide)))
  have F17 : Fld G.Z h10 a "java/lang/AbstractStringBuilder" "count" "I" (.int (0 : Int32)) := Fld.other W11 c13 (Or.inr (slot_ne (Or.inl (H.w 160 rfl)) (Or.inl (H.w 133 rfl)) (by decide) (t := .int) (t' := (.array .byte)) (by decide) (by decide)))
  refine go_run K 8 2 (pc' := 19) (st' := [(.int (0 : Int32)), (.ref a)]) rfl ?_
  refine go_putfield K (k := 10) rfl (host := "") (Or.inl (H.w 134 rfl)) Via.refl F16 F14 (Or.inl (H.w 135 rfl)) (H.w 119 rfl) (ty := .byte) (by decide) rfl rfl g0 (Or.inr (by decide)) ?_
  intro h18 W19
  have F20 : Exa G.Z h18 a "java/lang/StringBuilder" := Exa.wr W19 F14
  have F21 : Fld G.Z h18 a "java/lang/AbstractStringBuilder" "value" "[B" (.ref a1) := Fld.other W19 F15 (Or.inr (slot_ne (Or.inl (H.w 133 rfl)) (Or.inl (H.w 135 rfl)) (by decide) (t := (.array .byte)) (t' := .byte) (by decide) (by decide)))
  have F22 : Fld G.Z h18 a "java/lang/AbstractStringBuilder" "coder" "B" (.int (0 : Int32)) := Fld.same W19 F16
  have F23 : Fld G.Z h18 a "java/lang/AbstractStringBuilder" "count" "I" (.int (0 : Int32)) := Fld.other W19 F17 (Or.inr (slot_ne (Or.inl (H.w 160 rfl)) (Or.inl (H.w 135 rfl)) (by decide) (t := .int) (t' := .byte) (by decide) (by decide)))
  refine go_run K 11 1 (pc' := 38) (st' := []) rfl ?_
  have c24 := (Arv.other (Arv.other A7' W11 (Exa.neArv c9 A7' (H.w 119 rfl)).symm) W19 (Exa.neArv F14 (Arv.other A7' W11 (Exa.neArv c9 A7' (H.w 119 rfl)).symm) (H.w 119 rfl)).symm)
  refine go_return K (k := 19) rfl rfl rfl rfl ?_
  intro Sf hSf
  exact ⟨rfl, ((((Keep.refl _ [a]).ext E6).wr W11 (Or.inl (List.mem_cons_self ..))).wr W19 (Or.inl (List.mem_cons_self ..))), _, _, ⟨F20, F21, F22, F23, c24, by decide, by decide⟩, g5, Nat.le_of_eq e4.symm, hSf _ (List.mem_cons_self ..)⟩
def P_sbi : List (Nat × Instr × Nat) := [(0, .aload_n 0, 1), (1, .bipush 16, 2), (3, .invokespecial 1, 3), (6, .return_, 1)]
theorem L_sbi : ∀ q ∈ P_sbi, decode jdk_67_method_1_code q.1 = .ok q.2 := by decide +kernel
def M_sbi : Mt := (("java/lang/StringBuilder", "<init>", ({ frames := 2, cells := 1, slots := 16, locals := 25 } : Room)), P_sbi, 1, none)
set_option maxRecDepth 65536 in
set_option maxHeartbeats 40000000 in
theorem c_sbi {G : Gb} (H : Gl tables_1 els G) {h : Heap} {a : Addr} (E0 : Exa G.Z h a "java/lang/StringBuilder") (V0 : Fld G.Z h a "java/lang/AbstractStringBuilder" "value" "[B" .null) (C0 : Fld G.Z h a "java/lang/AbstractStringBuilder" "coder" "B" (.int 0)) (N0 : Fld G.Z h a "java/lang/AbstractStringBuilder" "count" "I" (.int 0)) (g0 : G.Z.heap.size ≤ a) :
    Ctr G [] (⟨"java/lang/StringBuilder", "<init>", "()V"⟩ : MethodName) jdk_67_method_1_code 1 none ({ frames := 2, cells := 1, slots := 16, locals := 25 } : Room) #[.ref a] h [] (fun v h' Sf => v = none ∧ Keep h h' [a] ∧ ∃ (t : Addr) (kt : ClassId), Sb G h' a t kt [] 16 ∧ G.Z.heap.size ≤ t ∧ h.size ≤ t ∧ Sf t) := by
  refine ctr_of M_sbi rfl rfl (plainFor_of_name pn_4) L_sbi H.el (Ls := #[.val (.ref a)]) (fun m => ef_ok (by show argsToLocals _ 1 = _; first | (simp [argsToLocals, Value.category]; done) | rfl)) ?_
  intro B K hE
  refine go_run K 0 2 (pc' := 3) (st' := [(.int (16 : Int32)), (.ref a)]) rfl ?_
  refine go_specialN K (k := 2) rfl rfl (H.w 124 rfl) (H.w 125 rfl) (H.w 128 rfl) (H.w 129 rfl) (by decide) pd_7 (c_asi H E0 V0 C0 N0 g0) (argsL := [(.int (16 : Int32))]) (rest := []) rfl rfl rfl sub0 rfl ?_
  rintro _ h1 Sf9 - ⟨rfl, K2, t3, k4, B5, g6, f7, s8⟩
  refine ⟨[t3], allS s8 all0, ?_⟩
  show Go G B M_sbi _ h1 (t3 :: []) 1 16 6 #[.val (.ref a)] []
  refine go_return K (k := 3) rfl rfl rfl rfl ?_
  intro Sf hSf
  exact ⟨rfl, ((Keep.refl _ [a]).trans K2 (allS (Or.inl (List.mem_cons_self ..)) all0)), _, _, B5, g6, f7, hSf _ (List.mem_cons_self ..)⟩
def P_gval : List (Nat × Instr × Nat) := [(0, .aload_n 0, 1), (1, .getfield 15, 3), (4, .areturn, 1)]
theorem L_gval : ∀ q ∈ P_gval, decode jdk_68_method_64_code q.1 = .ok q.2 := by decide +kernel
def M_gval : Mt := (("java/lang/AbstractStringBuilder", "getValue", ({ frames := 0, cells := 0, slots := 0, locals := 0 } : Room)), P_gval, 1, (some (.array .byte)))
set_option maxRecDepth 65536 in
set_option maxHeartbeats 40000000 in
theorem c_gval {G : Gb} (H : Gl tables_1 els G) {h : Heap} {a t : Addr} {kt : ClassId} {cs : List Int32} {m : Nat} (B1 : Sb G h a t kt cs m) :
    Ctr G [] (⟨"java/lang/AbstractStringBuilder", "getValue", "()[B"⟩ : MethodName) jdk_68_method_64_code 1 (some (.array .byte)) ({ frames := 0, cells := 0, slots := 0, locals := 0 } : Room) #[.ref a] h [] (fun v h' Sf => v = some (.ref t) ∧ h = h') := by
  refine ctr_of M_gval rfl rfl (plainFor_of_name pn_3) L_gval H.el (Ls := #[.val (.ref a)]) (fun m => ef_ok (by show argsToLocals _ 1 = _; first | (simp [argsToLocals, Value.category]; done) | rfl)) ?_
  intro B K hE
  obtain ⟨e1, e2, e3, e4, e5, e6, e7⟩ := id B1
  refine go_run K 0 1 (pc' := 1) (st' := [(.ref a)]) rfl ?_
  refine go_getfield K (k := 1) rfl (host := "") (Or.inl (H.w 132 rfl)) Via.refl e2 ?_
  refine go_areturn K (k := 2) rfl rfl rfl rfl rfl rfl rfl ?_
  intro Sf hSf
  exact ⟨rfl, rfl⟩
def P_alen : List (Nat × Instr × Nat) := [(0, .aload_n 0, 1), (1, .getfield 79, 3), (4, .ireturn, 1)]
theorem L_alen : ∀ q ∈ P_alen, decode jdk_68_method_6_code q.1 = .ok q.2 := by decide +kernel
def M_alen : Mt := (("java/lang/AbstractStringBuilder", "length", ({ frames := 0, cells := 0, slots := 0, locals := 0 } : Room)), P_alen, 1, (some .int))
set_option maxRecDepth 65536 in
set_option maxHeartbeats 40000000 in
theorem c_alen {G : Gb} (H : Gl tables_1 els G) {h : Heap} {a t : Addr} {kt : ClassId} {cs : List Int32} {m : Nat} (B1 : Sb G h a t kt cs m) :
    Ctr G [] (⟨"java/lang/AbstractStringBuilder", "length", "()I"⟩ : MethodName) jdk_68_method_6_code 1 (some .int) ({ frames := 0, cells := 0, slots := 0, locals := 0 } : Room) #[.ref a] h [] (fun v h' Sf => v = some (.int cs.length.toInt32) ∧ h = h') := by
  refine ctr_of M_alen rfl rfl (plainFor_of_name pn_3) L_alen H.el (Ls := #[.val (.ref a)]) (fun m => ef_ok (by show argsToLocals _ 1 = _; first | (simp [argsToLocals, Value.category]; done) | rfl)) ?_
  intro B K hE
  obtain ⟨e1, e2, e3, e4, e5, e6, e7⟩ := id B1
  refine go_run K 0 1 (pc' := 1) (st' := [(.ref a)]) rfl ?_
  refine go_getfield K (k := 1) rfl (host := "") (Or.inl (H.w 159 rfl)) Via.refl e4 ?_
  refine go_ireturn K (k := 2) rfl rfl (by decide) rfl rfl rfl ?_
  intro Sf hSf
  exact ⟨rfl, rfl⟩
def P_slen : List (Nat × Instr × Nat) := [(0, .aload_n 0, 1), (1, .invokespecial 343, 3), (4, .ireturn, 1)]
theorem L_slen : ∀ q ∈ P_slen, decode jdk_67_method_93_code q.1 = .ok q.2 := by decide +kernel
def M_slen : Mt := (("java/lang/StringBuilder", "length", ({ frames := 1, cells := 0, slots := 0, locals := 12 } : Room)), P_slen, 1, (some .int))
set_option maxRecDepth 65536 in
set_option maxHeartbeats 40000000 in
theorem c_slen {G : Gb} (H : Gl tables_1 els G) {h : Heap} {a t : Addr} {kt : ClassId} {cs : List Int32} {m : Nat} (B1 : Sb G h a t kt cs m) :
    Ctr G [] (⟨"java/lang/StringBuilder", "length", "()I"⟩ : MethodName) jdk_67_method_93_code 1 (some .int) ({ frames := 1, cells := 0, slots := 0, locals := 12 } : Room) #[.ref a] h [] (fun v h' Sf => v = some (.int cs.length.toInt32) ∧ h = h') := by
  refine ctr_of M_slen rfl rfl (plainFor_of_name pn_4) L_slen H.el (Ls := #[.val (.ref a)]) (fun m => ef_ok (by show argsToLocals _ 1 = _; first | (simp [argsToLocals, Value.category]; done) | rfl)) ?_
  intro B K hE
  obtain ⟨e1, e2, e3, e4, e5, e6, e7⟩ := id B1
  refine go_run K 0 1 (pc' := 1) (st' := [(.ref a)]) rfl ?_
  refine go_super K (k := 1) rfl (H.w 211 rfl) (sameM (H.w 206 rfl) (H.w 164 rfl) rfl (by decide)) (H.w 207 rfl) (H.w 143 rfl) (H.w 128 rfl) (H.w 212 rfl) (by decide) pd_6 e1 (c_alen H B1) (argsL := []) (rest := []) rfl rfl rfl sub0 rfl ?_
  rintro _ _ _ - ⟨rfl, rfl⟩
  show Go G B M_slen _ h [] 0 0 4 #[.val (.ref a)] [(.int (cs).length.toInt32)]
  show Go G B M_slen _ h [] 0 0 4 #[.val (.ref a)] [(.int cs.length.toInt32)]
  refine go_ireturn K (k := 2) rfl rfl (by decide) rfl rfl rfl ?_
  intro Sf hSf
  exact ⟨rfl, rfl⟩
def P_isb : List (Nat × Instr × Nat) := [(0, .getstatic 18, 3), (3, .ifCond .eq 14, 3), (6, .aload_n 0, 1), (7, .getfield 22, 3), (10, .ifCond .ne 7, 3), (13, .iconst 1, 1), (14, .goto 4, 3), (17, .iconst 0, 1), (18, .ireturn, 1)]
theorem L_isb : ∀ q ∈ P_isb, decode jdk_68_method_68_code q.1 = .ok q.2 := by decide +kernel
def M_isb : Mt := (("java/lang/AbstractStringBuilder", "isLatin1", ({ frames := 0, cells := 0, slots := 0, locals := 0 } : Room)), P_isb, 1, (some .boolean))
set_option maxRecDepth 65536 in
set_option maxHeartbeats 40000000 in
theorem c_isb {G : Gb} (H : Gl tables_1 els G) {h : Heap} {a t : Addr} {kt : ClassId} {cs : List Int32} {m : Nat} (B1 : Sb G h a t kt cs m) :
    Ctr G [] (⟨"java/lang/AbstractStringBuilder", "isLatin1", "()Z"⟩ : MethodName) jdk_68_method_68_code 1 (some .boolean) ({ frames := 0, cells := 0, slots := 0, locals := 0 } : Room) #[.ref a] h [] (fun v h' Sf => v = some (.int 1) ∧ h = h') := by
  refine ctr_of M_isb rfl rfl (plainFor_of_name pn_3) L_isb H.el (Ls := #[.val (.ref a)]) (fun m => ef_ok (by show argsToLocals _ 1 = _; first | (simp [argsToLocals, Value.category]; done) | rfl)) ?_
  intro B K hE
  obtain ⟨e1, e2, e3, e4, e5, e6, e7⟩ := id B1
  obtain ⟨cz, hcs, hcz⟩ := H.cs
  refine go_getstatic K (k := 0) rfl (host := "") (Or.inl (H.w 131 rfl)) Via.refl hcs ?_
  refine go_ifeq K (k := 1) rfl (pc' := 17) (by decide) (fun q => absurd q hcz) (fun _ => ?_)
  refine go_run K 2 1 (pc' := 7) (st' := [(.ref a)]) rfl ?_
  refine go_getfield K (k := 3) rfl (host := "") (Or.inl (H.w 134 rfl)) Via.refl e3 ?_
  refine go_ifne K (k := 4) rfl (pc' := 17) (by decide) (fun q => absurd rfl q) (fun _ => ?_)
  refine go_run K 5 2 (pc' := 18) (st' := [(.int (1 : Int32))]) rfl ?_
  refine go_ireturn K (k := 8) rfl rfl (by decide) rfl rfl rfl ?_
  intro Sf hSf
  exact ⟨rfl, rfl⟩
def P_sia : List (Nat × Instr × Nat) := [(0, .aload_n 0, 1), (1, .invokespecial 1, 3), (4, .aload_n 1, 1), (5, .invokevirtual 552, 3), (8, .astore_n 3, 1), (9, .aload_n 1, 1), (10, .invokevirtual 549, 3), (13, .istore 4, 2), (15, .aload_n 1, 1), (16, .invokevirtual 1047, 3), (19, .ifCond .eq 22, 3), (22, .aload_n 0, 1), (23, .iconst 0, 1), (24, .putfield 15, 3), (27, .aload_n 0, 1), (28, .aload_n 3, 1), (29, .iconst 0, 1), (30, .iload 4, 2), (32, .invokestatic 54, 3), (35, .putfield 9, 3), (38, .goto 59, 3), (41, .getstatic 38, 3), (44, .ifCond .eq 35, 3), (47, .aload_n 1, 1), (48, .getfield 1048, 3), (51, .ifCond .eq 28, 3), (54, .aload_n 0, 1), (55, .aload_n 3, 1), (56, .iconst 0, 1), (57, .iload 4, 2), (59, .invokestatic 1051, 3), (62, .putfield 9, 3), (65, .aload_n 0, 1), (66, .aload_n 0, 1), (67, .getfield 9, 3), (70, .iload 4, 2), (72, .invokestatic 47, 3), (75, .putfield 15, 3), (78, .return_, 1), (79, .aload_n 0, 1), (80, .iconst 1, 1), (81, .putfield 15, 3), (84, .aload_n 0, 1), (85, .aload_n 3, 1), (86, .iconst 0, 1), (87, .iload 4, 2), (89, .iconst 1, 1), (90, .ishl, 1), (91, .invokestatic 54, 3), (94, .putfield 9, 3), (97, .return_, 1)]
theorem L_sia : ∀ q ∈ P_sia, decode jdk_42_method_150_code q.1 = .ok q.2 := by decide +kernel
def M_sia : Mt := (("java/lang/String", "<init>", ({ frames := 3, cells := 1, slots := 16, locals := 49 } : Room)), P_sia, 5, none)
set_option maxRecDepth 65536 in
set_option maxHeartbeats 40000000 in
theorem c_sia {G : Gb} (H : Gl tables_1 els G) {h : Heap} {a t s : Addr} {kt : ClassId} {cs : List Int32} {m : Nat} (hlt : cs.length < m) (hcap : cs.length - 0 ≤ 16) (B1 : Sb G h a t kt cs m) (E0 : Exa G.Z h s "java/lang/String") (V0 : Fld G.Z h s "java/lang/String" "value" "[B" .null) (C0 : Fld G.Z h s "java/lang/String" "coder" "B" (.int 0)) (g0 : G.Z.heap.size ≤ s) :
    Ctr G [] (⟨"java/lang/String", "<init>", "(Ljava/lang/AbstractStringBuilder;Ljava/lang/Void;)V"⟩ : MethodName) jdk_42_method_150_code 5 none ({ frames := 3, cells := 1, slots := 16, locals := 49 } : Room) #[.ref s, .ref a, .null] h [s] (fun v h' Sf => v = none ∧ Keep h h' [s] ∧ Str G h' s cs) := by
  refine ctr_of M_sia rfl rfl (plainFor_of_name pn_0) L_sia H.el (Ls := #[.val (.ref s), .val (.ref a), .val .null, .unset, .unset]) (fun m => ef_ok (by show argsToLocals _ 5 = _; first | (simp [argsToLocals, Value.category]; done) | rfl)) ?_
  intro B K hE
  obtain ⟨e1, e2, e3, e4, e5, e6, e7⟩ := id B1
  refine go_run K 0 1 (pc' := 1) (st' := [(.ref s)]) rfl ?_
  refine go_init0 K (k := 1) rfl (H.w 199 rfl) (H.w 11 rfl) (H.w 12 rfl) rfl rfl rfl ?_
  refine go_run K 2 1 (pc' := 5) (st' := [(.ref a)]) rfl ?_
  refine go_virt0 K (k := 3) rfl (H.w 200 rfl) (H.w 203 rfl) (H.w 202 rfl) (H.w 128 rfl) (H.w 204 rfl) (by decide) pd_10 e1 (c_gval H B1) (argsL := []) (rest := []) rfl rfl rfl sub0 rfl ?_
  rintro _ _ _ - ⟨rfl, rfl⟩
  show Go G B M_sia _ h (s :: []) 0 0 8 #[.val (.ref s), .val (.ref a), .val .null, .unset, .unset] [(.ref t)]
  refine go_run K 4 2 (pc' := 10) (Ls' := #[.val (.ref s), .val (.ref a), .val .null, .val (.ref t), .unset]) (st' := [(.ref a)]) rfl ?_
  refine go_virtual K (k := 6) rfl (H.w 205 rfl) (H.w 206 rfl) (H.w 208 rfl) (H.w 209 rfl) (H.w 120 rfl) (H.w 210 rfl) (by decide) pd_6 e1 (nfO (H.w 164 rfl) rfl) (c_slen H B1) (argsL := []) (rest := []) rfl rfl rfl sub0 rfl ?_
  rintro _ _ _ - ⟨rfl, rfl⟩
  show Go G B M_sia _ h (s :: []) 0 0 13 #[.val (.ref s), .val (.ref a), .val .null, .val (.ref t), .unset] [(.int (cs).length.toInt32)]
  show Go G B M_sia _ h (s :: []) 0 0 13 #[.val (.ref s), .val (.ref a), .val .null, .val (.ref t), .unset] [(.int cs.length.toInt32)]
  refine go_run K 7 2 (pc' := 16) (Ls' := #[.val (.ref s), .val (.ref a), .val .null, .val (.ref t), .val (.int cs.length.toInt32)]) (st' := [(.ref a)]) rfl ?_
  refine go_virt0 K (k := 9) rfl (H.w 213 rfl) (H.w 216 rfl) (H.w 215 rfl) (H.w 128 rfl) (H.w 217 rfl) (by decide) pd_11 e1 (c_isb H B1) (argsL := []) (rest := []) rfl rfl rfl sub0 rfl ?_
  rintro _ _ _ - ⟨rfl, rfl⟩
  show Go G B M_sia _ h (s :: []) 0 0 19 #[.val (.ref s), .val (.ref a), .val .null, .val (.ref t), .val (.int cs.length.toInt32)] [(.int (1 : Int32))]
  refine go_ifeq K (k := 10) rfl (pc' := 41) (by decide) (fun q => absurd q (by decide)) (fun _ => ?_)
  refine go_run K 11 2 (pc' := 24) (st' := [(.int (0 : Int32)), (.ref s)]) rfl ?_
  refine go_putfield K (k := 13) rfl (host := "") (Or.inl (H.w 158 rfl)) Via.refl C0 E0 (Or.inr ⟨(H.w 60 rfl), rfl, rfl⟩) (H.w 57 rfl) (ty := .byte) (by decide) rfl rfl g0 (Or.inl (List.mem_cons_self ..)) ?_
  intro h8 W9
  have F10 : Exa G.Z h8 s "java/lang/String" := Exa.wr W9 E0
  have F11 : Fld G.Z h8 s "java/lang/String" "value" "[B" .null := Fld.other W9 V0 (Or.inr (slot_ne (Or.inr (H.w 59 rfl)) (Or.inr (H.w 60 rfl)) (by decide) (t := (.array .byte)) (t' := .byte) (by decide) (by decide)))
  have F12 : Fld G.Z h8 s "java/lang/String" "coder" "B" (.int (0 : Int32)) := Fld.same W9 C0
  refine go_run K 14 4 (pc' := 32) (st' := [(.int cs.length.toInt32), (.int (0 : Int32)), (.ref t), (.ref s)]) rfl ?_
  have c13 := (Arv.other e5 W9 (Exa.neArv E0 e5 (H.w 57 rfl)).symm)
  refine go_staticN K (k := 18) rfl (H.w 218 rfl) (H.w 219 rfl) (H.w 220 rfl) (H.w 221 rfl) (by decide) pd_3 (c_cor (i := 0) (j := cs.length) (m := m) H (fun e => by omega) (Nat.zero_le _) e6 e7 (by rw [List.length_append, by8_len, List.length_replicate]; omega) hcap c13) (argsL := [(.ref t), (.int (0 : Int32)), (.int cs.length.toInt32)]) (rest := [(.ref s)]) rfl rfl rfl sub0 rfl ?_
  rintro _ h14 Sf22 - ⟨u15, k16, rfl, E17, A18, g19, f20, s21⟩
  refine ⟨[u15], allS s21 all0, ?_⟩
  show Go G B M_sia _ h14 (u15 :: (s :: [])) 1 16 35 #[.val (.ref s), .val (.ref a), .val .null, .val (.ref t), .val (.int cs.length.toInt32)] [(.ref u15), (.ref s)]
  have c23 := (F11.ext E17)
  have c24 := (F10.ext E17)
  refine go_putfield K (k := 19) rfl (host := "") (Or.inl (H.w 151 rfl)) Via.refl c23 c24 (Or.inr ⟨(H.w 59 rfl), rfl, rfl⟩) (H.w 57 rfl) (ty := (.array .byte)) (by decide) rfl rfl g0 (Or.inl (List.mem_cons_of_mem _ (List.mem_cons_self ..))) ?_
  intro h25 W26
  have c27 := (F12.ext E17)
  have F28 : Exa G.Z h25 s "java/lang/String" := Exa.wr W26 c24
  have F29 : Fld G.Z h25 s "java/lang/String" "value" "[B" (.ref u15) := Fld.same W26 c23
  have F30 : Fld G.Z h25 s "java/lang/String" "coder" "B" (.int (0 : Int32)) := Fld.other W26 c27 (Or.inr (slot_ne (Or.inr (H.w 60 rfl)) (Or.inr (H.w 59 rfl)) (by decide) (t := .byte) (t' := (.array .byte)) (by decide) (by decide)))
  refine go_run K 20 1 (pc' := 97) (st' := []) rfl ?_
  have c31 := (Arv.other A18 W26 (Exa.neArv c24 A18 (H.w 57 rfl)).symm)
  refine go_return K (k := 50) rfl rfl rfl rfl ?_
  intro Sf hSf
  refine ⟨rfl, ((((Keep.refl _ [s]).wr W9 (Or.inl (List.mem_cons_self ..))).ext E17).wr W26 (Or.inl (List.mem_cons_self ..))), u15, k16, F28, F30, F29, ?_⟩
  have u := c31
  rw [Nat.sub_zero, List.drop_zero, List.take_append_of_le_length (by rw [by8_len]; exact Nat.le_refl _), List.take_of_length_le (by rw [by8_len]; exact Nat.le_refl _)] at u
  exact u
def P_sis : List (Nat × Instr × Nat) := [(0, .aload_n 0, 1), (1, .aload_n 1, 1), (2, .aconst_null, 1), (3, .invokespecial 489, 3), (6, .return_, 1)]
theorem L_sis : ∀ q ∈ P_sis, decode jdk_42_method_53_code q.1 = .ok q.2 := by decide +kernel
def M_sis : Mt := (("java/lang/String", "<init>", ({ frames := 4, cells := 1, slots := 16, locals := 65 } : Room)), P_sis, 2, none)
set_option maxRecDepth 65536 in
set_option maxHeartbeats 40000000 in
theorem c_sis {G : Gb} (H : Gl tables_1 els G) {h : Heap} {a t s : Addr} {kt : ClassId} {cs : List Int32} {m : Nat} (hlt : cs.length < m) (hcap : cs.length - 0 ≤ 16) (B1 : Sb G h a t kt cs m) (E0 : Exa G.Z h s "java/lang/String") (V0 : Fld G.Z h s "java/lang/String" "value" "[B" .null) (C0 : Fld G.Z h s "java/lang/String" "coder" "B" (.int 0)) (g0 : G.Z.heap.size ≤ s) :
    Ctr G [] (⟨"java/lang/String", "<init>", "(Ljava/lang/StringBuilder;)V"⟩ : MethodName) jdk_42_method_53_code 2 none ({ frames := 4, cells := 1, slots := 16, locals := 65 } : Room) #[.ref s, .ref a] h [s] (fun v h' Sf => v = none ∧ Keep h h' [s] ∧ Str G h' s cs) := by
  refine ctr_of M_sis rfl rfl (plainFor_of_name pn_0) L_sis H.el (Ls := #[.val (.ref s), .val (.ref a)]) (fun m => ef_ok (by show argsToLocals _ 2 = _; first | (simp [argsToLocals, Value.category]; done) | rfl)) ?_
  intro B K hE
  refine go_run K 0 3 (pc' := 3) (st' := [.null, (.ref a), (.ref s)]) rfl ?_
  refine go_special K (k := 3) rfl rfl (H.w 196 rfl) (H.w 197 rfl) (H.w 56 rfl) (H.w 198 rfl) (by decide) pd_12 (c_sia H hlt hcap B1 E0 V0 C0 g0) (argsL := [(.ref a), .null]) (rest := []) rfl rfl rfl (subS (List.mem_cons_self ..) sub0) rfl ?_
  rintro _ h1 _ - ⟨rfl, K2, S3⟩
  show Go G B M_sis _ h1 (s :: []) 1 16 6 #[.val (.ref s), .val (.ref a)] []
  refine go_return K (k := 4) rfl rfl rfl rfl ?_
  intro Sf hSf
  exact ⟨rfl, ((Keep.refl _ [s]).trans K2 (allS (Or.inl (List.mem_cons_self ..)) all0)), S3⟩
def P_sbs : List (Nat × Instr × Nat) := [(0, .new 18, 3), (3, .dup, 1), (4, .aload_n 0, 1), (5, .invokespecial 137, 3), (8, .areturn, 1)]
theorem L_sbs : ∀ q ∈ P_sbs, decode jdk_67_method_42_code q.1 = .ok q.2 := by decide +kernel
def M_sbs : Mt := (("java/lang/StringBuilder", "toString", ({ frames := 5, cells := 2, slots := 20, locals := 79 } : Room)), P_sbs, 1, (some (.object "java/lang/String")))
set_option maxRecDepth 65536 in
set_option maxHeartbeats 40000000 in
theorem c_sbs {G : Gb} (H : Gl tables_1 els G) {h : Heap} {a t : Addr} {kt : ClassId} {cs : List Int32} {m : Nat} (hlt : cs.length < m) (hcap : cs.length - 0 ≤ 16) (B1 : Sb G h a t kt cs m) :
    Ctr G [] (⟨"java/lang/StringBuilder", "toString", "()Ljava/lang/String;"⟩ : MethodName) jdk_67_method_42_code 1 (some (.object "java/lang/String")) ({ frames := 5, cells := 2, slots := 20, locals := 79 } : Room) #[.ref a] h [] (fun v h' Sf => ∃ s : Addr, v = some (.ref s) ∧ Ext h h' ∧ Str G h' s cs ∧ G.Z.heap.size ≤ s) := by
  refine ctr_of M_sbs rfl rfl (plainFor_of_name pn_4) L_sbs H.el (Ls := #[.val (.ref a)]) (fun m => ef_ok (by show argsToLocals _ 1 = _; first | (simp [argsToLocals, Value.category]; done) | rfl)) ?_
  intro B K hE
  refine go_new K (k := 0) rfl (H.w 191 rfl) (H.w 57 rfl) (H.w 56 rfl) rfl rfl ?_
  intro h2 a1 e3 g4 E5 A6 D7
  have F8 : Fld G.Z h2 a1 "java/lang/String" "value" "[B" .null := D7 (Or.inr (H.w 59 rfl)) (ty := (.array .byte)) (by decide)
  have F9 : Fld G.Z h2 a1 "java/lang/String" "coder" "B" (.int (0 : Int32)) := D7 (Or.inr (H.w 60 rfl)) (ty := .byte) (by decide)
  refine go_run K 1 2 (pc' := 5) (st' := [(.ref a), (.ref a1), (.ref a1)]) rfl ?_
  have c10 := (B1.ext E5)
  refine go_special K (k := 3) rfl rfl (H.w 192 rfl) (H.w 193 rfl) (H.w 56 rfl) (H.w 195 rfl) (by decide) pd_13 (c_sis H hlt hcap c10 A6 F8 F9 g4) (argsL := [(.ref a)]) (rest := [(.ref a1)]) rfl rfl rfl (subS (List.mem_cons_self ..) sub0) rfl ?_
  rintro _ h11 _ - ⟨rfl, K12, S13⟩
  show Go G B M_sbs _ h11 (a1 :: []) 2 20 8 #[.val (.ref a)] [(.ref a1)]
  have X14 : Ext h h11 := (Ext.keepN E5 K12 (allS (Nat.le_trans (Nat.le_refl _) (Nat.le_of_eq e3.symm)) all0))
  refine go_areturn K (k := 4) rfl rfl rfl rfl rfl rfl rfl ?_
  intro Sf hSf
  exact ⟨_, rfl, X14, S13, g4⟩
theorem pn_5 : plainName "java/util/AbstractCollection" = true := by first | (simp [plainName, overriddenIn]; done) | decide +kernel
def P_abc : List (Nat × Instr × Nat) := [(0, .aload_n 0, 1), (1, .invokespecial 1, 3), (4, .return_, 1)]
theorem L_abc : ∀ q ∈ P_abc, decode jdk_22_method_1_code q.1 = .ok q.2 := by decide +kernel
def M_abc : Mt := (("java/util/AbstractCollection", "<init>", ({ frames := 1, cells := 0, slots := 0, locals := 12 } : Room)), P_abc, 1, none)
set_option maxRecDepth 65536 in
set_option maxHeartbeats 40000000 in
theorem c_abc {G : Gb} (H : Gl tables_1 els G) {h : Heap} {a : Addr} :
    Ctr G [] (⟨"java/util/AbstractCollection", "<init>", "()V"⟩ : MethodName) jdk_22_method_1_code 1 none ({ frames := 1, cells := 0, slots := 0, locals := 12 } : Room) #[.ref a] h [] (fun v h' Sf => v = none ∧ h = h') := by
  refine ctr_of M_abc rfl rfl (plainFor_of_name pn_5) L_abc H.el (Ls := #[.val (.ref a)]) (fun m => ef_ok (by show argsToLocals _ 1 = _; first | (simp [argsToLocals, Value.category]; done) | rfl)) ?_
  intro B K hE
  refine go_run K 0 1 (pc' := 1) (st' := [(.ref a)]) rfl ?_
  refine go_init0 K (k := 1) rfl (H.w 49 rfl) (H.w 11 rfl) (H.w 12 rfl) rfl rfl rfl ?_
  refine go_return K (k := 2) rfl rfl rfl rfl ?_
  intro Sf hSf
  exact ⟨rfl, rfl⟩
theorem pn_6 : plainName "java/util/AbstractList" = true := by first | (simp [plainName, overriddenIn]; done) | decide +kernel
def P_abl : List (Nat × Instr × Nat) := [(0, .aload_n 0, 1), (1, .invokespecial 1, 3), (4, .aload_n 0, 1), (5, .iconst 0, 1), (6, .putfield 7, 3), (9, .return_, 1)]
theorem L_abl : ∀ q ∈ P_abl, decode jdk_39_method_1_code q.1 = .ok q.2 := by decide +kernel
def M_abl : Mt := (("java/util/AbstractList", "<init>", ({ frames := 2, cells := 0, slots := 0, locals := 24 } : Room)), P_abl, 1, none)
set_option maxRecDepth 65536 in
set_option maxHeartbeats 40000000 in
theorem c_abl {G : Gb} (H : Gl tables_1 els G) {h : Heap} {a : Addr} (E0 : Exa G.Z h a "java/util/ArrayList") (f00 : Fld G.Z h a "java/util/AbstractList" "modCount" "I" (.int (0 : Int32))) (f10 : Fld G.Z h a "java/util/ArrayList" "elementData" "[Ljava/lang/Object;" .null) (f20 : Fld G.Z h a "java/util/ArrayList" "size" "I" (.int (0 : Int32))) (g0 : G.Z.heap.size ≤ a) :
    Ctr G [] (⟨"java/util/AbstractList", "<init>", "()V"⟩ : MethodName) jdk_39_method_1_code 1 none ({ frames := 2, cells := 0, slots := 0, locals := 24 } : Room) #[.ref a] h [] (fun v h' Sf => v = none ∧ Keep h h' [a] ∧ Exa G.Z h' a "java/util/ArrayList" ∧ Fld G.Z h' a "java/util/AbstractList" "modCount" "I" (.int (0 : Int32)) ∧ Fld G.Z h' a "java/util/ArrayList" "elementData" "[Ljava/lang/Object;" .null ∧ Fld G.Z h' a "java/util/ArrayList" "size" "I" (.int (0 : Int32))) := by
  refine ctr_of M_abl rfl rfl (plainFor_of_name pn_6) L_abl H.el (Ls := #[.val (.ref a)]) (fun m => ef_ok (by show argsToLocals _ 1 = _; first | (simp [argsToLocals, Value.category]; done) | rfl)) ?_
  intro B K hE
  refine go_run K 0 1 (pc' := 1) (st' := [(.ref a)]) rfl ?_
  refine go_special K (k := 1) rfl rfl (H.w 43 rfl) (H.w 44 rfl) (H.w 47 rfl) (H.w 48 rfl) (by decide) pd_14 (c_abc (a := a) H) (argsL := []) (rest := []) rfl rfl rfl sub0 rfl ?_
  rintro _ _ _ - ⟨rfl, rfl⟩
  show Go G B M_abl _ h [] 0 0 4 #[.val (.ref a)] []
  refine go_run K 2 2 (pc' := 6) (st' := [(.int (0 : Int32)), (.ref a)]) rfl ?_
  refine go_putfield K (k := 4) rfl (host := "") (Or.inl (H.w 50 rfl)) Via.refl f00 E0 (Or.inl (H.w 51 rfl)) (H.w 32 rfl) (ty := .int) (by decide) rfl rfl g0 (Or.inr (by decide)) ?_
  intro h1 W2
  have F3 : Exa G.Z h1 a "java/util/ArrayList" := Exa.wr W2 E0
  have F4 : Fld G.Z h1 a "java/util/AbstractList" "modCount" "I" (.int (0 : Int32)) := Fld.same W2 f00
  have F5 : Fld G.Z h1 a "java/util/ArrayList" "elementData" "[Ljava/lang/Object;" .null := Fld.other W2 f10 (Or.inr (slot_ne (Or.inl (H.w 54 rfl)) (Or.inl (H.w 51 rfl)) (by decide) (t := (.array (.object "java/lang/Object"))) (t' := .int) (by decide) (by decide)))
  have F6 : Fld G.Z h1 a "java/util/ArrayList" "size" "I" (.int (0 : Int32)) := Fld.other W2 f20 (Or.inr (slot_ne (Or.inl (H.w 247 rfl)) (Or.inl (H.w 51 rfl)) (by decide) (t := .int) (t' := .int) (by decide) (by decide)))
  refine go_return K (k := 5) rfl rfl rfl rfl ?_
  intro Sf hSf
  exact ⟨rfl, ((Keep.refl _ [a]).wr W2 (Or.inl (List.mem_cons_self ..))), F3, F4, F5, F6⟩
theorem pn_7 : plainName "java/util/ArrayList" = true := by first | (simp [plainName, overriddenIn]; done) | decide +kernel
def P_ali : List (Nat × Instr × Nat) := [(0, .aload_n 0, 1), (1, .invokespecial 1, 3), (4, .aload_n 0, 1), (5, .getstatic 39, 3), (8, .putfield 9, 3), (11, .return_, 1)]
theorem L_ali : ∀ q ∈ P_ali, decode jdk_38_method_2_code q.1 = .ok q.2 := by decide +kernel
def M_ali : Mt := (("java/util/ArrayList", "<init>", ({ frames := 3, cells := 0, slots := 0, locals := 36 } : Room)), P_ali, 1, none)
set_option maxRecDepth 65536 in
set_option maxHeartbeats 40000000 in
theorem c_ali {G : Gb} (H : Gl tables_1 els G) {h : Heap} {ed : Addr} (sE : Sta G.Z G.Z.heap "java/util/ArrayList" "DEFAULTCAPACITY_EMPTY_ELEMENTDATA" "[Ljava/lang/Object;" (.ref ed)) {a : Addr} (E0 : Exa G.Z h a "java/util/ArrayList") (f00 : Fld G.Z h a "java/util/AbstractList" "modCount" "I" (.int (0 : Int32))) (f10 : Fld G.Z h a "java/util/ArrayList" "elementData" "[Ljava/lang/Object;" .null) (f20 : Fld G.Z h a "java/util/ArrayList" "size" "I" (.int (0 : Int32))) (g0 : G.Z.heap.size ≤ a) :
    Ctr G [] (⟨"java/util/ArrayList", "<init>", "()V"⟩ : MethodName) jdk_38_method_2_code 1 none ({ frames := 3, cells := 0, slots := 0, locals := 36 } : Room) #[.ref a] h [] (fun v h' Sf => v = none ∧ Keep h h' [a] ∧ Al0 G h' a ed) := by
  refine ctr_of M_ali rfl rfl (plainFor_of_name pn_7) L_ali H.el (Ls := #[.val (.ref a)]) (fun m => ef_ok (by show argsToLocals _ 1 = _; first | (simp [argsToLocals, Value.category]; done) | rfl)) ?_
  intro B K hE
  refine go_run K 0 1 (pc' := 1) (st' := [(.ref a)]) rfl ?_
  refine go_special K (k := 1) rfl rfl (H.w 37 rfl) (H.w 38 rfl) (H.w 41 rfl) (H.w 42 rfl) (by decide) pd_14 (c_abl H E0 f00 f10 f20 g0) (argsL := []) (rest := []) rfl rfl rfl sub0 rfl ?_
  rintro _ h1 _ - ⟨rfl, K2, E3, F4, F5, F6⟩
  show Go G B M_ali _ h1 [] 0 0 4 #[.val (.ref a)] []
  refine go_run K 2 1 (pc' := 5) (st' := [(.ref a)]) rfl ?_
  refine go_getstatic K (k := 3) rfl (host := "") (Or.inl (H.w 52 rfl)) Via.refl sE ?_
  refine go_putfield K (k := 4) rfl (host := "") (Or.inl (H.w 53 rfl)) Via.refl F5 E3 (Or.inl (H.w 54 rfl)) (H.w 32 rfl) (ty := (.array (.object "java/lang/Object"))) (by decide) rfl rfl g0 (Or.inr (by decide)) ?_
  intro h7 W8
  have F9 : Exa G.Z h7 a "java/util/ArrayList" := Exa.wr W8 E3
  have F10 : Fld G.Z h7 a "java/util/AbstractList" "modCount" "I" (.int (0 : Int32)) := Fld.other W8 F4 (Or.inr (slot_ne (Or.inl (H.w 51 rfl)) (Or.inl (H.w 54 rfl)) (by decide) (t := .int) (t' := (.array (.object "java/lang/Object"))) (by decide) (by decide)))
  have F11 : Fld G.Z h7 a "java/util/ArrayList" "elementData" "[Ljava/lang/Object;" (.ref ed) := Fld.same W8 F5
  have F12 : Fld G.Z h7 a "java/util/ArrayList" "size" "I" (.int (0 : Int32)) := Fld.other W8 F6 (Or.inr (slot_ne (Or.inl (H.w 247 rfl)) (Or.inl (H.w 54 rfl)) (by decide) (t := .int) (t' := (.array (.object "java/lang/Object"))) (by decide) (by decide)))
  refine go_return K (k := 5) rfl rfl rfl rfl ?_
  intro Sf hSf
  exact ⟨rfl, (((Keep.refl _ [a]).trans K2 (allS (Or.inl (List.mem_cons_self ..)) all0)).wr W8 (Or.inl (List.mem_cons_self ..))), F9, ⟨_, F10⟩, F11, F12, g0⟩
def P_ise : List (Nat × Instr × Nat) := [(0, .aload_n 0, 1), (1, .getfield 48, 3), (4, .ifCond .ne 7, 3), (7, .iconst 1, 1), (8, .goto 4, 3), (11, .iconst 0, 1), (12, .ireturn, 1)]
theorem L_ise : ∀ q ∈ P_ise, decode jdk_38_method_9_code q.1 = .ok q.2 := by decide +kernel
def M_ise : Mt := (("java/util/ArrayList", "isEmpty", ({ frames := 0, cells := 0, slots := 0, locals := 0 } : Room)), P_ise, 1, (some .boolean))
set_option maxRecDepth 65536 in
set_option maxHeartbeats 40000000 in
theorem c_ise0 {G : Gb} (H : Gl tables_1 els G) {h : Heap} {li : Addr} (F0 : Fld G.Z h li "java/util/ArrayList" "size" "I" (.int (0 : Int32))) :
    Ctr G [] (⟨"java/util/ArrayList", "isEmpty", "()Z"⟩ : MethodName) jdk_38_method_9_code 1 (some .boolean) ({ frames := 0, cells := 0, slots := 0, locals := 0 } : Room) #[.ref li] h [] (fun v h' Sf => v = some (.int 1) ∧ h = h') := by
  refine ctr_of M_ise rfl rfl (plainFor_of_name pn_7) L_ise H.el (Ls := #[.val (.ref li)]) (fun m => ef_ok (by show argsToLocals _ 1 = _; first | (simp [argsToLocals, Value.category]; done) | rfl)) ?_
  intro B K hE
  refine go_run K 0 1 (pc' := 1) (st' := [(.ref li)]) rfl ?_
  refine go_getfield K (k := 1) rfl (host := "") (Or.inl (H.w 246 rfl)) Via.refl F0 ?_
  refine go_ifne K (k := 2) rfl (pc' := 11) (by decide) (fun q => absurd rfl q) (fun _ => ?_)
  refine go_run K 3 2 (pc' := 12) (st' := [(.int (1 : Int32))]) rfl ?_
  refine go_ireturn K (k := 6) rfl rfl (by decide) rfl rfl rfl ?_
  intro Sf hSf
  exact ⟨rfl, rfl⟩
set_option maxRecDepth 65536 in
set_option maxHeartbeats 40000000 in
theorem c_iseK {G : Gb} (H : Gl tables_1 els G) {h : Heap} {li : Addr} {k : Nat} (k1 : 1 ≤ k) (k2 : k ≤ 10) (F0 : Fld G.Z h li "java/util/ArrayList" "size" "I" (.int k.toInt32)) :
    Ctr G [] (⟨"java/util/ArrayList", "isEmpty", "()Z"⟩ : MethodName) jdk_38_method_9_code 1 (some .boolean) ({ frames := 0, cells := 0, slots := 0, locals := 0 } : Room) #[.ref li] h [] (fun v h' Sf => v = some (.int 0) ∧ h = h') := by
  refine ctr_of M_ise rfl rfl (plainFor_of_name pn_7) L_ise H.el (Ls := #[.val (.ref li)]) (fun m => ef_ok (by show argsToLocals _ 1 = _; first | (simp [argsToLocals, Value.category]; done) | rfl)) ?_
  intro B K hE
  refine go_run K 0 1 (pc' := 1) (st' := [(.ref li)]) rfl ?_
  refine go_getfield K (k := 1) rfl (host := "") (Or.inl (H.w 246 rfl)) Via.refl F0 ?_
  refine go_ifne K (k := 2) rfl (pc' := 11) (by decide) (fun _ => ?_) (fun q => absurd q (fun e => absurd (len_zero (by omega) e) (by omega)))
  refine go_run K 5 1 (pc' := 12) (st' := [(.int (0 : Int32))]) rfl ?_
  refine go_ireturn K (k := 6) rfl rfl (by decide) rfl rfl rfl ?_
  intro Sf hSf
  exact ⟨rfl, rfl⟩
theorem pf_8 : plainFor (⟨"java/lang/Math", "max", "(II)I"⟩ : MethodName) = true := by decide +kernel
def P_max : List (Nat × Instr × Nat) := [(0, .iload_n 0, 1), (1, .iload_n 1, 1), (2, .if_icmp .lt 7, 3), (5, .iload_n 0, 1), (6, .goto 4, 3), (9, .iload_n 1, 1), (10, .ireturn, 1)]
theorem L_max : ∀ q ∈ P_max, decode jdk_29_method_65_code q.1 = .ok q.2 := by decide +kernel
def M_max : Mt := (("java/lang/Math", "max", ({ frames := 0, cells := 0, slots := 0, locals := 0 } : Room)), P_max, 2, (some .int))
set_option maxRecDepth 65536 in
set_option maxHeartbeats 40000000 in
theorem c_max {G : Gb} (H : Gl tables_1 els G) {h : Heap} {x y : Int32} :
    Ctr G [] (⟨"java/lang/Math", "max", "(II)I"⟩ : MethodName) jdk_29_method_65_code 2 (some .int) ({ frames := 0, cells := 0, slots := 0, locals := 0 } : Room) #[.int x, .int y] h [] (fun v h' Sf => ∃ r : Int32, v = some (.int r) ∧ h = h' ∧ ((r = x ∧ ¬ x < y) ∨ (r = y ∧ x < y))) := by
  refine ctr_of M_max rfl rfl pf_8 L_max H.el (Ls := #[.val (.int x), .val (.int y)]) (fun m => ef_ok (by show argsToLocals _ 2 = _; first | (simp [argsToLocals, Value.category]; done) | rfl)) ?_
  intro B K hE
  refine go_run K 0 2 (pc' := 2) (st' := [(.int y), (.int x)]) rfl ?_
  refine go_icmplt K (k := 2) rfl (pc' := 9) (by decide) (fun q1 => ?_) (fun q2 => ?_)
  · refine go_run K 5 1 (pc' := 10) (st' := [(.int y)]) rfl ?_
    refine go_ireturn K (k := 6) rfl rfl (by decide) rfl rfl rfl ?_
    intro Sf hSf
    exact ⟨y, rfl, rfl, Or.inr ⟨rfl, q1⟩⟩
  · refine go_run K 3 2 (pc' := 10) (st' := [(.int x)]) rfl ?_
    refine go_ireturn K (k := 6) rfl rfl (by decide) rfl rfl rfl ?_
    intro Sf hSf
    exact ⟨x, rfl, rfl, Or.inl ⟨rfl, q2⟩⟩
def P_als : List (Nat × Instr × Nat) := [(0, .aload_n 0, 1), (1, .getfield 48, 3), (4, .ireturn, 1)]
theorem L_als : ∀ q ∈ P_als, decode jdk_38_method_8_code q.1 = .ok q.2 := by decide +kernel
def M_als : Mt := (("java/util/ArrayList", "size", ({ frames := 0, cells := 0, slots := 0, locals := 0 } : Room)), P_als, 1, (some .int))
set_option maxRecDepth 65536 in
set_option maxHeartbeats 40000000 in
theorem c_als {G : Gb} (H : Gl tables_1 els G) {h : Heap} {a : Addr} {r : Int32} (F0 : Fld G.Z h a "java/util/ArrayList" "size" "I" (.int r)) :
    Ctr G [] (⟨"java/util/ArrayList", "size", "()I"⟩ : MethodName) jdk_38_method_8_code 1 (some .int) ({ frames := 0, cells := 0, slots := 0, locals := 0 } : Room) #[.ref a] h [] (fun v h' Sf => v = some (.int r) ∧ h = h') := by
  refine ctr_of M_als rfl rfl (plainFor_of_name pn_7) L_als H.el (Ls := #[.val (.ref a)]) (fun m => ef_ok (by show argsToLocals _ 1 = _; first | (simp [argsToLocals, Value.category]; done) | rfl)) ?_
  intro B K hE
  refine go_run K 0 1 (pc' := 1) (st' := [(.ref a)]) rfl ?_
  refine go_getfield K (k := 1) rfl (host := "") (Or.inl (H.w 246 rfl)) Via.refl F0 ?_
  refine go_ireturn K (k := 2) rfl rfl (by decide) rfl rfl rfl ?_
  intro Sf hSf
  exact ⟨rfl, rfl⟩
theorem pn_9 : plainName "jdk/internal/util/Preconditions" = true := by first | (simp [plainName, overriddenIn]; done) | decide +kernel
def P_pci : List (Nat × Instr × Nat) := [(0, .iload_n 0, 1), (1, .ifCond .lt 8, 3), (4, .iload_n 0, 1), (5, .iload_n 1, 1), (6, .if_icmp .lt 10, 3), (9, .aload_n 2, 1), (10, .iload_n 0, 1), (11, .iload_n 1, 1), (12, .invokestatic 95, 3), (15, .athrow, 1), (16, .iload_n 0, 1), (17, .ireturn, 1)]
theorem L_pci : ∀ q ∈ P_pci, decode jdk_41_method_11_code q.1 = .ok q.2 := by decide +kernel
def M_pci : Mt := (("jdk/internal/util/Preconditions", "checkIndex", ({ frames := 0, cells := 0, slots := 0, locals := 0 } : Room)), P_pci, 3, (some .int))
set_option maxRecDepth 65536 in
set_option maxHeartbeats 40000000 in
theorem c_pci {G : Gb} (H : Gl tables_1 els G) {h : Heap} {x n : Int32} {f : Addr} (h1 : ¬ x < 0) (h2 : x < n) :
    Ctr G [] (⟨"jdk/internal/util/Preconditions", "checkIndex", "(IILjava/util/function/BiFunction;)I"⟩ : MethodName) jdk_41_method_11_code 3 (some .int) ({ frames := 0, cells := 0, slots := 0, locals := 0 } : Room) #[.int x, .int n, .ref f] h [] (fun v h' Sf => v = some (.int x) ∧ h = h') := by
  refine ctr_of M_pci rfl rfl (plainFor_of_name pn_9) L_pci H.el (Ls := #[.val (.int x), .val (.int n), .val (.ref f)]) (fun m => ef_ok (by show argsToLocals _ 3 = _; first | (simp [argsToLocals, Value.category]; done) | rfl)) ?_
  intro B K hE
  refine go_run K 0 1 (pc' := 1) (st' := [(.int x)]) rfl ?_
  refine go_iflt K (k := 1) rfl (pc' := 9) (by decide) (fun q => absurd q h1) (fun _ => ?_)
  refine go_run K 2 2 (pc' := 6) (st' := [(.int n), (.int x)]) rfl ?_
  refine go_icmplt K (k := 4) rfl (pc' := 16) (by decide) (fun _ => ?_) (fun q => absurd h2 q)
  refine go_run K 10 1 (pc' := 17) (st' := [(.int x)]) rfl ?_
  refine go_ireturn K (k := 11) rfl rfl (by decide) rfl rfl rfl ?_
  intro Sf hSf
  exact ⟨rfl, rfl⟩
set_option maxRecDepth 65536 in
set_option maxHeartbeats 40000000 in
theorem c_pciN {G : Gb} (H : Gl tables_1 els G) {h : Heap} {x n : Int32} (h1 : ¬ x < 0) (h2 : x < n) :
    Ctr G [] (⟨"jdk/internal/util/Preconditions", "checkIndex", "(IILjava/util/function/BiFunction;)I"⟩ : MethodName) jdk_41_method_11_code 3 (some .int) ({ frames := 0, cells := 0, slots := 0, locals := 0 } : Room) #[.int x, .int n, .null] h [] (fun v h' Sf => v = some (.int x) ∧ h = h') := by
  refine ctr_of M_pci rfl rfl (plainFor_of_name pn_9) L_pci H.el (Ls := #[.val (.int x), .val (.int n), .val .null]) (fun m => ef_ok (by show argsToLocals _ 3 = _; first | (simp [argsToLocals, Value.category]; done) | rfl)) ?_
  intro B K hE
  refine go_run K 0 1 (pc' := 1) (st' := [(.int x)]) rfl ?_
  refine go_iflt K (k := 1) rfl (pc' := 9) (by decide) (fun q => absurd q h1) (fun _ => ?_)
  refine go_run K 2 2 (pc' := 6) (st' := [(.int n), (.int x)]) rfl ?_
  refine go_icmplt K (k := 4) rfl (pc' := 16) (by decide) (fun _ => ?_) (fun q => absurd h2 q)
  refine go_run K 10 1 (pc' := 17) (st' := [(.int x)]) rfl ?_
  refine go_ireturn K (k := 11) rfl rfl (by decide) rfl rfl rfl ?_
  intro Sf hSf
  exact ⟨rfl, rfl⟩
theorem pn_10 : plainName "java/util/Objects" = true := by first | (simp [plainName, overriddenIn]; done) | decide +kernel
def P_ock : List (Nat × Instr × Nat) := [(0, .iload_n 0, 1), (1, .iload_n 1, 1), (2, .aconst_null, 1), (3, .invokestatic 105, 3), (6, .ireturn, 1)]
theorem L_ock : ∀ q ∈ P_ock, decode jdk_31_method_17_code q.1 = .ok q.2 := by decide +kernel
def M_ock : Mt := (("java/util/Objects", "checkIndex", ({ frames := 1, cells := 0, slots := 0, locals := 14 } : Room)), P_ock, 2, (some .int))
set_option maxRecDepth 65536 in
set_option maxHeartbeats 40000000 in
theorem c_ock {G : Gb} (H : Gl tables_1 els G) {h : Heap} {x m : Int32} (h1 : ¬ x < 0) (h2 : x < m) :
    Ctr G [] (⟨"java/util/Objects", "checkIndex", "(II)I"⟩ : MethodName) jdk_31_method_17_code 2 (some .int) ({ frames := 1, cells := 0, slots := 0, locals := 14 } : Room) #[.int x, .int m] h [] (fun v h' Sf => v = some (.int x) ∧ h = h') := by
  refine ctr_of M_ock rfl rfl (plainFor_of_name pn_10) L_ock H.el (Ls := #[.val (.int x), .val (.int m)]) (fun m => ef_ok (by show argsToLocals _ 2 = _; first | (simp [argsToLocals, Value.category]; done) | rfl)) ?_
  intro B K hE
  refine go_run K 0 3 (pc' := 3) (st' := [.null, (.int m), (.int x)]) rfl ?_
  refine go_static K (k := 3) rfl (H.w 339 rfl) (H.w 340 rfl) (H.w 341 rfl) (H.w 342 rfl) (by decide) pd_15 (c_pciN (x := x) (n := m) H h1 h2) (argsL := [(.int x), (.int m), .null]) (rest := []) rfl rfl rfl sub0 rfl ?_
  rintro _ _ _ - ⟨rfl, rfl⟩
  show Go G B M_ock _ h [] 0 0 6 #[.val (.int x), .val (.int m)] [(.int x)]
  refine go_ireturn K (k := 4) rfl rfl (by decide) rfl rfl rfl ?_
  intro Sf hSf
  exact ⟨rfl, rfl⟩
def P_ald : List (Nat × Instr × Nat) := [(0, .aload_n 0, 1), (1, .getfield 9, 3), (4, .iload_n 1, 1), (5, .aaload, 1), (6, .areturn, 1)]
theorem L_ald : ∀ q ∈ P_ald, decode jdk_38_method_18_code q.1 = .ok q.2 := by decide +kernel
def M_ald : Mt := (("java/util/ArrayList", "elementData", ({ frames := 0, cells := 0, slots := 0, locals := 0 } : Room)), P_ald, 2, (some (.object "java/lang/Object")))
set_option maxRecDepth 65536 in
set_option maxHeartbeats 40000000 in
theorem c_ald {G : Gb} (H : Gl tables_1 els G) {h : Heap} {li t r : Addr} {kA : ClassId} {z i : Int32} {vs : List Value} (F0 : Fld G.Z h li "java/util/ArrayList" "elementData" "[Ljava/lang/Object;" (.ref t)) (A0 : Arv G.Z h t kA (.object "java/lang/Object") z vs .null) (hj : ¬ i < 0 ∧ i < z) (hv : vs.getD i.toNatClampNeg .null = .ref r) :
    Ctr G [] (⟨"java/util/ArrayList", "elementData", "(I)Ljava/lang/Object;"⟩ : MethodName) jdk_38_method_18_code 2 (some (.object "java/lang/Object")) ({ frames := 0, cells := 0, slots := 0, locals := 0 } : Room) #[.ref li, .int i] h [] (fun v h' Sf => v = some (.ref r) ∧ h = h') := by
  refine ctr_of M_ald rfl rfl (plainFor_of_name pn_7) L_ald H.el (Ls := #[.val (.ref li), .val (.int i)]) (fun m => ef_ok (by show argsToLocals _ 2 = _; first | (simp [argsToLocals, Value.category]; done) | rfl)) ?_
  intro B K hE
  refine go_run K 0 1 (pc' := 1) (st' := [(.ref li)]) rfl ?_
  refine go_getfield K (k := 1) rfl (host := "") (Or.inl (H.w 53 rfl)) Via.refl F0 ?_
  refine go_run K 2 1 (pc' := 5) (st' := [(.int i), (.ref t)]) rfl ?_
  refine go_aaload K (k := 3) rfl A0 rfl hj (v := .ref r) hv ?_
  refine go_areturn K (k := 4) rfl rfl rfl rfl rfl rfl rfl ?_
  intro Sf hSf
  exact ⟨rfl, rfl⟩
def P_alg : List (Nat × Instr × Nat) := [(0, .iload_n 1, 1), (1, .aload_n 0, 1), (2, .getfield 48, 3), (5, .invokestatic 118, 3), (8, .pop, 1), (9, .aload_n 0, 1), (10, .iload_n 1, 1), (11, .invokevirtual 123, 3), (14, .areturn, 1)]
theorem L_alg : ∀ q ∈ P_alg, decode jdk_38_method_20_code q.1 = .ok q.2 := by decide +kernel
def M_alg : Mt := (("java/util/ArrayList", "get", ({ frames := 2, cells := 0, slots := 0, locals := 27 } : Room)), P_alg, 2, (some (.object "java/lang/Object")))
set_option maxRecDepth 65536 in
set_option maxHeartbeats 40000000 in
theorem c_alg {G : Gb} (H : Gl tables_1 els G) {h : Heap} {li t r : Addr} {kA : ClassId} {z i : Int32} {vs : List Value} (F0 : Fld G.Z h li "java/util/ArrayList" "elementData" "[Ljava/lang/Object;" (.ref t)) (A0 : Arv G.Z h t kA (.object "java/lang/Object") z vs .null) (hj : ¬ i < 0 ∧ i < z) (hv : vs.getD i.toNatClampNeg .null = .ref r) {m : Int32} (Fs0 : Fld G.Z h li "java/util/ArrayList" "size" "I" (.int m)) (hm : i < m) (E0 : Exa G.Z h li "java/util/ArrayList") :
    Ctr G [] (⟨"java/util/ArrayList", "get", "(I)Ljava/lang/Object;"⟩ : MethodName) jdk_38_method_20_code 2 (some (.object "java/lang/Object")) ({ frames := 2, cells := 0, slots := 0, locals := 27 } : Room) #[.ref li, .int i] h [] (fun v h' Sf => v = some (.ref r) ∧ h = h') := by
  refine ctr_of M_alg rfl rfl (plainFor_of_name pn_7) L_alg H.el (Ls := #[.val (.ref li), .val (.int i)]) (fun m => ef_ok (by show argsToLocals _ 2 = _; first | (simp [argsToLocals, Value.category]; done) | rfl)) ?_
  intro B K hE
  refine go_run K 0 2 (pc' := 2) (st' := [(.ref li), (.int i)]) rfl ?_
  refine go_getfield K (k := 2) rfl (host := "") (Or.inl (H.w 246 rfl)) Via.refl Fs0 ?_
  refine go_static K (k := 3) rfl (H.w 335 rfl) (H.w 336 rfl) (H.w 337 rfl) (H.w 338 rfl) (by decide) pd_2 (c_ock (x := i) (m := m) H hj.1 hm) (argsL := [(.int i), (.int m)]) (rest := []) rfl rfl rfl sub0 rfl ?_
  rintro _ _ _ - ⟨rfl, rfl⟩
  show Go G B M_alg _ h [] 0 0 8 #[.val (.ref li), .val (.int i)] [(.int i)]
  refine go_run K 4 3 (pc' := 11) (st' := [(.int i), (.ref li)]) rfl ?_
  refine go_virt0 K (k := 7) rfl (H.w 343 rfl) (H.w 346 rfl) (H.w 345 rfl) (H.w 33 rfl) (H.w 347 rfl) (by decide) pd_16 E0 (c_ald (r := r) H F0 A0 hj hv) (argsL := [(.int i)]) (rest := []) rfl rfl rfl sub0 rfl ?_
  rintro _ _ _ - ⟨rfl, rfl⟩
  show Go G B M_alg _ h [] 0 0 14 #[.val (.ref li), .val (.int i)] [(.ref r)]
  refine go_areturn K (k := 8) rfl rfl rfl rfl rfl rfl rfl ?_
  intro Sf hSf
  exact ⟨rfl, rfl⟩
def P_gri : List (Nat × Instr × Nat) := [(0, .aload_n 0, 1), (1, .getfield 9, 3), (4, .arraylength, 1), (5, .istore_n 2, 1), (6, .iload_n 2, 1), (7, .ifCond .gt 13, 3), (10, .aload_n 0, 1), (11, .getfield 9, 3), (14, .getstatic 39, 3), (17, .if_acmp .eq 28, 3), (20, .iload_n 2, 1), (21, .iload_n 1, 1), (22, .iload_n 2, 1), (23, .isub, 1), (24, .iload_n 2, 1), (25, .iconst 1, 1), (26, .ishr, 1), (27, .invokestatic 73, 3), (30, .istore_n 3, 1), (31, .aload_n 0, 1), (32, .aload_n 0, 1), (33, .getfield 9, 3), (36, .iload_n 3, 1), (37, .invokestatic 66, 3), (40, .dup_x1, 1), (41, .putfield 9, 3), (44, .areturn, 1), (45, .aload_n 0, 1), (46, .bipush 10, 2), (48, .iload_n 1, 1), (49, .invokestatic 79, 3), (52, .anewarray 7, 3), (55, .dup_x1, 1), (56, .putfield 9, 3), (59, .areturn, 1)]
theorem L_gri : ∀ q ∈ P_gri, decode jdk_38_method_6_code q.1 = .ok q.2 := by decide +kernel
def M_gri : Mt := (("java/util/ArrayList", "grow", ({ frames := 1, cells := 1, slots := 10, locals := 14 } : Room)), P_gri, 4, (some (.array (.object "java/lang/Object"))))
set_option maxRecDepth 65536 in
set_option maxHeartbeats 40000000 in
theorem c_gri {G : Gb} (H : Gl tables_1 els G) {h : Heap} {li : Addr} {ed : Addr} {ke : ClassId} (sE : Sta G.Z G.Z.heap "java/util/ArrayList" "DEFAULTCAPACITY_EMPTY_ELEMENTDATA" "[Ljava/lang/Object;" (.ref ed)) (aE : Arv G.Z G.Z.heap ed ke (.object "java/lang/Object") (0 : Int32) [] .null) (L0 : Al0 G h li ed) :
    Ctr G [] (⟨"java/util/ArrayList", "grow", "(I)[Ljava/lang/Object;"⟩ : MethodName) jdk_38_method_6_code 4 (some (.array (.object "java/lang/Object"))) ({ frames := 1, cells := 1, slots := 10, locals := 14 } : Room) #[.ref li, .int 1] h [] (fun v h' Sf => ∃ (t : Addr) (kA : ClassId), v = some (.ref t) ∧ Keep h h' [li] ∧ Exa G.Z h' li "java/util/ArrayList" ∧ (∃ mc : Int32, Fld G.Z h' li "java/util/AbstractList" "modCount" "I" (.int mc)) ∧ Fld G.Z h' li "java/util/ArrayList" "elementData" "[Ljava/lang/Object;" (.ref t) ∧ Fld G.Z h' li "java/util/ArrayList" "size" "I" (.int 0) ∧ Arv G.Z h' t kA (.object "java/lang/Object") (10 : Nat).toInt32 (List.replicate 10 .null) .null ∧ Exa G.Z h' t "[Ljava/lang/Object;" ∧ Ovr G.Z kA "java/lang/Object" ∧ G.Z.heap.size ≤ t ∧ h.size ≤ t) := by
  refine ctr_of M_gri rfl rfl (plainFor_of_name pn_7) L_gri H.el (Ls := #[.val (.ref li), .val (.int (1 : Int32)), .unset, .unset]) (fun m => ef_ok (by show argsToLocals _ 4 = _; first | (simp [argsToLocals, Value.category]; done) | rfl)) ?_
  intro B K hE
  obtain ⟨e1, ⟨mc2, f3⟩, f4, f5, g6⟩ := id L0
  refine go_run K 0 1 (pc' := 1) (st' := [(.ref li)]) rfl ?_
  refine go_getfield K (k := 1) rfl (host := "") (Or.inl (H.w 53 rfl)) Via.refl f4 ?_
  refine go_arraylength K (k := 2) rfl (aE.ext hE) ?_
  refine go_run K 3 2 (pc' := 7) (Ls' := #[.val (.ref li), .val (.int (1 : Int32)), .val (.int (0 : Int32)), .unset]) (st' := [(.int (0 : Int32))]) rfl ?_
  refine go_ifgt K (k := 5) rfl (pc' := 20) (by decide) (fun q => absurd q (by decide)) (fun _ => ?_)
  refine go_run K 6 1 (pc' := 11) (st' := [(.ref li)]) rfl ?_
  refine go_getfield K (k := 7) rfl (host := "") (Or.inl (H.w 53 rfl)) Via.refl f4 ?_
  refine go_getstatic K (k := 8) rfl (host := "") (Or.inl (H.w 52 rfl)) Via.refl sE ?_
  refine go_acmp K (k := 9) rfl rfl rfl (same := true) (decide_eq_true rfl) (pc' := 45) (by decide) rfl ?_
  refine go_run K 27 3 (pc' := 49) (st' := [(.int (1 : Int32)), (.int (10 : Int32)), (.ref li)]) rfl ?_
  refine go_static K (k := 30) rfl (H.w 289 rfl) (H.w 290 rfl) (H.w 230 rfl) (H.w 291 rfl) (by decide) pd_2 (c_max (x := (10 : Int32)) (y := (1 : Int32)) H) (argsL := [(.int (10 : Int32)), (.int (1 : Int32))]) (rest := [(.ref li)]) rfl rfl rfl sub0 rfl ?_
  rintro _ _ _ - ⟨r7, rfl, rfl, q8⟩
  show Go G B M_gri _ h [] 0 0 52 #[.val (.ref li), .val (.int (1 : Int32)), .val (.int (0 : Int32)), .unset] [(.int r7), (.ref li)]
  have hr : r7 = 10 := by
    rcases q8 with ⟨u1, -⟩ | ⟨-, u2⟩
    · exact u1
    · exact absurd u2 (by decide)
  rw [hr]
  refine go_anewarray K (k := 31) rfl (H.w 292 rfl) (H.w 293 rfl) (ad := "[Ljava/lang/Object;") (by first | rfl | decide) (by decide) (cap := 10) (by decide) rfl rfl rfl ?_
  intro h10 a9 k11 e12 g13 E14 A15 X16 O17
  have A15' : Arv G.Z h10 a9 k11 (.object "java/lang/Object") (10 : Nat).toInt32 (List.replicate 10 .null) .null := Arv.pad A15 (pad_rep [] _ 10)
  refine go_run K 32 1 (pc' := 56) (st' := [(.ref a9), (.ref li), (.ref a9)]) rfl ?_
  have c18 := (f4.ext E14)
  have c19 := (e1.ext E14)
  refine go_putfield K (k := 33) rfl (host := "") (Or.inl (H.w 53 rfl)) Via.refl c18 c19 (Or.inl (H.w 54 rfl)) (H.w 32 rfl) (ty := (.array (.object "java/lang/Object"))) (by decide) rfl rfl g6 (Or.inr (by decide)) ?_
  intro h20 W21
  have c22 := (f3.ext E14)
  have c23 := (f5.ext E14)
  have F24 : Exa G.Z h20 li "java/util/ArrayList" := Exa.wr W21 c19
  have F25 : Fld G.Z h20 li "java/util/AbstractList" "modCount" "I" (.int mc2) := Fld.other W21 c22 (Or.inr (slot_ne (Or.inl (H.w 51 rfl)) (Or.inl (H.w 54 rfl)) (by decide) (t := .int) (t' := (.array (.object "java/lang/Object"))) (by decide) (by decide)))
  have F26 : Fld G.Z h20 li "java/util/ArrayList" "elementData" "[Ljava/lang/Object;" (.ref a9) := Fld.same W21 c18
  have F27 : Fld G.Z h20 li "java/util/ArrayList" "size" "I" (.int (0 : Int32)) := Fld.other W21 c23 (Or.inr (slot_ne (Or.inl (H.w 247 rfl)) (Or.inl (H.w 54 rfl)) (by decide) (t := .int) (t' := (.array (.object "java/lang/Object"))) (by decide) (by decide)))
  have c28 := (Arv.other A15' W21 (Exa.neArv c19 A15' (H.w 32 rfl)).symm)
  have c29 := (Exa.wr W21 X16)
  refine go_areturn K (k := 34) rfl rfl rfl rfl rfl rfl rfl ?_
  intro Sf hSf
  exact ⟨a9, k11, rfl, (((Keep.refl _ [li]).ext E14).wr W21 (Or.inl (List.mem_cons_self ..))), F24, ⟨_, F25⟩, F26, F27, c28, c29, O17, g13, Nat.le_trans (Nat.le_refl _) (Nat.le_of_eq e12.symm)⟩
def P_gr0 : List (Nat × Instr × Nat) := [(0, .aload_n 0, 1), (1, .aload_n 0, 1), (2, .getfield 48, 3), (5, .iconst 1, 1), (6, .iadd, 1), (7, .invokevirtual 69, 3), (10, .areturn, 1)]
theorem L_gr0 : ∀ q ∈ P_gr0, decode jdk_38_method_7_code q.1 = .ok q.2 := by decide +kernel
def M_gr0 : Mt := (("java/util/ArrayList", "grow", ({ frames := 2, cells := 1, slots := 10, locals := 29 } : Room)), P_gr0, 1, (some (.array (.object "java/lang/Object"))))
set_option maxRecDepth 65536 in
set_option maxHeartbeats 40000000 in
theorem c_gr0 {G : Gb} (H : Gl tables_1 els G) {h : Heap} {li : Addr} {ed : Addr} {ke : ClassId} (sE : Sta G.Z G.Z.heap "java/util/ArrayList" "DEFAULTCAPACITY_EMPTY_ELEMENTDATA" "[Ljava/lang/Object;" (.ref ed)) (aE : Arv G.Z G.Z.heap ed ke (.object "java/lang/Object") (0 : Int32) [] .null) (L0 : Al0 G h li ed) :
    Ctr G [] (⟨"java/util/ArrayList", "grow", "()[Ljava/lang/Object;"⟩ : MethodName) jdk_38_method_7_code 1 (some (.array (.object "java/lang/Object"))) ({ frames := 2, cells := 1, slots := 10, locals := 29 } : Room) #[.ref li] h [] (fun v h' Sf => ∃ (t : Addr) (kA : ClassId), v = some (.ref t) ∧ Keep h h' [li] ∧ Exa G.Z h' li "java/util/ArrayList" ∧ (∃ mc : Int32, Fld G.Z h' li "java/util/AbstractList" "modCount" "I" (.int mc)) ∧ Fld G.Z h' li "java/util/ArrayList" "elementData" "[Ljava/lang/Object;" (.ref t) ∧ Fld G.Z h' li "java/util/ArrayList" "size" "I" (.int 0) ∧ Arv G.Z h' t kA (.object "java/lang/Object") (10 : Nat).toInt32 (List.replicate 10 .null) .null ∧ Exa G.Z h' t "[Ljava/lang/Object;" ∧ Ovr G.Z kA "java/lang/Object" ∧ G.Z.heap.size ≤ t ∧ h.size ≤ t) := by
  refine ctr_of M_gr0 rfl rfl (plainFor_of_name pn_7) L_gr0 H.el (Ls := #[.val (.ref li)]) (fun m => ef_ok (by show argsToLocals _ 1 = _; first | (simp [argsToLocals, Value.category]; done) | rfl)) ?_
  intro B K hE
  obtain ⟨e1, ⟨mc2, f3⟩, f4, f5, g6⟩ := id L0
  refine go_run K 0 2 (pc' := 2) (st' := [(.ref li), (.ref li)]) rfl ?_
  refine go_getfield K (k := 2) rfl (host := "") (Or.inl (H.w 246 rfl)) Via.refl f5 ?_
  refine go_run K 3 2 (pc' := 7) (st' := [(.int (1 : Int32)), (.ref li)]) rfl ?_
  refine go_virt0 K (k := 5) rfl (H.w 284 rfl) (H.w 287 rfl) (H.w 285 rfl) (H.w 33 rfl) (H.w 288 rfl) (by decide) pd_17 e1 (c_gri H sE aE L0) (argsL := [(.int (1 : Int32))]) (rest := []) rfl rfl rfl sub0 rfl ?_
  rintro _ h7 _ - ⟨t8, k9, rfl, K10, e11, ⟨mc12, f13⟩, f14, f15, A16, e17, o18, g19, f20⟩
  show Go G B M_gr0 _ h7 [] 1 10 10 #[.val (.ref li)] [(.ref t8)]
  refine go_areturn K (k := 6) rfl rfl rfl rfl rfl rfl rfl ?_
  intro Sf hSf
  exact ⟨t8, k9, rfl, ((Keep.refl _ [li]).trans K10 (allS (Or.inl (List.mem_cons_self ..)) all0)), e11, ⟨_, f13⟩, f14, f15, A16, e17, o18, g19, f20⟩
def P_ad3 : List (Nat × Instr × Nat) := [(0, .iload_n 3, 1), (1, .aload_n 2, 1), (2, .arraylength, 1), (3, .if_icmp .ne 8, 3), (6, .aload_n 0, 1), (7, .invokevirtual 129, 3), (10, .astore_n 2, 1), (11, .aload_n 2, 1), (12, .iload_n 3, 1), (13, .aload_n 1, 1), (14, .aastore, 1), (15, .aload_n 0, 1), (16, .iload_n 3, 1), (17, .iconst 1, 1), (18, .iadd, 1), (19, .putfield 48, 3), (22, .return_, 1)]
theorem L_ad3 : ∀ q ∈ P_ad3, decode jdk_38_method_24_code q.1 = .ok q.2 := by decide +kernel
def M_ad3 : Mt := (("java/util/ArrayList", "add", ({ frames := 3, cells := 1, slots := 10, locals := 41 } : Room)), P_ad3, 4, none)
set_option maxRecDepth 65536 in
set_option maxHeartbeats 40000000 in
theorem c_ad30 {G : Gb} (H : Gl tables_1 els G) {h : Heap} {li : Addr} {ed : Addr} {ke : ClassId} (sE : Sta G.Z G.Z.heap "java/util/ArrayList" "DEFAULTCAPACITY_EMPTY_ELEMENTDATA" "[Ljava/lang/Object;" (.ref ed)) (aE : Arv G.Z G.Z.heap ed ke (.object "java/lang/Object") (0 : Int32) [] .null) (L0 : Al0 G h li ed) {x : Addr} {bx fx nx : Int32} {ix : Value} (R0 : Ra G h x bx fx nx ix) :
    Ctr G [] (⟨"java/util/ArrayList", "add", "(Ljava/lang/Object;[Ljava/lang/Object;I)V"⟩ : MethodName) jdk_38_method_24_code 4 none ({ frames := 3, cells := 1, slots := 10, locals := 41 } : Room) #[.ref li, .ref x, .ref ed, .int 0] h [] (fun v h' Sf => ∃ (t : Addr) (kA : ClassId), v = none ∧ Keep h h' [li] ∧ h.size ≤ t ∧ Alk G h' li t x kA 1 bx fx nx ix) := by
  refine ctr_of M_ad3 rfl rfl (plainFor_of_name pn_7) L_ad3 H.el (Ls := #[.val (.ref li), .val (.ref x), .val (.ref ed), .val (.int (0 : Int32))]) (fun m => ef_ok (by show argsToLocals _ 4 = _; first | (simp [argsToLocals, Value.category]; done) | rfl)) ?_
  intro B K hE
  obtain ⟨e1, ⟨mc2, f3⟩, f4, f5, g6⟩ := id L0
  refine go_run K 0 2 (pc' := 2) (st' := [(.ref ed), (.int (0 : Int32))]) rfl ?_
  refine go_arraylength K (k := 2) rfl (aE.ext hE) ?_
  refine go_icmpne K (k := 3) rfl (pc' := 11) (by decide) (fun q => absurd rfl q) (fun _ => ?_)
  refine go_run K 4 1 (pc' := 7) (st' := [(.ref li)]) rfl ?_
  refine go_virt0 K (k := 5) rfl (H.w 279 rfl) (H.w 282 rfl) (H.w 280 rfl) (H.w 33 rfl) (H.w 283 rfl) (by decide) pd_18 e1 (c_gr0 H sE aE L0) (argsL := []) (rest := []) rfl rfl rfl sub0 rfl ?_
  rintro _ h7 _ - ⟨t8, k9, rfl, K10, e11, ⟨mc12, f13⟩, f14, f15, A16, e17, o18, g19, f20⟩
  show Go G B M_ad3 _ h7 [] 1 10 10 #[.val (.ref li), .val (.ref x), .val (.ref ed), .val (.int (0 : Int32))] [(.ref t8)]
  refine go_run K 6 4 (pc' := 14) (Ls' := #[.val (.ref li), .val (.ref x), .val (.ref t8), .val (.int (0 : Int32))]) (st' := [(.ref x), (.int (0 : Int32)), (.ref t8)]) rfl ?_
  have c21 := ((Ra.exa R0).keep K10)
  refine go_aastore K (k := 10) rfl A16 o18 (Ins.of_exa c21 (H.w 294 rfl)) (by decide) (i := 0) rfl (by decide) g19 ?_
  intro h22 W23 A24
  refine go_run K 11 4 (pc' := 19) (st' := [(.int (1 : Int32)), (.ref li)]) rfl ?_
  have c25 := (Fld.other W23 f15 (Or.inl (Exa.ne e11 e17 (by decide))))
  have c26 := (Exa.wr W23 e11)
  refine go_putfield K (k := 15) rfl (host := "") (Or.inl (H.w 246 rfl)) Via.refl c25 c26 (Or.inl (H.w 247 rfl)) (H.w 32 rfl) (ty := .int) (by decide) rfl rfl g6 (Or.inr (by decide)) ?_
  intro h27 W28
  have c29 := (Fld.other W23 f13 (Or.inl (Exa.ne e11 e17 (by decide))))
  have c30 := (Fld.other W23 f14 (Or.inl (Exa.ne e11 e17 (by decide))))
  have F31 : Exa G.Z h27 li "java/util/ArrayList" := Exa.wr W28 c26
  have F32 : Fld G.Z h27 li "java/util/AbstractList" "modCount" "I" (.int mc12) := Fld.other W28 c29 (Or.inr (slot_ne (Or.inl (H.w 51 rfl)) (Or.inl (H.w 247 rfl)) (by decide) (t := .int) (t' := .int) (by decide) (by decide)))
  have F33 : Fld G.Z h27 li "java/util/ArrayList" "elementData" "[Ljava/lang/Object;" (.ref t8) := Fld.other W28 c30 (Or.inr (slot_ne (Or.inl (H.w 54 rfl)) (Or.inl (H.w 247 rfl)) (by decide) (t := (.array (.object "java/lang/Object"))) (t' := .int) (by decide) (by decide)))
  have F34 : Fld G.Z h27 li "java/util/ArrayList" "size" "I" (.int (1 : Int32)) := Fld.same W28 c25
  have c35 := (Exa.wr W28 (Exa.wr W23 e17))
  have c36 := (Arv.other A24 W28 (Exa.neArv c26 A24 (H.w 32 rfl)).symm)
  have c37 := (Ra.keep (Ra.keep (Ra.keep R0 K10 (ninS (Exa.ne (Ra.exa R0) e1 (by decide)) nin0)) (Keep.of_wr W23) (ninS (Exa.ne c21 e17 (by decide)) nin0)) (Keep.of_wr W28) (ninS (Exa.ne (Exa.wr W23 c21) c26 (by decide)) nin0))
  refine go_return K (k := 16) rfl rfl rfl rfl ?_
  intro Sf hSf
  exact ⟨t8, k9, rfl, ((((Keep.refl _ [li]).trans K10 (allS (Or.inl (List.mem_cons_self ..)) all0)).wr W23 (Or.inr (f20))).wr W28 (Or.inl (List.mem_cons_self ..))), f20, ⟨F31, ⟨_, F32⟩, F33, F34, c35, o18, ⟨by omega, by omega⟩, ⟨g6, g19⟩, ⟨_, (set_last (k := 0) (by simp) (by decide)).1, (set_last (k := 0) (by simp) (by decide)).2, c36⟩, c37⟩⟩
set_option maxRecDepth 65536 in
set_option maxHeartbeats 40000000 in
theorem c_ad3K {G : Gb} (H : Gl tables_1 els G) {h : Heap} {li t r : Addr} {kA : ClassId} {k : Nat} {b f n : Int32} {ini : Value} (L0 : Alk G h li t r kA k b f n ini) (hk : k < 10) {x : Addr} {bx fx nx : Int32} {ix : Value} (R0 : Ra G h x bx fx nx ix) :
    Ctr G [] (⟨"java/util/ArrayList", "add", "(Ljava/lang/Object;[Ljava/lang/Object;I)V"⟩ : MethodName) jdk_38_method_24_code 4 none ({ frames := 3, cells := 1, slots := 10, locals := 41 } : Room) #[.ref li, .ref x, .ref t, .int k.toInt32] h [] (fun v h' Sf => v = none ∧ Keep h h' [li, t] ∧ Alk G h' li t x kA (k + 1) bx fx nx ix) := by
  refine ctr_of M_ad3 rfl rfl (plainFor_of_name pn_7) L_ad3 H.el (Ls := #[.val (.ref li), .val (.ref x), .val (.ref t), .val (.int k.toInt32)]) (fun m => ef_ok (by show argsToLocals _ 4 = _; first | (simp [argsToLocals, Value.category]; done) | rfl)) ?_
  intro B K hE
  obtain ⟨e1, ⟨mc2, f3⟩, f4, f5, e6, o7, ⟨k1, k2⟩, ⟨g8, g9⟩, ⟨vs, l1, l2, A10⟩, R11⟩ := id L0
  refine go_run K 0 2 (pc' := 2) (st' := [(.ref t), (.int k.toInt32)]) rfl ?_
  refine go_arraylength K (k := 2) rfl A10 ?_
  refine go_icmpne K (k := 3) rfl (pc' := 11) (by decide) (fun _ => ?_) (fun q => absurd q (fun e => absurd (len_inj (m := 10) (by omega) (by omega) e) (by omega)))
  refine go_run K 7 3 (pc' := 14) (st' := [(.ref x), (.int k.toInt32), (.ref t)]) rfl ?_
  refine go_aastore K (k := 10) rfl A10 o7 (Ins.of_exa (Ra.exa R0) (H.w 294 rfl)) ⟨len_nn (by omega), len_lt (n := 10) (by omega) hk⟩ (i := k) (len_nat (by omega)) (by omega) g9 ?_
  intro h12 W13 A14
  refine go_run K 11 4 (pc' := 19) (st' := [(.int (k.toInt32 + (1 : Int32))), (.ref li)]) rfl ?_
  rw [show k.toInt32 + (1 : Int32) = (k + 1).toInt32 from add_len k 1]
  have c15 := (Fld.other W13 f5 (Or.inl (Exa.ne e1 e6 (by decide))))
  have c16 := (Exa.wr W13 e1)
  refine go_putfield K (k := 15) rfl (host := "") (Or.inl (H.w 246 rfl)) Via.refl c15 c16 (Or.inl (H.w 247 rfl)) (H.w 32 rfl) (ty := .int) (by decide) rfl rfl g8 (Or.inr (by decide)) ?_
  intro h17 W18
  have c19 := (Fld.other W13 f3 (Or.inl (Exa.ne e1 e6 (by decide))))
  have c20 := (Fld.other W13 f4 (Or.inl (Exa.ne e1 e6 (by decide))))
  have F21 : Exa G.Z h17 li "java/util/ArrayList" := Exa.wr W18 c16
  have F22 : Fld G.Z h17 li "java/util/AbstractList" "modCount" "I" (.int mc2) := Fld.other W18 c19 (Or.inr (slot_ne (Or.inl (H.w 51 rfl)) (Or.inl (H.w 247 rfl)) (by decide) (t := .int) (t' := .int) (by decide) (by decide)))
  have F23 : Fld G.Z h17 li "java/util/ArrayList" "elementData" "[Ljava/lang/Object;" (.ref t) := Fld.other W18 c20 (Or.inr (slot_ne (Or.inl (H.w 54 rfl)) (Or.inl (H.w 247 rfl)) (by decide) (t := (.array (.object "java/lang/Object"))) (t' := .int) (by decide) (by decide)))
  have F24 : Fld G.Z h17 li "java/util/ArrayList" "size" "I" (.int (k + 1).toInt32) := Fld.same W18 c15
  have c25 := (Exa.wr W18 (Exa.wr W13 e6))
  have c26 := (Arv.other A14 W18 (Exa.neArv c16 A14 (H.w 32 rfl)).symm)
  have c27 := (Ra.keep (Ra.keep R0 (Keep.of_wr W13) (ninS (Exa.ne (Ra.exa R0) e6 (by decide)) nin0)) (Keep.of_wr W18) (ninS (Exa.ne (Exa.wr W13 (Ra.exa R0)) c16 (by decide)) nin0))
  refine go_return K (k := 16) rfl rfl rfl rfl ?_
  intro Sf hSf
  exact ⟨rfl, (((Keep.refl _ [li, t]).wr W13 (Or.inl (List.mem_cons_of_mem _ (List.mem_cons_self ..)))).wr W18 (Or.inl (List.mem_cons_self ..))), ⟨F21, ⟨_, F22⟩, F23, F24, c25, o7, ⟨by omega, by omega⟩, ⟨g8, g9⟩, ⟨_, (set_last l1 hk).1, (set_last l1 hk).2, c26⟩, c27⟩⟩
def P_ad1 : List (Nat × Instr × Nat) := [(0, .aload_n 0, 1), (1, .dup, 1), (2, .getfield 63, 3), (5, .iconst 1, 1), (6, .iadd, 1), (7, .putfield 63, 3), (10, .aload_n 0, 1), (11, .aload_n 1, 1), (12, .aload_n 0, 1), (13, .getfield 9, 3), (16, .aload_n 0, 1), (17, .getfield 48, 3), (20, .invokevirtual 131, 3), (23, .iconst 1, 1), (24, .ireturn, 1)]
theorem L_ad1 : ∀ q ∈ P_ad1, decode jdk_38_method_25_code q.1 = .ok q.2 := by decide +kernel
def M_ad1 : Mt := (("java/util/ArrayList", "add", ({ frames := 4, cells := 1, slots := 10, locals := 56 } : Room)), P_ad1, 2, (some .boolean))
set_option maxRecDepth 65536 in
set_option maxHeartbeats 40000000 in
theorem c_ad10 {G : Gb} (H : Gl tables_1 els G) {h : Heap} {li : Addr} {ed : Addr} {ke : ClassId} (sE : Sta G.Z G.Z.heap "java/util/ArrayList" "DEFAULTCAPACITY_EMPTY_ELEMENTDATA" "[Ljava/lang/Object;" (.ref ed)) (aE : Arv G.Z G.Z.heap ed ke (.object "java/lang/Object") (0 : Int32) [] .null) (L0 : Al0 G h li ed) {x : Addr} {bx fx nx : Int32} {ix : Value} (R0 : Ra G h x bx fx nx ix) :
    Ctr G [] (⟨"java/util/ArrayList", "add", "(Ljava/lang/Object;)Z"⟩ : MethodName) jdk_38_method_25_code 2 (some .boolean) ({ frames := 4, cells := 1, slots := 10, locals := 56 } : Room) #[.ref li, .ref x] h [] (fun v h' Sf => ∃ (t : Addr) (kA : ClassId), v = some (.int 1) ∧ Keep h h' [li] ∧ h.size ≤ t ∧ Alk G h' li t x kA 1 bx fx nx ix) := by
  refine ctr_of M_ad1 rfl rfl (plainFor_of_name pn_7) L_ad1 H.el (Ls := #[.val (.ref li), .val (.ref x)]) (fun m => ef_ok (by show argsToLocals _ 2 = _; first | (simp [argsToLocals, Value.category]; done) | rfl)) ?_
  intro B K hE
  obtain ⟨e1, ⟨mc2, f3⟩, f4, f5, g6⟩ := id L0
  refine go_run K 0 2 (pc' := 2) (st' := [(.ref li), (.ref li)]) rfl ?_
  refine go_getfield K (k := 2) rfl (host := "") (Or.inl (H.w 272 rfl)) (Via.of (H.w 273 rfl)) f3 ?_
  refine go_run K 3 2 (pc' := 7) (st' := [(.int (mc2 + (1 : Int32))), (.ref li)]) rfl ?_
  refine go_putfield K (k := 5) rfl (host := "") (Or.inl (H.w 272 rfl)) (Via.of (H.w 273 rfl)) f3 e1 (Or.inl (H.w 51 rfl)) (H.w 32 rfl) (ty := .int) (by decide) rfl rfl g6 (Or.inr (by decide)) ?_
  intro h7 W8
  have F9 : Exa G.Z h7 li "java/util/ArrayList" := Exa.wr W8 e1
  have F10 : Fld G.Z h7 li "java/util/AbstractList" "modCount" "I" (.int (mc2 + (1 : Int32))) := Fld.same W8 f3
  have F11 : Fld G.Z h7 li "java/util/ArrayList" "elementData" "[Ljava/lang/Object;" (.ref ed) := Fld.other W8 f4 (Or.inr (slot_ne (Or.inl (H.w 54 rfl)) (Or.inl (H.w 51 rfl)) (by decide) (t := (.array (.object "java/lang/Object"))) (t' := .int) (by decide) (by decide)))
  have F12 : Fld G.Z h7 li "java/util/ArrayList" "size" "I" (.int (0 : Int32)) := Fld.other W8 f5 (Or.inr (slot_ne (Or.inl (H.w 247 rfl)) (Or.inl (H.w 51 rfl)) (by decide) (t := .int) (t' := .int) (by decide) (by decide)))
  refine go_run K 6 3 (pc' := 13) (st' := [(.ref li), (.ref x), (.ref li)]) rfl ?_
  refine go_getfield K (k := 9) rfl (host := "") (Or.inl (H.w 53 rfl)) Via.refl F11 ?_
  refine go_run K 10 1 (pc' := 17) (st' := [(.ref li), (.ref ed), (.ref x), (.ref li)]) rfl ?_
  refine go_getfield K (k := 11) rfl (host := "") (Or.inl (H.w 246 rfl)) Via.refl F12 ?_
  have L13 : Al0 G h7 li ed := ⟨F9, ⟨_, F10⟩, F11, F12, g6⟩
  have c14 := (Ra.keep R0 (Keep.of_wr W8) (ninS (Exa.ne (Ra.exa R0) e1 (by decide)) nin0))
  refine go_virt0 K (k := 12) rfl (H.w 274 rfl) (H.w 277 rfl) (H.w 275 rfl) (H.w 33 rfl) (H.w 278 rfl) (by decide) pd_19 F9 (c_ad30 H sE aE L13 c14) (argsL := [(.ref x), (.ref ed), (.int (0 : Int32))]) (rest := []) rfl rfl rfl sub0 rfl ?_
  rintro _ h15 _ - ⟨t16, k17, rfl, K18, f19, L20⟩
  show Go G B M_ad1 _ h15 [] 1 10 23 #[.val (.ref li), .val (.ref x)] []
  refine go_run K 13 1 (pc' := 24) (st' := [(.int (1 : Int32))]) rfl ?_
  refine go_ireturn K (k := 14) rfl rfl (by decide) rfl rfl rfl ?_
  intro Sf hSf
  exact ⟨t16, k17, rfl, (((Keep.refl _ [li]).wr W8 (Or.inl (List.mem_cons_self ..))).trans K18 (allS (Or.inl (List.mem_cons_self ..)) all0)), Nat.le_trans (Nat.le_of_eq (W8).size.symm) f19, L20⟩
set_option maxRecDepth 65536 in
set_option maxHeartbeats 40000000 in
theorem c_ad1K {G : Gb} (H : Gl tables_1 els G) {h : Heap} {li t r : Addr} {kA : ClassId} {k : Nat} {b f n : Int32} {ini : Value} (L0 : Alk G h li t r kA k b f n ini) (hk : k < 10) {x : Addr} {bx fx nx : Int32} {ix : Value} (R0 : Ra G h x bx fx nx ix) :
    Ctr G [] (⟨"java/util/ArrayList", "add", "(Ljava/lang/Object;)Z"⟩ : MethodName) jdk_38_method_25_code 2 (some .boolean) ({ frames := 4, cells := 1, slots := 10, locals := 56 } : Room) #[.ref li, .ref x] h [] (fun v h' Sf => v = some (.int 1) ∧ Keep h h' [li, t] ∧ Alk G h' li t x kA (k + 1) bx fx nx ix) := by
  refine ctr_of M_ad1 rfl rfl (plainFor_of_name pn_7) L_ad1 H.el (Ls := #[.val (.ref li), .val (.ref x)]) (fun m => ef_ok (by show argsToLocals _ 2 = _; first | (simp [argsToLocals, Value.category]; done) | rfl)) ?_
  intro B K hE
  obtain ⟨e1, ⟨mc2, f3⟩, f4, f5, e6, o7, ⟨k1, k2⟩, ⟨g8, g9⟩, ⟨vs, l1, l2, A10⟩, R11⟩ := id L0
  refine go_run K 0 2 (pc' := 2) (st' := [(.ref li), (.ref li)]) rfl ?_
  refine go_getfield K (k := 2) rfl (host := "") (Or.inl (H.w 272 rfl)) (Via.of (H.w 273 rfl)) f3 ?_
  refine go_run K 3 2 (pc' := 7) (st' := [(.int (mc2 + (1 : Int32))), (.ref li)]) rfl ?_
  refine go_putfield K (k := 5) rfl (host := "") (Or.inl (H.w 272 rfl)) (Via.of (H.w 273 rfl)) f3 e1 (Or.inl (H.w 51 rfl)) (H.w 32 rfl) (ty := .int) (by decide) rfl rfl g8 (Or.inr (by decide)) ?_
  intro h12 W13
  have F14 : Exa G.Z h12 li "java/util/ArrayList" := Exa.wr W13 e1
  have F15 : Fld G.Z h12 li "java/util/AbstractList" "modCount" "I" (.int (mc2 + (1 : Int32))) := Fld.same W13 f3
  have F16 : Fld G.Z h12 li "java/util/ArrayList" "elementData" "[Ljava/lang/Object;" (.ref t) := Fld.other W13 f4 (Or.inr (slot_ne (Or.inl (H.w 54 rfl)) (Or.inl (H.w 51 rfl)) (by decide) (t := (.array (.object "java/lang/Object"))) (t' := .int) (by decide) (by decide)))
  have F17 : Fld G.Z h12 li "java/util/ArrayList" "size" "I" (.int k.toInt32) := Fld.other W13 f5 (Or.inr (slot_ne (Or.inl (H.w 247 rfl)) (Or.inl (H.w 51 rfl)) (by decide) (t := .int) (t' := .int) (by decide) (by decide)))
  refine go_run K 6 3 (pc' := 13) (st' := [(.ref li), (.ref x), (.ref li)]) rfl ?_
  refine go_getfield K (k := 9) rfl (host := "") (Or.inl (H.w 53 rfl)) Via.refl F16 ?_
  refine go_run K 10 1 (pc' := 17) (st' := [(.ref li), (.ref t), (.ref x), (.ref li)]) rfl ?_
  refine go_getfield K (k := 11) rfl (host := "") (Or.inl (H.w 246 rfl)) Via.refl F17 ?_
  have c19 := (Exa.wr W13 e6)
  have c20 := (Arv.other A10 W13 (Exa.neArv e1 A10 (H.w 32 rfl)).symm)
  have c21 := (Ra.keep R11 (Keep.of_wr W13) (ninS (Exa.ne (Ra.exa R11) e1 (by decide)) nin0))
  have L18 : Alk G h12 li t r kA k b f n ini := ⟨F14, ⟨_, F15⟩, F16, F17, c19, o7, ⟨k1, k2⟩, ⟨g8, g9⟩, ⟨vs, l1, l2, c20⟩, c21⟩
  have c22 := (Ra.keep R0 (Keep.of_wr W13) (ninS (Exa.ne (Ra.exa R0) e1 (by decide)) nin0))
  refine go_virt0 K (k := 12) rfl (H.w 274 rfl) (H.w 277 rfl) (H.w 275 rfl) (H.w 33 rfl) (H.w 278 rfl) (by decide) pd_19 F14 (c_ad3K H L18 hk c22) (argsL := [(.ref x), (.ref t), (.int k.toInt32)]) (rest := []) rfl rfl rfl sub0 rfl ?_
  rintro _ h23 _ - ⟨rfl, K24, L25⟩
  show Go G B M_ad1 _ h23 [] 1 10 23 #[.val (.ref li), .val (.ref x)] []
  refine go_run K 13 1 (pc' := 24) (st' := [(.int (1 : Int32))]) rfl ?_
  refine go_ireturn K (k := 14) rfl rfl (by decide) rfl rfl rfl ?_
  intro Sf hSf
  exact ⟨rfl, (((Keep.refl _ [li, t]).wr W13 (Or.inl (List.mem_cons_self ..))).trans K24 (allS (Or.inl (List.mem_cons_self ..)) (allS (Or.inl (List.mem_cons_of_mem _ (List.mem_cons_self ..))) all0))), L25⟩
theorem pn_11 : plainName "com/example/foyer/foyer/Layout" = true := by first | (simp [plainName, overriddenIn]; done) | decide +kernel
def P_lsz : List (Nat × Instr × Nat) := [(0, .iconst 0, 1), (1, .istore_n 1, 1), (2, .aload_n 0, 1), (3, .getfield 17, 3), (6, .invokeinterface 111 1, 5), (11, .ifCond .ne 37, 3), (14, .aload_n 0, 1), (15, .getfield 17, 3), (18, .aload_n 0, 1), (19, .getfield 17, 3), (22, .invokeinterface 114 1, 5), (27, .iconst 1, 1), (28, .isub, 1), (29, .invokeinterface 115 2, 5), (34, .checkcast 45, 3), (37, .astore_n 2, 1), (38, .aload_n 2, 1), (39, .getfield 79, 3), (42, .aload_n 2, 1), (43, .getfield 75, 3), (46, .iadd, 1), (47, .istore_n 1, 1), (48, .iload_n 1, 1), (49, .ireturn, 1)]
theorem L_lsz : ∀ q ∈ P_lsz, decode prog_33_method_9_code q.1 = .ok q.2 := by decide +kernel
def M_lsz : Mt := (("com/example/foyer/foyer/Layout", "size", ({ frames := 3, cells := 0, slots := 0, locals := 40 } : Room)), P_lsz, 3, (some .int))
set_option maxRecDepth 65536 in
set_option maxHeartbeats 40000000 in
theorem c_lsz0 {G : Gb} (H : Gl tables_1 els G) {h : Heap} {li : Addr} {ed : Addr} (L0 : Al0 G h li ed) {la pr : Addr} {ps : List Int32} (Y0 : Ly G h la li pr ps) :
    Ctr G [] (⟨"com/example/foyer/foyer/Layout", "size", "()I"⟩ : MethodName) prog_33_method_9_code 3 (some .int) ({ frames := 3, cells := 0, slots := 0, locals := 40 } : Room) #[.ref la] h [] (fun v h' Sf => v = some (.int 0) ∧ h = h') := by
  refine ctr_of M_lsz rfl rfl (plainFor_of_name pn_11) L_lsz H.el (Ls := #[.val (.ref la), .unset, .unset]) (fun m => ef_ok (by show argsToLocals _ 3 = _; first | (simp [argsToLocals, Value.category]; done) | rfl)) ?_
  intro B K hE
  obtain ⟨e1, f2, f3, s4⟩ := id Y0
  obtain ⟨e5, ⟨mc6, f7⟩, f8, f9, g10⟩ := id L0
  refine go_run K 0 3 (pc' := 3) (Ls' := #[.val (.ref la), .val (.int (0 : Int32)), .unset]) (st' := [(.ref la)]) rfl ?_
  refine go_getfield K (k := 3) rfl (host := "") (Or.inl (H.w 67 rfl)) Via.refl f2 ?_
  refine go_interface K (k := 4) rfl (H.w 237 rfl) (H.w 238 rfl) (H.w 239 rfl) (H.w 240 rfl) (H.w 241 rfl) (H.w 242 rfl) (H.w 243 rfl) (H.w 244 rfl) (H.w 33 rfl) (H.w 245 rfl) rfl (by decide) pd_11 e5 (c_ise0 H f9) (argsL := []) (rest := []) rfl rfl rfl sub0 rfl ?_
  rintro _ _ _ - ⟨rfl, rfl⟩
  show Go G B M_lsz _ h [] 0 0 11 #[.val (.ref la), .val (.int (0 : Int32)), .unset] [(.int (1 : Int32))]
  refine go_ifne K (k := 5) rfl (pc' := 48) (by decide) (fun _ => ?_) (fun q => absurd q (by decide))
  refine go_run K 22 1 (pc' := 49) (st' := [(.int (0 : Int32))]) rfl ?_
  refine go_ireturn K (k := 23) rfl rfl (by decide) rfl rfl rfl ?_
  intro Sf hSf
  exact ⟨rfl, rfl⟩
set_option maxRecDepth 65536 in
set_option maxHeartbeats 40000000 in
theorem c_lszK {G : Gb} (H : Gl tables_1 els G) {h : Heap} {li t r : Addr} {kA : ClassId} {k : Nat} {b f n : Int32} {ini : Value} (L0 : Alk G h li t r kA k b f n ini) {la pr : Addr} {ps : List Int32} (Y0 : Ly G h la li pr ps) :
    Ctr G [] (⟨"com/example/foyer/foyer/Layout", "size", "()I"⟩ : MethodName) prog_33_method_9_code 3 (some .int) ({ frames := 3, cells := 0, slots := 0, locals := 40 } : Room) #[.ref la] h [] (fun v h' Sf => v = some (.int (b + n)) ∧ h = h') := by
  refine ctr_of M_lsz rfl rfl (plainFor_of_name pn_11) L_lsz H.el (Ls := #[.val (.ref la), .unset, .unset]) (fun m => ef_ok (by show argsToLocals _ 3 = _; first | (simp [argsToLocals, Value.category]; done) | rfl)) ?_
  intro B K hE
  obtain ⟨e1, f2, f3, s4⟩ := id Y0
  obtain ⟨e5, ⟨mc6, f7⟩, f8, f9, e10, o11, ⟨k1, k2⟩, ⟨g12, g13⟩, ⟨vs, l1, l2, A14⟩, R15⟩ := id L0
  refine go_run K 0 3 (pc' := 3) (Ls' := #[.val (.ref la), .val (.int (0 : Int32)), .unset]) (st' := [(.ref la)]) rfl ?_
  refine go_getfield K (k := 3) rfl (host := "") (Or.inl (H.w 67 rfl)) Via.refl f2 ?_
  refine go_interface K (k := 4) rfl (H.w 237 rfl) (H.w 238 rfl) (H.w 239 rfl) (H.w 240 rfl) (H.w 241 rfl) (H.w 242 rfl) (H.w 243 rfl) (H.w 244 rfl) (H.w 33 rfl) (H.w 245 rfl) rfl (by decide) pd_11 e5 (c_iseK H k1 k2 f9) (argsL := []) (rest := []) rfl rfl rfl sub0 rfl ?_
  rintro _ _ _ - ⟨rfl, rfl⟩
  show Go G B M_lsz _ h [] 0 0 11 #[.val (.ref la), .val (.int (0 : Int32)), .unset] [(.int (0 : Int32))]
  refine go_ifne K (k := 5) rfl (pc' := 48) (by decide) (fun q => absurd rfl q) (fun _ => ?_)
  refine go_run K 6 1 (pc' := 15) (st' := [(.ref la)]) rfl ?_
  refine go_getfield K (k := 7) rfl (host := "") (Or.inl (H.w 67 rfl)) Via.refl f2 ?_
  refine go_run K 8 1 (pc' := 19) (st' := [(.ref la), (.ref li)]) rfl ?_
  refine go_getfield K (k := 9) rfl (host := "") (Or.inl (H.w 67 rfl)) Via.refl f2 ?_
  refine go_interface K (k := 10) rfl (H.w 319 rfl) (H.w 320 rfl) (H.w 321 rfl) (H.w 322 rfl) (H.w 323 rfl) (H.w 324 rfl) (H.w 325 rfl) (H.w 244 rfl) (H.w 33 rfl) (H.w 326 rfl) rfl (by decide) pd_6 e5 (c_als H f9) (argsL := []) (rest := [(.ref li)]) rfl rfl rfl sub0 rfl ?_
  rintro _ _ _ - ⟨rfl, rfl⟩
  show Go G B M_lsz _ h [] 0 0 27 #[.val (.ref la), .val (.int (0 : Int32)), .unset] [(.int k.toInt32), (.ref li)]
  refine go_run K 11 2 (pc' := 29) (st' := [(.int (k.toInt32 - (1 : Int32))), (.ref li)]) rfl ?_
  rw [show k.toInt32 - (1 : Int32) = (k - 1).toInt32 from sub_len k1]
  refine go_interface K (k := 13) rfl (H.w 327 rfl) (H.w 328 rfl) (H.w 329 rfl) (H.w 330 rfl) (H.w 331 rfl) (H.w 332 rfl) (H.w 333 rfl) (H.w 244 rfl) (H.w 33 rfl) (H.w 334 rfl) rfl (by decide) pd_16 e5 (c_alg (r := r) H f8 A14 ⟨len_nn (by omega), len_lt (n := 10) (by omega) (by omega)⟩ (by rw [len_nat (by omega)]; exact l2) f9 (len_lt (by omega) (by omega)) e5) (argsL := [(.int (k - 1).toInt32)]) (rest := []) rfl rfl rfl sub0 rfl ?_
  rintro _ _ _ - ⟨rfl, rfl⟩
  show Go G B M_lsz _ h [] 0 0 34 #[.val (.ref la), .val (.int (0 : Int32)), .unset] [(.ref r)]
  obtain ⟨f16, f17, f18, f19, f20⟩ := id R15
  refine go_cast K (k := 14) rfl (H.w 115 rfl) (Ins.self f16) ?_
  refine go_run K 15 2 (pc' := 39) (Ls' := #[.val (.ref la), .val (.int (0 : Int32)), .val (.ref r)]) (st' := [(.ref r)]) rfl ?_
  refine go_getfieldR K (k := 17) rfl (H.w 349 rfl) f17 ?_
  refine go_run K 18 1 (pc' := 43) (st' := [(.ref r), (.int b)]) rfl ?_
  refine go_getfieldR K (k := 19) rfl (H.w 350 rfl) f19 ?_
  refine go_run K 20 3 (pc' := 49) (Ls' := #[.val (.ref la), .val (.int (b + n)), .val (.ref r)]) (st' := [(.int (b + n))]) rfl ?_
  refine go_ireturn K (k := 23) rfl rfl (by decide) rfl rfl rfl ?_
  intro Sf hSf
  exact ⟨rfl, rfl⟩
theorem pn_12 : plainName "com/example/foyer/foyer/Layout$RegisterArray" = true := by first | (simp [plainName, overriddenIn]; done) | decide +kernel
def P_rai : List (Nat × Instr × Nat) := [(0, .aload_n 0, 1), (1, .invokespecial 1, 3), (4, .aload_n 0, 1), (5, .aload_n 1, 1), (6, .putfield 7, 3), (9, .aload_n 0, 1), (10, .iload_n 2, 1), (11, .putfield 13, 3), (14, .aload_n 0, 1), (15, .iload_n 3, 1), (16, .putfield 17, 3), (19, .aload_n 0, 1), (20, .iload 4, 2), (22, .putfield 20, 3), (25, .aload_n 0, 1), (26, .aload 5, 2), (28, .putfield 23, 3), (31, .aload_n 0, 1), (32, .iload 6, 2), (34, .putfield 27, 3), (37, .return_, 1)]
theorem L_rai : ∀ q ∈ P_rai, decode prog_34_method_1_code q.1 = .ok q.2 := by decide +kernel
def M_rai : Mt := (("com/example/foyer/foyer/Layout$RegisterArray", "<init>", ({ frames := 1, cells := 0, slots := 0, locals := 12 } : Room)), P_rai, 7, none)
set_option maxRecDepth 65536 in
set_option maxHeartbeats 40000000 in
theorem c_rai {G : Gb} (H : Gl tables_1 els G) {h : Heap} {a : Addr} {r0 : Addr} {p1 : Int32} {p2 : Int32} {p3 : Int32} {r4 : Addr} {p5 : Int32} (E0 : Exa G.Z h a "com/example/foyer/foyer/Layout$RegisterArray") (f0 : Fld G.Z h a "com/example/foyer/foyer/Layout$RegisterArray" "name" "Ljava/lang/String;" .null) (f1 : Fld G.Z h a "com/example/foyer/foyer/Layout$RegisterArray" "base" "I" (.int (0 : Int32))) (f2 : Fld G.Z h a "com/example/foyer/foyer/Layout$RegisterArray" "first" "I" (.int (0 : Int32))) (f3 : Fld G.Z h a "com/example/foyer/foyer/Layout$RegisterArray" "length" "I" (.int (0 : Int32))) (f4 : Fld G.Z h a "com/example/foyer/foyer/Layout$RegisterArray" "initial" "Ljava/util/function/IntUnaryOperator;" .null) (f5 : Fld G.Z h a "com/example/foyer/foyer/Layout$RegisterArray" "indexed" "Z" (.int (0 : Int32))) (g0 : G.Z.heap.size ≤ a) (b5 : p5 = 0 ∨ p5 = 1) :
    Ctr G [] (⟨"com/example/foyer/foyer/Layout$RegisterArray", "<init>", "(Ljava/lang/String;IIILjava/util/function/IntUnaryOperator;Z)V"⟩ : MethodName) prog_34_method_1_code 7 none ({ frames := 1, cells := 0, slots := 0, locals := 12 } : Room) #[.ref a, .ref r0, .int p1, .int p2, .int p3, .ref r4, .int p5] h [] (fun v h' Sf => v = none ∧ Keep h h' [a] ∧ Exa G.Z h' a "com/example/foyer/foyer/Layout$RegisterArray" ∧ Fld G.Z h' a "com/example/foyer/foyer/Layout$RegisterArray" "name" "Ljava/lang/String;" (.ref r0) ∧ Fld G.Z h' a "com/example/foyer/foyer/Layout$RegisterArray" "base" "I" (.int p1) ∧ Fld G.Z h' a "com/example/foyer/foyer/Layout$RegisterArray" "first" "I" (.int p2) ∧ Fld G.Z h' a "com/example/foyer/foyer/Layout$RegisterArray" "length" "I" (.int p3) ∧ Fld G.Z h' a "com/example/foyer/foyer/Layout$RegisterArray" "initial" "Ljava/util/function/IntUnaryOperator;" (.ref r4) ∧ Fld G.Z h' a "com/example/foyer/foyer/Layout$RegisterArray" "indexed" "Z" (.int p5)) := by
  refine ctr_of M_rai rfl rfl (plainFor_of_name pn_12) L_rai H.el (Ls := #[.val (.ref a), .val (.ref r0), .val (.int p1), .val (.int p2), .val (.int p3), .val (.ref r4), .val (.int p5)]) (fun m => ef_ok (by show argsToLocals _ 7 = _; first | (simp [argsToLocals, Value.category]; done) | rfl)) ?_
  intro B K hE
  refine go_run K 0 1 (pc' := 1) (st' := [(.ref a)]) rfl ?_
  refine go_init0 K (k := 1) rfl (H.w 251 rfl) (H.w 11 rfl) (H.w 12 rfl) rfl rfl rfl ?_
  refine go_run K 2 2 (pc' := 6) (st' := [(.ref r0), (.ref a)]) rfl ?_
  refine go_putfield K (k := 4) rfl (host := "") (Or.inl (H.w 252 rfl)) Via.refl f0 E0 (Or.inr ⟨(H.w 253 rfl), rfl, rfl⟩) (H.w 116 rfl) (ty := (.object "java/lang/String")) (by decide) rfl rfl g0 (Or.inr (by decide)) ?_
  intro h1 W2
  have F3 : Exa G.Z h1 a "com/example/foyer/foyer/Layout$RegisterArray" := Exa.wr W2 E0
  have F4 : Fld G.Z h1 a "com/example/foyer/foyer/Layout$RegisterArray" "name" "Ljava/lang/String;" (.ref r0) := Fld.same W2 f0
  have F5 : Fld G.Z h1 a "com/example/foyer/foyer/Layout$RegisterArray" "base" "I" (.int (0 : Int32)) := Fld.other W2 f1 (Or.inr (slot_ne (Or.inr (H.w 255 rfl)) (Or.inr (H.w 253 rfl)) (by decide) (t := .int) (t' := (.object "java/lang/String")) (by decide) (by decide)))
  have F6 : Fld G.Z h1 a "com/example/foyer/foyer/Layout$RegisterArray" "first" "I" (.int (0 : Int32)) := Fld.other W2 f2 (Or.inr (slot_ne (Or.inr (H.w 257 rfl)) (Or.inr (H.w 253 rfl)) (by decide) (t := .int) (t' := (.object "java/lang/String")) (by decide) (by decide)))
  have F7 : Fld G.Z h1 a "com/example/foyer/foyer/Layout$RegisterArray" "length" "I" (.int (0 : Int32)) := Fld.other W2 f3 (Or.inr (slot_ne (Or.inr (H.w 259 rfl)) (Or.inr (H.w 253 rfl)) (by decide) (t := .int) (t' := (.object "java/lang/String")) (by decide) (by decide)))
  have F8 : Fld G.Z h1 a "com/example/foyer/foyer/Layout$RegisterArray" "initial" "Ljava/util/function/IntUnaryOperator;" .null := Fld.other W2 f4 (Or.inr (slot_ne (Or.inr (H.w 261 rfl)) (Or.inr (H.w 253 rfl)) (by decide) (t := (.object "java/util/function/IntUnaryOperator")) (t' := (.object "java/lang/String")) (by decide) (by decide)))
  have F9 : Fld G.Z h1 a "com/example/foyer/foyer/Layout$RegisterArray" "indexed" "Z" (.int (0 : Int32)) := Fld.other W2 f5 (Or.inr (slot_ne (Or.inr (H.w 263 rfl)) (Or.inr (H.w 253 rfl)) (by decide) (t := .boolean) (t' := (.object "java/lang/String")) (by decide) (by decide)))
  refine go_run K 5 2 (pc' := 11) (st' := [(.int p1), (.ref a)]) rfl ?_
  refine go_putfield K (k := 7) rfl (host := "") (Or.inl (H.w 254 rfl)) Via.refl F5 F3 (Or.inr ⟨(H.w 255 rfl), rfl, rfl⟩) (H.w 116 rfl) (ty := .int) (by decide) rfl rfl g0 (Or.inr (by decide)) ?_
  intro h10 W11
  have F12 : Exa G.Z h10 a "com/example/foyer/foyer/Layout$RegisterArray" := Exa.wr W11 F3
  have F13 : Fld G.Z h10 a "com/example/foyer/foyer/Layout$RegisterArray" "name" "Ljava/lang/String;" (.ref r0) := Fld.other W11 F4 (Or.inr (slot_ne (Or.inr (H.w 253 rfl)) (Or.inr (H.w 255 rfl)) (by decide) (t := (.object "java/lang/String")) (t' := .int) (by decide) (by decide)))
  have F14 : Fld G.Z h10 a "com/example/foyer/foyer/Layout$RegisterArray" "base" "I" (.int p1) := Fld.same W11 F5
  have F15 : Fld G.Z h10 a "com/example/foyer/foyer/Layout$RegisterArray" "first" "I" (.int (0 : Int32)) := Fld.other W11 F6 (Or.inr (slot_ne (Or.inr (H.w 257 rfl)) (Or.inr (H.w 255 rfl)) (by decide) (t := .int) (t' := .int) (by decide) (by decide)))
  have F16 : Fld G.Z h10 a "com/example/foyer/foyer/Layout$RegisterArray" "length" "I" (.int (0 : Int32)) := Fld.other W11 F7 (Or.inr (slot_ne (Or.inr (H.w 259 rfl)) (Or.inr (H.w 255 rfl)) (by decide) (t := .int) (t' := .int) (by decide) (by decide)))
  have F17 : Fld G.Z h10 a "com/example/foyer/foyer/Layout$RegisterArray" "initial" "Ljava/util/function/IntUnaryOperator;" .null := Fld.other W11 F8 (Or.inr (slot_ne (Or.inr (H.w 261 rfl)) (Or.inr (H.w 255 rfl)) (by decide) (t := (.object "java/util/function/IntUnaryOperator")) (t' := .int) (by decide) (by decide)))
  have F18 : Fld G.Z h10 a "com/example/foyer/foyer/Layout$RegisterArray" "indexed" "Z" (.int (0 : Int32)) := Fld.other W11 F9 (Or.inr (slot_ne (Or.inr (H.w 263 rfl)) (Or.inr (H.w 255 rfl)) (by decide) (t := .boolean) (t' := .int) (by decide) (by decide)))
  refine go_run K 8 2 (pc' := 16) (st' := [(.int p2), (.ref a)]) rfl ?_
  refine go_putfield K (k := 10) rfl (host := "") (Or.inl (H.w 256 rfl)) Via.refl F15 F12 (Or.inr ⟨(H.w 257 rfl), rfl, rfl⟩) (H.w 116 rfl) (ty := .int) (by decide) rfl rfl g0 (Or.inr (by decide)) ?_
  intro h19 W20
  have F21 : Exa G.Z h19 a "com/example/foyer/foyer/Layout$RegisterArray" := Exa.wr W20 F12
  have F22 : Fld G.Z h19 a "com/example/foyer/foyer/Layout$RegisterArray" "name" "Ljava/lang/String;" (.ref r0) := Fld.other W20 F13 (Or.inr (slot_ne (Or.inr (H.w 253 rfl)) (Or.inr (H.w 257 rfl)) (by decide) (t := (.object "java/lang/String")) (t' := .int) (by decide) (by decide)))
  have F23 : Fld G.Z h19 a "com/example/foyer/foyer/Layout$RegisterArray" "base" "I" (.int p1) := Fld.other W20 F14 (Or.inr (slot_ne (Or.inr (H.w 255 rfl)) (Or.inr (H.w 257 rfl)) (by decide) (t := .int) (t' := .int) (by decide) (by decide)))
  have F24 : Fld G.Z h19 a "com/example/foyer/foyer/Layout$RegisterArray" "first" "I" (.int p2) := Fld.same W20 F15
  have F25 : Fld G.Z h19 a "com/example/foyer/foyer/Layout$RegisterArray" "length" "I" (.int (0 : Int32)) := Fld.other W20 F16 (Or.inr (slot_ne (Or.inr (H.w 259 rfl)) (Or.inr (H.w 257 rfl)) (by decide) (t := .int) (t' := .int) (by decide) (by decide)))
  have F26 : Fld G.Z h19 a "com/example/foyer/foyer/Layout$RegisterArray" "initial" "Ljava/util/function/IntUnaryOperator;" .null := Fld.other W20 F17 (Or.inr (slot_ne (Or.inr (H.w 261 rfl)) (Or.inr (H.w 257 rfl)) (by decide) (t := (.object "java/util/function/IntUnaryOperator")) (t' := .int) (by decide) (by decide)))
  have F27 : Fld G.Z h19 a "com/example/foyer/foyer/Layout$RegisterArray" "indexed" "Z" (.int (0 : Int32)) := Fld.other W20 F18 (Or.inr (slot_ne (Or.inr (H.w 263 rfl)) (Or.inr (H.w 257 rfl)) (by decide) (t := .boolean) (t' := .int) (by decide) (by decide)))
  refine go_run K 11 2 (pc' := 22) (st' := [(.int p3), (.ref a)]) rfl ?_
  refine go_putfield K (k := 13) rfl (host := "") (Or.inl (H.w 258 rfl)) Via.refl F25 F21 (Or.inr ⟨(H.w 259 rfl), rfl, rfl⟩) (H.w 116 rfl) (ty := .int) (by decide) rfl rfl g0 (Or.inr (by decide)) ?_
  intro h28 W29
  have F30 : Exa G.Z h28 a "com/example/foyer/foyer/Layout$RegisterArray" := Exa.wr W29 F21
  have F31 : Fld G.Z h28 a "com/example/foyer/foyer/Layout$RegisterArray" "name" "Ljava/lang/String;" (.ref r0) := Fld.other W29 F22 (Or.inr (slot_ne (Or.inr (H.w 253 rfl)) (Or.inr (H.w 259 rfl)) (by decide) (t := (.object "java/lang/String")) (t' := .int) (by decide) (by decide)))
  have F32 : Fld G.Z h28 a "com/example/foyer/foyer/Layout$RegisterArray" "base" "I" (.int p1) := Fld.other W29 F23 (Or.inr (slot_ne (Or.inr (H.w 255 rfl)) (Or.inr (H.w 259 rfl)) (by decide) (t := .int) (t' := .int) (by decide) (by decide)))
  have F33 : Fld G.Z h28 a "com/example/foyer/foyer/Layout$RegisterArray" "first" "I" (.int p2) := Fld.other W29 F24 (Or.inr (slot_ne (Or.inr (H.w 257 rfl)) (Or.inr (H.w 259 rfl)) (by decide) (t := .int) (t' := .int) (by decide) (by decide)))
  have F34 : Fld G.Z h28 a "com/example/foyer/foyer/Layout$RegisterArray" "length" "I" (.int p3) := Fld.same W29 F25
  have F35 : Fld G.Z h28 a "com/example/foyer/foyer/Layout$RegisterArray" "initial" "Ljava/util/function/IntUnaryOperator;" .null := Fld.other W29 F26 (Or.inr (slot_ne (Or.inr (H.w 261 rfl)) (Or.inr (H.w 259 rfl)) (by decide) (t := (.object "java/util/function/IntUnaryOperator")) (t' := .int) (by decide) (by decide)))
  have F36 : Fld G.Z h28 a "com/example/foyer/foyer/Layout$RegisterArray" "indexed" "Z" (.int (0 : Int32)) := Fld.other W29 F27 (Or.inr (slot_ne (Or.inr (H.w 263 rfl)) (Or.inr (H.w 259 rfl)) (by decide) (t := .boolean) (t' := .int) (by decide) (by decide)))
  refine go_run K 14 2 (pc' := 28) (st' := [(.ref r4), (.ref a)]) rfl ?_
  refine go_putfield K (k := 16) rfl (host := "") (Or.inl (H.w 260 rfl)) Via.refl F35 F30 (Or.inr ⟨(H.w 261 rfl), rfl, rfl⟩) (H.w 116 rfl) (ty := (.object "java/util/function/IntUnaryOperator")) (by decide) rfl rfl g0 (Or.inr (by decide)) ?_
  intro h37 W38
  have F39 : Exa G.Z h37 a "com/example/foyer/foyer/Layout$RegisterArray" := Exa.wr W38 F30
  have F40 : Fld G.Z h37 a "com/example/foyer/foyer/Layout$RegisterArray" "name" "Ljava/lang/String;" (.ref r0) := Fld.other W38 F31 (Or.inr (slot_ne (Or.inr (H.w 253 rfl)) (Or.inr (H.w 261 rfl)) (by decide) (t := (.object "java/lang/String")) (t' := (.object "java/util/function/IntUnaryOperator")) (by decide) (by decide)))
  have F41 : Fld G.Z h37 a "com/example/foyer/foyer/Layout$RegisterArray" "base" "I" (.int p1) := Fld.other W38 F32 (Or.inr (slot_ne (Or.inr (H.w 255 rfl)) (Or.inr (H.w 261 rfl)) (by decide) (t := .int) (t' := (.object "java/util/function/IntUnaryOperator")) (by decide) (by decide)))
  have F42 : Fld G.Z h37 a "com/example/foyer/foyer/Layout$RegisterArray" "first" "I" (.int p2) := Fld.other W38 F33 (Or.inr (slot_ne (Or.inr (H.w 257 rfl)) (Or.inr (H.w 261 rfl)) (by decide) (t := .int) (t' := (.object "java/util/function/IntUnaryOperator")) (by decide) (by decide)))
  have F43 : Fld G.Z h37 a "com/example/foyer/foyer/Layout$RegisterArray" "length" "I" (.int p3) := Fld.other W38 F34 (Or.inr (slot_ne (Or.inr (H.w 259 rfl)) (Or.inr (H.w 261 rfl)) (by decide) (t := .int) (t' := (.object "java/util/function/IntUnaryOperator")) (by decide) (by decide)))
  have F44 : Fld G.Z h37 a "com/example/foyer/foyer/Layout$RegisterArray" "initial" "Ljava/util/function/IntUnaryOperator;" (.ref r4) := Fld.same W38 F35
  have F45 : Fld G.Z h37 a "com/example/foyer/foyer/Layout$RegisterArray" "indexed" "Z" (.int (0 : Int32)) := Fld.other W38 F36 (Or.inr (slot_ne (Or.inr (H.w 263 rfl)) (Or.inr (H.w 261 rfl)) (by decide) (t := .boolean) (t' := (.object "java/util/function/IntUnaryOperator")) (by decide) (by decide)))
  refine go_run K 17 2 (pc' := 34) (st' := [(.int p5), (.ref a)]) rfl ?_
  refine go_putfield K (k := 19) rfl (host := "") (Or.inl (H.w 262 rfl)) Via.refl F45 F39 (Or.inr ⟨(H.w 263 rfl), rfl, rfl⟩) (H.w 116 rfl) (ty := .boolean) (by decide) (bool_n b5) (bool_f b5) g0 (Or.inr (by decide)) ?_
  intro h46 W47
  have F48 : Exa G.Z h46 a "com/example/foyer/foyer/Layout$RegisterArray" := Exa.wr W47 F39
  have F49 : Fld G.Z h46 a "com/example/foyer/foyer/Layout$RegisterArray" "name" "Ljava/lang/String;" (.ref r0) := Fld.other W47 F40 (Or.inr (slot_ne (Or.inr (H.w 253 rfl)) (Or.inr (H.w 263 rfl)) (by decide) (t := (.object "java/lang/String")) (t' := .boolean) (by decide) (by decide)))
  have F50 : Fld G.Z h46 a "com/example/foyer/foyer/Layout$RegisterArray" "base" "I" (.int p1) := Fld.other W47 F41 (Or.inr (slot_ne (Or.inr (H.w 255 rfl)) (Or.inr (H.w 263 rfl)) (by decide) (t := .int) (t' := .boolean) (by decide) (by decide)))
  have F51 : Fld G.Z h46 a "com/example/foyer/foyer/Layout$RegisterArray" "first" "I" (.int p2) := Fld.other W47 F42 (Or.inr (slot_ne (Or.inr (H.w 257 rfl)) (Or.inr (H.w 263 rfl)) (by decide) (t := .int) (t' := .boolean) (by decide) (by decide)))
  have F52 : Fld G.Z h46 a "com/example/foyer/foyer/Layout$RegisterArray" "length" "I" (.int p3) := Fld.other W47 F43 (Or.inr (slot_ne (Or.inr (H.w 259 rfl)) (Or.inr (H.w 263 rfl)) (by decide) (t := .int) (t' := .boolean) (by decide) (by decide)))
  have F53 : Fld G.Z h46 a "com/example/foyer/foyer/Layout$RegisterArray" "initial" "Ljava/util/function/IntUnaryOperator;" (.ref r4) := Fld.other W47 F44 (Or.inr (slot_ne (Or.inr (H.w 261 rfl)) (Or.inr (H.w 263 rfl)) (by decide) (t := (.object "java/util/function/IntUnaryOperator")) (t' := .boolean) (by decide) (by decide)))
  have F54 : Fld G.Z h46 a "com/example/foyer/foyer/Layout$RegisterArray" "indexed" "Z" (.int p5) := Fld.same W47 F45
  refine go_return K (k := 20) rfl rfl rfl rfl ?_
  intro Sf hSf
  exact ⟨rfl, (((((((Keep.refl _ [a]).wr W2 (Or.inl (List.mem_cons_self ..))).wr W11 (Or.inl (List.mem_cons_self ..))).wr W20 (Or.inl (List.mem_cons_self ..))).wr W29 (Or.inl (List.mem_cons_self ..))).wr W38 (Or.inl (List.mem_cons_self ..))).wr W47 (Or.inl (List.mem_cons_self ..))), F48, F49, F50, F51, F52, F53, F54⟩
def P_dec : List (Nat × Instr × Nat) := [(0, .new 45, 3), (3, .dup, 1), (4, .new 25, 3), (7, .dup, 1), (8, .invokespecial 27, 3), (11, .aload_n 0, 1), (12, .getfield 21, 3), (15, .invokevirtual 28, 3), (18, .aload_n 1, 1), (19, .invokevirtual 28, 3), (22, .invokevirtual 32, 3), (25, .aload_n 0, 1), (26, .invokevirtual 55, 3), (29, .iload_n 2, 1), (30, .iload_n 3, 1), (31, .iload_n 2, 1), (32, .isub, 1), (33, .iconst 1, 1), (34, .iadd, 1), (35, .aload 4, 2), (37, .iload 5, 2), (39, .invokespecial 119, 3), (42, .astore 6, 2), (44, .aload_n 0, 1), (45, .getfield 17, 3), (48, .aload 6, 2), (50, .invokeinterface 122 2, 5), (55, .pop, 1), (56, .aload 6, 2), (58, .areturn, 1)]
theorem L_dec : ∀ q ∈ P_dec, decode prog_33_method_10_code q.1 = .ok q.2 := by decide +kernel
def M_dec : Mt := (("com/example/foyer/foyer/Layout", "declare", ({ frames := 6, cells := 6, slots := 56, locals := 93 } : Room)), P_dec, 7, (some (.object "com/example/foyer/foyer/Layout$RegisterArray")))
set_option maxRecDepth 65536 in
set_option maxHeartbeats 40000000 in
theorem c_dec0 {G : Gb} (H : Gl tables_1 els G) {h : Heap} {li : Addr} {ed : Addr} {ke : ClassId} (sE : Sta G.Z G.Z.heap "java/util/ArrayList" "DEFAULTCAPACITY_EMPTY_ELEMENTDATA" "[Ljava/lang/Object;" (.ref ed)) (aE : Arv G.Z G.Z.heap ed ke (.object "java/lang/Object") (0 : Int32) [] .null) (L0 : Al0 G h li ed) {la pr : Addr} {ps : List Int32} (Y0 : Ly G h la li pr ps) {nm io : Addr} {p q z : Int32} {ns : List Int32} (lp : Lat ps) (ln : Lat ns) (hs : ps.length + ns.length ≤ 15) (hz : z = 0 ∨ z = 1) (N0 : Str G h nm ns) :
    Ctr G [] (⟨"com/example/foyer/foyer/Layout", "declare", "(Ljava/lang/String;IILjava/util/function/IntUnaryOperator;Z)Lcom/example/foyer/foyer/Layout$RegisterArray;"⟩ : MethodName) prog_33_method_10_code 7 (some (.object "com/example/foyer/foyer/Layout$RegisterArray")) ({ frames := 6, cells := 6, slots := 56, locals := 93 } : Room) #[.ref la, .ref nm, .int p, .int q, .ref io, .int z] h [] (fun v h' Sf => ∃ (r t : Addr) (kA : ClassId), v = some (.ref r) ∧ Keep h h' [li] ∧ h.size ≤ t ∧ Alk G h' li t r kA 1 0 p (q - p + 1) (.ref io)) := by
  refine ctr_of M_dec rfl rfl (plainFor_of_name pn_11) L_dec H.el (Ls := #[.val (.ref la), .val (.ref nm), .val (.int p), .val (.int q), .val (.ref io), .val (.int z), .unset]) (fun m => ef_ok (by show argsToLocals _ 7 = _; first | (simp [argsToLocals, Value.category]; done) | rfl)) ?_
  intro B K hE
  obtain ⟨e1, f2, f3, s4⟩ := id Y0
  refine go_new K (k := 0) rfl (H.w 115 rfl) (H.w 116 rfl) (H.w 117 rfl) rfl rfl ?_
  intro h6 a5 e7 g8 E9 A10 D11
  have F12 : Fld G.Z h6 a5 "com/example/foyer/foyer/Layout$RegisterArray" "name" "Ljava/lang/String;" .null := D11 (Or.inr (H.w 253 rfl)) (ty := (.object "java/lang/String")) (by decide)
  have F13 : Fld G.Z h6 a5 "com/example/foyer/foyer/Layout$RegisterArray" "base" "I" (.int (0 : Int32)) := D11 (Or.inr (H.w 255 rfl)) (ty := .int) (by decide)
  have F14 : Fld G.Z h6 a5 "com/example/foyer/foyer/Layout$RegisterArray" "first" "I" (.int (0 : Int32)) := D11 (Or.inr (H.w 257 rfl)) (ty := .int) (by decide)
  have F15 : Fld G.Z h6 a5 "com/example/foyer/foyer/Layout$RegisterArray" "length" "I" (.int (0 : Int32)) := D11 (Or.inr (H.w 259 rfl)) (ty := .int) (by decide)
  have F16 : Fld G.Z h6 a5 "com/example/foyer/foyer/Layout$RegisterArray" "initial" "Ljava/util/function/IntUnaryOperator;" .null := D11 (Or.inr (H.w 261 rfl)) (ty := (.object "java/util/function/IntUnaryOperator")) (by decide)
  have F17 : Fld G.Z h6 a5 "com/example/foyer/foyer/Layout$RegisterArray" "indexed" "Z" (.int (0 : Int32)) := D11 (Or.inr (H.w 263 rfl)) (ty := .boolean) (by decide)
  refine go_run K 1 1 (pc' := 4) (st' := [(.ref a5), (.ref a5)]) rfl ?_
  refine go_new K (k := 2) rfl (H.w 118 rfl) (H.w 119 rfl) (H.w 120 rfl) rfl rfl ?_
  intro h19 a18 e20 g21 E22 A23 D24
  have F25 : Fld G.Z h19 a18 "java/lang/AbstractStringBuilder" "value" "[B" .null := D24 (Or.inl (H.w 133 rfl)) (ty := (.array .byte)) (by decide)
  have F26 : Fld G.Z h19 a18 "java/lang/AbstractStringBuilder" "coder" "B" (.int (0 : Int32)) := D24 (Or.inl (H.w 135 rfl)) (ty := .byte) (by decide)
  have F27 : Fld G.Z h19 a18 "java/lang/AbstractStringBuilder" "count" "I" (.int (0 : Int32)) := D24 (Or.inl (H.w 160 rfl)) (ty := .int) (by decide)
  refine go_run K 3 1 (pc' := 8) (st' := [(.ref a18), (.ref a18), (.ref a5), (.ref a5)]) rfl ?_
  refine go_specialN K (k := 4) rfl rfl (H.w 121 rfl) (H.w 122 rfl) (H.w 120 rfl) (H.w 123 rfl) (by decide) pd_14 (c_sbi H A23 F25 F26 F27 g21) (argsL := []) (rest := [(.ref a18), (.ref a5), (.ref a5)]) rfl rfl rfl sub0 rfl ?_
  rintro _ h28 Sf36 - ⟨rfl, K29, t30, k31, B32, g33, f34, s35⟩
  refine ⟨[t30], allS s35 all0, ?_⟩
  show Go G B M_dec _ h28 (t30 :: (a18 :: (a5 :: []))) 3 26 11 #[.val (.ref la), .val (.ref nm), .val (.int p), .val (.int q), .val (.ref io), .val (.int z), .unset] [(.ref a18), (.ref a5), (.ref a5)]
  refine go_run K 5 1 (pc' := 12) (st' := [(.ref la), (.ref a18), (.ref a5), (.ref a5)]) rfl ?_
  have X37 : Ext h h19 := (Ext.tr E9 E22)
  have X38 : Ext h h28 := (Ext.keepN X37 K29 (allS (Nat.le_trans (E9).1 (Nat.le_of_eq e20.symm)) all0))
  have c39 := (f3.ext X38)
  refine go_getfield K (k := 6) rfl (host := "") (Or.inl (H.w 69 rfl)) Via.refl c39 ?_
  have c40 := (s4.ext X38)
  refine go_virt0 K (k := 7) rfl (H.w 136 rfl) (H.w 139 rfl) (H.w 138 rfl) (H.w 120 rfl) (H.w 140 rfl) (by decide) pd_20 B32.exa (c_sap H lp (by simp only [List.length_nil]; omega) B32 c40 g21 g33) (argsL := [(.ref pr)]) (rest := [(.ref a5), (.ref a5)]) rfl rfl rfl (subS (List.mem_cons_self ..) sub0) rfl ?_
  rintro _ h41 _ - ⟨rfl, K42, B43⟩
  show Go G B M_dec _ h41 (t30 :: (a18 :: (a5 :: []))) 3 26 18 #[.val (.ref la), .val (.ref nm), .val (.int p), .val (.int q), .val (.ref io), .val (.int z), .unset] [(.ref a18), (.ref a5), (.ref a5)]
  refine go_run K 8 1 (pc' := 19) (st' := [(.ref nm), (.ref a18), (.ref a5), (.ref a5)]) rfl ?_
  have X44 : Ext h h41 := (Ext.keepN X38 K42 (allS (Nat.le_trans (E9).1 (Nat.le_of_eq e20.symm)) (allS (Nat.le_trans (X37).1 f34) all0)))
  have c45 := (N0.ext X44)
  refine go_virt0 K (k := 9) rfl (H.w 136 rfl) (H.w 139 rfl) (H.w 138 rfl) (H.w 120 rfl) (H.w 140 rfl) (by decide) pd_20 B43.exa (c_sap H ln (by simp only [List.length_append, List.length_nil]; omega) B43 c45 g21 g33) (argsL := [(.ref nm)]) (rest := [(.ref a5), (.ref a5)]) rfl rfl rfl (subS (List.mem_cons_self ..) sub0) rfl ?_
  rintro _ h46 _ - ⟨rfl, K47, B48⟩
  show Go G B M_dec _ h46 (t30 :: (a18 :: (a5 :: []))) 3 26 22 #[.val (.ref la), .val (.ref nm), .val (.int p), .val (.int q), .val (.ref io), .val (.int z), .unset] [(.ref a18), (.ref a5), (.ref a5)]
  refine go_virt0 K (k := 10) rfl (H.w 186 rfl) (H.w 189 rfl) (H.w 188 rfl) (H.w 120 rfl) (H.w 190 rfl) (by decide) pd_21 B48.exa (c_sbs H (by simp only [List.length_append, List.length_nil]; omega) (by simp only [List.length_append, List.length_nil]; omega) B48) (argsL := []) (rest := [(.ref a5), (.ref a5)]) rfl rfl rfl sub0 rfl ?_
  rintro _ h49 _ - ⟨a50, rfl, E51, S52, g53⟩
  show Go G B M_dec _ h49 (t30 :: (a18 :: (a5 :: []))) 5 46 25 #[.val (.ref la), .val (.ref nm), .val (.int p), .val (.int q), .val (.ref io), .val (.int z), .unset] [(.ref a50), (.ref a5), (.ref a5)]
  refine go_run K 11 1 (pc' := 26) (st' := [(.ref la), (.ref a50), (.ref a5), (.ref a5)]) rfl ?_
  have X54 : Ext h h46 := (Ext.keepN X44 K47 (allS (Nat.le_trans (E9).1 (Nat.le_of_eq e20.symm)) (allS (Nat.le_trans (X37).1 f34) all0)))
  have X55 : Ext h h49 := (Ext.tr X54 E51)
  have c56 := (e1.ext X55)
  have c57 := (Y0.ext X55)
  have c58 := (L0.ext X55)
  refine go_virt0 K (k := 12) rfl (H.w 233 rfl) (selP (H.w 235 rfl) (H.w 234 rfl) (H.w 26 rfl) (by decide)) (H.w 234 rfl) (H.w 27 rfl) (H.w 236 rfl) (by decide) pd_6 c56 (c_lsz0 H c58 c57) (argsL := []) (rest := [(.ref a50), (.ref a5), (.ref a5)]) rfl rfl rfl sub0 rfl ?_
  rintro _ _ _ - ⟨rfl, rfl⟩
  show Go G B M_dec _ h49 (t30 :: (a18 :: (a5 :: []))) 5 46 29 #[.val (.ref la), .val (.ref nm), .val (.int p), .val (.int q), .val (.ref io), .val (.int z), .unset] [(.int (0 : Int32)), (.ref a50), (.ref a5), (.ref a5)]
  refine go_run K 13 8 (pc' := 39) (st' := [(.int z), (.ref io), (.int ((q - p) + (1 : Int32))), (.int p), (.int (0 : Int32)), (.ref a50), (.ref a5), (.ref a5)]) rfl ?_
  have X59 : Ext h6 h28 := (Ext.keepN E22 K29 (allS (Nat.le_trans (Nat.le_refl _) (Nat.le_of_eq e20.symm)) all0))
  have X60 : Ext h6 h41 := (Ext.keepN X59 K42 (allS (Nat.le_trans (Nat.le_refl _) (Nat.le_of_eq e20.symm)) (allS (Nat.le_trans (E22).1 f34) all0)))
  have X61 : Ext h6 h46 := (Ext.keepN X60 K47 (allS (Nat.le_trans (Nat.le_refl _) (Nat.le_of_eq e20.symm)) (allS (Nat.le_trans (E22).1 f34) all0)))
  have X62 : Ext h6 h49 := (Ext.tr X61 E51)
  have c63 := (A10.ext X62)
  have c64 := (F12.ext X62)
  have c65 := (F13.ext X62)
  have c66 := (F14.ext X62)
  have c67 := (F15.ext X62)
  have c68 := (F16.ext X62)
  have c69 := (F17.ext X62)
  refine go_specialR K (k := 21) rfl rfl (H.w 248 rfl) (H.w 249 rfl) (H.w 117 rfl) (H.w 250 rfl) (by decide) pd_22 (c_rai (a := a5) (r0 := a50) (p1 := (0 : Int32)) (p2 := p) (p3 := ((q - p) + (1 : Int32))) (r4 := io) (p5 := z) H c63 c64 c65 c66 c67 c68 c69 g8 hz) (argsL := [(.ref a50), (.int (0 : Int32)), (.int p), (.int ((q - p) + (1 : Int32))), (.ref io), (.int z)]) (rest := [(.ref a5)]) rfl rfl rfl sub0 rfl ?_
  rintro _ h70 _ - ⟨rfl, K71, E72, F73, F74, F75, F76, F77, F78⟩
  show Go G B M_dec _ h70 (t30 :: (a18 :: (a5 :: []))) 5 46 42 #[.val (.ref la), .val (.ref nm), .val (.int p), .val (.int q), .val (.ref io), .val (.int z), .unset] [(.ref a5)]
  refine go_run K 22 2 (pc' := 45) (Ls' := #[.val (.ref la), .val (.ref nm), .val (.int p), .val (.int q), .val (.ref io), .val (.int z), .val (.ref a5)]) (st' := [(.ref la)]) rfl ?_
  have X79 : Ext h h70 := (Ext.keepN X55 K71 (allS (Nat.le_trans (Nat.le_refl _) (Nat.le_of_eq e7.symm)) all0))
  have c80 := (f2.ext X79)
  refine go_getfield K (k := 24) rfl (host := "") (Or.inl (H.w 67 rfl)) Via.refl c80 ?_
  refine go_run K 25 1 (pc' := 50) (st' := [(.ref a5), (.ref li)]) rfl ?_
  have R81 : Ra G h70 a5 (0 : Int32) p (q - p + 1) (.ref io) := ⟨E72, F74, F75, F76, F77⟩
  have c82 := (L0.ext X79)
  have c83 := ((Al0.exa L0).ext X79)
  refine go_interface K (k := 26) rfl (H.w 264 rfl) (H.w 265 rfl) (H.w 266 rfl) (H.w 267 rfl) (H.w 268 rfl) (H.w 269 rfl) (H.w 270 rfl) (H.w 244 rfl) (H.w 33 rfl) (H.w 271 rfl) rfl (by decide) pd_23 c83 (c_ad10 H sE aE c82 R81) (argsL := [(.ref a5)]) (rest := []) rfl rfl rfl sub0 rfl ?_
  rintro _ h84 _ - ⟨t85, k86, rfl, K87, f88, L89⟩
  show Go G B M_dec _ h84 (t30 :: (a18 :: (a5 :: []))) 6 56 55 #[.val (.ref la), .val (.ref nm), .val (.int p), .val (.int q), .val (.ref io), .val (.int z), .val (.ref a5)] [(.int (1 : Int32))]
  refine go_run K 27 2 (pc' := 58) (st' := [(.ref a5)]) rfl ?_
  refine go_areturn K (k := 29) rfl rfl rfl rfl rfl rfl rfl ?_
  intro Sf hSf
  exact ⟨a5, t85, k86, rfl, (((((((((Keep.refl _ [li]).ext E9).ext E22).trans K29 (allS (Or.inr (Nat.le_trans (E9).1 (Nat.le_of_eq e20.symm))) all0)).trans K42 (allS (Or.inr (Nat.le_trans (E9).1 (Nat.le_of_eq e20.symm))) (allS (Or.inr (Nat.le_trans (X37).1 f34)) all0))).trans K47 (allS (Or.inr (Nat.le_trans (E9).1 (Nat.le_of_eq e20.symm))) (allS (Or.inr (Nat.le_trans (X37).1 f34)) all0))).ext E51).trans K71 (allS (Or.inr (Nat.le_trans (Nat.le_refl _) (Nat.le_of_eq e7.symm))) all0)).trans K87 (allS (Or.inl (List.mem_cons_self ..)) all0)), Nat.le_trans (X79).1 f88, L89⟩
set_option maxRecDepth 65536 in
set_option maxHeartbeats 40000000 in
theorem c_decK {G : Gb} (H : Gl tables_1 els G) {h : Heap} {li t r : Addr} {kA : ClassId} {k : Nat} {b f n : Int32} {ini : Value} (L0 : Alk G h li t r kA k b f n ini) (hk : k < 10) {la pr : Addr} {ps : List Int32} (Y0 : Ly G h la li pr ps) {nm io : Addr} {p q z : Int32} {ns : List Int32} (lp : Lat ps) (ln : Lat ns) (hs : ps.length + ns.length ≤ 15) (hz : z = 0 ∨ z = 1) (N0 : Str G h nm ns) :
    Ctr G [] (⟨"com/example/foyer/foyer/Layout", "declare", "(Ljava/lang/String;IILjava/util/function/IntUnaryOperator;Z)Lcom/example/foyer/foyer/Layout$RegisterArray;"⟩ : MethodName) prog_33_method_10_code 7 (some (.object "com/example/foyer/foyer/Layout$RegisterArray")) ({ frames := 6, cells := 6, slots := 56, locals := 93 } : Room) #[.ref la, .ref nm, .int p, .int q, .ref io, .int z] h [] (fun v h' Sf => ∃ r' : Addr, v = some (.ref r') ∧ Keep h h' [li, t] ∧ Alk G h' li t r' kA (k + 1) (b + n) p (q - p + 1) (.ref io)) := by
  refine ctr_of M_dec rfl rfl (plainFor_of_name pn_11) L_dec H.el (Ls := #[.val (.ref la), .val (.ref nm), .val (.int p), .val (.int q), .val (.ref io), .val (.int z), .unset]) (fun m => ef_ok (by show argsToLocals _ 7 = _; first | (simp [argsToLocals, Value.category]; done) | rfl)) ?_
  intro B K hE
  obtain ⟨e1, f2, f3, s4⟩ := id Y0
  refine go_new K (k := 0) rfl (H.w 115 rfl) (H.w 116 rfl) (H.w 117 rfl) rfl rfl ?_
  intro h6 a5 e7 g8 E9 A10 D11
  have F12 : Fld G.Z h6 a5 "com/example/foyer/foyer/Layout$RegisterArray" "name" "Ljava/lang/String;" .null := D11 (Or.inr (H.w 253 rfl)) (ty := (.object "java/lang/String")) (by decide)
  have F13 : Fld G.Z h6 a5 "com/example/foyer/foyer/Layout$RegisterArray" "base" "I" (.int (0 : Int32)) := D11 (Or.inr (H.w 255 rfl)) (ty := .int) (by decide)
  have F14 : Fld G.Z h6 a5 "com/example/foyer/foyer/Layout$RegisterArray" "first" "I" (.int (0 : Int32)) := D11 (Or.inr (H.w 257 rfl)) (ty := .int) (by decide)
  have F15 : Fld G.Z h6 a5 "com/example/foyer/foyer/Layout$RegisterArray" "length" "I" (.int (0 : Int32)) := D11 (Or.inr (H.w 259 rfl)) (ty := .int) (by decide)
  have F16 : Fld G.Z h6 a5 "com/example/foyer/foyer/Layout$RegisterArray" "initial" "Ljava/util/function/IntUnaryOperator;" .null := D11 (Or.inr (H.w 261 rfl)) (ty := (.object "java/util/function/IntUnaryOperator")) (by decide)
  have F17 : Fld G.Z h6 a5 "com/example/foyer/foyer/Layout$RegisterArray" "indexed" "Z" (.int (0 : Int32)) := D11 (Or.inr (H.w 263 rfl)) (ty := .boolean) (by decide)
  refine go_run K 1 1 (pc' := 4) (st' := [(.ref a5), (.ref a5)]) rfl ?_
  refine go_new K (k := 2) rfl (H.w 118 rfl) (H.w 119 rfl) (H.w 120 rfl) rfl rfl ?_
  intro h19 a18 e20 g21 E22 A23 D24
  have F25 : Fld G.Z h19 a18 "java/lang/AbstractStringBuilder" "value" "[B" .null := D24 (Or.inl (H.w 133 rfl)) (ty := (.array .byte)) (by decide)
  have F26 : Fld G.Z h19 a18 "java/lang/AbstractStringBuilder" "coder" "B" (.int (0 : Int32)) := D24 (Or.inl (H.w 135 rfl)) (ty := .byte) (by decide)
  have F27 : Fld G.Z h19 a18 "java/lang/AbstractStringBuilder" "count" "I" (.int (0 : Int32)) := D24 (Or.inl (H.w 160 rfl)) (ty := .int) (by decide)
  refine go_run K 3 1 (pc' := 8) (st' := [(.ref a18), (.ref a18), (.ref a5), (.ref a5)]) rfl ?_
  refine go_specialN K (k := 4) rfl rfl (H.w 121 rfl) (H.w 122 rfl) (H.w 120 rfl) (H.w 123 rfl) (by decide) pd_14 (c_sbi H A23 F25 F26 F27 g21) (argsL := []) (rest := [(.ref a18), (.ref a5), (.ref a5)]) rfl rfl rfl sub0 rfl ?_
  rintro _ h28 Sf36 - ⟨rfl, K29, t30, k31, B32, g33, f34, s35⟩
  refine ⟨[t30], allS s35 all0, ?_⟩
  show Go G B M_dec _ h28 (t30 :: (a18 :: (a5 :: []))) 3 26 11 #[.val (.ref la), .val (.ref nm), .val (.int p), .val (.int q), .val (.ref io), .val (.int z), .unset] [(.ref a18), (.ref a5), (.ref a5)]
  refine go_run K 5 1 (pc' := 12) (st' := [(.ref la), (.ref a18), (.ref a5), (.ref a5)]) rfl ?_
  have X37 : Ext h h19 := (Ext.tr E9 E22)
  have X38 : Ext h h28 := (Ext.keepN X37 K29 (allS (Nat.le_trans (E9).1 (Nat.le_of_eq e20.symm)) all0))
  have c39 := (f3.ext X38)
  refine go_getfield K (k := 6) rfl (host := "") (Or.inl (H.w 69 rfl)) Via.refl c39 ?_
  have c40 := (s4.ext X38)
  refine go_virt0 K (k := 7) rfl (H.w 136 rfl) (H.w 139 rfl) (H.w 138 rfl) (H.w 120 rfl) (H.w 140 rfl) (by decide) pd_20 B32.exa (c_sap H lp (by simp only [List.length_nil]; omega) B32 c40 g21 g33) (argsL := [(.ref pr)]) (rest := [(.ref a5), (.ref a5)]) rfl rfl rfl (subS (List.mem_cons_self ..) sub0) rfl ?_
  rintro _ h41 _ - ⟨rfl, K42, B43⟩
  show Go G B M_dec _ h41 (t30 :: (a18 :: (a5 :: []))) 3 26 18 #[.val (.ref la), .val (.ref nm), .val (.int p), .val (.int q), .val (.ref io), .val (.int z), .unset] [(.ref a18), (.ref a5), (.ref a5)]
  refine go_run K 8 1 (pc' := 19) (st' := [(.ref nm), (.ref a18), (.ref a5), (.ref a5)]) rfl ?_
  have X44 : Ext h h41 := (Ext.keepN X38 K42 (allS (Nat.le_trans (E9).1 (Nat.le_of_eq e20.symm)) (allS (Nat.le_trans (X37).1 f34) all0)))
  have c45 := (N0.ext X44)
  refine go_virt0 K (k := 9) rfl (H.w 136 rfl) (H.w 139 rfl) (H.w 138 rfl) (H.w 120 rfl) (H.w 140 rfl) (by decide) pd_20 B43.exa (c_sap H ln (by simp only [List.length_append, List.length_nil]; omega) B43 c45 g21 g33) (argsL := [(.ref nm)]) (rest := [(.ref a5), (.ref a5)]) rfl rfl rfl (subS (List.mem_cons_self ..) sub0) rfl ?_
  rintro _ h46 _ - ⟨rfl, K47, B48⟩
  show Go G B M_dec _ h46 (t30 :: (a18 :: (a5 :: []))) 3 26 22 #[.val (.ref la), .val (.ref nm), .val (.int p), .val (.int q), .val (.ref io), .val (.int z), .unset] [(.ref a18), (.ref a5), (.ref a5)]
  refine go_virt0 K (k := 10) rfl (H.w 186 rfl) (H.w 189 rfl) (H.w 188 rfl) (H.w 120 rfl) (H.w 190 rfl) (by decide) pd_21 B48.exa (c_sbs H (by simp only [List.length_append, List.length_nil]; omega) (by simp only [List.length_append, List.length_nil]; omega) B48) (argsL := []) (rest := [(.ref a5), (.ref a5)]) rfl rfl rfl sub0 rfl ?_
  rintro _ h49 _ - ⟨a50, rfl, E51, S52, g53⟩
  show Go G B M_dec _ h49 (t30 :: (a18 :: (a5 :: []))) 5 46 25 #[.val (.ref la), .val (.ref nm), .val (.int p), .val (.int q), .val (.ref io), .val (.int z), .unset] [(.ref a50), (.ref a5), (.ref a5)]
  refine go_run K 11 1 (pc' := 26) (st' := [(.ref la), (.ref a50), (.ref a5), (.ref a5)]) rfl ?_
  have X54 : Ext h h46 := (Ext.keepN X44 K47 (allS (Nat.le_trans (E9).1 (Nat.le_of_eq e20.symm)) (allS (Nat.le_trans (X37).1 f34) all0)))
  have X55 : Ext h h49 := (Ext.tr X54 E51)
  have c56 := (e1.ext X55)
  have c57 := (Y0.ext X55)
  have c58 := (L0.ext X55)
  refine go_virt0 K (k := 12) rfl (H.w 233 rfl) (selP (H.w 235 rfl) (H.w 234 rfl) (H.w 26 rfl) (by decide)) (H.w 234 rfl) (H.w 27 rfl) (H.w 236 rfl) (by decide) pd_6 c56 (c_lszK H c58 c57) (argsL := []) (rest := [(.ref a50), (.ref a5), (.ref a5)]) rfl rfl rfl sub0 rfl ?_
  rintro _ _ _ - ⟨rfl, rfl⟩
  show Go G B M_dec _ h49 (t30 :: (a18 :: (a5 :: []))) 5 46 29 #[.val (.ref la), .val (.ref nm), .val (.int p), .val (.int q), .val (.ref io), .val (.int z), .unset] [(.int (b + n)), (.ref a50), (.ref a5), (.ref a5)]
  refine go_run K 13 8 (pc' := 39) (st' := [(.int z), (.ref io), (.int ((q - p) + (1 : Int32))), (.int p), (.int (b + n)), (.ref a50), (.ref a5), (.ref a5)]) rfl ?_
  have X59 : Ext h6 h28 := (Ext.keepN E22 K29 (allS (Nat.le_trans (Nat.le_refl _) (Nat.le_of_eq e20.symm)) all0))
  have X60 : Ext h6 h41 := (Ext.keepN X59 K42 (allS (Nat.le_trans (Nat.le_refl _) (Nat.le_of_eq e20.symm)) (allS (Nat.le_trans (E22).1 f34) all0)))
  have X61 : Ext h6 h46 := (Ext.keepN X60 K47 (allS (Nat.le_trans (Nat.le_refl _) (Nat.le_of_eq e20.symm)) (allS (Nat.le_trans (E22).1 f34) all0)))
  have X62 : Ext h6 h49 := (Ext.tr X61 E51)
  have c63 := (A10.ext X62)
  have c64 := (F12.ext X62)
  have c65 := (F13.ext X62)
  have c66 := (F14.ext X62)
  have c67 := (F15.ext X62)
  have c68 := (F16.ext X62)
  have c69 := (F17.ext X62)
  refine go_specialR K (k := 21) rfl rfl (H.w 248 rfl) (H.w 249 rfl) (H.w 117 rfl) (H.w 250 rfl) (by decide) pd_22 (c_rai (a := a5) (r0 := a50) (p1 := (b + n)) (p2 := p) (p3 := ((q - p) + (1 : Int32))) (r4 := io) (p5 := z) H c63 c64 c65 c66 c67 c68 c69 g8 hz) (argsL := [(.ref a50), (.int (b + n)), (.int p), (.int ((q - p) + (1 : Int32))), (.ref io), (.int z)]) (rest := [(.ref a5)]) rfl rfl rfl sub0 rfl ?_
  rintro _ h70 _ - ⟨rfl, K71, E72, F73, F74, F75, F76, F77, F78⟩
  show Go G B M_dec _ h70 (t30 :: (a18 :: (a5 :: []))) 5 46 42 #[.val (.ref la), .val (.ref nm), .val (.int p), .val (.int q), .val (.ref io), .val (.int z), .unset] [(.ref a5)]
  refine go_run K 22 2 (pc' := 45) (Ls' := #[.val (.ref la), .val (.ref nm), .val (.int p), .val (.int q), .val (.ref io), .val (.int z), .val (.ref a5)]) (st' := [(.ref la)]) rfl ?_
  have X79 : Ext h h70 := (Ext.keepN X55 K71 (allS (Nat.le_trans (Nat.le_refl _) (Nat.le_of_eq e7.symm)) all0))
  have c80 := (f2.ext X79)
  refine go_getfield K (k := 24) rfl (host := "") (Or.inl (H.w 67 rfl)) Via.refl c80 ?_
  refine go_run K 25 1 (pc' := 50) (st' := [(.ref a5), (.ref li)]) rfl ?_
  have R81 : Ra G h70 a5 (b + n) p (q - p + 1) (.ref io) := ⟨E72, F74, F75, F76, F77⟩
  have c82 := (L0.ext X79)
  have c83 := ((Alk.exa L0).ext X79)
  refine go_interface K (k := 26) rfl (H.w 264 rfl) (H.w 265 rfl) (H.w 266 rfl) (H.w 267 rfl) (H.w 268 rfl) (H.w 269 rfl) (H.w 270 rfl) (H.w 244 rfl) (H.w 33 rfl) (H.w 271 rfl) rfl (by decide) pd_23 c83 (c_ad1K H c82 hk R81) (argsL := [(.ref a5)]) (rest := []) rfl rfl rfl sub0 rfl ?_
  rintro _ h84 _ - ⟨rfl, K85, L86⟩
  show Go G B M_dec _ h84 (t30 :: (a18 :: (a5 :: []))) 6 56 55 #[.val (.ref la), .val (.ref nm), .val (.int p), .val (.int q), .val (.ref io), .val (.int z), .val (.ref a5)] [(.int (1 : Int32))]
  refine go_run K 27 2 (pc' := 58) (st' := [(.ref a5)]) rfl ?_
  refine go_areturn K (k := 29) rfl rfl rfl rfl rfl rfl rfl ?_
  intro Sf hSf
  exact ⟨a5, rfl, (((((((((Keep.refl _ [li, t]).ext E9).ext E22).trans K29 (allS (Or.inr (Nat.le_trans (E9).1 (Nat.le_of_eq e20.symm))) all0)).trans K42 (allS (Or.inr (Nat.le_trans (E9).1 (Nat.le_of_eq e20.symm))) (allS (Or.inr (Nat.le_trans (X37).1 f34)) all0))).trans K47 (allS (Or.inr (Nat.le_trans (E9).1 (Nat.le_of_eq e20.symm))) (allS (Or.inr (Nat.le_trans (X37).1 f34)) all0))).ext E51).trans K71 (allS (Or.inr (Nat.le_trans (Nat.le_refl _) (Nat.le_of_eq e7.symm))) all0)).trans K85 (allS (Or.inl (List.mem_cons_self ..)) (allS (Or.inl (List.mem_cons_of_mem _ (List.mem_cons_self ..))) all0))), L86⟩
def P_ar4 : List (Nat × Instr × Nat) := [(0, .aload_n 0, 1), (1, .aload_n 1, 1), (2, .iload_n 2, 1), (3, .iload_n 3, 1), (4, .aload 4, 2), (6, .iconst 1, 1), (7, .invokevirtual 40, 3), (10, .areturn, 1)]
theorem L_ar4 : ∀ q ∈ P_ar4, decode prog_33_method_6_code q.1 = .ok q.2 := by decide +kernel
def M_ar4 : Mt := (("com/example/foyer/foyer/Layout", "array", ({ frames := 7, cells := 6, slots := 56, locals := 111 } : Room)), P_ar4, 5, (some (.object "com/example/foyer/foyer/Layout$RegisterArray")))
set_option maxRecDepth 65536 in
set_option maxHeartbeats 40000000 in
theorem c_ar40 {G : Gb} (H : Gl tables_1 els G) {h : Heap} {li : Addr} {ed : Addr} {ke : ClassId} (sE : Sta G.Z G.Z.heap "java/util/ArrayList" "DEFAULTCAPACITY_EMPTY_ELEMENTDATA" "[Ljava/lang/Object;" (.ref ed)) (aE : Arv G.Z G.Z.heap ed ke (.object "java/lang/Object") (0 : Int32) [] .null) (L0 : Al0 G h li ed) {la pr : Addr} {ps : List Int32} (Y0 : Ly G h la li pr ps) {nm io : Addr} {p q : Int32} {ns : List Int32} (lp : Lat ps) (ln : Lat ns) (hs : ps.length + ns.length ≤ 15) (N0 : Str G h nm ns) :
    Ctr G [] (⟨"com/example/foyer/foyer/Layout", "array", "(Ljava/lang/String;IILjava/util/function/IntUnaryOperator;)Lcom/example/foyer/foyer/Layout$RegisterArray;"⟩ : MethodName) prog_33_method_6_code 5 (some (.object "com/example/foyer/foyer/Layout$RegisterArray")) ({ frames := 7, cells := 6, slots := 56, locals := 111 } : Room) #[.ref la, .ref nm, .int p, .int q, .ref io] h [] (fun v h' Sf => ∃ (r t : Addr) (kA : ClassId), v = some (.ref r) ∧ Keep h h' [li] ∧ h.size ≤ t ∧ Alk G h' li t r kA 1 0 p (q - p + 1) (.ref io)) := by
  refine ctr_of M_ar4 rfl rfl (plainFor_of_name pn_11) L_ar4 H.el (Ls := #[.val (.ref la), .val (.ref nm), .val (.int p), .val (.int q), .val (.ref io)]) (fun m => ef_ok (by show argsToLocals _ 5 = _; first | (simp [argsToLocals, Value.category]; done) | rfl)) ?_
  intro B K hE
  refine go_run K 0 6 (pc' := 7) (st' := [(.int (1 : Int32)), (.ref io), (.int q), (.int p), (.ref nm), (.ref la)]) rfl ?_
  refine go_virt0 K (k := 6) rfl (H.w 111 rfl) (selP (H.w 113 rfl) (H.w 112 rfl) (H.w 26 rfl) (by decide)) (H.w 112 rfl) (H.w 27 rfl) (H.w 114 rfl) (by decide) pd_24 (Ly.exa Y0) (c_dec0 (p := p) (q := q) (io := io) (z := (1 : Int32)) H sE aE L0 Y0 lp ln hs (by decide) N0) (argsL := [(.ref nm), (.int p), (.int q), (.ref io), (.int (1 : Int32))]) (rest := []) rfl rfl rfl sub0 rfl ?_
  rintro _ h1 _ - ⟨r2, t3, k4, rfl, K5, f6, L7⟩
  show Go G B M_ar4 _ h1 [] 6 56 10 #[.val (.ref la), .val (.ref nm), .val (.int p), .val (.int q), .val (.ref io)] [(.ref r2)]
  refine go_areturn K (k := 7) rfl rfl rfl rfl rfl rfl rfl ?_
  intro Sf hSf
  exact ⟨r2, t3, k4, rfl, ((Keep.refl _ [li]).trans K5 (allS (Or.inl (List.mem_cons_self ..)) all0)), f6, L7⟩
set_option maxRecDepth 65536 in
set_option maxHeartbeats 40000000 in
theorem c_ar4K {G : Gb} (H : Gl tables_1 els G) {h : Heap} {li t r : Addr} {kA : ClassId} {k : Nat} {b f n : Int32} {ini : Value} (L0 : Alk G h li t r kA k b f n ini) (hk : k < 10) {la pr : Addr} {ps : List Int32} (Y0 : Ly G h la li pr ps) {nm io : Addr} {p q : Int32} {ns : List Int32} (lp : Lat ps) (ln : Lat ns) (hs : ps.length + ns.length ≤ 15) (N0 : Str G h nm ns) :
    Ctr G [] (⟨"com/example/foyer/foyer/Layout", "array", "(Ljava/lang/String;IILjava/util/function/IntUnaryOperator;)Lcom/example/foyer/foyer/Layout$RegisterArray;"⟩ : MethodName) prog_33_method_6_code 5 (some (.object "com/example/foyer/foyer/Layout$RegisterArray")) ({ frames := 7, cells := 6, slots := 56, locals := 111 } : Room) #[.ref la, .ref nm, .int p, .int q, .ref io] h [] (fun v h' Sf => ∃ r' : Addr, v = some (.ref r') ∧ Keep h h' [li, t] ∧ Alk G h' li t r' kA (k + 1) (b + n) p (q - p + 1) (.ref io)) := by
  refine ctr_of M_ar4 rfl rfl (plainFor_of_name pn_11) L_ar4 H.el (Ls := #[.val (.ref la), .val (.ref nm), .val (.int p), .val (.int q), .val (.ref io)]) (fun m => ef_ok (by show argsToLocals _ 5 = _; first | (simp [argsToLocals, Value.category]; done) | rfl)) ?_
  intro B K hE
  refine go_run K 0 6 (pc' := 7) (st' := [(.int (1 : Int32)), (.ref io), (.int q), (.int p), (.ref nm), (.ref la)]) rfl ?_
  refine go_virt0 K (k := 6) rfl (H.w 111 rfl) (selP (H.w 113 rfl) (H.w 112 rfl) (H.w 26 rfl) (by decide)) (H.w 112 rfl) (H.w 27 rfl) (H.w 114 rfl) (by decide) pd_24 (Ly.exa Y0) (c_decK (p := p) (q := q) (io := io) (z := (1 : Int32)) H L0 hk Y0 lp ln hs (by decide) N0) (argsL := [(.ref nm), (.int p), (.int q), (.ref io), (.int (1 : Int32))]) (rest := []) rfl rfl rfl sub0 rfl ?_
  rintro _ h1 _ - ⟨r2, rfl, K3, L4⟩
  show Go G B M_ar4 _ h1 [] 6 56 10 #[.val (.ref la), .val (.ref nm), .val (.int p), .val (.int q), .val (.ref io)] [(.ref r2)]
  refine go_areturn K (k := 7) rfl rfl rfl rfl rfl rfl rfl ?_
  intro Sf hSf
  exact ⟨r2, rfl, ((Keep.refl _ [li, t]).trans K3 (allS (Or.inl (List.mem_cons_self ..)) (allS (Or.inl (List.mem_cons_of_mem _ (List.mem_cons_self ..))) all0))), L4⟩
def P_ly2 : List (Nat × Instr × Nat) := [(0, .aload_n 0, 1), (1, .invokespecial 14, 3), (4, .aload_n 0, 1), (5, .aload_n 1, 1), (6, .putfield 17, 3), (9, .aload_n 0, 1), (10, .aload_n 2, 1), (11, .putfield 21, 3), (14, .return_, 1)]
theorem L_ly2 : ∀ q ∈ P_ly2, decode prog_33_method_2_code q.1 = .ok q.2 := by decide +kernel
def M_ly2 : Mt := (("com/example/foyer/foyer/Layout", "<init>", ({ frames := 1, cells := 0, slots := 0, locals := 12 } : Room)), P_ly2, 3, none)
set_option maxRecDepth 65536 in
set_option maxHeartbeats 40000000 in
theorem c_ly2 {G : Gb} (H : Gl tables_1 els G) {h : Heap} {a : Addr} {r0 : Addr} {r1 : Addr} (E0 : Exa G.Z h a "com/example/foyer/foyer/Layout") (f0 : Fld G.Z h a "com/example/foyer/foyer/Layout" "declared" "Ljava/util/List;" .null) (f1 : Fld G.Z h a "com/example/foyer/foyer/Layout" "prefix" "Ljava/lang/String;" .null) (g0 : G.Z.heap.size ≤ a) :
    Ctr G [] (⟨"com/example/foyer/foyer/Layout", "<init>", "(Ljava/util/List;Ljava/lang/String;)V"⟩ : MethodName) prog_33_method_2_code 3 none ({ frames := 1, cells := 0, slots := 0, locals := 12 } : Room) #[.ref a, .ref r0, .ref r1] h [] (fun v h' Sf => v = none ∧ Keep h h' [a] ∧ Exa G.Z h' a "com/example/foyer/foyer/Layout" ∧ Fld G.Z h' a "com/example/foyer/foyer/Layout" "declared" "Ljava/util/List;" (.ref r0) ∧ Fld G.Z h' a "com/example/foyer/foyer/Layout" "prefix" "Ljava/lang/String;" (.ref r1)) := by
  refine ctr_of M_ly2 rfl rfl (plainFor_of_name pn_11) L_ly2 H.el (Ls := #[.val (.ref a), .val (.ref r0), .val (.ref r1)]) (fun m => ef_ok (by show argsToLocals _ 3 = _; first | (simp [argsToLocals, Value.category]; done) | rfl)) ?_
  intro B K hE
  refine go_run K 0 1 (pc' := 1) (st' := [(.ref a)]) rfl ?_
  refine go_init0 K (k := 1) rfl (H.w 66 rfl) (H.w 11 rfl) (H.w 12 rfl) rfl rfl rfl ?_
  refine go_run K 2 2 (pc' := 6) (st' := [(.ref r0), (.ref a)]) rfl ?_
  refine go_putfield K (k := 4) rfl (host := "") (Or.inl (H.w 67 rfl)) Via.refl f0 E0 (Or.inr ⟨(H.w 68 rfl), rfl, rfl⟩) (H.w 26 rfl) (ty := (.object "java/util/List")) (by decide) rfl rfl g0 (Or.inr (by decide)) ?_
  intro h1 W2
  have F3 : Exa G.Z h1 a "com/example/foyer/foyer/Layout" := Exa.wr W2 E0
  have F4 : Fld G.Z h1 a "com/example/foyer/foyer/Layout" "declared" "Ljava/util/List;" (.ref r0) := Fld.same W2 f0
  have F5 : Fld G.Z h1 a "com/example/foyer/foyer/Layout" "prefix" "Ljava/lang/String;" .null := Fld.other W2 f1 (Or.inr (slot_ne (Or.inr (H.w 70 rfl)) (Or.inr (H.w 68 rfl)) (by decide) (t := (.object "java/lang/String")) (t' := (.object "java/util/List")) (by decide) (by decide)))
  refine go_run K 5 2 (pc' := 11) (st' := [(.ref r1), (.ref a)]) rfl ?_
  refine go_putfield K (k := 7) rfl (host := "") (Or.inl (H.w 69 rfl)) Via.refl F5 F3 (Or.inr ⟨(H.w 70 rfl), rfl, rfl⟩) (H.w 26 rfl) (ty := (.object "java/lang/String")) (by decide) rfl rfl g0 (Or.inr (by decide)) ?_
  intro h6 W7
  have F8 : Exa G.Z h6 a "com/example/foyer/foyer/Layout" := Exa.wr W7 F3
  have F9 : Fld G.Z h6 a "com/example/foyer/foyer/Layout" "declared" "Ljava/util/List;" (.ref r0) := Fld.other W7 F4 (Or.inr (slot_ne (Or.inr (H.w 68 rfl)) (Or.inr (H.w 70 rfl)) (by decide) (t := (.object "java/util/List")) (t' := (.object "java/lang/String")) (by decide) (by decide)))
  have F10 : Fld G.Z h6 a "com/example/foyer/foyer/Layout" "prefix" "Ljava/lang/String;" (.ref r1) := Fld.same W7 F5
  refine go_return K (k := 8) rfl rfl rfl rfl ?_
  intro Sf hSf
  exact ⟨rfl, (((Keep.refl _ [a]).wr W2 (Or.inl (List.mem_cons_self ..))).wr W7 (Or.inl (List.mem_cons_self ..))), F8, F9, F10⟩
def P_ly0 : List (Nat × Instr × Nat) := [(0, .aload_n 0, 1), (1, .new 1, 3), (4, .dup, 1), (5, .invokespecial 3, 3), (8, .ldc 7, 2), (10, .invokespecial 9, 3), (13, .return_, 1)]
theorem L_ly0 : ∀ q ∈ P_ly0, decode prog_33_method_1_code q.1 = .ok q.2 := by decide +kernel
def M_ly0 : Mt := (("com/example/foyer/foyer/Layout", "<init>", ({ frames := 4, cells := 3, slots := 7, locals := 50 } : Room)), P_ly0, 1, none)
set_option maxRecDepth 65536 in
set_option maxHeartbeats 40000000 in
theorem c_ly0 {G : Gb} (H : Gl tables_1 els G) {h : Heap} {ed a : Addr} (sE : Sta G.Z G.Z.heap "java/util/ArrayList" "DEFAULTCAPACITY_EMPTY_ELEMENTDATA" "[Ljava/lang/Object;" (.ref ed)) (E0 : Exa G.Z h a "com/example/foyer/foyer/Layout") (f00 : Fld G.Z h a "com/example/foyer/foyer/Layout" "declared" "Ljava/util/List;" .null) (f10 : Fld G.Z h a "com/example/foyer/foyer/Layout" "prefix" "Ljava/lang/String;" .null) (g0 : G.Z.heap.size ≤ a) :
    Ctr G [] (⟨"com/example/foyer/foyer/Layout", "<init>", "()V"⟩ : MethodName) prog_33_method_1_code 1 none ({ frames := 4, cells := 3, slots := 7, locals := 50 } : Room) #[.ref a] h [] (fun v h' Sf => ∃ li pr : Addr, v = none ∧ Keep h h' [a] ∧ Ly G h' a li pr [] ∧ Al0 G h' li ed ∧ h.size ≤ li) := by
  refine ctr_of M_ly0 rfl rfl (plainFor_of_name pn_11) L_ly0 H.el (Ls := #[.val (.ref a)]) (fun m => ef_ok (by show argsToLocals _ 1 = _; first | (simp [argsToLocals, Value.category]; done) | rfl)) ?_
  intro B K hE
  refine go_run K 0 1 (pc' := 1) (st' := [(.ref a)]) rfl ?_
  refine go_new K (k := 1) rfl (H.w 31 rfl) (H.w 32 rfl) (H.w 33 rfl) rfl rfl ?_
  intro h2 a1 e3 g4 E5 A6 D7
  have F8 : Fld G.Z h2 a1 "java/util/AbstractList" "modCount" "I" (.int (0 : Int32)) := D7 (Or.inl (H.w 51 rfl)) (ty := .int) (by decide)
  have F9 : Fld G.Z h2 a1 "java/util/ArrayList" "elementData" "[Ljava/lang/Object;" .null := D7 (Or.inl (H.w 54 rfl)) (ty := (.array (.object "java/lang/Object"))) (by decide)
  have F10 : Fld G.Z h2 a1 "java/util/ArrayList" "size" "I" (.int (0 : Int32)) := D7 (Or.inl (H.w 247 rfl)) (ty := .int) (by decide)
  refine go_run K 2 1 (pc' := 5) (st' := [(.ref a1), (.ref a1), (.ref a)]) rfl ?_
  refine go_special K (k := 3) rfl rfl (H.w 34 rfl) (H.w 35 rfl) (H.w 33 rfl) (H.w 36 rfl) (by decide) pd_14 (c_ali H sE A6 F8 F9 F10 g4) (argsL := []) (rest := [(.ref a1), (.ref a)]) rfl rfl rfl sub0 rfl ?_
  rintro _ h11 _ - ⟨rfl, K12, L13⟩
  show Go G B M_ly0 _ h11 (a1 :: []) 1 3 8 #[.val (.ref a)] [(.ref a1), (.ref a)]
  refine go_ldcT K (k := 4) rfl (H.w 55 rfl) H.ws (H.mem (by decide)) (cs := []) (by decide) (by decide) (n := 0) rfl rfl rfl rfl ?_
  intro h15 a14 E16 S17
  have X18 : Ext h h11 := (Ext.keepN E5 K12 (allS (Nat.le_trans (Nat.le_refl _) (Nat.le_of_eq e3.symm)) all0))
  have X19 : Ext h h15 := (Ext.tr X18 E16)
  have c20 := (E0.ext X19)
  have c21 := (f00.ext X19)
  have c22 := (f10.ext X19)
  refine go_special K (k := 5) rfl rfl (H.w 63 rfl) (H.w 64 rfl) (H.w 27 rfl) (H.w 65 rfl) (by decide) pd_25 (c_ly2 (a := a) (r0 := a1) (r1 := a14) H c20 c21 c22 g0) (argsL := [(.ref a1), (.ref a14)]) (rest := []) rfl rfl rfl sub0 rfl ?_
  rintro _ h23 _ - ⟨rfl, K24, E25, F26, F27⟩
  show Go G B M_ly0 _ h23 (a1 :: []) 3 7 13 #[.val (.ref a)] []
  have c28 := (Str.keepAp S17 K24 (allS (Ap.of_exa c20 (by decide) (H.w 26 rfl)) all0))
  have c29 := (Al0.keep (L13.ext E16) K24 (ninS (Exa.ne ((Al0.exa L13).ext E16) c20 (by decide)) nin0))
  refine go_return K (k := 6) rfl rfl rfl rfl ?_
  intro Sf hSf
  exact ⟨a1, a14, rfl, (((((Keep.refl _ [a]).ext E5).trans K12 (allS (Or.inr (Nat.le_trans (Nat.le_refl _) (Nat.le_of_eq e3.symm))) all0)).ext E16).trans K24 (allS (Or.inl (List.mem_cons_self ..)) all0)), ⟨E25, F26, F27, c28⟩, c29, Nat.le_trans (Nat.le_refl _) (Nat.le_of_eq e3.symm)⟩
abbrev sg_sc : Lambda.Shape := (Lambda.Shape.mk "java/util/function/IntUnaryOperator" "applyAsInt" (MethodDescriptor.mk ([FieldType.int] : List FieldType) (Option.some FieldType.int)) ([FieldType.int] : List FieldType) 6 "com/example/foyer/foyer/Layout" "lambda$scalar$0" (MethodDescriptor.mk ([FieldType.int, FieldType.int] : List FieldType) (Option.some FieldType.int)) false (MethodDescriptor.mk ([FieldType.int] : List FieldType) (Option.some FieldType.int)))
theorem cap_sc : LamKit.capOK sg_sc "com/example/foyer/foyer/Layout" 15 0 = true := by decide +kernel
abbrev sg_ar : Lambda.Shape := (Lambda.Shape.mk "java/util/function/IntUnaryOperator" "applyAsInt" (MethodDescriptor.mk ([FieldType.int] : List FieldType) (Option.some FieldType.int)) ([FieldType.int] : List FieldType) 6 "com/example/foyer/foyer/Layout" "lambda$array$1" (MethodDescriptor.mk ([FieldType.int, FieldType.int] : List FieldType) (Option.some FieldType.int)) false (MethodDescriptor.mk ([FieldType.int] : List FieldType) (Option.some FieldType.int)))
theorem cap_ar : LamKit.capOK sg_ar "com/example/foyer/foyer/Layout" 15 0 = true := by decide +kernel
abbrev sg_mt : Lambda.Shape := (Lambda.Shape.mk "java/util/function/IntUnaryOperator" "applyAsInt" (MethodDescriptor.mk ([FieldType.int] : List FieldType) (Option.some FieldType.int)) ([FieldType.int] : List FieldType) 6 "com/example/foyer/foyer/MerrittTaubenfeld" "lambda$new$0" (MethodDescriptor.mk ([FieldType.int, FieldType.int] : List FieldType) (Option.some FieldType.int)) false (MethodDescriptor.mk ([FieldType.int] : List FieldType) (Option.some FieldType.int)))
theorem cap_mt : LamKit.capOK sg_mt "com/example/foyer/foyer/MerrittTaubenfeld" 15 0 = true := by decide +kernel
def P_rat : List (Nat × Instr × Nat) := [(0, .aload_n 0, 1), (1, .getfield 13, 3), (4, .iload_n 1, 1), (5, .aload_n 0, 1), (6, .getfield 17, 3), (9, .isub, 1), (10, .aload_n 0, 1), (11, .getfield 20, 3), (14, .invokestatic 31, 3), (17, .iadd, 1), (18, .ireturn, 1)]
theorem L_rat : ∀ q ∈ P_rat, decode prog_34_method_2_code q.1 = .ok q.2 := by decide +kernel
def M_rat : Mt := (("com/example/foyer/foyer/Layout$RegisterArray", "at", ({ frames := 2, cells := 0, slots := 0, locals := 28 } : Room)), P_rat, 2, (some .int))
set_option maxRecDepth 65536 in
set_option maxHeartbeats 40000000 in
theorem c_rat {G : Gb} (H : Gl tables_1 els G) {h : Heap} {r : Addr} {b f n i : Int32} {ini : Value} (R0 : Ra G h r b f n ini) (h1 : ¬ i - f < 0) (h2 : i - f < n) :
    Ctr G [] (⟨"com/example/foyer/foyer/Layout$RegisterArray", "at", "(I)I"⟩ : MethodName) prog_34_method_2_code 2 (some .int) ({ frames := 2, cells := 0, slots := 0, locals := 28 } : Room) #[.ref r, .int i] h [] (fun v h' Sf => v = some (.int (b + (i - f))) ∧ h = h') := by
  refine ctr_of M_rat rfl rfl (plainFor_of_name pn_12) L_rat H.el (Ls := #[.val (.ref r), .val (.int i)]) (fun m => ef_ok (by show argsToLocals _ 2 = _; first | (simp [argsToLocals, Value.category]; done) | rfl)) ?_
  intro B K hE
  obtain ⟨u00, u10, u20, u30, u40⟩ := id R0
  refine go_run K 0 1 (pc' := 1) (st' := [(.ref r)]) rfl ?_
  refine go_getfield K (k := 1) rfl (host := "") (Or.inl (H.w 254 rfl)) Via.refl u10 ?_
  refine go_run K 2 2 (pc' := 6) (st' := [(.ref r), (.int i), (.int b)]) rfl ?_
  refine go_getfield K (k := 4) rfl (host := "") (Or.inl (H.w 256 rfl)) Via.refl u20 ?_
  refine go_run K 5 2 (pc' := 11) (st' := [(.ref r), (.int (i - f)), (.int b)]) rfl ?_
  refine go_getfield K (k := 7) rfl (host := "") (Or.inl (H.w 258 rfl)) Via.refl u30 ?_
  refine go_static K (k := 8) rfl (H.w 356 rfl) (H.w 336 rfl) (H.w 337 rfl) (H.w 338 rfl) (by decide) pd_2 (c_ock (x := (i - f)) (m := n) H h1 h2) (argsL := [(.int (i - f)), (.int n)]) (rest := [(.int b)]) rfl rfl rfl sub0 rfl ?_
  rintro _ _ _ - ⟨rfl, rfl⟩
  show Go G B M_rat _ h [] 0 0 17 #[.val (.ref r), .val (.int i)] [(.int (i - f)), (.int b)]
  refine go_run K 9 1 (pc' := 18) (st' := [(.int (b + (i - f)))]) rfl ?_
  refine go_ireturn K (k := 10) rfl rfl (by decide) rfl rfl rfl ?_
  intro Sf hSf
  exact ⟨rfl, rfl⟩
def P_scl : List (Nat × Instr × Nat) := [(0, .aload_n 0, 1), (1, .aload_n 1, 1), (2, .iconst 0, 1), (3, .iconst 0, 1), (4, .iload_n 2, 1), (5, .invokedynamic 36, 5), (10, .iconst 0, 1), (11, .invokevirtual 40, 3), (14, .iconst 0, 1), (15, .invokevirtual 44, 3), (18, .ireturn, 1)]
theorem L_scl : ∀ q ∈ P_scl, decode prog_33_method_4_code q.1 = .ok q.2 := by decide +kernel
def M_scl : Mt := (("com/example/foyer/foyer/Layout", "scalar", ({ frames := 7, cells := 7, slots := 57, locals := 3077 } : Room)), P_scl, 3, (some .int))
set_option maxRecDepth 65536 in
set_option maxHeartbeats 40000000 in
theorem c_scl {G : Gb} (H : Gl tables_1 els G) {h : Heap} {li t r : Addr} {kA : ClassId} {k : Nat} {b f n : Int32} {ini : Value} (L0 : Alk G h li t r kA k b f n ini) (hk : k < 10) {la pr : Addr} {ps : List Int32} (Y0 : Ly G h la li pr ps) (lp : Lat ps) (hs : ps.length ≤ 9) {nm : Addr} {ns : List Int32} (ln : Lat ns) (hn : ns.length ≤ 4) (N0 : Str G h nm ns) {iv : Int32} :
    Ctr G [] (⟨"com/example/foyer/foyer/Layout", "scalar", "(Ljava/lang/String;I)I"⟩ : MethodName) prog_33_method_4_code 3 (some .int) ({ frames := 7, cells := 7, slots := 57, locals := 3077 } : Room) #[.ref la, .ref nm, .int iv] h [] (fun v h' Sf => ∃ (x : Int32) (r' : Addr) (b' f' n' : Int32) (ini' : Value), v = some (.int x) ∧ Keep h h' [li, t] ∧ Alk G h' li t r' kA (k + 1) b' f' n' ini') := by
  refine ctr_ofL M_scl rfl rfl (plainFor_of_name pn_11) L_scl H.el (Ls := #[.val (.ref la), .val (.ref nm), .val (.int iv)]) (fun m => ef_ok (by show argsToLocals _ 3 = _; first | (simp [argsToLocals, Value.category]; done) | rfl)) ?_
  intro B K hE hB
  refine go_run K 0 5 (pc' := 5) (st' := [(.int iv), (.int (0 : Int32)), (.int (0 : Int32)), (.ref nm), (.ref la)]) rfl ?_
  refine go_lambda K (k := 5) rfl (y := (⟨"com/example/foyer/foyer/Layout", "scalar", "(Ljava/lang/String;I)I"⟩ : MethodName)) (fi := 15) (σ := sg_sc) (vals := [(.int iv)]) (rest := [(.int (0 : Int32)), (.int (0 : Int32)), (.ref nm), (.ref la)]) (n := 1) hB (H.w 317 rfl) (H.w 105 rfl) (by decide) cap_sc rfl rfl rfl cap1 rfl rfl rfl rfl ?_
  intro h2 a1 e3 g4 E5 Lm6
  refine go_run K 6 1 (pc' := 11) (st' := [(.int (0 : Int32)), (.ref a1), (.int (0 : Int32)), (.int (0 : Int32)), (.ref nm), (.ref la)]) rfl ?_
  have c7 := ((Ly.exa Y0).ext E5)
  have c8 := (Y0.ext E5)
  have c9 := (L0.ext E5)
  have c10 := (N0.ext E5)
  refine go_virt0 K (k := 7) rfl (H.w 111 rfl) (selP (H.w 113 rfl) (H.w 112 rfl) (H.w 26 rfl) (by decide)) (H.w 112 rfl) (H.w 27 rfl) (H.w 114 rfl) (by decide) pd_24 c7 (c_decK (p := (0 : Int32)) (q := (0 : Int32)) (io := a1) (z := (0 : Int32)) H c9 hk c8 lp ln (by omega) (by decide) c10) (argsL := [(.ref nm), (.int (0 : Int32)), (.int (0 : Int32)), (.ref a1), (.int (0 : Int32))]) (rest := []) rfl rfl rfl sub0 rfl ?_
  rintro _ h11 _ - ⟨r12, rfl, K13, L14⟩
  show Go G B M_scl _ h11 (a1 :: []) 7 57 14 #[.val (.ref la), .val (.ref nm), .val (.int iv)] [(.ref r12)]
  refine go_run K 8 1 (pc' := 15) (st' := [(.int (0 : Int32)), (.ref r12)]) rfl ?_
  refine go_virt0 K (k := 9) rfl (H.w 351 rfl) (H.w 354 rfl) (H.w 353 rfl) (H.w 117 rfl) (H.w 355 rfl) (by decide) pd_26 (Alk.exaR L14) (c_rat (i := (0 : Int32)) H (Alk.ra L14) (by decide) (by decide)) (argsL := [(.int (0 : Int32))]) (rest := []) rfl rfl rfl sub0 rfl ?_
  rintro _ _ _ - ⟨rfl, rfl⟩
  show Go G B M_scl _ h11 (a1 :: []) 7 57 18 #[.val (.ref la), .val (.ref nm), .val (.int iv)] [(.int ((b + n) + ((0 : Int32) - (0 : Int32))))]
  refine go_ireturn K (k := 10) rfl rfl (by decide) rfl rfl rfl ?_
  intro Sf hSf
  exact ⟨_, _, _, _, _, _, rfl, (((Keep.refl _ [li, t]).ext E5).trans K13 (allS (Or.inl (List.mem_cons_self ..)) (allS (Or.inl (List.mem_cons_of_mem _ (List.mem_cons_self ..))) all0))), L14⟩
def P_ar3 : List (Nat × Instr × Nat) := [(0, .aload_n 0, 1), (1, .aload_n 1, 1), (2, .iload_n 2, 1), (3, .iload_n 3, 1), (4, .iload 4, 2), (6, .invokedynamic 50, 5), (11, .invokevirtual 51, 3), (14, .areturn, 1)]
theorem L_ar3 : ∀ q ∈ P_ar3, decode prog_33_method_5_code q.1 = .ok q.2 := by decide +kernel
def M_ar3 : Mt := (("com/example/foyer/foyer/Layout", "array", ({ frames := 8, cells := 7, slots := 57, locals := 3077 } : Room)), P_ar3, 5, (some (.object "com/example/foyer/foyer/Layout$RegisterArray")))
set_option maxRecDepth 65536 in
set_option maxHeartbeats 40000000 in
theorem c_ar3 {G : Gb} (H : Gl tables_1 els G) {h : Heap} {li t r : Addr} {kA : ClassId} {k : Nat} {b f n : Int32} {ini : Value} (L0 : Alk G h li t r kA k b f n ini) (hk : k < 10) {la pr : Addr} {ps : List Int32} (Y0 : Ly G h la li pr ps) (lp : Lat ps) (hs : ps.length ≤ 9) {nm : Addr} {ns : List Int32} (ln : Lat ns) (hn : ns.length ≤ 4) (N0 : Str G h nm ns) {p q iv : Int32} :
    Ctr G [] (⟨"com/example/foyer/foyer/Layout", "array", "(Ljava/lang/String;III)Lcom/example/foyer/foyer/Layout$RegisterArray;"⟩ : MethodName) prog_33_method_5_code 5 (some (.object "com/example/foyer/foyer/Layout$RegisterArray")) ({ frames := 8, cells := 7, slots := 57, locals := 3077 } : Room) #[.ref la, .ref nm, .int p, .int q, .int iv] h [] (fun v h' Sf => ∃ (r' : Addr) (b' f' n' : Int32) (ini' : Value), v = some (.ref r') ∧ Keep h h' [li, t] ∧ Alk G h' li t r' kA (k + 1) b' f' n' ini') := by
  refine ctr_ofL M_ar3 rfl rfl (plainFor_of_name pn_11) L_ar3 H.el (Ls := #[.val (.ref la), .val (.ref nm), .val (.int p), .val (.int q), .val (.int iv)]) (fun m => ef_ok (by show argsToLocals _ 5 = _; first | (simp [argsToLocals, Value.category]; done) | rfl)) ?_
  intro B K hE hB
  refine go_run K 0 5 (pc' := 6) (st' := [(.int iv), (.int q), (.int p), (.ref nm), (.ref la)]) rfl ?_
  refine go_lambda K (k := 5) rfl (y := (⟨"com/example/foyer/foyer/Layout", "array", "(Ljava/lang/String;III)Lcom/example/foyer/foyer/Layout$RegisterArray;"⟩ : MethodName)) (fi := 15) (σ := sg_ar) (vals := [(.int iv)]) (rest := [(.int q), (.int p), (.ref nm), (.ref la)]) (n := 1) hB (H.w 368 rfl) (H.w 105 rfl) (by decide) cap_ar rfl rfl rfl cap1 rfl rfl rfl rfl ?_
  intro h2 a1 e3 g4 E5 Lm6
  have c7 := ((Ly.exa Y0).ext E5)
  have c8 := (Y0.ext E5)
  have c9 := (L0.ext E5)
  have c10 := (N0.ext E5)
  refine go_virt0 K (k := 6) rfl (H.w 369 rfl) (H.w 109 rfl) (H.w 108 rfl) (H.w 27 rfl) (H.w 110 rfl) (by decide) pd_27 c7 (c_ar4K (p := p) (q := q) (io := a1) H c9 hk c8 lp ln (by omega) c10) (argsL := [(.ref nm), (.int p), (.int q), (.ref a1)]) (rest := []) rfl rfl rfl sub0 rfl ?_
  rintro _ h11 _ - ⟨r12, rfl, K13, L14⟩
  show Go G B M_ar3 _ h11 (a1 :: []) 7 57 14 #[.val (.ref la), .val (.ref nm), .val (.int p), .val (.int q), .val (.int iv)] [(.ref r12)]
  refine go_areturn K (k := 7) rfl rfl rfl rfl rfl rfl rfl ?_
  intro Sf hSf
  exact ⟨_, _, _, _, _, rfl, (((Keep.refl _ [li, t]).ext E5).trans K13 (allS (Or.inl (List.mem_cons_self ..)) (allS (Or.inl (List.mem_cons_of_mem _ (List.mem_cons_self ..))) all0))), L14⟩
def P_wit : List (Nat × Instr × Nat) := [(0, .new 10, 3), (3, .dup, 1), (4, .aload_n 0, 1), (5, .getfield 17, 3), (8, .new 25, 3), (11, .dup, 1), (12, .invokespecial 27, 3), (15, .aload_n 0, 1), (16, .getfield 21, 3), (19, .invokevirtual 28, 3), (22, .aload_n 1, 1), (23, .invokevirtual 28, 3), (26, .invokevirtual 32, 3), (29, .invokespecial 9, 3), (32, .areturn, 1)]
theorem L_wit : ∀ q ∈ P_wit, decode prog_33_method_3_code q.1 = .ok q.2 := by decide +kernel
def M_wit : Mt := (("com/example/foyer/foyer/Layout", "within", ({ frames := 6, cells := 5, slots := 42, locals := 94 } : Room)), P_wit, 2, (some (.object "com/example/foyer/foyer/Layout")))
set_option maxRecDepth 65536 in
set_option maxHeartbeats 40000000 in
theorem c_wit {G : Gb} (H : Gl tables_1 els G) {h : Heap} {li : Addr} {la pr : Addr} {ps : List Int32} (Y0 : Ly G h la li pr ps) {nm : Addr} {ns : List Int32} (lp : Lat ps) (ln : Lat ns) (hs : ps.length + ns.length ≤ 15) (N0 : Str G h nm ns) :
    Ctr G [] (⟨"com/example/foyer/foyer/Layout", "within", "(Ljava/lang/String;)Lcom/example/foyer/foyer/Layout;"⟩ : MethodName) prog_33_method_3_code 2 (some (.object "com/example/foyer/foyer/Layout")) ({ frames := 6, cells := 5, slots := 42, locals := 94 } : Room) #[.ref la, .ref nm] h [] (fun v h' Sf => ∃ lb pb : Addr, v = some (.ref lb) ∧ Ext h h' ∧ Ly G h' lb li pb (([] ++ ps) ++ ns) ∧ h.size ≤ lb) := by
  refine ctr_of M_wit rfl rfl (plainFor_of_name pn_11) L_wit H.el (Ls := #[.val (.ref la), .val (.ref nm)]) (fun m => ef_ok (by show argsToLocals _ 2 = _; first | (simp [argsToLocals, Value.category]; done) | rfl)) ?_
  intro B K hE
  obtain ⟨e1, f2, f3, s4⟩ := id Y0
  refine go_new K (k := 0) rfl (H.w 382 rfl) (H.w 26 rfl) (H.w 27 rfl) rfl rfl ?_
  intro h6 a5 e7 g8 E9 A10 D11
  have F12 : Fld G.Z h6 a5 "com/example/foyer/foyer/Layout" "declared" "Ljava/util/List;" .null := D11 (Or.inr (H.w 68 rfl)) (ty := (.object "java/util/List")) (by decide)
  have F13 : Fld G.Z h6 a5 "com/example/foyer/foyer/Layout" "prefix" "Ljava/lang/String;" .null := D11 (Or.inr (H.w 70 rfl)) (ty := (.object "java/lang/String")) (by decide)
  refine go_run K 1 2 (pc' := 5) (st' := [(.ref la), (.ref a5), (.ref a5)]) rfl ?_
  have c14 := (f2.ext E9)
  refine go_getfield K (k := 3) rfl (host := "") (Or.inl (H.w 67 rfl)) Via.refl c14 ?_
  refine go_new K (k := 4) rfl (H.w 118 rfl) (H.w 119 rfl) (H.w 120 rfl) rfl rfl ?_
  intro h16 a15 e17 g18 E19 A20 D21
  have F22 : Fld G.Z h16 a15 "java/lang/AbstractStringBuilder" "value" "[B" .null := D21 (Or.inl (H.w 133 rfl)) (ty := (.array .byte)) (by decide)
  have F23 : Fld G.Z h16 a15 "java/lang/AbstractStringBuilder" "coder" "B" (.int (0 : Int32)) := D21 (Or.inl (H.w 135 rfl)) (ty := .byte) (by decide)
  have F24 : Fld G.Z h16 a15 "java/lang/AbstractStringBuilder" "count" "I" (.int (0 : Int32)) := D21 (Or.inl (H.w 160 rfl)) (ty := .int) (by decide)
  refine go_run K 5 1 (pc' := 12) (st' := [(.ref a15), (.ref a15), (.ref li), (.ref a5), (.ref a5)]) rfl ?_
  refine go_specialN K (k := 6) rfl rfl (H.w 121 rfl) (H.w 122 rfl) (H.w 120 rfl) (H.w 123 rfl) (by decide) pd_14 (c_sbi H A20 F22 F23 F24 g18) (argsL := []) (rest := [(.ref a15), (.ref li), (.ref a5), (.ref a5)]) rfl rfl rfl sub0 rfl ?_
  rintro _ h25 Sf33 - ⟨rfl, K26, t27, k28, B29, g30, f31, s32⟩
  refine ⟨[t27], allS s32 all0, ?_⟩
  show Go G B M_wit _ h25 (t27 :: (a15 :: (a5 :: []))) 3 22 15 #[.val (.ref la), .val (.ref nm)] [(.ref a15), (.ref li), (.ref a5), (.ref a5)]
  refine go_run K 7 1 (pc' := 16) (st' := [(.ref la), (.ref a15), (.ref li), (.ref a5), (.ref a5)]) rfl ?_
  have X34 : Ext h h16 := (Ext.tr E9 E19)
  have X35 : Ext h h25 := (Ext.keepN X34 K26 (allS (Nat.le_trans (E9).1 (Nat.le_of_eq e17.symm)) all0))
  have c36 := (f3.ext X35)
  refine go_getfield K (k := 8) rfl (host := "") (Or.inl (H.w 69 rfl)) Via.refl c36 ?_
  have c37 := (s4.ext X35)
  refine go_virt0 K (k := 9) rfl (H.w 136 rfl) (H.w 139 rfl) (H.w 138 rfl) (H.w 120 rfl) (H.w 140 rfl) (by decide) pd_20 B29.exa (c_sap H lp (by simp only [List.length_nil]; omega) B29 c37 g18 g30) (argsL := [(.ref pr)]) (rest := [(.ref li), (.ref a5), (.ref a5)]) rfl rfl rfl (subS (List.mem_cons_self ..) sub0) rfl ?_
  rintro _ h38 _ - ⟨rfl, K39, B40⟩
  show Go G B M_wit _ h38 (t27 :: (a15 :: (a5 :: []))) 3 22 22 #[.val (.ref la), .val (.ref nm)] [(.ref a15), (.ref li), (.ref a5), (.ref a5)]
  refine go_run K 10 1 (pc' := 23) (st' := [(.ref nm), (.ref a15), (.ref li), (.ref a5), (.ref a5)]) rfl ?_
  have X41 : Ext h h38 := (Ext.keepN X35 K39 (allS (Nat.le_trans (E9).1 (Nat.le_of_eq e17.symm)) (allS (Nat.le_trans (X34).1 f31) all0)))
  have c42 := (N0.ext X41)
  refine go_virt0 K (k := 11) rfl (H.w 136 rfl) (H.w 139 rfl) (H.w 138 rfl) (H.w 120 rfl) (H.w 140 rfl) (by decide) pd_20 B40.exa (c_sap H ln (by simp only [List.length_append, List.length_nil]; omega) B40 c42 g18 g30) (argsL := [(.ref nm)]) (rest := [(.ref li), (.ref a5), (.ref a5)]) rfl rfl rfl (subS (List.mem_cons_self ..) sub0) rfl ?_
  rintro _ h43 _ - ⟨rfl, K44, B45⟩
  show Go G B M_wit _ h43 (t27 :: (a15 :: (a5 :: []))) 3 22 26 #[.val (.ref la), .val (.ref nm)] [(.ref a15), (.ref li), (.ref a5), (.ref a5)]
  refine go_virt0 K (k := 12) rfl (H.w 186 rfl) (H.w 189 rfl) (H.w 188 rfl) (H.w 120 rfl) (H.w 190 rfl) (by decide) pd_21 B45.exa (c_sbs H (by simp only [List.length_append, List.length_nil]; omega) (by simp only [List.length_append, List.length_nil]; omega) B45) (argsL := []) (rest := [(.ref li), (.ref a5), (.ref a5)]) rfl rfl rfl sub0 rfl ?_
  rintro _ h46 _ - ⟨a47, rfl, E48, S49, g50⟩
  show Go G B M_wit _ h46 (t27 :: (a15 :: (a5 :: []))) 5 42 29 #[.val (.ref la), .val (.ref nm)] [(.ref a47), (.ref li), (.ref a5), (.ref a5)]
  have X51 : Ext h6 h25 := (Ext.keepN E19 K26 (allS (Nat.le_trans (Nat.le_refl _) (Nat.le_of_eq e17.symm)) all0))
  have X52 : Ext h6 h38 := (Ext.keepN X51 K39 (allS (Nat.le_trans (Nat.le_refl _) (Nat.le_of_eq e17.symm)) (allS (Nat.le_trans (E19).1 f31) all0)))
  have X53 : Ext h6 h43 := (Ext.keepN X52 K44 (allS (Nat.le_trans (Nat.le_refl _) (Nat.le_of_eq e17.symm)) (allS (Nat.le_trans (E19).1 f31) all0)))
  have X54 : Ext h6 h46 := (Ext.tr X53 E48)
  have c55 := (A10.ext X54)
  have c56 := (F12.ext X54)
  have c57 := (F13.ext X54)
  refine go_special K (k := 13) rfl rfl (H.w 63 rfl) (H.w 64 rfl) (H.w 27 rfl) (H.w 65 rfl) (by decide) pd_25 (c_ly2 (a := a5) (r0 := li) (r1 := a47) H c55 c56 c57 g8) (argsL := [(.ref li), (.ref a47)]) (rest := [(.ref a5)]) rfl rfl rfl sub0 rfl ?_
  rintro _ h58 _ - ⟨rfl, K59, E60, F61, F62⟩
  show Go G B M_wit _ h58 (t27 :: (a15 :: (a5 :: []))) 5 42 32 #[.val (.ref la), .val (.ref nm)] [(.ref a5)]
  have X63 : Ext h h43 := (Ext.keepN X41 K44 (allS (Nat.le_trans (E9).1 (Nat.le_of_eq e17.symm)) (allS (Nat.le_trans (X34).1 f31) all0)))
  have X64 : Ext h h46 := (Ext.tr X63 E48)
  have X65 : Ext h h58 := (Ext.keepN X64 K59 (allS (Nat.le_trans (Nat.le_refl _) (Nat.le_of_eq e7.symm)) all0))
  have c66 := (Str.keepAp S49 K59 (allS (Ap.of_exa c55 (by decide) (H.w 26 rfl)) all0))
  refine go_areturn K (k := 14) rfl rfl rfl rfl rfl rfl rfl ?_
  intro Sf hSf
  exact ⟨a5, a47, rfl, X65, ⟨E60, F61, F62, c66⟩, Nat.le_trans (Nat.le_refl _) (Nat.le_of_eq e7.symm)⟩
theorem pn_13 : plainName "com/example/foyer/foyer/Algorithm" = true := by first | (simp [plainName, overriddenIn]; done) | decide +kernel
def P_algM : List (Nat × Instr × Nat) := [(0, .aload_n 0, 1), (1, .invokespecial 12, 3), (4, .aload_n 0, 1), (5, .iload_n 1, 1), (6, .putfield 15, 3), (9, .aload_n 0, 1), (10, .iload_n 2, 1), (11, .putfield 19, 3), (14, .aload_n 0, 1), (15, .aload_n 3, 1), (16, .putfield 22, 3), (19, .return_, 1)]
theorem L_algM : ∀ q ∈ P_algM, decode prog_3_method_2_code q.1 = .ok q.2 := by decide +kernel
def M_algM : Mt := (("com/example/foyer/foyer/Algorithm", "<init>", ({ frames := 1, cells := 0, slots := 0, locals := 12 } : Room)), P_algM, 4, none)
set_option maxRecDepth 65536 in
set_option maxHeartbeats 40000000 in
theorem c_algM {G : Gb} (H : Gl tables_1 els G) {h : Heap} {a : Addr} {p0 : Int32} {p1 : Int32} {r2 : Addr} (E0 : Exa G.Z h a "com/example/foyer/foyer/MerrittTaubenfeld") (f0 : Fld G.Z h a "com/example/foyer/foyer/Algorithm" "processes" "I" (.int (0 : Int32))) (f1 : Fld G.Z h a "com/example/foyer/foyer/Algorithm" "critical" "I" (.int (0 : Int32))) (f2 : Fld G.Z h a "com/example/foyer/foyer/Algorithm" "layout" "Lcom/example/foyer/foyer/Layout;" .null) (f3 : Fld G.Z h a "com/example/foyer/foyer/MerrittTaubenfeld" "registered" "I" (.int (0 : Int32))) (f4 : Fld G.Z h a "com/example/foyer/foyer/MerrittTaubenfeld" "churn" "Z" (.int (0 : Int32))) (f5 : Fld G.Z h a "com/example/foyer/foyer/MerrittTaubenfeld" "list" "Lcom/example/foyer/foyer/Layout$RegisterArray;" .null) (f6 : Fld G.Z h a "com/example/foyer/foyer/MerrittTaubenfeld" "lock" "Lcom/example/foyer/foyer/LamportFast;" .null) (f7 : Fld G.Z h a "com/example/foyer/foyer/MerrittTaubenfeld" "registry" "Lcom/example/foyer/foyer/LamportFast;" .null) (g0 : G.Z.heap.size ≤ a) :
    Ctr G [] (⟨"com/example/foyer/foyer/Algorithm", "<init>", "(IILcom/example/foyer/foyer/Layout;)V"⟩ : MethodName) prog_3_method_2_code 4 none ({ frames := 1, cells := 0, slots := 0, locals := 12 } : Room) #[.ref a, .int p0, .int p1, .ref r2] h [] (fun v h' Sf => v = none ∧ Keep h h' [a] ∧ Exa G.Z h' a "com/example/foyer/foyer/MerrittTaubenfeld" ∧ Fld G.Z h' a "com/example/foyer/foyer/Algorithm" "processes" "I" (.int p0) ∧ Fld G.Z h' a "com/example/foyer/foyer/Algorithm" "critical" "I" (.int p1) ∧ Fld G.Z h' a "com/example/foyer/foyer/Algorithm" "layout" "Lcom/example/foyer/foyer/Layout;" (.ref r2) ∧ Fld G.Z h' a "com/example/foyer/foyer/MerrittTaubenfeld" "registered" "I" (.int (0 : Int32)) ∧ Fld G.Z h' a "com/example/foyer/foyer/MerrittTaubenfeld" "churn" "Z" (.int (0 : Int32)) ∧ Fld G.Z h' a "com/example/foyer/foyer/MerrittTaubenfeld" "list" "Lcom/example/foyer/foyer/Layout$RegisterArray;" .null ∧ Fld G.Z h' a "com/example/foyer/foyer/MerrittTaubenfeld" "lock" "Lcom/example/foyer/foyer/LamportFast;" .null ∧ Fld G.Z h' a "com/example/foyer/foyer/MerrittTaubenfeld" "registry" "Lcom/example/foyer/foyer/LamportFast;" .null) := by
  refine ctr_of M_algM rfl rfl (plainFor_of_name pn_13) L_algM H.el (Ls := #[.val (.ref a), .val (.int p0), .val (.int p1), .val (.ref r2)]) (fun m => ef_ok (by show argsToLocals _ 4 = _; first | (simp [argsToLocals, Value.category]; done) | rfl)) ?_
  intro B K hE
  refine go_run K 0 1 (pc' := 1) (st' := [(.ref a)]) rfl ?_
  refine go_init0 K (k := 1) rfl (H.w 74 rfl) (H.w 11 rfl) (H.w 12 rfl) rfl rfl rfl ?_
  refine go_run K 2 2 (pc' := 6) (st' := [(.int p0), (.ref a)]) rfl ?_
  refine go_putfield K (k := 4) rfl (host := "") (Or.inl (H.w 75 rfl)) Via.refl f0 E0 (Or.inr ⟨(H.w 76 rfl), rfl, rfl⟩) (H.w 2 rfl) (ty := .int) (by decide) rfl rfl g0 (Or.inr (by decide)) ?_
  intro h1 W2
  have F3 : Exa G.Z h1 a "com/example/foyer/foyer/MerrittTaubenfeld" := Exa.wr W2 E0
  have F4 : Fld G.Z h1 a "com/example/foyer/foyer/Algorithm" "processes" "I" (.int p0) := Fld.same W2 f0
  have F5 : Fld G.Z h1 a "com/example/foyer/foyer/Algorithm" "critical" "I" (.int (0 : Int32)) := Fld.other W2 f1 (Or.inr (slot_ne (Or.inr (H.w 78 rfl)) (Or.inr (H.w 76 rfl)) (by decide) (t := .int) (t' := .int) (by decide) (by decide)))
  have F6 : Fld G.Z h1 a "com/example/foyer/foyer/Algorithm" "layout" "Lcom/example/foyer/foyer/Layout;" .null := Fld.other W2 f2 (Or.inr (slot_ne (Or.inr (H.w 80 rfl)) (Or.inr (H.w 76 rfl)) (by decide) (t := (.object "com/example/foyer/foyer/Layout")) (t' := .int) (by decide) (by decide)))
  have F7 : Fld G.Z h1 a "com/example/foyer/foyer/MerrittTaubenfeld" "registered" "I" (.int (0 : Int32)) := Fld.other W2 f3 (Or.inr (slot_ne (Or.inr (H.w 87 rfl)) (Or.inr (H.w 76 rfl)) (by decide) (t := .int) (t' := .int) (by decide) (by decide)))
  have F8 : Fld G.Z h1 a "com/example/foyer/foyer/MerrittTaubenfeld" "churn" "Z" (.int (0 : Int32)) := Fld.other W2 f4 (Or.inr (slot_ne (Or.inr (H.w 94 rfl)) (Or.inr (H.w 76 rfl)) (by decide) (t := .boolean) (t' := .int) (by decide) (by decide)))
  have F9 : Fld G.Z h1 a "com/example/foyer/foyer/MerrittTaubenfeld" "list" "Lcom/example/foyer/foyer/Layout$RegisterArray;" .null := Fld.other W2 f5 (Or.inr (slot_ne (Or.inr (H.w 296 rfl)) (Or.inr (H.w 76 rfl)) (by decide) (t := (.object "com/example/foyer/foyer/Layout$RegisterArray")) (t' := .int) (by decide) (by decide)))
  have F10 : Fld G.Z h1 a "com/example/foyer/foyer/MerrittTaubenfeld" "lock" "Lcom/example/foyer/foyer/LamportFast;" .null := Fld.other W2 f6 (Or.inr (slot_ne (Or.inr (H.w 375 rfl)) (Or.inr (H.w 76 rfl)) (by decide) (t := (.object "com/example/foyer/foyer/LamportFast")) (t' := .int) (by decide) (by decide)))
  have F11 : Fld G.Z h1 a "com/example/foyer/foyer/MerrittTaubenfeld" "registry" "Lcom/example/foyer/foyer/LamportFast;" .null := Fld.other W2 f7 (Or.inr (slot_ne (Or.inr (H.w 384 rfl)) (Or.inr (H.w 76 rfl)) (by decide) (t := (.object "com/example/foyer/foyer/LamportFast")) (t' := .int) (by decide) (by decide)))
  refine go_run K 5 2 (pc' := 11) (st' := [(.int p1), (.ref a)]) rfl ?_
  refine go_putfield K (k := 7) rfl (host := "") (Or.inl (H.w 77 rfl)) Via.refl F5 F3 (Or.inr ⟨(H.w 78 rfl), rfl, rfl⟩) (H.w 2 rfl) (ty := .int) (by decide) rfl rfl g0 (Or.inr (by decide)) ?_
  intro h12 W13
  have F14 : Exa G.Z h12 a "com/example/foyer/foyer/MerrittTaubenfeld" := Exa.wr W13 F3
  have F15 : Fld G.Z h12 a "com/example/foyer/foyer/Algorithm" "processes" "I" (.int p0) := Fld.other W13 F4 (Or.inr (slot_ne (Or.inr (H.w 76 rfl)) (Or.inr (H.w 78 rfl)) (by decide) (t := .int) (t' := .int) (by decide) (by decide)))
  have F16 : Fld G.Z h12 a "com/example/foyer/foyer/Algorithm" "critical" "I" (.int p1) := Fld.same W13 F5
  have F17 : Fld G.Z h12 a "com/example/foyer/foyer/Algorithm" "layout" "Lcom/example/foyer/foyer/Layout;" .null := Fld.other W13 F6 (Or.inr (slot_ne (Or.inr (H.w 80 rfl)) (Or.inr (H.w 78 rfl)) (by decide) (t := (.object "com/example/foyer/foyer/Layout")) (t' := .int) (by decide) (by decide)))
  have F18 : Fld G.Z h12 a "com/example/foyer/foyer/MerrittTaubenfeld" "registered" "I" (.int (0 : Int32)) := Fld.other W13 F7 (Or.inr (slot_ne (Or.inr (H.w 87 rfl)) (Or.inr (H.w 78 rfl)) (by decide) (t := .int) (t' := .int) (by decide) (by decide)))
  have F19 : Fld G.Z h12 a "com/example/foyer/foyer/MerrittTaubenfeld" "churn" "Z" (.int (0 : Int32)) := Fld.other W13 F8 (Or.inr (slot_ne (Or.inr (H.w 94 rfl)) (Or.inr (H.w 78 rfl)) (by decide) (t := .boolean) (t' := .int) (by decide) (by decide)))
  have F20 : Fld G.Z h12 a "com/example/foyer/foyer/MerrittTaubenfeld" "list" "Lcom/example/foyer/foyer/Layout$RegisterArray;" .null := Fld.other W13 F9 (Or.inr (slot_ne (Or.inr (H.w 296 rfl)) (Or.inr (H.w 78 rfl)) (by decide) (t := (.object "com/example/foyer/foyer/Layout$RegisterArray")) (t' := .int) (by decide) (by decide)))
  have F21 : Fld G.Z h12 a "com/example/foyer/foyer/MerrittTaubenfeld" "lock" "Lcom/example/foyer/foyer/LamportFast;" .null := Fld.other W13 F10 (Or.inr (slot_ne (Or.inr (H.w 375 rfl)) (Or.inr (H.w 78 rfl)) (by decide) (t := (.object "com/example/foyer/foyer/LamportFast")) (t' := .int) (by decide) (by decide)))
  have F22 : Fld G.Z h12 a "com/example/foyer/foyer/MerrittTaubenfeld" "registry" "Lcom/example/foyer/foyer/LamportFast;" .null := Fld.other W13 F11 (Or.inr (slot_ne (Or.inr (H.w 384 rfl)) (Or.inr (H.w 78 rfl)) (by decide) (t := (.object "com/example/foyer/foyer/LamportFast")) (t' := .int) (by decide) (by decide)))
  refine go_run K 8 2 (pc' := 16) (st' := [(.ref r2), (.ref a)]) rfl ?_
  refine go_putfield K (k := 10) rfl (host := "") (Or.inl (H.w 79 rfl)) Via.refl F17 F14 (Or.inr ⟨(H.w 80 rfl), rfl, rfl⟩) (H.w 2 rfl) (ty := (.object "com/example/foyer/foyer/Layout")) (by decide) rfl rfl g0 (Or.inr (by decide)) ?_
  intro h23 W24
  have F25 : Exa G.Z h23 a "com/example/foyer/foyer/MerrittTaubenfeld" := Exa.wr W24 F14
  have F26 : Fld G.Z h23 a "com/example/foyer/foyer/Algorithm" "processes" "I" (.int p0) := Fld.other W24 F15 (Or.inr (slot_ne (Or.inr (H.w 76 rfl)) (Or.inr (H.w 80 rfl)) (by decide) (t := .int) (t' := (.object "com/example/foyer/foyer/Layout")) (by decide) (by decide)))
  have F27 : Fld G.Z h23 a "com/example/foyer/foyer/Algorithm" "critical" "I" (.int p1) := Fld.other W24 F16 (Or.inr (slot_ne (Or.inr (H.w 78 rfl)) (Or.inr (H.w 80 rfl)) (by decide) (t := .int) (t' := (.object "com/example/foyer/foyer/Layout")) (by decide) (by decide)))
  have F28 : Fld G.Z h23 a "com/example/foyer/foyer/Algorithm" "layout" "Lcom/example/foyer/foyer/Layout;" (.ref r2) := Fld.same W24 F17
  have F29 : Fld G.Z h23 a "com/example/foyer/foyer/MerrittTaubenfeld" "registered" "I" (.int (0 : Int32)) := Fld.other W24 F18 (Or.inr (slot_ne (Or.inr (H.w 87 rfl)) (Or.inr (H.w 80 rfl)) (by decide) (t := .int) (t' := (.object "com/example/foyer/foyer/Layout")) (by decide) (by decide)))
  have F30 : Fld G.Z h23 a "com/example/foyer/foyer/MerrittTaubenfeld" "churn" "Z" (.int (0 : Int32)) := Fld.other W24 F19 (Or.inr (slot_ne (Or.inr (H.w 94 rfl)) (Or.inr (H.w 80 rfl)) (by decide) (t := .boolean) (t' := (.object "com/example/foyer/foyer/Layout")) (by decide) (by decide)))
  have F31 : Fld G.Z h23 a "com/example/foyer/foyer/MerrittTaubenfeld" "list" "Lcom/example/foyer/foyer/Layout$RegisterArray;" .null := Fld.other W24 F20 (Or.inr (slot_ne (Or.inr (H.w 296 rfl)) (Or.inr (H.w 80 rfl)) (by decide) (t := (.object "com/example/foyer/foyer/Layout$RegisterArray")) (t' := (.object "com/example/foyer/foyer/Layout")) (by decide) (by decide)))
  have F32 : Fld G.Z h23 a "com/example/foyer/foyer/MerrittTaubenfeld" "lock" "Lcom/example/foyer/foyer/LamportFast;" .null := Fld.other W24 F21 (Or.inr (slot_ne (Or.inr (H.w 375 rfl)) (Or.inr (H.w 80 rfl)) (by decide) (t := (.object "com/example/foyer/foyer/LamportFast")) (t' := (.object "com/example/foyer/foyer/Layout")) (by decide) (by decide)))
  have F33 : Fld G.Z h23 a "com/example/foyer/foyer/MerrittTaubenfeld" "registry" "Lcom/example/foyer/foyer/LamportFast;" .null := Fld.other W24 F22 (Or.inr (slot_ne (Or.inr (H.w 384 rfl)) (Or.inr (H.w 80 rfl)) (by decide) (t := (.object "com/example/foyer/foyer/LamportFast")) (t' := (.object "com/example/foyer/foyer/Layout")) (by decide) (by decide)))
  refine go_return K (k := 11) rfl rfl rfl rfl ?_
  intro Sf hSf
  exact ⟨rfl, ((((Keep.refl _ [a]).wr W2 (Or.inl (List.mem_cons_self ..))).wr W13 (Or.inl (List.mem_cons_self ..))).wr W24 (Or.inl (List.mem_cons_self ..))), F25, F26, F27, F28, F29, F30, F31, F32, F33⟩
set_option maxRecDepth 65536 in
set_option maxHeartbeats 40000000 in
theorem c_algL {G : Gb} (H : Gl tables_1 els G) {h : Heap} {a : Addr} {p0 : Int32} {p1 : Int32} {r2 : Addr} (E0 : Exa G.Z h a "com/example/foyer/foyer/LamportFast") (f0 : Fld G.Z h a "com/example/foyer/foyer/Algorithm" "processes" "I" (.int (0 : Int32))) (f1 : Fld G.Z h a "com/example/foyer/foyer/Algorithm" "critical" "I" (.int (0 : Int32))) (f2 : Fld G.Z h a "com/example/foyer/foyer/Algorithm" "layout" "Lcom/example/foyer/foyer/Layout;" .null) (f3 : Fld G.Z h a "com/example/foyer/foyer/LamportFast" "x" "I" (.int (0 : Int32))) (f4 : Fld G.Z h a "com/example/foyer/foyer/LamportFast" "y" "I" (.int (0 : Int32))) (f5 : Fld G.Z h a "com/example/foyer/foyer/LamportFast" "b" "Lcom/example/foyer/foyer/Layout$RegisterArray;" .null) (f6 : Fld G.Z h a "com/example/foyer/foyer/LamportFast" "list" "Lcom/example/foyer/foyer/Layout$RegisterArray;" .null) (g0 : G.Z.heap.size ≤ a) :
    Ctr G [] (⟨"com/example/foyer/foyer/Algorithm", "<init>", "(IILcom/example/foyer/foyer/Layout;)V"⟩ : MethodName) prog_3_method_2_code 4 none ({ frames := 1, cells := 0, slots := 0, locals := 12 } : Room) #[.ref a, .int p0, .int p1, .ref r2] h [] (fun v h' Sf => v = none ∧ Keep h h' [a] ∧ Exa G.Z h' a "com/example/foyer/foyer/LamportFast" ∧ Fld G.Z h' a "com/example/foyer/foyer/Algorithm" "processes" "I" (.int p0) ∧ Fld G.Z h' a "com/example/foyer/foyer/Algorithm" "critical" "I" (.int p1) ∧ Fld G.Z h' a "com/example/foyer/foyer/Algorithm" "layout" "Lcom/example/foyer/foyer/Layout;" (.ref r2) ∧ Fld G.Z h' a "com/example/foyer/foyer/LamportFast" "x" "I" (.int (0 : Int32)) ∧ Fld G.Z h' a "com/example/foyer/foyer/LamportFast" "y" "I" (.int (0 : Int32)) ∧ Fld G.Z h' a "com/example/foyer/foyer/LamportFast" "b" "Lcom/example/foyer/foyer/Layout$RegisterArray;" .null ∧ Fld G.Z h' a "com/example/foyer/foyer/LamportFast" "list" "Lcom/example/foyer/foyer/Layout$RegisterArray;" .null) := by
  refine ctr_of M_algM rfl rfl (plainFor_of_name pn_13) L_algM H.el (Ls := #[.val (.ref a), .val (.int p0), .val (.int p1), .val (.ref r2)]) (fun m => ef_ok (by show argsToLocals _ 4 = _; first | (simp [argsToLocals, Value.category]; done) | rfl)) ?_
  intro B K hE
  refine go_run K 0 1 (pc' := 1) (st' := [(.ref a)]) rfl ?_
  refine go_init0 K (k := 1) rfl (H.w 74 rfl) (H.w 11 rfl) (H.w 12 rfl) rfl rfl rfl ?_
  refine go_run K 2 2 (pc' := 6) (st' := [(.int p0), (.ref a)]) rfl ?_
  refine go_putfield K (k := 4) rfl (host := "") (Or.inl (H.w 75 rfl)) Via.refl f0 E0 (Or.inr ⟨(H.w 305 rfl), rfl, rfl⟩) (H.w 298 rfl) (ty := .int) (by decide) rfl rfl g0 (Or.inr (by decide)) ?_
  intro h1 W2
  have F3 : Exa G.Z h1 a "com/example/foyer/foyer/LamportFast" := Exa.wr W2 E0
  have F4 : Fld G.Z h1 a "com/example/foyer/foyer/Algorithm" "processes" "I" (.int p0) := Fld.same W2 f0
  have F5 : Fld G.Z h1 a "com/example/foyer/foyer/Algorithm" "critical" "I" (.int (0 : Int32)) := Fld.other W2 f1 (Or.inr (slot_ne (Or.inr (H.w 306 rfl)) (Or.inr (H.w 305 rfl)) (by decide) (t := .int) (t' := .int) (by decide) (by decide)))
  have F6 : Fld G.Z h1 a "com/example/foyer/foyer/Algorithm" "layout" "Lcom/example/foyer/foyer/Layout;" .null := Fld.other W2 f2 (Or.inr (slot_ne (Or.inr (H.w 307 rfl)) (Or.inr (H.w 305 rfl)) (by decide) (t := (.object "com/example/foyer/foyer/Layout")) (t' := .int) (by decide) (by decide)))
  have F7 : Fld G.Z h1 a "com/example/foyer/foyer/LamportFast" "x" "I" (.int (0 : Int32)) := Fld.other W2 f3 (Or.inr (slot_ne (Or.inr (H.w 358 rfl)) (Or.inr (H.w 305 rfl)) (by decide) (t := .int) (t' := .int) (by decide) (by decide)))
  have F8 : Fld G.Z h1 a "com/example/foyer/foyer/LamportFast" "y" "I" (.int (0 : Int32)) := Fld.other W2 f4 (Or.inr (slot_ne (Or.inr (H.w 361 rfl)) (Or.inr (H.w 305 rfl)) (by decide) (t := .int) (t' := .int) (by decide) (by decide)))
  have F9 : Fld G.Z h1 a "com/example/foyer/foyer/LamportFast" "b" "Lcom/example/foyer/foyer/Layout$RegisterArray;" .null := Fld.other W2 f5 (Or.inr (slot_ne (Or.inr (H.w 371 rfl)) (Or.inr (H.w 305 rfl)) (by decide) (t := (.object "com/example/foyer/foyer/Layout$RegisterArray")) (t' := .int) (by decide) (by decide)))
  have F10 : Fld G.Z h1 a "com/example/foyer/foyer/LamportFast" "list" "Lcom/example/foyer/foyer/Layout$RegisterArray;" .null := Fld.other W2 f6 (Or.inr (slot_ne (Or.inr (H.w 373 rfl)) (Or.inr (H.w 305 rfl)) (by decide) (t := (.object "com/example/foyer/foyer/Layout$RegisterArray")) (t' := .int) (by decide) (by decide)))
  refine go_run K 5 2 (pc' := 11) (st' := [(.int p1), (.ref a)]) rfl ?_
  refine go_putfield K (k := 7) rfl (host := "") (Or.inl (H.w 77 rfl)) Via.refl F5 F3 (Or.inr ⟨(H.w 306 rfl), rfl, rfl⟩) (H.w 298 rfl) (ty := .int) (by decide) rfl rfl g0 (Or.inr (by decide)) ?_
  intro h11 W12
  have F13 : Exa G.Z h11 a "com/example/foyer/foyer/LamportFast" := Exa.wr W12 F3
  have F14 : Fld G.Z h11 a "com/example/foyer/foyer/Algorithm" "processes" "I" (.int p0) := Fld.other W12 F4 (Or.inr (slot_ne (Or.inr (H.w 305 rfl)) (Or.inr (H.w 306 rfl)) (by decide) (t := .int) (t' := .int) (by decide) (by decide)))
  have F15 : Fld G.Z h11 a "com/example/foyer/foyer/Algorithm" "critical" "I" (.int p1) := Fld.same W12 F5
  have F16 : Fld G.Z h11 a "com/example/foyer/foyer/Algorithm" "layout" "Lcom/example/foyer/foyer/Layout;" .null := Fld.other W12 F6 (Or.inr (slot_ne (Or.inr (H.w 307 rfl)) (Or.inr (H.w 306 rfl)) (by decide) (t := (.object "com/example/foyer/foyer/Layout")) (t' := .int) (by decide) (by decide)))
  have F17 : Fld G.Z h11 a "com/example/foyer/foyer/LamportFast" "x" "I" (.int (0 : Int32)) := Fld.other W12 F7 (Or.inr (slot_ne (Or.inr (H.w 358 rfl)) (Or.inr (H.w 306 rfl)) (by decide) (t := .int) (t' := .int) (by decide) (by decide)))
  have F18 : Fld G.Z h11 a "com/example/foyer/foyer/LamportFast" "y" "I" (.int (0 : Int32)) := Fld.other W12 F8 (Or.inr (slot_ne (Or.inr (H.w 361 rfl)) (Or.inr (H.w 306 rfl)) (by decide) (t := .int) (t' := .int) (by decide) (by decide)))
  have F19 : Fld G.Z h11 a "com/example/foyer/foyer/LamportFast" "b" "Lcom/example/foyer/foyer/Layout$RegisterArray;" .null := Fld.other W12 F9 (Or.inr (slot_ne (Or.inr (H.w 371 rfl)) (Or.inr (H.w 306 rfl)) (by decide) (t := (.object "com/example/foyer/foyer/Layout$RegisterArray")) (t' := .int) (by decide) (by decide)))
  have F20 : Fld G.Z h11 a "com/example/foyer/foyer/LamportFast" "list" "Lcom/example/foyer/foyer/Layout$RegisterArray;" .null := Fld.other W12 F10 (Or.inr (slot_ne (Or.inr (H.w 373 rfl)) (Or.inr (H.w 306 rfl)) (by decide) (t := (.object "com/example/foyer/foyer/Layout$RegisterArray")) (t' := .int) (by decide) (by decide)))
  refine go_run K 8 2 (pc' := 16) (st' := [(.ref r2), (.ref a)]) rfl ?_
  refine go_putfield K (k := 10) rfl (host := "") (Or.inl (H.w 79 rfl)) Via.refl F16 F13 (Or.inr ⟨(H.w 307 rfl), rfl, rfl⟩) (H.w 298 rfl) (ty := (.object "com/example/foyer/foyer/Layout")) (by decide) rfl rfl g0 (Or.inr (by decide)) ?_
  intro h21 W22
  have F23 : Exa G.Z h21 a "com/example/foyer/foyer/LamportFast" := Exa.wr W22 F13
  have F24 : Fld G.Z h21 a "com/example/foyer/foyer/Algorithm" "processes" "I" (.int p0) := Fld.other W22 F14 (Or.inr (slot_ne (Or.inr (H.w 305 rfl)) (Or.inr (H.w 307 rfl)) (by decide) (t := .int) (t' := (.object "com/example/foyer/foyer/Layout")) (by decide) (by decide)))
  have F25 : Fld G.Z h21 a "com/example/foyer/foyer/Algorithm" "critical" "I" (.int p1) := Fld.other W22 F15 (Or.inr (slot_ne (Or.inr (H.w 306 rfl)) (Or.inr (H.w 307 rfl)) (by decide) (t := .int) (t' := (.object "com/example/foyer/foyer/Layout")) (by decide) (by decide)))
  have F26 : Fld G.Z h21 a "com/example/foyer/foyer/Algorithm" "layout" "Lcom/example/foyer/foyer/Layout;" (.ref r2) := Fld.same W22 F16
  have F27 : Fld G.Z h21 a "com/example/foyer/foyer/LamportFast" "x" "I" (.int (0 : Int32)) := Fld.other W22 F17 (Or.inr (slot_ne (Or.inr (H.w 358 rfl)) (Or.inr (H.w 307 rfl)) (by decide) (t := .int) (t' := (.object "com/example/foyer/foyer/Layout")) (by decide) (by decide)))
  have F28 : Fld G.Z h21 a "com/example/foyer/foyer/LamportFast" "y" "I" (.int (0 : Int32)) := Fld.other W22 F18 (Or.inr (slot_ne (Or.inr (H.w 361 rfl)) (Or.inr (H.w 307 rfl)) (by decide) (t := .int) (t' := (.object "com/example/foyer/foyer/Layout")) (by decide) (by decide)))
  have F29 : Fld G.Z h21 a "com/example/foyer/foyer/LamportFast" "b" "Lcom/example/foyer/foyer/Layout$RegisterArray;" .null := Fld.other W22 F19 (Or.inr (slot_ne (Or.inr (H.w 371 rfl)) (Or.inr (H.w 307 rfl)) (by decide) (t := (.object "com/example/foyer/foyer/Layout$RegisterArray")) (t' := (.object "com/example/foyer/foyer/Layout")) (by decide) (by decide)))
  have F30 : Fld G.Z h21 a "com/example/foyer/foyer/LamportFast" "list" "Lcom/example/foyer/foyer/Layout$RegisterArray;" .null := Fld.other W22 F20 (Or.inr (slot_ne (Or.inr (H.w 373 rfl)) (Or.inr (H.w 307 rfl)) (by decide) (t := (.object "com/example/foyer/foyer/Layout$RegisterArray")) (t' := (.object "com/example/foyer/foyer/Layout")) (by decide) (by decide)))
  refine go_return K (k := 11) rfl rfl rfl rfl ?_
  intro Sf hSf
  exact ⟨rfl, ((((Keep.refl _ [a]).wr W2 (Or.inl (List.mem_cons_self ..))).wr W12 (Or.inl (List.mem_cons_self ..))).wr W22 (Or.inl (List.mem_cons_self ..))), F23, F24, F25, F26, F27, F28, F29, F30⟩
def P_layG : List (Nat × Instr × Nat) := [(0, .aload_n 0, 1), (1, .getfield 22, 3), (4, .areturn, 1)]
theorem L_layG : ∀ q ∈ P_layG, decode prog_3_method_5_code q.1 = .ok q.2 := by decide +kernel
def M_layG : Mt := (("com/example/foyer/foyer/Algorithm", "layout", ({ frames := 0, cells := 0, slots := 0, locals := 0 } : Room)), P_layG, 1, (some (.object "com/example/foyer/foyer/Layout")))
set_option maxRecDepth 65536 in
set_option maxHeartbeats 40000000 in
theorem c_layG {G : Gb} (H : Gl tables_1 els G) {h : Heap} {a : Addr} {r : Addr} (F0 : Fld G.Z h a "com/example/foyer/foyer/Algorithm" "layout" "Lcom/example/foyer/foyer/Layout;" (.ref r)) :
    Ctr G [] (⟨"com/example/foyer/foyer/Algorithm", "layout", "()Lcom/example/foyer/foyer/Layout;"⟩ : MethodName) prog_3_method_5_code 1 (some (.object "com/example/foyer/foyer/Layout")) ({ frames := 0, cells := 0, slots := 0, locals := 0 } : Room) #[.ref a] h [] (fun v h' Sf => v = some (.ref r) ∧ h = h') := by
  refine ctr_of M_layG rfl rfl (plainFor_of_name pn_13) L_layG H.el (Ls := #[.val (.ref a)]) (fun m => ef_ok (by show argsToLocals _ 1 = _; first | (simp [argsToLocals, Value.category]; done) | rfl)) ?_
  intro B K hE
  refine go_run K 0 1 (pc' := 1) (st' := [(.ref a)]) rfl ?_
  refine go_getfield K (k := 1) rfl (host := "") (Or.inl (H.w 79 rfl)) Via.refl F0 ?_
  refine go_areturn K (k := 2) rfl rfl rfl rfl rfl rfl rfl ?_
  intro Sf hSf
  exact ⟨rfl, rfl⟩
def P_alg2 : List (Nat × Instr × Nat) := [(0, .aload_n 0, 1), (1, .iload_n 1, 1), (2, .iload_n 2, 1), (3, .new 1, 3), (6, .dup, 1), (7, .invokespecial 3, 3), (10, .invokespecial 7, 3), (13, .return_, 1)]
theorem L_alg2 : ∀ q ∈ P_alg2, decode prog_3_method_1_code q.1 = .ok q.2 := by decide +kernel
def M_alg2 : Mt := (("com/example/foyer/foyer/Algorithm", "<init>", ({ frames := 5, cells := 4, slots := 9, locals := 66 } : Room)), P_alg2, 3, none)
set_option maxRecDepth 65536 in
set_option maxHeartbeats 40000000 in
theorem c_alg2 {G : Gb} (H : Gl tables_1 els G) {h : Heap} {ed a : Addr} (sE : Sta G.Z G.Z.heap "java/util/ArrayList" "DEFAULTCAPACITY_EMPTY_ELEMENTDATA" "[Ljava/lang/Object;" (.ref ed)) (E0 : Exa G.Z h a "com/example/foyer/foyer/MerrittTaubenfeld") (f00 : Fld G.Z h a "com/example/foyer/foyer/Algorithm" "processes" "I" (.int (0 : Int32))) (f10 : Fld G.Z h a "com/example/foyer/foyer/Algorithm" "critical" "I" (.int (0 : Int32))) (f20 : Fld G.Z h a "com/example/foyer/foyer/Algorithm" "layout" "Lcom/example/foyer/foyer/Layout;" .null) (f30 : Fld G.Z h a "com/example/foyer/foyer/MerrittTaubenfeld" "registered" "I" (.int (0 : Int32))) (f40 : Fld G.Z h a "com/example/foyer/foyer/MerrittTaubenfeld" "churn" "Z" (.int (0 : Int32))) (f50 : Fld G.Z h a "com/example/foyer/foyer/MerrittTaubenfeld" "list" "Lcom/example/foyer/foyer/Layout$RegisterArray;" .null) (f60 : Fld G.Z h a "com/example/foyer/foyer/MerrittTaubenfeld" "lock" "Lcom/example/foyer/foyer/LamportFast;" .null) (f70 : Fld G.Z h a "com/example/foyer/foyer/MerrittTaubenfeld" "registry" "Lcom/example/foyer/foyer/LamportFast;" .null) (g0 : G.Z.heap.size ≤ a) {pn pc0 : Int32} :
    Ctr G [] (⟨"com/example/foyer/foyer/Algorithm", "<init>", "(II)V"⟩ : MethodName) prog_3_method_1_code 3 none ({ frames := 5, cells := 4, slots := 9, locals := 66 } : Room) #[.ref a, .int pn, .int pc0] h [] (fun v h' Sf => ∃ la li pr : Addr, v = none ∧ Keep h h' [a] ∧ Exa G.Z h' a "com/example/foyer/foyer/MerrittTaubenfeld" ∧ Fld G.Z h' a "com/example/foyer/foyer/Algorithm" "processes" "I" (.int pn) ∧ Fld G.Z h' a "com/example/foyer/foyer/Algorithm" "critical" "I" (.int pc0) ∧ Fld G.Z h' a "com/example/foyer/foyer/Algorithm" "layout" "Lcom/example/foyer/foyer/Layout;" (.ref la) ∧ Fld G.Z h' a "com/example/foyer/foyer/MerrittTaubenfeld" "registered" "I" (.int (0 : Int32)) ∧ Fld G.Z h' a "com/example/foyer/foyer/MerrittTaubenfeld" "churn" "Z" (.int (0 : Int32)) ∧ Fld G.Z h' a "com/example/foyer/foyer/MerrittTaubenfeld" "list" "Lcom/example/foyer/foyer/Layout$RegisterArray;" .null ∧ Fld G.Z h' a "com/example/foyer/foyer/MerrittTaubenfeld" "lock" "Lcom/example/foyer/foyer/LamportFast;" .null ∧ Fld G.Z h' a "com/example/foyer/foyer/MerrittTaubenfeld" "registry" "Lcom/example/foyer/foyer/LamportFast;" .null ∧ Ly G h' la li pr [] ∧ Al0 G h' li ed ∧ h.size ≤ la ∧ h.size ≤ li) := by
  refine ctr_of M_alg2 rfl rfl (plainFor_of_name pn_13) L_alg2 H.el (Ls := #[.val (.ref a), .val (.int pn), .val (.int pc0)]) (fun m => ef_ok (by show argsToLocals _ 3 = _; first | (simp [argsToLocals, Value.category]; done) | rfl)) ?_
  intro B K hE
  refine go_run K 0 3 (pc' := 3) (st' := [(.int pc0), (.int pn), (.ref a)]) rfl ?_
  refine go_new K (k := 3) rfl (H.w 25 rfl) (H.w 26 rfl) (H.w 27 rfl) rfl rfl ?_
  intro h2 a1 e3 g4 E5 A6 D7
  have F8 : Fld G.Z h2 a1 "com/example/foyer/foyer/Layout" "declared" "Ljava/util/List;" .null := D7 (Or.inr (H.w 68 rfl)) (ty := (.object "java/util/List")) (by decide)
  have F9 : Fld G.Z h2 a1 "com/example/foyer/foyer/Layout" "prefix" "Ljava/lang/String;" .null := D7 (Or.inr (H.w 70 rfl)) (ty := (.object "java/lang/String")) (by decide)
  refine go_run K 4 1 (pc' := 7) (st' := [(.ref a1), (.ref a1), (.int pc0), (.int pn), (.ref a)]) rfl ?_
  refine go_special K (k := 5) rfl rfl (H.w 28 rfl) (H.w 29 rfl) (H.w 27 rfl) (H.w 30 rfl) (by decide) pd_14 (c_ly0 H sE A6 F8 F9 g4) (argsL := []) (rest := [(.ref a1), (.int pc0), (.int pn), (.ref a)]) rfl rfl rfl sub0 rfl ?_
  rintro _ h10 _ - ⟨li11, pr12, rfl, K13, Y14, L15, f16⟩
  show Go G B M_alg2 _ h10 (a1 :: []) 4 9 10 #[.val (.ref a), .val (.int pn), .val (.int pc0)] [(.ref a1), (.int pc0), (.int pn), (.ref a)]
  have X17 : Ext h h10 := (Ext.keepN E5 K13 (allS (Nat.le_trans (Nat.le_refl _) (Nat.le_of_eq e3.symm)) all0))
  have c18 := (E0.ext X17)
  have c19 := (f00.ext X17)
  have c20 := (f10.ext X17)
  have c21 := (f20.ext X17)
  have c22 := (f30.ext X17)
  have c23 := (f40.ext X17)
  have c24 := (f50.ext X17)
  have c25 := (f60.ext X17)
  have c26 := (f70.ext X17)
  refine go_special K (k := 6) rfl rfl (H.w 71 rfl) (H.w 72 rfl) (H.w 23 rfl) (H.w 73 rfl) (by decide) pd_28 (c_algM (a := a) (p0 := pn) (p1 := pc0) (r2 := a1) H c18 c19 c20 c21 c22 c23 c24 c25 c26 g0) (argsL := [(.int pn), (.int pc0), (.ref a1)]) (rest := []) rfl rfl rfl sub0 rfl ?_
  rintro _ h27 _ - ⟨rfl, K28, E29, F30, F31, F32, F33, F34, F35, F36, F37⟩
  show Go G B M_alg2 _ h27 (a1 :: []) 4 9 13 #[.val (.ref a), .val (.int pn), .val (.int pc0)] []
  have c38 := (Ly.keep Y14 K28 (ninS (Exa.ne (Ly.exa Y14) c18 (by decide)) nin0) (allS (Ap.of_exa c18 (by decide) (H.w 2 rfl)) all0))
  have c39 := (Al0.keep L15 K28 (ninS (Exa.ne (Al0.exa L15) c18 (by decide)) nin0))
  refine go_return K (k := 7) rfl rfl rfl rfl ?_
  intro Sf hSf
  exact ⟨a1, li11, pr12, rfl, ((((Keep.refl _ [a]).ext E5).trans K13 (allS (Or.inr (Nat.le_trans (Nat.le_refl _) (Nat.le_of_eq e3.symm))) all0)).trans K28 (allS (Or.inl (List.mem_cons_self ..)) all0)), E29, F30, F31, F32, F33, F34, F35, F36, F37, c38, c39, Nat.le_trans (Nat.le_refl _) (Nat.le_of_eq e3.symm), Nat.le_trans (E5).1 f16⟩
theorem pn_14 : plainName "com/example/foyer/foyer/Registration" = true := by first | (simp [plainName, overriddenIn]; done) | decide +kernel
def P_reg : List (Nat × Instr × Nat) := [(0, .aload_n 0, 1), (1, .invokespecial 1, 3), (4, .aload_n 0, 1), (5, .iload_n 1, 1), (6, .putfield 7, 3), (9, .aload_n 0, 1), (10, .iload_n 2, 1), (11, .putfield 13, 3), (14, .return_, 1)]
theorem L_reg : ∀ q ∈ P_reg, decode prog_50_method_1_code q.1 = .ok q.2 := by decide +kernel
def M_reg : Mt := (("com/example/foyer/foyer/Registration", "<init>", ({ frames := 1, cells := 0, slots := 0, locals := 12 } : Room)), P_reg, 3, none)
set_option maxRecDepth 65536 in
set_option maxHeartbeats 40000000 in
theorem c_reg {G : Gb} (H : Gl tables_1 els G) {h : Heap} {a : Addr} {p0 : Int32} {p1 : Int32} (E0 : Exa G.Z h a "com/example/foyer/foyer/Registration") (f0 : Fld G.Z h a "com/example/foyer/foyer/Registration" "registered" "I" (.int (0 : Int32))) (f1 : Fld G.Z h a "com/example/foyer/foyer/Registration" "churn" "Z" (.int (0 : Int32))) (g0 : G.Z.heap.size ≤ a) (b1 : p1 = 0 ∨ p1 = 1) :
    Ctr G [] (⟨"com/example/foyer/foyer/Registration", "<init>", "(IZ)V"⟩ : MethodName) prog_50_method_1_code 3 none ({ frames := 1, cells := 0, slots := 0, locals := 12 } : Room) #[.ref a, .int p0, .int p1] h [] (fun v h' Sf => v = none ∧ Keep h h' [a] ∧ Exa G.Z h' a "com/example/foyer/foyer/Registration" ∧ Fld G.Z h' a "com/example/foyer/foyer/Registration" "registered" "I" (.int p0) ∧ Fld G.Z h' a "com/example/foyer/foyer/Registration" "churn" "Z" (.int p1)) := by
  refine ctr_of M_reg rfl rfl (plainFor_of_name pn_14) L_reg H.el (Ls := #[.val (.ref a), .val (.int p0), .val (.int p1)]) (fun m => ef_ok (by show argsToLocals _ 3 = _; first | (simp [argsToLocals, Value.category]; done) | rfl)) ?_
  intro B K hE
  refine go_run K 0 1 (pc' := 1) (st' := [(.ref a)]) rfl ?_
  refine go_init0 K (k := 1) rfl (H.w 10 rfl) (H.w 11 rfl) (H.w 12 rfl) rfl rfl rfl ?_
  refine go_run K 2 2 (pc' := 6) (st' := [(.int p0), (.ref a)]) rfl ?_
  refine go_putfield K (k := 4) rfl (host := "") (Or.inl (H.w 13 rfl)) Via.refl f0 E0 (Or.inr ⟨(H.w 14 rfl), rfl, rfl⟩) (H.w 5 rfl) (ty := .int) (by decide) rfl rfl g0 (Or.inr (by decide)) ?_
  intro h1 W2
  have F3 : Exa G.Z h1 a "com/example/foyer/foyer/Registration" := Exa.wr W2 E0
  have F4 : Fld G.Z h1 a "com/example/foyer/foyer/Registration" "registered" "I" (.int p0) := Fld.same W2 f0
  have F5 : Fld G.Z h1 a "com/example/foyer/foyer/Registration" "churn" "Z" (.int (0 : Int32)) := Fld.other W2 f1 (Or.inr (slot_ne (Or.inr (H.w 16 rfl)) (Or.inr (H.w 14 rfl)) (by decide) (t := .boolean) (t' := .int) (by decide) (by decide)))
  refine go_run K 5 2 (pc' := 11) (st' := [(.int p1), (.ref a)]) rfl ?_
  refine go_putfield K (k := 7) rfl (host := "") (Or.inl (H.w 15 rfl)) Via.refl F5 F3 (Or.inr ⟨(H.w 16 rfl), rfl, rfl⟩) (H.w 5 rfl) (ty := .boolean) (by decide) (bool_n b1) (bool_f b1) g0 (Or.inr (by decide)) ?_
  intro h6 W7
  have F8 : Exa G.Z h6 a "com/example/foyer/foyer/Registration" := Exa.wr W7 F3
  have F9 : Fld G.Z h6 a "com/example/foyer/foyer/Registration" "registered" "I" (.int p0) := Fld.other W7 F4 (Or.inr (slot_ne (Or.inr (H.w 14 rfl)) (Or.inr (H.w 16 rfl)) (by decide) (t := .int) (t' := .boolean) (by decide) (by decide)))
  have F10 : Fld G.Z h6 a "com/example/foyer/foyer/Registration" "churn" "Z" (.int p1) := Fld.same W7 F5
  refine go_return K (k := 8) rfl rfl rfl rfl ?_
  intro Sf hSf
  exact ⟨rfl, (((Keep.refl _ [a]).wr W2 (Or.inl (List.mem_cons_self ..))).wr W7 (Or.inl (List.mem_cons_self ..))), F8, F9, F10⟩
def P_rgG : List (Nat × Instr × Nat) := [(0, .aload_n 0, 1), (1, .getfield 7, 3), (4, .ireturn, 1)]
theorem L_rgG : ∀ q ∈ P_rgG, decode prog_50_method_2_code q.1 = .ok q.2 := by decide +kernel
def M_rgG : Mt := (("com/example/foyer/foyer/Registration", "registered", ({ frames := 0, cells := 0, slots := 0, locals := 0 } : Room)), P_rgG, 1, (some .int))
set_option maxRecDepth 65536 in
set_option maxHeartbeats 40000000 in
theorem c_rgG {G : Gb} (H : Gl tables_1 els G) {h : Heap} {a : Addr} {r : Int32} (F0 : Fld G.Z h a "com/example/foyer/foyer/Registration" "registered" "I" (.int r)) :
    Ctr G [] (⟨"com/example/foyer/foyer/Registration", "registered", "()I"⟩ : MethodName) prog_50_method_2_code 1 (some .int) ({ frames := 0, cells := 0, slots := 0, locals := 0 } : Room) #[.ref a] h [] (fun v h' Sf => v = some (.int r) ∧ h = h') := by
  refine ctr_of M_rgG rfl rfl (plainFor_of_name pn_14) L_rgG H.el (Ls := #[.val (.ref a)]) (fun m => ef_ok (by show argsToLocals _ 1 = _; first | (simp [argsToLocals, Value.category]; done) | rfl)) ?_
  intro B K hE
  refine go_run K 0 1 (pc' := 1) (st' := [(.ref a)]) rfl ?_
  refine go_getfield K (k := 1) rfl (host := "") (Or.inl (H.w 13 rfl)) Via.refl F0 ?_
  refine go_ireturn K (k := 2) rfl rfl (by decide) rfl rfl rfl ?_
  intro Sf hSf
  exact ⟨rfl, rfl⟩
def P_chG : List (Nat × Instr × Nat) := [(0, .aload_n 0, 1), (1, .getfield 13, 3), (4, .ireturn, 1)]
theorem L_chG : ∀ q ∈ P_chG, decode prog_50_method_3_code q.1 = .ok q.2 := by decide +kernel
def M_chG : Mt := (("com/example/foyer/foyer/Registration", "churn", ({ frames := 0, cells := 0, slots := 0, locals := 0 } : Room)), P_chG, 1, (some .boolean))
set_option maxRecDepth 65536 in
set_option maxHeartbeats 40000000 in
theorem c_chG {G : Gb} (H : Gl tables_1 els G) {h : Heap} {a : Addr} {r : Int32} (hr : r = 0 ∨ r = 1) (F0 : Fld G.Z h a "com/example/foyer/foyer/Registration" "churn" "Z" (.int r)) :
    Ctr G [] (⟨"com/example/foyer/foyer/Registration", "churn", "()Z"⟩ : MethodName) prog_50_method_3_code 1 (some .boolean) ({ frames := 0, cells := 0, slots := 0, locals := 0 } : Room) #[.ref a] h [] (fun v h' Sf => v = some (.int r) ∧ h = h') := by
  refine ctr_of M_chG rfl rfl (plainFor_of_name pn_14) L_chG H.el (Ls := #[.val (.ref a)]) (fun m => ef_ok (by show argsToLocals _ 1 = _; first | (simp [argsToLocals, Value.category]; done) | rfl)) ?_
  intro B K hE
  refine go_run K 0 1 (pc' := 1) (st' := [(.ref a)]) rfl ?_
  refine go_getfield K (k := 1) rfl (host := "") (Or.inl (H.w 15 rfl)) Via.refl F0 ?_
  refine go_ireturn K (k := 2) rfl rfl (by decide) (bool_n hr) rfl rfl ?_
  intro Sf hSf
  exact ⟨rfl, rfl⟩
theorem pn_15 : plainName "com/example/foyer/foyer/LamportFast" = true := by first | (simp [plainName, overriddenIn]; done) | decide +kernel
def P_lf : List (Nat × Instr × Nat) := [(0, .aload_n 0, 1), (1, .iload_n 1, 1), (2, .bipush 14, 2), (4, .aload_n 2, 1), (5, .invokespecial 12, 3), (8, .aload_n 0, 1), (9, .aload_n 0, 1), (10, .invokevirtual 17, 3), (13, .ldc 21, 2), (15, .iconst 0, 1), (16, .invokevirtual 23, 3), (19, .putfield 27, 3), (22, .aload_n 0, 1), (23, .aload_n 0, 1), (24, .invokevirtual 17, 3), (27, .ldc 30, 2), (29, .iconst 0, 1), (30, .invokevirtual 23, 3), (33, .putfield 32, 3), (36, .aload_n 0, 1), (37, .aload_n 0, 1), (38, .invokevirtual 17, 3), (41, .ldc 34, 2), (43, .iconst 1, 1), (44, .iload_n 1, 1), (45, .iconst 0, 1), (46, .invokevirtual 36, 3), (49, .putfield 40, 3), (52, .aload_n 0, 1), (53, .aload_n 3, 1), (54, .putfield 43, 3), (57, .return_, 1)]
theorem L_lf : ∀ q ∈ P_lf, decode prog_32_method_2_code q.1 = .ok q.2 := by decide +kernel
def M_lf : Mt := (("com/example/foyer/foyer/LamportFast", "<init>", ({ frames := 9, cells := 27, slots := 195, locals := 3094 } : Room)), P_lf, 4, none)
set_option maxRecDepth 65536 in
set_option maxHeartbeats 40000000 in
theorem c_lfR {G : Gb} (H : Gl tables_1 els G) {h : Heap} {a lx : Addr} {pn : Int32} (E0 : Exa G.Z h a "com/example/foyer/foyer/LamportFast") (f00 : Fld G.Z h a "com/example/foyer/foyer/Algorithm" "processes" "I" (.int (0 : Int32))) (f10 : Fld G.Z h a "com/example/foyer/foyer/Algorithm" "critical" "I" (.int (0 : Int32))) (f20 : Fld G.Z h a "com/example/foyer/foyer/Algorithm" "layout" "Lcom/example/foyer/foyer/Layout;" .null) (f30 : Fld G.Z h a "com/example/foyer/foyer/LamportFast" "x" "I" (.int (0 : Int32))) (f40 : Fld G.Z h a "com/example/foyer/foyer/LamportFast" "y" "I" (.int (0 : Int32))) (f50 : Fld G.Z h a "com/example/foyer/foyer/LamportFast" "b" "Lcom/example/foyer/foyer/Layout$RegisterArray;" .null) (f60 : Fld G.Z h a "com/example/foyer/foyer/LamportFast" "list" "Lcom/example/foyer/foyer/Layout$RegisterArray;" .null) (g0 : G.Z.heap.size ≤ a) {li t r : Addr} {kA : ClassId} {k : Nat} {b f n : Int32} {ini : Value} (L0 : Alk G h li t r kA k b f n ini) (hk : k + 3 ≤ 10) {la pr : Addr} {ps : List Int32} (Y0 : Ly G h la li pr ps) (lp : Lat ps) (hs : ps.length ≤ 9) :
    Ctr G [] (⟨"com/example/foyer/foyer/LamportFast", "<init>", "(ILcom/example/foyer/foyer/Layout;Lcom/example/foyer/foyer/Layout$RegisterArray;)V"⟩ : MethodName) prog_32_method_2_code 4 none ({ frames := 9, cells := 27, slots := 195, locals := 3094 } : Room) #[.ref a, .int pn, .ref la, .ref lx] h [] (fun v h' Sf => v = none ∧ Keep h h' [a, li, t] ∧ ∃ (r' : Addr) (b' f' n' : Int32) (ini' : Value), Alk G h' li t r' kA (k + 3) b' f' n' ini') := by
  refine ctr_of M_lf rfl rfl (plainFor_of_name pn_15) L_lf H.el (Ls := #[.val (.ref a), .val (.int pn), .val (.ref la), .val (.ref lx)]) (fun m => ef_ok (by show argsToLocals _ 4 = _; first | (simp [argsToLocals, Value.category]; done) | rfl)) ?_
  intro B K hE
  refine go_run K 0 4 (pc' := 5) (st' := [(.ref la), (.int (14 : Int32)), (.int pn), (.ref a)]) rfl ?_
  refine go_special K (k := 4) rfl rfl (H.w 303 rfl) (H.w 72 rfl) (H.w 23 rfl) (H.w 73 rfl) (by decide) pd_28 (c_algL (a := a) (p0 := pn) (p1 := (14 : Int32)) (r2 := la) H E0 f00 f10 f20 f30 f40 f50 f60 g0) (argsL := [(.int pn), (.int (14 : Int32)), (.ref la)]) (rest := []) rfl rfl rfl sub0 rfl ?_
  rintro _ h1 _ - ⟨rfl, K2, E3, F4, F5, F6, F7, F8, F9, F10⟩
  show Go G B M_lf _ h1 [] 0 0 8 #[.val (.ref a), .val (.int pn), .val (.ref la), .val (.ref lx)] []
  refine go_run K 5 2 (pc' := 10) (st' := [(.ref a), (.ref a)]) rfl ?_
  refine go_virtUp K (k := 7) rfl (H.w 308 rfl) (H.w 309 rfl) (H.w 97 rfl) (by decide) (H.w 310 rfl) (H.w 98 rfl) (H.w 23 rfl) (H.w 100 rfl) pd_29 E3 (c_layG H F6) (argsL := []) (rest := [(.ref a)]) rfl rfl rfl sub0 rfl ?_
  rintro _ _ _ - ⟨rfl, rfl⟩
  show Go G B M_lf _ h1 [] 0 0 13 #[.val (.ref a), .val (.int pn), .val (.ref la), .val (.ref lx)] [(.ref la), (.ref a)]
  refine go_ldcT K (k := 8) rfl (H.w 311 rfl) H.ws (H.mem (by decide)) (cs := [(120 : Int32)]) (by decide) (by decide) (n := 4) rfl rfl rfl rfl ?_
  intro h12 a11 E13 S14
  refine go_run K 9 1 (pc' := 16) (st' := [(.int (0 : Int32)), (.ref a11), (.ref la), (.ref a)]) rfl ?_
  have c15 := (((Ly.exa Y0).keep K2).ext E13)
  have c16 := ((Alk.keep L0 K2 (ninS (Exa.ne (Alk.exa L0) E0 (by decide)) nin0) (ninS (Exa.ne (Alk.exaT L0) E0 (by decide)) nin0) (ninS (Exa.ne (Alk.exaR L0) E0 (by decide)) nin0)).ext E13)
  have c17 := ((Ly.keep Y0 K2 (ninS (Exa.ne (Ly.exa Y0) E0 (by decide)) nin0) (allS (Ap.of_exa E0 (by decide) (H.w 298 rfl)) all0)).ext E13)
  refine go_virt0 K (k := 10) rfl (H.w 312 rfl) (H.w 315 rfl) (H.w 314 rfl) (H.w 27 rfl) (H.w 316 rfl) (by decide) pd_30 c15 (c_scl (iv := (0 : Int32)) H c16 (by omega) c17 lp hs (lat1 (by decide)) (by decide) S14) (argsL := [(.ref a11), (.int (0 : Int32))]) (rest := [(.ref a)]) rfl rfl rfl sub0 rfl ?_
  rintro _ h18 _ - ⟨x19, r20, b21, f22, n23, ini24, rfl, K25, L26⟩
  show Go G B M_lf _ h18 [] 9 65 19 #[.val (.ref a), .val (.int pn), .val (.ref la), .val (.ref lx)] [(.int x19), (.ref a)]
  have c27 := ((F7.ext E13).keep K25 (ninS (Exa.ne (E3.ext E13) (((Alk.exa L0).keep K2).ext E13) (by decide)) (ninS (Exa.ne (E3.ext E13) (((Alk.exaT L0).keep K2).ext E13) (by decide)) nin0)))
  have c28 := ((E3.ext E13).keep K25)
  refine go_putfield K (k := 11) rfl (host := "") (Or.inl (H.w 357 rfl)) Via.refl c27 c28 (Or.inr ⟨(H.w 358 rfl), rfl, rfl⟩) (H.w 298 rfl) (ty := .int) (by decide) rfl rfl g0 (Or.inr (by decide)) ?_
  intro h29 W30
  have c31 := ((F4.ext E13).keep K25 (ninS (Exa.ne (E3.ext E13) (((Alk.exa L0).keep K2).ext E13) (by decide)) (ninS (Exa.ne (E3.ext E13) (((Alk.exaT L0).keep K2).ext E13) (by decide)) nin0)))
  have c32 := ((F5.ext E13).keep K25 (ninS (Exa.ne (E3.ext E13) (((Alk.exa L0).keep K2).ext E13) (by decide)) (ninS (Exa.ne (E3.ext E13) (((Alk.exaT L0).keep K2).ext E13) (by decide)) nin0)))
  have c33 := ((F6.ext E13).keep K25 (ninS (Exa.ne (E3.ext E13) (((Alk.exa L0).keep K2).ext E13) (by decide)) (ninS (Exa.ne (E3.ext E13) (((Alk.exaT L0).keep K2).ext E13) (by decide)) nin0)))
  have c34 := ((F8.ext E13).keep K25 (ninS (Exa.ne (E3.ext E13) (((Alk.exa L0).keep K2).ext E13) (by decide)) (ninS (Exa.ne (E3.ext E13) (((Alk.exaT L0).keep K2).ext E13) (by decide)) nin0)))
  have c35 := ((F9.ext E13).keep K25 (ninS (Exa.ne (E3.ext E13) (((Alk.exa L0).keep K2).ext E13) (by decide)) (ninS (Exa.ne (E3.ext E13) (((Alk.exaT L0).keep K2).ext E13) (by decide)) nin0)))
  have c36 := ((F10.ext E13).keep K25 (ninS (Exa.ne (E3.ext E13) (((Alk.exa L0).keep K2).ext E13) (by decide)) (ninS (Exa.ne (E3.ext E13) (((Alk.exaT L0).keep K2).ext E13) (by decide)) nin0)))
  have F37 : Exa G.Z h29 a "com/example/foyer/foyer/LamportFast" := Exa.wr W30 c28
  have F38 : Fld G.Z h29 a "com/example/foyer/foyer/Algorithm" "processes" "I" (.int pn) := Fld.other W30 c31 (Or.inr (slot_ne (Or.inr (H.w 305 rfl)) (Or.inr (H.w 358 rfl)) (by decide) (t := .int) (t' := .int) (by decide) (by decide)))
  have F39 : Fld G.Z h29 a "com/example/foyer/foyer/Algorithm" "critical" "I" (.int (14 : Int32)) := Fld.other W30 c32 (Or.inr (slot_ne (Or.inr (H.w 306 rfl)) (Or.inr (H.w 358 rfl)) (by decide) (t := .int) (t' := .int) (by decide) (by decide)))
  have F40 : Fld G.Z h29 a "com/example/foyer/foyer/Algorithm" "layout" "Lcom/example/foyer/foyer/Layout;" (.ref la) := Fld.other W30 c33 (Or.inr (slot_ne (Or.inr (H.w 307 rfl)) (Or.inr (H.w 358 rfl)) (by decide) (t := (.object "com/example/foyer/foyer/Layout")) (t' := .int) (by decide) (by decide)))
  have F41 : Fld G.Z h29 a "com/example/foyer/foyer/LamportFast" "x" "I" (.int x19) := Fld.same W30 c27
  have F42 : Fld G.Z h29 a "com/example/foyer/foyer/LamportFast" "y" "I" (.int (0 : Int32)) := Fld.other W30 c34 (Or.inr (slot_ne (Or.inr (H.w 361 rfl)) (Or.inr (H.w 358 rfl)) (by decide) (t := .int) (t' := .int) (by decide) (by decide)))
  have F43 : Fld G.Z h29 a "com/example/foyer/foyer/LamportFast" "b" "Lcom/example/foyer/foyer/Layout$RegisterArray;" .null := Fld.other W30 c35 (Or.inr (slot_ne (Or.inr (H.w 371 rfl)) (Or.inr (H.w 358 rfl)) (by decide) (t := (.object "com/example/foyer/foyer/Layout$RegisterArray")) (t' := .int) (by decide) (by decide)))
  have F44 : Fld G.Z h29 a "com/example/foyer/foyer/LamportFast" "list" "Lcom/example/foyer/foyer/Layout$RegisterArray;" .null := Fld.other W30 c36 (Or.inr (slot_ne (Or.inr (H.w 373 rfl)) (Or.inr (H.w 358 rfl)) (by decide) (t := (.object "com/example/foyer/foyer/Layout$RegisterArray")) (t' := .int) (by decide) (by decide)))
  refine go_run K 12 2 (pc' := 24) (st' := [(.ref a), (.ref a)]) rfl ?_
  refine go_virtUp K (k := 14) rfl (H.w 308 rfl) (H.w 309 rfl) (H.w 97 rfl) (by decide) (H.w 310 rfl) (H.w 98 rfl) (H.w 23 rfl) (H.w 100 rfl) pd_29 F37 (c_layG H F40) (argsL := []) (rest := [(.ref a)]) rfl rfl rfl sub0 rfl ?_
  rintro _ _ _ - ⟨rfl, rfl⟩
  show Go G B M_lf _ h29 [] 9 65 27 #[.val (.ref a), .val (.int pn), .val (.ref la), .val (.ref lx)] [(.ref la), (.ref a)]
  refine go_ldcT K (k := 15) rfl (H.w 359 rfl) H.ws (H.mem (by decide)) (cs := [(121 : Int32)]) (by decide) (by decide) (n := 4) rfl rfl rfl rfl ?_
  intro h46 a45 E47 S48
  refine go_run K 16 1 (pc' := 30) (st' := [(.int (0 : Int32)), (.ref a45), (.ref la), (.ref a)]) rfl ?_
  have c49 := ((Exa.wr W30 (c15.keep K25)).ext E47)
  have c50 := ((Alk.keep L26 (Keep.of_wr W30) (ninS (Exa.ne (Alk.exa L26) c28 (by decide)) nin0) (ninS (Exa.ne (Alk.exaT L26) c28 (by decide)) nin0) (ninS (Exa.ne (Alk.exaR L26) c28 (by decide)) nin0)).ext E47)
  have c51 := ((Ly.keep (Ly.keep c17 K25 (ninS (Exa.ne c15 (((Alk.exa L0).keep K2).ext E13) (by decide)) (ninS (Exa.ne c15 (((Alk.exaT L0).keep K2).ext E13) (by decide)) nin0)) (allS (Ap.of_exa (((Alk.exa L0).keep K2).ext E13) (by decide) (H.w 32 rfl)) (allS (Alk.apT c16 (H.w 57 rfl)) all0))) (Keep.of_wr W30) (ninS (Exa.ne (c15.keep K25) c28 (by decide)) nin0) (allS (Ap.of_exa c28 (by decide) (H.w 298 rfl)) all0)).ext E47)
  refine go_virt0 K (k := 17) rfl (H.w 312 rfl) (H.w 315 rfl) (H.w 314 rfl) (H.w 27 rfl) (H.w 316 rfl) (by decide) pd_30 c49 (c_scl (iv := (0 : Int32)) H c50 (by omega) c51 lp hs (lat1 (by decide)) (by decide) S48) (argsL := [(.ref a45), (.int (0 : Int32))]) (rest := [(.ref a)]) rfl rfl rfl sub0 rfl ?_
  rintro _ h52 _ - ⟨x53, r54, b55, f56, n57, ini58, rfl, K59, L60⟩
  show Go G B M_lf _ h52 [] 18 130 33 #[.val (.ref a), .val (.int pn), .val (.ref la), .val (.ref lx)] [(.int x53), (.ref a)]
  have c61 := ((F42.ext E47).keep K59 (ninS (Exa.ne (F37.ext E47) ((Exa.wr W30 (Alk.exa L26)).ext E47) (by decide)) (ninS (Exa.ne (F37.ext E47) ((Exa.wr W30 (Alk.exaT L26)).ext E47) (by decide)) nin0)))
  have c62 := ((F37.ext E47).keep K59)
  refine go_putfield K (k := 18) rfl (host := "") (Or.inl (H.w 360 rfl)) Via.refl c61 c62 (Or.inr ⟨(H.w 361 rfl), rfl, rfl⟩) (H.w 298 rfl) (ty := .int) (by decide) rfl rfl g0 (Or.inr (by decide)) ?_
  intro h63 W64
  have c65 := ((F38.ext E47).keep K59 (ninS (Exa.ne (F37.ext E47) ((Exa.wr W30 (Alk.exa L26)).ext E47) (by decide)) (ninS (Exa.ne (F37.ext E47) ((Exa.wr W30 (Alk.exaT L26)).ext E47) (by decide)) nin0)))
  have c66 := ((F39.ext E47).keep K59 (ninS (Exa.ne (F37.ext E47) ((Exa.wr W30 (Alk.exa L26)).ext E47) (by decide)) (ninS (Exa.ne (F37.ext E47) ((Exa.wr W30 (Alk.exaT L26)).ext E47) (by decide)) nin0)))
  have c67 := ((F40.ext E47).keep K59 (ninS (Exa.ne (F37.ext E47) ((Exa.wr W30 (Alk.exa L26)).ext E47) (by decide)) (ninS (Exa.ne (F37.ext E47) ((Exa.wr W30 (Alk.exaT L26)).ext E47) (by decide)) nin0)))
  have c68 := ((F41.ext E47).keep K59 (ninS (Exa.ne (F37.ext E47) ((Exa.wr W30 (Alk.exa L26)).ext E47) (by decide)) (ninS (Exa.ne (F37.ext E47) ((Exa.wr W30 (Alk.exaT L26)).ext E47) (by decide)) nin0)))
  have c69 := ((F43.ext E47).keep K59 (ninS (Exa.ne (F37.ext E47) ((Exa.wr W30 (Alk.exa L26)).ext E47) (by decide)) (ninS (Exa.ne (F37.ext E47) ((Exa.wr W30 (Alk.exaT L26)).ext E47) (by decide)) nin0)))
  have c70 := ((F44.ext E47).keep K59 (ninS (Exa.ne (F37.ext E47) ((Exa.wr W30 (Alk.exa L26)).ext E47) (by decide)) (ninS (Exa.ne (F37.ext E47) ((Exa.wr W30 (Alk.exaT L26)).ext E47) (by decide)) nin0)))
  have F71 : Exa G.Z h63 a "com/example/foyer/foyer/LamportFast" := Exa.wr W64 c62
  have F72 : Fld G.Z h63 a "com/example/foyer/foyer/Algorithm" "processes" "I" (.int pn) := Fld.other W64 c65 (Or.inr (slot_ne (Or.inr (H.w 305 rfl)) (Or.inr (H.w 361 rfl)) (by decide) (t := .int) (t' := .int) (by decide) (by decide)))
  have F73 : Fld G.Z h63 a "com/example/foyer/foyer/Algorithm" "critical" "I" (.int (14 : Int32)) := Fld.other W64 c66 (Or.inr (slot_ne (Or.inr (H.w 306 rfl)) (Or.inr (H.w 361 rfl)) (by decide) (t := .int) (t' := .int) (by decide) (by decide)))
  have F74 : Fld G.Z h63 a "com/example/foyer/foyer/Algorithm" "layout" "Lcom/example/foyer/foyer/Layout;" (.ref la) := Fld.other W64 c67 (Or.inr (slot_ne (Or.inr (H.w 307 rfl)) (Or.inr (H.w 361 rfl)) (by decide) (t := (.object "com/example/foyer/foyer/Layout")) (t' := .int) (by decide) (by decide)))
  have F75 : Fld G.Z h63 a "com/example/foyer/foyer/LamportFast" "x" "I" (.int x19) := Fld.other W64 c68 (Or.inr (slot_ne (Or.inr (H.w 358 rfl)) (Or.inr (H.w 361 rfl)) (by decide) (t := .int) (t' := .int) (by decide) (by decide)))
  have F76 : Fld G.Z h63 a "com/example/foyer/foyer/LamportFast" "y" "I" (.int x53) := Fld.same W64 c61
  have F77 : Fld G.Z h63 a "com/example/foyer/foyer/LamportFast" "b" "Lcom/example/foyer/foyer/Layout$RegisterArray;" .null := Fld.other W64 c69 (Or.inr (slot_ne (Or.inr (H.w 371 rfl)) (Or.inr (H.w 361 rfl)) (by decide) (t := (.object "com/example/foyer/foyer/Layout$RegisterArray")) (t' := .int) (by decide) (by decide)))
  have F78 : Fld G.Z h63 a "com/example/foyer/foyer/LamportFast" "list" "Lcom/example/foyer/foyer/Layout$RegisterArray;" .null := Fld.other W64 c70 (Or.inr (slot_ne (Or.inr (H.w 373 rfl)) (Or.inr (H.w 361 rfl)) (by decide) (t := (.object "com/example/foyer/foyer/Layout$RegisterArray")) (t' := .int) (by decide) (by decide)))
  refine go_run K 19 2 (pc' := 38) (st' := [(.ref a), (.ref a)]) rfl ?_
  refine go_virtUp K (k := 21) rfl (H.w 308 rfl) (H.w 309 rfl) (H.w 97 rfl) (by decide) (H.w 310 rfl) (H.w 98 rfl) (H.w 23 rfl) (H.w 100 rfl) pd_29 F71 (c_layG H F74) (argsL := []) (rest := [(.ref a)]) rfl rfl rfl sub0 rfl ?_
  rintro _ _ _ - ⟨rfl, rfl⟩
  show Go G B M_lf _ h63 [] 18 130 41 #[.val (.ref a), .val (.int pn), .val (.ref la), .val (.ref lx)] [(.ref la), (.ref a)]
  refine go_ldcT K (k := 22) rfl (H.w 362 rfl) H.ws (H.mem (by decide)) (cs := [(98 : Int32)]) (by decide) (by decide) (n := 4) rfl rfl rfl rfl ?_
  intro h80 a79 E81 S82
  refine go_run K 23 3 (pc' := 46) (st' := [(.int (0 : Int32)), (.int pn), (.int (1 : Int32)), (.ref a79), (.ref la), (.ref a)]) rfl ?_
  have c83 := ((Exa.wr W64 (c49.keep K59)).ext E81)
  have c84 := ((Alk.keep L60 (Keep.of_wr W64) (ninS (Exa.ne (Alk.exa L60) c62 (by decide)) nin0) (ninS (Exa.ne (Alk.exaT L60) c62 (by decide)) nin0) (ninS (Exa.ne (Alk.exaR L60) c62 (by decide)) nin0)).ext E81)
  have c85 := ((Ly.keep (Ly.keep c51 K59 (ninS (Exa.ne c49 ((Exa.wr W30 (Alk.exa L26)).ext E47) (by decide)) (ninS (Exa.ne c49 ((Exa.wr W30 (Alk.exaT L26)).ext E47) (by decide)) nin0)) (allS (Ap.of_exa ((Exa.wr W30 (Alk.exa L26)).ext E47) (by decide) (H.w 32 rfl)) (allS (Alk.apT c50 (H.w 57 rfl)) all0))) (Keep.of_wr W64) (ninS (Exa.ne (c49.keep K59) c62 (by decide)) nin0) (allS (Ap.of_exa c62 (by decide) (H.w 298 rfl)) all0)).ext E81)
  refine go_virt0 K (k := 26) rfl (H.w 363 rfl) (H.w 366 rfl) (H.w 365 rfl) (H.w 27 rfl) (H.w 367 rfl) (by decide) pd_31 c83 (c_ar3 (p := (1 : Int32))  (q := pn)  (iv := (0 : Int32)) H c84 (by omega) c85 lp hs (lat1 (by decide)) (by decide) S82) (argsL := [(.ref a79), (.int (1 : Int32)), (.int pn), (.int (0 : Int32))]) (rest := [(.ref a)]) rfl rfl rfl sub0 rfl ?_
  rintro _ h86 _ - ⟨r88, b89, f90, n91, ini92, rfl, K93, L94⟩
  show Go G B M_lf _ h86 [] 27 195 49 #[.val (.ref a), .val (.int pn), .val (.ref la), .val (.ref lx)] [(.ref r88), (.ref a)]
  have c95 := ((F77.ext E81).keep K93 (ninS (Exa.ne (F71.ext E81) ((Exa.wr W64 (Alk.exa L60)).ext E81) (by decide)) (ninS (Exa.ne (F71.ext E81) ((Exa.wr W64 (Alk.exaT L60)).ext E81) (by decide)) nin0)))
  have c96 := ((F71.ext E81).keep K93)
  refine go_putfield K (k := 27) rfl (host := "") (Or.inl (H.w 370 rfl)) Via.refl c95 c96 (Or.inr ⟨(H.w 371 rfl), rfl, rfl⟩) (H.w 298 rfl) (ty := (.object "com/example/foyer/foyer/Layout$RegisterArray")) (by decide) rfl rfl g0 (Or.inr (by decide)) ?_
  intro h97 W98
  have c99 := ((F72.ext E81).keep K93 (ninS (Exa.ne (F71.ext E81) ((Exa.wr W64 (Alk.exa L60)).ext E81) (by decide)) (ninS (Exa.ne (F71.ext E81) ((Exa.wr W64 (Alk.exaT L60)).ext E81) (by decide)) nin0)))
  have c100 := ((F73.ext E81).keep K93 (ninS (Exa.ne (F71.ext E81) ((Exa.wr W64 (Alk.exa L60)).ext E81) (by decide)) (ninS (Exa.ne (F71.ext E81) ((Exa.wr W64 (Alk.exaT L60)).ext E81) (by decide)) nin0)))
  have c101 := ((F74.ext E81).keep K93 (ninS (Exa.ne (F71.ext E81) ((Exa.wr W64 (Alk.exa L60)).ext E81) (by decide)) (ninS (Exa.ne (F71.ext E81) ((Exa.wr W64 (Alk.exaT L60)).ext E81) (by decide)) nin0)))
  have c102 := ((F75.ext E81).keep K93 (ninS (Exa.ne (F71.ext E81) ((Exa.wr W64 (Alk.exa L60)).ext E81) (by decide)) (ninS (Exa.ne (F71.ext E81) ((Exa.wr W64 (Alk.exaT L60)).ext E81) (by decide)) nin0)))
  have c103 := ((F76.ext E81).keep K93 (ninS (Exa.ne (F71.ext E81) ((Exa.wr W64 (Alk.exa L60)).ext E81) (by decide)) (ninS (Exa.ne (F71.ext E81) ((Exa.wr W64 (Alk.exaT L60)).ext E81) (by decide)) nin0)))
  have c104 := ((F78.ext E81).keep K93 (ninS (Exa.ne (F71.ext E81) ((Exa.wr W64 (Alk.exa L60)).ext E81) (by decide)) (ninS (Exa.ne (F71.ext E81) ((Exa.wr W64 (Alk.exaT L60)).ext E81) (by decide)) nin0)))
  have F105 : Exa G.Z h97 a "com/example/foyer/foyer/LamportFast" := Exa.wr W98 c96
  have F106 : Fld G.Z h97 a "com/example/foyer/foyer/Algorithm" "processes" "I" (.int pn) := Fld.other W98 c99 (Or.inr (slot_ne (Or.inr (H.w 305 rfl)) (Or.inr (H.w 371 rfl)) (by decide) (t := .int) (t' := (.object "com/example/foyer/foyer/Layout$RegisterArray")) (by decide) (by decide)))
  have F107 : Fld G.Z h97 a "com/example/foyer/foyer/Algorithm" "critical" "I" (.int (14 : Int32)) := Fld.other W98 c100 (Or.inr (slot_ne (Or.inr (H.w 306 rfl)) (Or.inr (H.w 371 rfl)) (by decide) (t := .int) (t' := (.object "com/example/foyer/foyer/Layout$RegisterArray")) (by decide) (by decide)))
  have F108 : Fld G.Z h97 a "com/example/foyer/foyer/Algorithm" "layout" "Lcom/example/foyer/foyer/Layout;" (.ref la) := Fld.other W98 c101 (Or.inr (slot_ne (Or.inr (H.w 307 rfl)) (Or.inr (H.w 371 rfl)) (by decide) (t := (.object "com/example/foyer/foyer/Layout")) (t' := (.object "com/example/foyer/foyer/Layout$RegisterArray")) (by decide) (by decide)))
  have F109 : Fld G.Z h97 a "com/example/foyer/foyer/LamportFast" "x" "I" (.int x19) := Fld.other W98 c102 (Or.inr (slot_ne (Or.inr (H.w 358 rfl)) (Or.inr (H.w 371 rfl)) (by decide) (t := .int) (t' := (.object "com/example/foyer/foyer/Layout$RegisterArray")) (by decide) (by decide)))
  have F110 : Fld G.Z h97 a "com/example/foyer/foyer/LamportFast" "y" "I" (.int x53) := Fld.other W98 c103 (Or.inr (slot_ne (Or.inr (H.w 361 rfl)) (Or.inr (H.w 371 rfl)) (by decide) (t := .int) (t' := (.object "com/example/foyer/foyer/Layout$RegisterArray")) (by decide) (by decide)))
  have F111 : Fld G.Z h97 a "com/example/foyer/foyer/LamportFast" "b" "Lcom/example/foyer/foyer/Layout$RegisterArray;" (.ref r88) := Fld.same W98 c95
  have F112 : Fld G.Z h97 a "com/example/foyer/foyer/LamportFast" "list" "Lcom/example/foyer/foyer/Layout$RegisterArray;" .null := Fld.other W98 c104 (Or.inr (slot_ne (Or.inr (H.w 373 rfl)) (Or.inr (H.w 371 rfl)) (by decide) (t := (.object "com/example/foyer/foyer/Layout$RegisterArray")) (t' := (.object "com/example/foyer/foyer/Layout$RegisterArray")) (by decide) (by decide)))
  refine go_run K 28 2 (pc' := 54) (st' := [(.ref lx), (.ref a)]) rfl ?_
  refine go_putfield K (k := 30) rfl (host := "") (Or.inl (H.w 372 rfl)) Via.refl F112 F105 (Or.inr ⟨(H.w 373 rfl), rfl, rfl⟩) (H.w 298 rfl) (ty := (.object "com/example/foyer/foyer/Layout$RegisterArray")) (by decide) rfl rfl g0 (Or.inr (by decide)) ?_
  intro h113 W114
  have F115 : Exa G.Z h113 a "com/example/foyer/foyer/LamportFast" := Exa.wr W114 F105
  have F116 : Fld G.Z h113 a "com/example/foyer/foyer/Algorithm" "processes" "I" (.int pn) := Fld.other W114 F106 (Or.inr (slot_ne (Or.inr (H.w 305 rfl)) (Or.inr (H.w 373 rfl)) (by decide) (t := .int) (t' := (.object "com/example/foyer/foyer/Layout$RegisterArray")) (by decide) (by decide)))
  have F117 : Fld G.Z h113 a "com/example/foyer/foyer/Algorithm" "critical" "I" (.int (14 : Int32)) := Fld.other W114 F107 (Or.inr (slot_ne (Or.inr (H.w 306 rfl)) (Or.inr (H.w 373 rfl)) (by decide) (t := .int) (t' := (.object "com/example/foyer/foyer/Layout$RegisterArray")) (by decide) (by decide)))
  have F118 : Fld G.Z h113 a "com/example/foyer/foyer/Algorithm" "layout" "Lcom/example/foyer/foyer/Layout;" (.ref la) := Fld.other W114 F108 (Or.inr (slot_ne (Or.inr (H.w 307 rfl)) (Or.inr (H.w 373 rfl)) (by decide) (t := (.object "com/example/foyer/foyer/Layout")) (t' := (.object "com/example/foyer/foyer/Layout$RegisterArray")) (by decide) (by decide)))
  have F119 : Fld G.Z h113 a "com/example/foyer/foyer/LamportFast" "x" "I" (.int x19) := Fld.other W114 F109 (Or.inr (slot_ne (Or.inr (H.w 358 rfl)) (Or.inr (H.w 373 rfl)) (by decide) (t := .int) (t' := (.object "com/example/foyer/foyer/Layout$RegisterArray")) (by decide) (by decide)))
  have F120 : Fld G.Z h113 a "com/example/foyer/foyer/LamportFast" "y" "I" (.int x53) := Fld.other W114 F110 (Or.inr (slot_ne (Or.inr (H.w 361 rfl)) (Or.inr (H.w 373 rfl)) (by decide) (t := .int) (t' := (.object "com/example/foyer/foyer/Layout$RegisterArray")) (by decide) (by decide)))
  have F121 : Fld G.Z h113 a "com/example/foyer/foyer/LamportFast" "b" "Lcom/example/foyer/foyer/Layout$RegisterArray;" (.ref r88) := Fld.other W114 F111 (Or.inr (slot_ne (Or.inr (H.w 371 rfl)) (Or.inr (H.w 373 rfl)) (by decide) (t := (.object "com/example/foyer/foyer/Layout$RegisterArray")) (t' := (.object "com/example/foyer/foyer/Layout$RegisterArray")) (by decide) (by decide)))
  have F122 : Fld G.Z h113 a "com/example/foyer/foyer/LamportFast" "list" "Lcom/example/foyer/foyer/Layout$RegisterArray;" (.ref lx) := Fld.same W114 F112
  have c123 := (Alk.keep (Alk.keep L94 (Keep.of_wr W98) (ninS (Exa.ne (Alk.exa L94) c96 (by decide)) nin0) (ninS (Exa.ne (Alk.exaT L94) c96 (by decide)) nin0) (ninS (Exa.ne (Alk.exaR L94) c96 (by decide)) nin0)) (Keep.of_wr W114) (ninS (Exa.ne (Exa.wr W98 (Alk.exa L94)) F105 (by decide)) nin0) (ninS (Exa.ne (Exa.wr W98 (Alk.exaT L94)) F105 (by decide)) nin0) (ninS (Exa.ne (Exa.wr W98 (Alk.exaR L94)) F105 (by decide)) nin0))
  refine go_return K (k := 31) rfl rfl rfl rfl ?_
  intro Sf hSf
  exact ⟨rfl, ((((((((((((Keep.refl _ [a, li, t]).trans K2 (allS (Or.inl (List.mem_cons_self ..)) all0)).ext E13).trans K25 (allS (Or.inl (List.mem_cons_of_mem _ (List.mem_cons_self ..))) (allS (Or.inl (List.mem_cons_of_mem _ (List.mem_cons_of_mem _ (List.mem_cons_self ..)))) all0))).wr W30 (Or.inl (List.mem_cons_self ..))).ext E47).trans K59 (allS (Or.inl (List.mem_cons_of_mem _ (List.mem_cons_self ..))) (allS (Or.inl (List.mem_cons_of_mem _ (List.mem_cons_of_mem _ (List.mem_cons_self ..)))) all0))).wr W64 (Or.inl (List.mem_cons_self ..))).ext E81).trans K93 (allS (Or.inl (List.mem_cons_of_mem _ (List.mem_cons_self ..))) (allS (Or.inl (List.mem_cons_of_mem _ (List.mem_cons_of_mem _ (List.mem_cons_self ..)))) all0))).wr W98 (Or.inl (List.mem_cons_self ..))).wr W114 (Or.inl (List.mem_cons_self ..))), _, _, _, _, _, c123⟩
set_option maxRecDepth 65536 in
set_option maxHeartbeats 40000000 in
theorem c_lfN {G : Gb} (H : Gl tables_1 els G) {h : Heap} {a : Addr} {pn : Int32} (E0 : Exa G.Z h a "com/example/foyer/foyer/LamportFast") (f00 : Fld G.Z h a "com/example/foyer/foyer/Algorithm" "processes" "I" (.int (0 : Int32))) (f10 : Fld G.Z h a "com/example/foyer/foyer/Algorithm" "critical" "I" (.int (0 : Int32))) (f20 : Fld G.Z h a "com/example/foyer/foyer/Algorithm" "layout" "Lcom/example/foyer/foyer/Layout;" .null) (f30 : Fld G.Z h a "com/example/foyer/foyer/LamportFast" "x" "I" (.int (0 : Int32))) (f40 : Fld G.Z h a "com/example/foyer/foyer/LamportFast" "y" "I" (.int (0 : Int32))) (f50 : Fld G.Z h a "com/example/foyer/foyer/LamportFast" "b" "Lcom/example/foyer/foyer/Layout$RegisterArray;" .null) (f60 : Fld G.Z h a "com/example/foyer/foyer/LamportFast" "list" "Lcom/example/foyer/foyer/Layout$RegisterArray;" .null) (g0 : G.Z.heap.size ≤ a) {li t r : Addr} {kA : ClassId} {k : Nat} {b f n : Int32} {ini : Value} (L0 : Alk G h li t r kA k b f n ini) (hk : k + 3 ≤ 10) {la pr : Addr} {ps : List Int32} (Y0 : Ly G h la li pr ps) (lp : Lat ps) (hs : ps.length ≤ 9) :
    Ctr G [] (⟨"com/example/foyer/foyer/LamportFast", "<init>", "(ILcom/example/foyer/foyer/Layout;Lcom/example/foyer/foyer/Layout$RegisterArray;)V"⟩ : MethodName) prog_32_method_2_code 4 none ({ frames := 9, cells := 27, slots := 195, locals := 3094 } : Room) #[.ref a, .int pn, .ref la, .null] h [] (fun v h' Sf => v = none ∧ Keep h h' [a, li, t] ∧ ∃ (r' : Addr) (b' f' n' : Int32) (ini' : Value), Alk G h' li t r' kA (k + 3) b' f' n' ini') := by
  refine ctr_of M_lf rfl rfl (plainFor_of_name pn_15) L_lf H.el (Ls := #[.val (.ref a), .val (.int pn), .val (.ref la), .val .null]) (fun m => ef_ok (by show argsToLocals _ 4 = _; first | (simp [argsToLocals, Value.category]; done) | rfl)) ?_
  intro B K hE
  refine go_run K 0 4 (pc' := 5) (st' := [(.ref la), (.int (14 : Int32)), (.int pn), (.ref a)]) rfl ?_
  refine go_special K (k := 4) rfl rfl (H.w 303 rfl) (H.w 72 rfl) (H.w 23 rfl) (H.w 73 rfl) (by decide) pd_28 (c_algL (a := a) (p0 := pn) (p1 := (14 : Int32)) (r2 := la) H E0 f00 f10 f20 f30 f40 f50 f60 g0) (argsL := [(.int pn), (.int (14 : Int32)), (.ref la)]) (rest := []) rfl rfl rfl sub0 rfl ?_
  rintro _ h1 _ - ⟨rfl, K2, E3, F4, F5, F6, F7, F8, F9, F10⟩
  show Go G B M_lf _ h1 [] 0 0 8 #[.val (.ref a), .val (.int pn), .val (.ref la), .val .null] []
  refine go_run K 5 2 (pc' := 10) (st' := [(.ref a), (.ref a)]) rfl ?_
  refine go_virtUp K (k := 7) rfl (H.w 308 rfl) (H.w 309 rfl) (H.w 97 rfl) (by decide) (H.w 310 rfl) (H.w 98 rfl) (H.w 23 rfl) (H.w 100 rfl) pd_29 E3 (c_layG H F6) (argsL := []) (rest := [(.ref a)]) rfl rfl rfl sub0 rfl ?_
  rintro _ _ _ - ⟨rfl, rfl⟩
  show Go G B M_lf _ h1 [] 0 0 13 #[.val (.ref a), .val (.int pn), .val (.ref la), .val .null] [(.ref la), (.ref a)]
  refine go_ldcT K (k := 8) rfl (H.w 311 rfl) H.ws (H.mem (by decide)) (cs := [(120 : Int32)]) (by decide) (by decide) (n := 4) rfl rfl rfl rfl ?_
  intro h12 a11 E13 S14
  refine go_run K 9 1 (pc' := 16) (st' := [(.int (0 : Int32)), (.ref a11), (.ref la), (.ref a)]) rfl ?_
  have c15 := (((Ly.exa Y0).keep K2).ext E13)
  have c16 := ((Alk.keep L0 K2 (ninS (Exa.ne (Alk.exa L0) E0 (by decide)) nin0) (ninS (Exa.ne (Alk.exaT L0) E0 (by decide)) nin0) (ninS (Exa.ne (Alk.exaR L0) E0 (by decide)) nin0)).ext E13)
  have c17 := ((Ly.keep Y0 K2 (ninS (Exa.ne (Ly.exa Y0) E0 (by decide)) nin0) (allS (Ap.of_exa E0 (by decide) (H.w 298 rfl)) all0)).ext E13)
  refine go_virt0 K (k := 10) rfl (H.w 312 rfl) (H.w 315 rfl) (H.w 314 rfl) (H.w 27 rfl) (H.w 316 rfl) (by decide) pd_30 c15 (c_scl (iv := (0 : Int32)) H c16 (by omega) c17 lp hs (lat1 (by decide)) (by decide) S14) (argsL := [(.ref a11), (.int (0 : Int32))]) (rest := [(.ref a)]) rfl rfl rfl sub0 rfl ?_
  rintro _ h18 _ - ⟨x19, r20, b21, f22, n23, ini24, rfl, K25, L26⟩
  show Go G B M_lf _ h18 [] 9 65 19 #[.val (.ref a), .val (.int pn), .val (.ref la), .val .null] [(.int x19), (.ref a)]
  have c27 := ((F7.ext E13).keep K25 (ninS (Exa.ne (E3.ext E13) (((Alk.exa L0).keep K2).ext E13) (by decide)) (ninS (Exa.ne (E3.ext E13) (((Alk.exaT L0).keep K2).ext E13) (by decide)) nin0)))
  have c28 := ((E3.ext E13).keep K25)
  refine go_putfield K (k := 11) rfl (host := "") (Or.inl (H.w 357 rfl)) Via.refl c27 c28 (Or.inr ⟨(H.w 358 rfl), rfl, rfl⟩) (H.w 298 rfl) (ty := .int) (by decide) rfl rfl g0 (Or.inr (by decide)) ?_
  intro h29 W30
  have c31 := ((F4.ext E13).keep K25 (ninS (Exa.ne (E3.ext E13) (((Alk.exa L0).keep K2).ext E13) (by decide)) (ninS (Exa.ne (E3.ext E13) (((Alk.exaT L0).keep K2).ext E13) (by decide)) nin0)))
  have c32 := ((F5.ext E13).keep K25 (ninS (Exa.ne (E3.ext E13) (((Alk.exa L0).keep K2).ext E13) (by decide)) (ninS (Exa.ne (E3.ext E13) (((Alk.exaT L0).keep K2).ext E13) (by decide)) nin0)))
  have c33 := ((F6.ext E13).keep K25 (ninS (Exa.ne (E3.ext E13) (((Alk.exa L0).keep K2).ext E13) (by decide)) (ninS (Exa.ne (E3.ext E13) (((Alk.exaT L0).keep K2).ext E13) (by decide)) nin0)))
  have c34 := ((F8.ext E13).keep K25 (ninS (Exa.ne (E3.ext E13) (((Alk.exa L0).keep K2).ext E13) (by decide)) (ninS (Exa.ne (E3.ext E13) (((Alk.exaT L0).keep K2).ext E13) (by decide)) nin0)))
  have c35 := ((F9.ext E13).keep K25 (ninS (Exa.ne (E3.ext E13) (((Alk.exa L0).keep K2).ext E13) (by decide)) (ninS (Exa.ne (E3.ext E13) (((Alk.exaT L0).keep K2).ext E13) (by decide)) nin0)))
  have c36 := ((F10.ext E13).keep K25 (ninS (Exa.ne (E3.ext E13) (((Alk.exa L0).keep K2).ext E13) (by decide)) (ninS (Exa.ne (E3.ext E13) (((Alk.exaT L0).keep K2).ext E13) (by decide)) nin0)))
  have F37 : Exa G.Z h29 a "com/example/foyer/foyer/LamportFast" := Exa.wr W30 c28
  have F38 : Fld G.Z h29 a "com/example/foyer/foyer/Algorithm" "processes" "I" (.int pn) := Fld.other W30 c31 (Or.inr (slot_ne (Or.inr (H.w 305 rfl)) (Or.inr (H.w 358 rfl)) (by decide) (t := .int) (t' := .int) (by decide) (by decide)))
  have F39 : Fld G.Z h29 a "com/example/foyer/foyer/Algorithm" "critical" "I" (.int (14 : Int32)) := Fld.other W30 c32 (Or.inr (slot_ne (Or.inr (H.w 306 rfl)) (Or.inr (H.w 358 rfl)) (by decide) (t := .int) (t' := .int) (by decide) (by decide)))
  have F40 : Fld G.Z h29 a "com/example/foyer/foyer/Algorithm" "layout" "Lcom/example/foyer/foyer/Layout;" (.ref la) := Fld.other W30 c33 (Or.inr (slot_ne (Or.inr (H.w 307 rfl)) (Or.inr (H.w 358 rfl)) (by decide) (t := (.object "com/example/foyer/foyer/Layout")) (t' := .int) (by decide) (by decide)))
  have F41 : Fld G.Z h29 a "com/example/foyer/foyer/LamportFast" "x" "I" (.int x19) := Fld.same W30 c27
  have F42 : Fld G.Z h29 a "com/example/foyer/foyer/LamportFast" "y" "I" (.int (0 : Int32)) := Fld.other W30 c34 (Or.inr (slot_ne (Or.inr (H.w 361 rfl)) (Or.inr (H.w 358 rfl)) (by decide) (t := .int) (t' := .int) (by decide) (by decide)))
  have F43 : Fld G.Z h29 a "com/example/foyer/foyer/LamportFast" "b" "Lcom/example/foyer/foyer/Layout$RegisterArray;" .null := Fld.other W30 c35 (Or.inr (slot_ne (Or.inr (H.w 371 rfl)) (Or.inr (H.w 358 rfl)) (by decide) (t := (.object "com/example/foyer/foyer/Layout$RegisterArray")) (t' := .int) (by decide) (by decide)))
  have F44 : Fld G.Z h29 a "com/example/foyer/foyer/LamportFast" "list" "Lcom/example/foyer/foyer/Layout$RegisterArray;" .null := Fld.other W30 c36 (Or.inr (slot_ne (Or.inr (H.w 373 rfl)) (Or.inr (H.w 358 rfl)) (by decide) (t := (.object "com/example/foyer/foyer/Layout$RegisterArray")) (t' := .int) (by decide) (by decide)))
  refine go_run K 12 2 (pc' := 24) (st' := [(.ref a), (.ref a)]) rfl ?_
  refine go_virtUp K (k := 14) rfl (H.w 308 rfl) (H.w 309 rfl) (H.w 97 rfl) (by decide) (H.w 310 rfl) (H.w 98 rfl) (H.w 23 rfl) (H.w 100 rfl) pd_29 F37 (c_layG H F40) (argsL := []) (rest := [(.ref a)]) rfl rfl rfl sub0 rfl ?_
  rintro _ _ _ - ⟨rfl, rfl⟩
  show Go G B M_lf _ h29 [] 9 65 27 #[.val (.ref a), .val (.int pn), .val (.ref la), .val .null] [(.ref la), (.ref a)]
  refine go_ldcT K (k := 15) rfl (H.w 359 rfl) H.ws (H.mem (by decide)) (cs := [(121 : Int32)]) (by decide) (by decide) (n := 4) rfl rfl rfl rfl ?_
  intro h46 a45 E47 S48
  refine go_run K 16 1 (pc' := 30) (st' := [(.int (0 : Int32)), (.ref a45), (.ref la), (.ref a)]) rfl ?_
  have c49 := ((Exa.wr W30 (c15.keep K25)).ext E47)
  have c50 := ((Alk.keep L26 (Keep.of_wr W30) (ninS (Exa.ne (Alk.exa L26) c28 (by decide)) nin0) (ninS (Exa.ne (Alk.exaT L26) c28 (by decide)) nin0) (ninS (Exa.ne (Alk.exaR L26) c28 (by decide)) nin0)).ext E47)
  have c51 := ((Ly.keep (Ly.keep c17 K25 (ninS (Exa.ne c15 (((Alk.exa L0).keep K2).ext E13) (by decide)) (ninS (Exa.ne c15 (((Alk.exaT L0).keep K2).ext E13) (by decide)) nin0)) (allS (Ap.of_exa (((Alk.exa L0).keep K2).ext E13) (by decide) (H.w 32 rfl)) (allS (Alk.apT c16 (H.w 57 rfl)) all0))) (Keep.of_wr W30) (ninS (Exa.ne (c15.keep K25) c28 (by decide)) nin0) (allS (Ap.of_exa c28 (by decide) (H.w 298 rfl)) all0)).ext E47)
  refine go_virt0 K (k := 17) rfl (H.w 312 rfl) (H.w 315 rfl) (H.w 314 rfl) (H.w 27 rfl) (H.w 316 rfl) (by decide) pd_30 c49 (c_scl (iv := (0 : Int32)) H c50 (by omega) c51 lp hs (lat1 (by decide)) (by decide) S48) (argsL := [(.ref a45), (.int (0 : Int32))]) (rest := [(.ref a)]) rfl rfl rfl sub0 rfl ?_
  rintro _ h52 _ - ⟨x53, r54, b55, f56, n57, ini58, rfl, K59, L60⟩
  show Go G B M_lf _ h52 [] 18 130 33 #[.val (.ref a), .val (.int pn), .val (.ref la), .val .null] [(.int x53), (.ref a)]
  have c61 := ((F42.ext E47).keep K59 (ninS (Exa.ne (F37.ext E47) ((Exa.wr W30 (Alk.exa L26)).ext E47) (by decide)) (ninS (Exa.ne (F37.ext E47) ((Exa.wr W30 (Alk.exaT L26)).ext E47) (by decide)) nin0)))
  have c62 := ((F37.ext E47).keep K59)
  refine go_putfield K (k := 18) rfl (host := "") (Or.inl (H.w 360 rfl)) Via.refl c61 c62 (Or.inr ⟨(H.w 361 rfl), rfl, rfl⟩) (H.w 298 rfl) (ty := .int) (by decide) rfl rfl g0 (Or.inr (by decide)) ?_
  intro h63 W64
  have c65 := ((F38.ext E47).keep K59 (ninS (Exa.ne (F37.ext E47) ((Exa.wr W30 (Alk.exa L26)).ext E47) (by decide)) (ninS (Exa.ne (F37.ext E47) ((Exa.wr W30 (Alk.exaT L26)).ext E47) (by decide)) nin0)))
  have c66 := ((F39.ext E47).keep K59 (ninS (Exa.ne (F37.ext E47) ((Exa.wr W30 (Alk.exa L26)).ext E47) (by decide)) (ninS (Exa.ne (F37.ext E47) ((Exa.wr W30 (Alk.exaT L26)).ext E47) (by decide)) nin0)))
  have c67 := ((F40.ext E47).keep K59 (ninS (Exa.ne (F37.ext E47) ((Exa.wr W30 (Alk.exa L26)).ext E47) (by decide)) (ninS (Exa.ne (F37.ext E47) ((Exa.wr W30 (Alk.exaT L26)).ext E47) (by decide)) nin0)))
  have c68 := ((F41.ext E47).keep K59 (ninS (Exa.ne (F37.ext E47) ((Exa.wr W30 (Alk.exa L26)).ext E47) (by decide)) (ninS (Exa.ne (F37.ext E47) ((Exa.wr W30 (Alk.exaT L26)).ext E47) (by decide)) nin0)))
  have c69 := ((F43.ext E47).keep K59 (ninS (Exa.ne (F37.ext E47) ((Exa.wr W30 (Alk.exa L26)).ext E47) (by decide)) (ninS (Exa.ne (F37.ext E47) ((Exa.wr W30 (Alk.exaT L26)).ext E47) (by decide)) nin0)))
  have c70 := ((F44.ext E47).keep K59 (ninS (Exa.ne (F37.ext E47) ((Exa.wr W30 (Alk.exa L26)).ext E47) (by decide)) (ninS (Exa.ne (F37.ext E47) ((Exa.wr W30 (Alk.exaT L26)).ext E47) (by decide)) nin0)))
  have F71 : Exa G.Z h63 a "com/example/foyer/foyer/LamportFast" := Exa.wr W64 c62
  have F72 : Fld G.Z h63 a "com/example/foyer/foyer/Algorithm" "processes" "I" (.int pn) := Fld.other W64 c65 (Or.inr (slot_ne (Or.inr (H.w 305 rfl)) (Or.inr (H.w 361 rfl)) (by decide) (t := .int) (t' := .int) (by decide) (by decide)))
  have F73 : Fld G.Z h63 a "com/example/foyer/foyer/Algorithm" "critical" "I" (.int (14 : Int32)) := Fld.other W64 c66 (Or.inr (slot_ne (Or.inr (H.w 306 rfl)) (Or.inr (H.w 361 rfl)) (by decide) (t := .int) (t' := .int) (by decide) (by decide)))
  have F74 : Fld G.Z h63 a "com/example/foyer/foyer/Algorithm" "layout" "Lcom/example/foyer/foyer/Layout;" (.ref la) := Fld.other W64 c67 (Or.inr (slot_ne (Or.inr (H.w 307 rfl)) (Or.inr (H.w 361 rfl)) (by decide) (t := (.object "com/example/foyer/foyer/Layout")) (t' := .int) (by decide) (by decide)))
  have F75 : Fld G.Z h63 a "com/example/foyer/foyer/LamportFast" "x" "I" (.int x19) := Fld.other W64 c68 (Or.inr (slot_ne (Or.inr (H.w 358 rfl)) (Or.inr (H.w 361 rfl)) (by decide) (t := .int) (t' := .int) (by decide) (by decide)))
  have F76 : Fld G.Z h63 a "com/example/foyer/foyer/LamportFast" "y" "I" (.int x53) := Fld.same W64 c61
  have F77 : Fld G.Z h63 a "com/example/foyer/foyer/LamportFast" "b" "Lcom/example/foyer/foyer/Layout$RegisterArray;" .null := Fld.other W64 c69 (Or.inr (slot_ne (Or.inr (H.w 371 rfl)) (Or.inr (H.w 361 rfl)) (by decide) (t := (.object "com/example/foyer/foyer/Layout$RegisterArray")) (t' := .int) (by decide) (by decide)))
  have F78 : Fld G.Z h63 a "com/example/foyer/foyer/LamportFast" "list" "Lcom/example/foyer/foyer/Layout$RegisterArray;" .null := Fld.other W64 c70 (Or.inr (slot_ne (Or.inr (H.w 373 rfl)) (Or.inr (H.w 361 rfl)) (by decide) (t := (.object "com/example/foyer/foyer/Layout$RegisterArray")) (t' := .int) (by decide) (by decide)))
  refine go_run K 19 2 (pc' := 38) (st' := [(.ref a), (.ref a)]) rfl ?_
  refine go_virtUp K (k := 21) rfl (H.w 308 rfl) (H.w 309 rfl) (H.w 97 rfl) (by decide) (H.w 310 rfl) (H.w 98 rfl) (H.w 23 rfl) (H.w 100 rfl) pd_29 F71 (c_layG H F74) (argsL := []) (rest := [(.ref a)]) rfl rfl rfl sub0 rfl ?_
  rintro _ _ _ - ⟨rfl, rfl⟩
  show Go G B M_lf _ h63 [] 18 130 41 #[.val (.ref a), .val (.int pn), .val (.ref la), .val .null] [(.ref la), (.ref a)]
  refine go_ldcT K (k := 22) rfl (H.w 362 rfl) H.ws (H.mem (by decide)) (cs := [(98 : Int32)]) (by decide) (by decide) (n := 4) rfl rfl rfl rfl ?_
  intro h80 a79 E81 S82
  refine go_run K 23 3 (pc' := 46) (st' := [(.int (0 : Int32)), (.int pn), (.int (1 : Int32)), (.ref a79), (.ref la), (.ref a)]) rfl ?_
  have c83 := ((Exa.wr W64 (c49.keep K59)).ext E81)
  have c84 := ((Alk.keep L60 (Keep.of_wr W64) (ninS (Exa.ne (Alk.exa L60) c62 (by decide)) nin0) (ninS (Exa.ne (Alk.exaT L60) c62 (by decide)) nin0) (ninS (Exa.ne (Alk.exaR L60) c62 (by decide)) nin0)).ext E81)
  have c85 := ((Ly.keep (Ly.keep c51 K59 (ninS (Exa.ne c49 ((Exa.wr W30 (Alk.exa L26)).ext E47) (by decide)) (ninS (Exa.ne c49 ((Exa.wr W30 (Alk.exaT L26)).ext E47) (by decide)) nin0)) (allS (Ap.of_exa ((Exa.wr W30 (Alk.exa L26)).ext E47) (by decide) (H.w 32 rfl)) (allS (Alk.apT c50 (H.w 57 rfl)) all0))) (Keep.of_wr W64) (ninS (Exa.ne (c49.keep K59) c62 (by decide)) nin0) (allS (Ap.of_exa c62 (by decide) (H.w 298 rfl)) all0)).ext E81)
  refine go_virt0 K (k := 26) rfl (H.w 363 rfl) (H.w 366 rfl) (H.w 365 rfl) (H.w 27 rfl) (H.w 367 rfl) (by decide) pd_31 c83 (c_ar3 (p := (1 : Int32))  (q := pn)  (iv := (0 : Int32)) H c84 (by omega) c85 lp hs (lat1 (by decide)) (by decide) S82) (argsL := [(.ref a79), (.int (1 : Int32)), (.int pn), (.int (0 : Int32))]) (rest := [(.ref a)]) rfl rfl rfl sub0 rfl ?_
  rintro _ h86 _ - ⟨r88, b89, f90, n91, ini92, rfl, K93, L94⟩
  show Go G B M_lf _ h86 [] 27 195 49 #[.val (.ref a), .val (.int pn), .val (.ref la), .val .null] [(.ref r88), (.ref a)]
  have c95 := ((F77.ext E81).keep K93 (ninS (Exa.ne (F71.ext E81) ((Exa.wr W64 (Alk.exa L60)).ext E81) (by decide)) (ninS (Exa.ne (F71.ext E81) ((Exa.wr W64 (Alk.exaT L60)).ext E81) (by decide)) nin0)))
  have c96 := ((F71.ext E81).keep K93)
  refine go_putfield K (k := 27) rfl (host := "") (Or.inl (H.w 370 rfl)) Via.refl c95 c96 (Or.inr ⟨(H.w 371 rfl), rfl, rfl⟩) (H.w 298 rfl) (ty := (.object "com/example/foyer/foyer/Layout$RegisterArray")) (by decide) rfl rfl g0 (Or.inr (by decide)) ?_
  intro h97 W98
  have c99 := ((F72.ext E81).keep K93 (ninS (Exa.ne (F71.ext E81) ((Exa.wr W64 (Alk.exa L60)).ext E81) (by decide)) (ninS (Exa.ne (F71.ext E81) ((Exa.wr W64 (Alk.exaT L60)).ext E81) (by decide)) nin0)))
  have c100 := ((F73.ext E81).keep K93 (ninS (Exa.ne (F71.ext E81) ((Exa.wr W64 (Alk.exa L60)).ext E81) (by decide)) (ninS (Exa.ne (F71.ext E81) ((Exa.wr W64 (Alk.exaT L60)).ext E81) (by decide)) nin0)))
  have c101 := ((F74.ext E81).keep K93 (ninS (Exa.ne (F71.ext E81) ((Exa.wr W64 (Alk.exa L60)).ext E81) (by decide)) (ninS (Exa.ne (F71.ext E81) ((Exa.wr W64 (Alk.exaT L60)).ext E81) (by decide)) nin0)))
  have c102 := ((F75.ext E81).keep K93 (ninS (Exa.ne (F71.ext E81) ((Exa.wr W64 (Alk.exa L60)).ext E81) (by decide)) (ninS (Exa.ne (F71.ext E81) ((Exa.wr W64 (Alk.exaT L60)).ext E81) (by decide)) nin0)))
  have c103 := ((F76.ext E81).keep K93 (ninS (Exa.ne (F71.ext E81) ((Exa.wr W64 (Alk.exa L60)).ext E81) (by decide)) (ninS (Exa.ne (F71.ext E81) ((Exa.wr W64 (Alk.exaT L60)).ext E81) (by decide)) nin0)))
  have c104 := ((F78.ext E81).keep K93 (ninS (Exa.ne (F71.ext E81) ((Exa.wr W64 (Alk.exa L60)).ext E81) (by decide)) (ninS (Exa.ne (F71.ext E81) ((Exa.wr W64 (Alk.exaT L60)).ext E81) (by decide)) nin0)))
  have F105 : Exa G.Z h97 a "com/example/foyer/foyer/LamportFast" := Exa.wr W98 c96
  have F106 : Fld G.Z h97 a "com/example/foyer/foyer/Algorithm" "processes" "I" (.int pn) := Fld.other W98 c99 (Or.inr (slot_ne (Or.inr (H.w 305 rfl)) (Or.inr (H.w 371 rfl)) (by decide) (t := .int) (t' := (.object "com/example/foyer/foyer/Layout$RegisterArray")) (by decide) (by decide)))
  have F107 : Fld G.Z h97 a "com/example/foyer/foyer/Algorithm" "critical" "I" (.int (14 : Int32)) := Fld.other W98 c100 (Or.inr (slot_ne (Or.inr (H.w 306 rfl)) (Or.inr (H.w 371 rfl)) (by decide) (t := .int) (t' := (.object "com/example/foyer/foyer/Layout$RegisterArray")) (by decide) (by decide)))
  have F108 : Fld G.Z h97 a "com/example/foyer/foyer/Algorithm" "layout" "Lcom/example/foyer/foyer/Layout;" (.ref la) := Fld.other W98 c101 (Or.inr (slot_ne (Or.inr (H.w 307 rfl)) (Or.inr (H.w 371 rfl)) (by decide) (t := (.object "com/example/foyer/foyer/Layout")) (t' := (.object "com/example/foyer/foyer/Layout$RegisterArray")) (by decide) (by decide)))
  have F109 : Fld G.Z h97 a "com/example/foyer/foyer/LamportFast" "x" "I" (.int x19) := Fld.other W98 c102 (Or.inr (slot_ne (Or.inr (H.w 358 rfl)) (Or.inr (H.w 371 rfl)) (by decide) (t := .int) (t' := (.object "com/example/foyer/foyer/Layout$RegisterArray")) (by decide) (by decide)))
  have F110 : Fld G.Z h97 a "com/example/foyer/foyer/LamportFast" "y" "I" (.int x53) := Fld.other W98 c103 (Or.inr (slot_ne (Or.inr (H.w 361 rfl)) (Or.inr (H.w 371 rfl)) (by decide) (t := .int) (t' := (.object "com/example/foyer/foyer/Layout$RegisterArray")) (by decide) (by decide)))
  have F111 : Fld G.Z h97 a "com/example/foyer/foyer/LamportFast" "b" "Lcom/example/foyer/foyer/Layout$RegisterArray;" (.ref r88) := Fld.same W98 c95
  have F112 : Fld G.Z h97 a "com/example/foyer/foyer/LamportFast" "list" "Lcom/example/foyer/foyer/Layout$RegisterArray;" .null := Fld.other W98 c104 (Or.inr (slot_ne (Or.inr (H.w 373 rfl)) (Or.inr (H.w 371 rfl)) (by decide) (t := (.object "com/example/foyer/foyer/Layout$RegisterArray")) (t' := (.object "com/example/foyer/foyer/Layout$RegisterArray")) (by decide) (by decide)))
  refine go_run K 28 2 (pc' := 54) (st' := [.null, (.ref a)]) rfl ?_
  refine go_putfield K (k := 30) rfl (host := "") (Or.inl (H.w 372 rfl)) Via.refl F112 F105 (Or.inr ⟨(H.w 373 rfl), rfl, rfl⟩) (H.w 298 rfl) (ty := (.object "com/example/foyer/foyer/Layout$RegisterArray")) (by decide) rfl rfl g0 (Or.inr (by decide)) ?_
  intro h113 W114
  have F115 : Exa G.Z h113 a "com/example/foyer/foyer/LamportFast" := Exa.wr W114 F105
  have F116 : Fld G.Z h113 a "com/example/foyer/foyer/Algorithm" "processes" "I" (.int pn) := Fld.other W114 F106 (Or.inr (slot_ne (Or.inr (H.w 305 rfl)) (Or.inr (H.w 373 rfl)) (by decide) (t := .int) (t' := (.object "com/example/foyer/foyer/Layout$RegisterArray")) (by decide) (by decide)))
  have F117 : Fld G.Z h113 a "com/example/foyer/foyer/Algorithm" "critical" "I" (.int (14 : Int32)) := Fld.other W114 F107 (Or.inr (slot_ne (Or.inr (H.w 306 rfl)) (Or.inr (H.w 373 rfl)) (by decide) (t := .int) (t' := (.object "com/example/foyer/foyer/Layout$RegisterArray")) (by decide) (by decide)))
  have F118 : Fld G.Z h113 a "com/example/foyer/foyer/Algorithm" "layout" "Lcom/example/foyer/foyer/Layout;" (.ref la) := Fld.other W114 F108 (Or.inr (slot_ne (Or.inr (H.w 307 rfl)) (Or.inr (H.w 373 rfl)) (by decide) (t := (.object "com/example/foyer/foyer/Layout")) (t' := (.object "com/example/foyer/foyer/Layout$RegisterArray")) (by decide) (by decide)))
  have F119 : Fld G.Z h113 a "com/example/foyer/foyer/LamportFast" "x" "I" (.int x19) := Fld.other W114 F109 (Or.inr (slot_ne (Or.inr (H.w 358 rfl)) (Or.inr (H.w 373 rfl)) (by decide) (t := .int) (t' := (.object "com/example/foyer/foyer/Layout$RegisterArray")) (by decide) (by decide)))
  have F120 : Fld G.Z h113 a "com/example/foyer/foyer/LamportFast" "y" "I" (.int x53) := Fld.other W114 F110 (Or.inr (slot_ne (Or.inr (H.w 361 rfl)) (Or.inr (H.w 373 rfl)) (by decide) (t := .int) (t' := (.object "com/example/foyer/foyer/Layout$RegisterArray")) (by decide) (by decide)))
  have F121 : Fld G.Z h113 a "com/example/foyer/foyer/LamportFast" "b" "Lcom/example/foyer/foyer/Layout$RegisterArray;" (.ref r88) := Fld.other W114 F111 (Or.inr (slot_ne (Or.inr (H.w 371 rfl)) (Or.inr (H.w 373 rfl)) (by decide) (t := (.object "com/example/foyer/foyer/Layout$RegisterArray")) (t' := (.object "com/example/foyer/foyer/Layout$RegisterArray")) (by decide) (by decide)))
  have F122 : Fld G.Z h113 a "com/example/foyer/foyer/LamportFast" "list" "Lcom/example/foyer/foyer/Layout$RegisterArray;" .null := Fld.same W114 F112
  have c123 := (Alk.keep (Alk.keep L94 (Keep.of_wr W98) (ninS (Exa.ne (Alk.exa L94) c96 (by decide)) nin0) (ninS (Exa.ne (Alk.exaT L94) c96 (by decide)) nin0) (ninS (Exa.ne (Alk.exaR L94) c96 (by decide)) nin0)) (Keep.of_wr W114) (ninS (Exa.ne (Exa.wr W98 (Alk.exa L94)) F105 (by decide)) nin0) (ninS (Exa.ne (Exa.wr W98 (Alk.exaT L94)) F105 (by decide)) nin0) (ninS (Exa.ne (Exa.wr W98 (Alk.exaR L94)) F105 (by decide)) nin0))
  refine go_return K (k := 31) rfl rfl rfl rfl ?_
  intro Sf hSf
  exact ⟨rfl, ((((((((((((Keep.refl _ [a, li, t]).trans K2 (allS (Or.inl (List.mem_cons_self ..)) all0)).ext E13).trans K25 (allS (Or.inl (List.mem_cons_of_mem _ (List.mem_cons_self ..))) (allS (Or.inl (List.mem_cons_of_mem _ (List.mem_cons_of_mem _ (List.mem_cons_self ..)))) all0))).wr W30 (Or.inl (List.mem_cons_self ..))).ext E47).trans K59 (allS (Or.inl (List.mem_cons_of_mem _ (List.mem_cons_self ..))) (allS (Or.inl (List.mem_cons_of_mem _ (List.mem_cons_of_mem _ (List.mem_cons_self ..)))) all0))).wr W64 (Or.inl (List.mem_cons_self ..))).ext E81).trans K93 (allS (Or.inl (List.mem_cons_of_mem _ (List.mem_cons_self ..))) (allS (Or.inl (List.mem_cons_of_mem _ (List.mem_cons_of_mem _ (List.mem_cons_self ..)))) all0))).wr W98 (Or.inl (List.mem_cons_self ..))).wr W114 (Or.inl (List.mem_cons_self ..))), _, _, _, _, _, c123⟩
theorem pn_16 : plainName "com/example/foyer/foyer/MerrittTaubenfeld" = true := by first | (simp [plainName, overriddenIn]; done) | decide +kernel
def P_mt : List (Nat × Instr × Nat) := [(0, .aload_n 0, 1), (1, .iload_n 1, 1), (2, .bipush 7, 2), (4, .invokespecial 3, 3), (7, .aload_n 2, 1), (8, .invokevirtual 9, 3), (11, .istore_n 3, 1), (12, .aload_n 0, 1), (13, .iload_n 3, 1), (14, .putfield 15, 3), (17, .aload_n 0, 1), (18, .aload_n 2, 1), (19, .invokevirtual 18, 3), (22, .putfield 22, 3), (25, .aload_n 0, 1), (26, .aload_n 0, 1), (27, .invokevirtual 25, 3), (30, .ldc 29, 2), (32, .iconst 0, 1), (33, .iload_n 1, 1), (34, .iload_n 3, 1), (35, .invokedynamic 31, 5), (40, .invokevirtual 35, 3), (43, .putfield 41, 3), (46, .aload_n 0, 1), (47, .new 44, 3), (50, .dup, 1), (51, .iload_n 1, 1), (52, .aload_n 0, 1), (53, .invokevirtual 25, 3), (56, .aload_n 0, 1), (57, .getfield 41, 3), (60, .invokespecial 46, 3), (63, .putfield 49, 3), (66, .aload_n 0, 1), (67, .new 44, 3), (70, .dup, 1), (71, .iload_n 1, 1), (72, .aload_n 0, 1), (73, .invokevirtual 25, 3), (76, .ldc 53, 2), (78, .invokevirtual 55, 3), (81, .aconst_null, 1), (82, .invokespecial 46, 3), (85, .putfield 59, 3), (88, .return_, 1)]
theorem L_mt : ∀ q ∈ P_mt, decode prog_37_method_1_code q.1 = .ok q.2 := by decide +kernel
def M_mt : Mt := (("com/example/foyer/foyer/MerrittTaubenfeld", "<init>", ({ frames := 10, cells := 76, slots := 572, locals := 3111 } : Room)), P_mt, 4, none)
set_option maxRecDepth 65536 in
set_option maxHeartbeats 40000000 in
theorem c_mt {G : Gb} (H : Gl tables_1 els G) {h : Heap} {ed : Addr} {ke : ClassId} (sE : Sta G.Z G.Z.heap "java/util/ArrayList" "DEFAULTCAPACITY_EMPTY_ELEMENTDATA" "[Ljava/lang/Object;" (.ref ed)) (aE : Arv G.Z G.Z.heap ed ke (.object "java/lang/Object") (0 : Int32) [] .null) {a : Addr} (E0 : Exa G.Z h a "com/example/foyer/foyer/MerrittTaubenfeld") (f00 : Fld G.Z h a "com/example/foyer/foyer/Algorithm" "processes" "I" (.int (0 : Int32))) (f10 : Fld G.Z h a "com/example/foyer/foyer/Algorithm" "critical" "I" (.int (0 : Int32))) (f20 : Fld G.Z h a "com/example/foyer/foyer/Algorithm" "layout" "Lcom/example/foyer/foyer/Layout;" .null) (f30 : Fld G.Z h a "com/example/foyer/foyer/MerrittTaubenfeld" "registered" "I" (.int (0 : Int32))) (f40 : Fld G.Z h a "com/example/foyer/foyer/MerrittTaubenfeld" "churn" "Z" (.int (0 : Int32))) (f50 : Fld G.Z h a "com/example/foyer/foyer/MerrittTaubenfeld" "list" "Lcom/example/foyer/foyer/Layout$RegisterArray;" .null) (f60 : Fld G.Z h a "com/example/foyer/foyer/MerrittTaubenfeld" "lock" "Lcom/example/foyer/foyer/LamportFast;" .null) (f70 : Fld G.Z h a "com/example/foyer/foyer/MerrittTaubenfeld" "registry" "Lcom/example/foyer/foyer/LamportFast;" .null) (g0 : G.Z.heap.size ≤ a) {pn rv cv : Int32} {rg : Addr} (hc : cv = 0 ∨ cv = 1) (X0 : Exa G.Z h rg "com/example/foyer/foyer/Registration") (q10 : Fld G.Z h rg "com/example/foyer/foyer/Registration" "registered" "I" (.int rv)) (q20 : Fld G.Z h rg "com/example/foyer/foyer/Registration" "churn" "Z" (.int cv)) :
    Ctr G [] (⟨"com/example/foyer/foyer/MerrittTaubenfeld", "<init>", "(ILcom/example/foyer/foyer/Registration;)V"⟩ : MethodName) prog_37_method_1_code 4 none ({ frames := 10, cells := 76, slots := 572, locals := 3111 } : Room) #[.ref a, .int pn, .ref rg] h [] (fun v h' Sf => v = none ∧ Keep h h' [a] ∧ Exa G.Z h' a "com/example/foyer/foyer/MerrittTaubenfeld" ∧ Fld G.Z h' a "com/example/foyer/foyer/MerrittTaubenfeld" "registered" "I" (.int rv)) := by
  refine ctr_ofL M_mt rfl rfl (plainFor_of_name pn_16) L_mt H.el (Ls := #[.val (.ref a), .val (.int pn), .val (.ref rg), .unset]) (fun m => ef_ok (by show argsToLocals _ 4 = _; first | (simp [argsToLocals, Value.category]; done) | rfl)) ?_
  intro B K hE hB
  refine go_run K 0 3 (pc' := 4) (st' := [(.int (7 : Int32)), (.int pn), (.ref a)]) rfl ?_
  refine go_special K (k := 3) rfl rfl (H.w 20 rfl) (H.w 21 rfl) (H.w 23 rfl) (H.w 24 rfl) (by decide) pd_1 (c_alg2 (pn := pn) (pc0 := (7 : Int32)) H sE E0 f00 f10 f20 f30 f40 f50 f60 f70 g0) (argsL := [(.int pn), (.int (7 : Int32))]) (rest := []) rfl rfl rfl sub0 rfl ?_
  rintro _ h1 _ - ⟨la2, li3, pr4, rfl, K5, e6, F11, F12, F13, F14, F15, F16, F17, F18, Y7, L8, f9, f10⟩
  show Go G B M_mt _ h1 [] 4 9 7 #[.val (.ref a), .val (.int pn), .val (.ref rg), .unset] []
  refine go_run K 4 1 (pc' := 8) (st' := [(.ref rg)]) rfl ?_
  have c19 := (X0.keep K5)
  have c20 := (q10.keep K5 (ninS (Exa.ne X0 E0 (by decide)) nin0))
  refine go_virt0 K (k := 5) rfl (H.w 81 rfl) (H.w 84 rfl) (H.w 83 rfl) (H.w 6 rfl) (H.w 85 rfl) (by decide) pd_6 c19 (c_rgG H c20) (argsL := []) (rest := []) rfl rfl rfl sub0 rfl ?_
  rintro _ _ _ - ⟨rfl, rfl⟩
  show Go G B M_mt _ h1 [] 4 9 11 #[.val (.ref a), .val (.int pn), .val (.ref rg), .unset] [(.int rv)]
  refine go_run K 6 3 (pc' := 14) (Ls' := #[.val (.ref a), .val (.int pn), .val (.ref rg), .val (.int rv)]) (st' := [(.int rv), (.ref a)]) rfl ?_
  refine go_putfield K (k := 9) rfl (host := "") (Or.inl (H.w 86 rfl)) Via.refl F14 e6 (Or.inr ⟨(H.w 87 rfl), rfl, rfl⟩) (H.w 2 rfl) (ty := .int) (by decide) rfl rfl g0 (Or.inr (by decide)) ?_
  intro h21 W22
  have F23 : Exa G.Z h21 a "com/example/foyer/foyer/MerrittTaubenfeld" := Exa.wr W22 e6
  have F24 : Fld G.Z h21 a "com/example/foyer/foyer/Algorithm" "processes" "I" (.int pn) := Fld.other W22 F11 (Or.inr (slot_ne (Or.inr (H.w 76 rfl)) (Or.inr (H.w 87 rfl)) (by decide) (t := .int) (t' := .int) (by decide) (by decide)))
  have F25 : Fld G.Z h21 a "com/example/foyer/foyer/Algorithm" "critical" "I" (.int (7 : Int32)) := Fld.other W22 F12 (Or.inr (slot_ne (Or.inr (H.w 78 rfl)) (Or.inr (H.w 87 rfl)) (by decide) (t := .int) (t' := .int) (by decide) (by decide)))
  have F26 : Fld G.Z h21 a "com/example/foyer/foyer/Algorithm" "layout" "Lcom/example/foyer/foyer/Layout;" (.ref la2) := Fld.other W22 F13 (Or.inr (slot_ne (Or.inr (H.w 80 rfl)) (Or.inr (H.w 87 rfl)) (by decide) (t := (.object "com/example/foyer/foyer/Layout")) (t' := .int) (by decide) (by decide)))
  have F27 : Fld G.Z h21 a "com/example/foyer/foyer/MerrittTaubenfeld" "registered" "I" (.int rv) := Fld.same W22 F14
  have F28 : Fld G.Z h21 a "com/example/foyer/foyer/MerrittTaubenfeld" "churn" "Z" (.int (0 : Int32)) := Fld.other W22 F15 (Or.inr (slot_ne (Or.inr (H.w 94 rfl)) (Or.inr (H.w 87 rfl)) (by decide) (t := .boolean) (t' := .int) (by decide) (by decide)))
  have F29 : Fld G.Z h21 a "com/example/foyer/foyer/MerrittTaubenfeld" "list" "Lcom/example/foyer/foyer/Layout$RegisterArray;" .null := Fld.other W22 F16 (Or.inr (slot_ne (Or.inr (H.w 296 rfl)) (Or.inr (H.w 87 rfl)) (by decide) (t := (.object "com/example/foyer/foyer/Layout$RegisterArray")) (t' := .int) (by decide) (by decide)))
  have F30 : Fld G.Z h21 a "com/example/foyer/foyer/MerrittTaubenfeld" "lock" "Lcom/example/foyer/foyer/LamportFast;" .null := Fld.other W22 F17 (Or.inr (slot_ne (Or.inr (H.w 375 rfl)) (Or.inr (H.w 87 rfl)) (by decide) (t := (.object "com/example/foyer/foyer/LamportFast")) (t' := .int) (by decide) (by decide)))
  have F31 : Fld G.Z h21 a "com/example/foyer/foyer/MerrittTaubenfeld" "registry" "Lcom/example/foyer/foyer/LamportFast;" .null := Fld.other W22 F18 (Or.inr (slot_ne (Or.inr (H.w 384 rfl)) (Or.inr (H.w 87 rfl)) (by decide) (t := (.object "com/example/foyer/foyer/LamportFast")) (t' := .int) (by decide) (by decide)))
  refine go_run K 10 2 (pc' := 19) (st' := [(.ref rg), (.ref a)]) rfl ?_
  have c32 := (Exa.wr W22 c19)
  have c33 := (Fld.other W22 (q20.keep K5 (ninS (Exa.ne X0 E0 (by decide)) nin0)) (Or.inl (Exa.ne c19 e6 (by decide))))
  refine go_virt0 K (k := 12) rfl (H.w 88 rfl) (H.w 91 rfl) (H.w 90 rfl) (H.w 6 rfl) (H.w 92 rfl) (by decide) pd_11 c32 (c_chG H hc c33) (argsL := []) (rest := [(.ref a)]) rfl rfl rfl sub0 rfl ?_
  rintro _ _ _ - ⟨rfl, rfl⟩
  show Go G B M_mt _ h21 [] 4 9 22 #[.val (.ref a), .val (.int pn), .val (.ref rg), .val (.int rv)] [(.int cv), (.ref a)]
  refine go_putfield K (k := 13) rfl (host := "") (Or.inl (H.w 93 rfl)) Via.refl F28 F23 (Or.inr ⟨(H.w 94 rfl), rfl, rfl⟩) (H.w 2 rfl) (ty := .boolean) (by decide) (bool_n hc) (bool_f hc) g0 (Or.inr (by decide)) ?_
  intro h34 W35
  have F36 : Exa G.Z h34 a "com/example/foyer/foyer/MerrittTaubenfeld" := Exa.wr W35 F23
  have F37 : Fld G.Z h34 a "com/example/foyer/foyer/Algorithm" "processes" "I" (.int pn) := Fld.other W35 F24 (Or.inr (slot_ne (Or.inr (H.w 76 rfl)) (Or.inr (H.w 94 rfl)) (by decide) (t := .int) (t' := .boolean) (by decide) (by decide)))
  have F38 : Fld G.Z h34 a "com/example/foyer/foyer/Algorithm" "critical" "I" (.int (7 : Int32)) := Fld.other W35 F25 (Or.inr (slot_ne (Or.inr (H.w 78 rfl)) (Or.inr (H.w 94 rfl)) (by decide) (t := .int) (t' := .boolean) (by decide) (by decide)))
  have F39 : Fld G.Z h34 a "com/example/foyer/foyer/Algorithm" "layout" "Lcom/example/foyer/foyer/Layout;" (.ref la2) := Fld.other W35 F26 (Or.inr (slot_ne (Or.inr (H.w 80 rfl)) (Or.inr (H.w 94 rfl)) (by decide) (t := (.object "com/example/foyer/foyer/Layout")) (t' := .boolean) (by decide) (by decide)))
  have F40 : Fld G.Z h34 a "com/example/foyer/foyer/MerrittTaubenfeld" "registered" "I" (.int rv) := Fld.other W35 F27 (Or.inr (slot_ne (Or.inr (H.w 87 rfl)) (Or.inr (H.w 94 rfl)) (by decide) (t := .int) (t' := .boolean) (by decide) (by decide)))
  have F41 : Fld G.Z h34 a "com/example/foyer/foyer/MerrittTaubenfeld" "churn" "Z" (.int cv) := Fld.same W35 F28
  have F42 : Fld G.Z h34 a "com/example/foyer/foyer/MerrittTaubenfeld" "list" "Lcom/example/foyer/foyer/Layout$RegisterArray;" .null := Fld.other W35 F29 (Or.inr (slot_ne (Or.inr (H.w 296 rfl)) (Or.inr (H.w 94 rfl)) (by decide) (t := (.object "com/example/foyer/foyer/Layout$RegisterArray")) (t' := .boolean) (by decide) (by decide)))
  have F43 : Fld G.Z h34 a "com/example/foyer/foyer/MerrittTaubenfeld" "lock" "Lcom/example/foyer/foyer/LamportFast;" .null := Fld.other W35 F30 (Or.inr (slot_ne (Or.inr (H.w 375 rfl)) (Or.inr (H.w 94 rfl)) (by decide) (t := (.object "com/example/foyer/foyer/LamportFast")) (t' := .boolean) (by decide) (by decide)))
  have F44 : Fld G.Z h34 a "com/example/foyer/foyer/MerrittTaubenfeld" "registry" "Lcom/example/foyer/foyer/LamportFast;" .null := Fld.other W35 F31 (Or.inr (slot_ne (Or.inr (H.w 384 rfl)) (Or.inr (H.w 94 rfl)) (by decide) (t := (.object "com/example/foyer/foyer/LamportFast")) (t' := .boolean) (by decide) (by decide)))
  refine go_run K 14 2 (pc' := 27) (st' := [(.ref a), (.ref a)]) rfl ?_
  refine go_virtUp K (k := 16) rfl (H.w 95 rfl) (H.w 96 rfl) (H.w 97 rfl) (by decide) (H.w 99 rfl) (H.w 98 rfl) (H.w 23 rfl) (H.w 100 rfl) pd_29 F36 (c_layG H F39) (argsL := []) (rest := [(.ref a)]) rfl rfl rfl sub0 rfl ?_
  rintro _ _ _ - ⟨rfl, rfl⟩
  show Go G B M_mt _ h34 [] 4 9 30 #[.val (.ref a), .val (.int pn), .val (.ref rg), .val (.int rv)] [(.ref la2), (.ref a)]
  refine go_ldcT K (k := 17) rfl (H.w 101 rfl) H.ws (H.mem (by decide)) (cs := [(108 : Int32), (105 : Int32), (115 : Int32), (116 : Int32)]) (by decide) (by decide) (n := 16) rfl rfl rfl rfl ?_
  intro h46 a45 E47 S48
  refine go_run K 18 3 (pc' := 35) (st' := [(.int rv), (.int pn), (.int (0 : Int32)), (.ref a45), (.ref la2), (.ref a)]) rfl ?_
  refine go_lambda K (k := 21) rfl (y := (⟨"com/example/foyer/foyer/MerrittTaubenfeld", "<init>", "(ILcom/example/foyer/foyer/Registration;)V"⟩ : MethodName)) (fi := 15) (σ := sg_mt) (vals := [(.int rv)]) (rest := [(.int pn), (.int (0 : Int32)), (.ref a45), (.ref la2), (.ref a)]) (n := 1) hB (H.w 102 rfl) (H.w 105 rfl) (by decide) cap_mt rfl rfl rfl cap1 rfl rfl rfl rfl ?_
  intro h50 a49 e51 g52 E53 Lm54
  have c55 := (((Exa.wr W35 (Exa.wr W22 (Ly.exa Y7))).ext E47).ext E53)
  have c56 := (((Ly.keep (Ly.keep Y7 (Keep.of_wr W22) (ninS (Exa.ne (Ly.exa Y7) e6 (by decide)) nin0) (allS (Ap.of_exa e6 (by decide) (H.w 2 rfl)) all0)) (Keep.of_wr W35) (ninS (Exa.ne (Exa.wr W22 (Ly.exa Y7)) F23 (by decide)) nin0) (allS (Ap.of_exa F23 (by decide) (H.w 2 rfl)) all0)).ext E47).ext E53)
  have c57 := (((Al0.keep (Al0.keep L8 (Keep.of_wr W22) (ninS (Exa.ne (Al0.exa L8) e6 (by decide)) nin0)) (Keep.of_wr W35) (ninS (Exa.ne (Exa.wr W22 (Al0.exa L8)) F23 (by decide)) nin0)).ext E47).ext E53)
  have c58 := (S48.ext E53)
  refine go_virt0 K (k := 22) rfl (H.w 106 rfl) (H.w 109 rfl) (H.w 108 rfl) (H.w 27 rfl) (H.w 110 rfl) (by decide) pd_27 c55 (c_ar40 (p := (0 : Int32)) (q := pn) (io := a49) H sE aE c57 c56 lat0 (by exact ⟨by decide, by decide⟩) (by decide) c58) (argsL := [(.ref a45), (.int (0 : Int32)), (.int pn), (.ref a49)]) (rest := [(.ref a)]) rfl rfl rfl sub0 rfl ?_
  rintro _ h59 _ - ⟨r60, t61, k62, rfl, K63, f64, L65⟩
  show Go G B M_mt _ h59 (a49 :: []) 13 86 43 #[.val (.ref a), .val (.int pn), .val (.ref rg), .val (.int rv)] [(.ref r60), (.ref a)]
  have X66 : Ext h34 h50 := (Ext.tr E47 E53)
  have c67 := (((F42.ext E47).ext E53).keep K63 (ninS (Exa.ne ((F36.ext E47).ext E53) (((Exa.wr W35 (Exa.wr W22 (Al0.exa L8))).ext E47).ext E53) (by decide)) nin0))
  have c68 := (((F36.ext E47).ext E53).keep K63)
  refine go_putfield K (k := 23) rfl (host := "") (Or.inl (H.w 295 rfl)) Via.refl c67 c68 (Or.inr ⟨(H.w 296 rfl), rfl, rfl⟩) (H.w 2 rfl) (ty := (.object "com/example/foyer/foyer/Layout$RegisterArray")) (by decide) rfl rfl g0 (Or.inr (by decide)) ?_
  intro h69 W70
  have c71 := (((F37.ext E47).ext E53).keep K63 (ninS (Exa.ne ((F36.ext E47).ext E53) (((Exa.wr W35 (Exa.wr W22 (Al0.exa L8))).ext E47).ext E53) (by decide)) nin0))
  have c72 := (((F38.ext E47).ext E53).keep K63 (ninS (Exa.ne ((F36.ext E47).ext E53) (((Exa.wr W35 (Exa.wr W22 (Al0.exa L8))).ext E47).ext E53) (by decide)) nin0))
  have c73 := (((F39.ext E47).ext E53).keep K63 (ninS (Exa.ne ((F36.ext E47).ext E53) (((Exa.wr W35 (Exa.wr W22 (Al0.exa L8))).ext E47).ext E53) (by decide)) nin0))
  have c74 := (((F40.ext E47).ext E53).keep K63 (ninS (Exa.ne ((F36.ext E47).ext E53) (((Exa.wr W35 (Exa.wr W22 (Al0.exa L8))).ext E47).ext E53) (by decide)) nin0))
  have c75 := (((F41.ext E47).ext E53).keep K63 (ninS (Exa.ne ((F36.ext E47).ext E53) (((Exa.wr W35 (Exa.wr W22 (Al0.exa L8))).ext E47).ext E53) (by decide)) nin0))
  have c76 := (((F43.ext E47).ext E53).keep K63 (ninS (Exa.ne ((F36.ext E47).ext E53) (((Exa.wr W35 (Exa.wr W22 (Al0.exa L8))).ext E47).ext E53) (by decide)) nin0))
  have c77 := (((F44.ext E47).ext E53).keep K63 (ninS (Exa.ne ((F36.ext E47).ext E53) (((Exa.wr W35 (Exa.wr W22 (Al0.exa L8))).ext E47).ext E53) (by decide)) nin0))
  have F78 : Exa G.Z h69 a "com/example/foyer/foyer/MerrittTaubenfeld" := Exa.wr W70 c68
  have F79 : Fld G.Z h69 a "com/example/foyer/foyer/Algorithm" "processes" "I" (.int pn) := Fld.other W70 c71 (Or.inr (slot_ne (Or.inr (H.w 76 rfl)) (Or.inr (H.w 296 rfl)) (by decide) (t := .int) (t' := (.object "com/example/foyer/foyer/Layout$RegisterArray")) (by decide) (by decide)))
  have F80 : Fld G.Z h69 a "com/example/foyer/foyer/Algorithm" "critical" "I" (.int (7 : Int32)) := Fld.other W70 c72 (Or.inr (slot_ne (Or.inr (H.w 78 rfl)) (Or.inr (H.w 296 rfl)) (by decide) (t := .int) (t' := (.object "com/example/foyer/foyer/Layout$RegisterArray")) (by decide) (by decide)))
  have F81 : Fld G.Z h69 a "com/example/foyer/foyer/Algorithm" "layout" "Lcom/example/foyer/foyer/Layout;" (.ref la2) := Fld.other W70 c73 (Or.inr (slot_ne (Or.inr (H.w 80 rfl)) (Or.inr (H.w 296 rfl)) (by decide) (t := (.object "com/example/foyer/foyer/Layout")) (t' := (.object "com/example/foyer/foyer/Layout$RegisterArray")) (by decide) (by decide)))
  have F82 : Fld G.Z h69 a "com/example/foyer/foyer/MerrittTaubenfeld" "registered" "I" (.int rv) := Fld.other W70 c74 (Or.inr (slot_ne (Or.inr (H.w 87 rfl)) (Or.inr (H.w 296 rfl)) (by decide) (t := .int) (t' := (.object "com/example/foyer/foyer/Layout$RegisterArray")) (by decide) (by decide)))
  have F83 : Fld G.Z h69 a "com/example/foyer/foyer/MerrittTaubenfeld" "churn" "Z" (.int cv) := Fld.other W70 c75 (Or.inr (slot_ne (Or.inr (H.w 94 rfl)) (Or.inr (H.w 296 rfl)) (by decide) (t := .boolean) (t' := (.object "com/example/foyer/foyer/Layout$RegisterArray")) (by decide) (by decide)))
  have F84 : Fld G.Z h69 a "com/example/foyer/foyer/MerrittTaubenfeld" "list" "Lcom/example/foyer/foyer/Layout$RegisterArray;" (.ref r60) := Fld.same W70 c67
  have F85 : Fld G.Z h69 a "com/example/foyer/foyer/MerrittTaubenfeld" "lock" "Lcom/example/foyer/foyer/LamportFast;" .null := Fld.other W70 c76 (Or.inr (slot_ne (Or.inr (H.w 375 rfl)) (Or.inr (H.w 296 rfl)) (by decide) (t := (.object "com/example/foyer/foyer/LamportFast")) (t' := (.object "com/example/foyer/foyer/Layout$RegisterArray")) (by decide) (by decide)))
  have F86 : Fld G.Z h69 a "com/example/foyer/foyer/MerrittTaubenfeld" "registry" "Lcom/example/foyer/foyer/LamportFast;" .null := Fld.other W70 c77 (Or.inr (slot_ne (Or.inr (H.w 384 rfl)) (Or.inr (H.w 296 rfl)) (by decide) (t := (.object "com/example/foyer/foyer/LamportFast")) (t' := (.object "com/example/foyer/foyer/Layout$RegisterArray")) (by decide) (by decide)))
  refine go_run K 24 1 (pc' := 47) (st' := [(.ref a)]) rfl ?_
  refine go_new K (k := 25) rfl (H.w 297 rfl) (H.w 298 rfl) (H.w 299 rfl) rfl rfl ?_
  intro h88 a87 e89 g90 E91 A92 D93
  have F94 : Fld G.Z h88 a87 "com/example/foyer/foyer/Algorithm" "processes" "I" (.int (0 : Int32)) := D93 (Or.inr (H.w 305 rfl)) (ty := .int) (by decide)
  have F95 : Fld G.Z h88 a87 "com/example/foyer/foyer/Algorithm" "critical" "I" (.int (0 : Int32)) := D93 (Or.inr (H.w 306 rfl)) (ty := .int) (by decide)
  have F96 : Fld G.Z h88 a87 "com/example/foyer/foyer/Algorithm" "layout" "Lcom/example/foyer/foyer/Layout;" .null := D93 (Or.inr (H.w 307 rfl)) (ty := (.object "com/example/foyer/foyer/Layout")) (by decide)
  have F97 : Fld G.Z h88 a87 "com/example/foyer/foyer/LamportFast" "x" "I" (.int (0 : Int32)) := D93 (Or.inr (H.w 358 rfl)) (ty := .int) (by decide)
  have F98 : Fld G.Z h88 a87 "com/example/foyer/foyer/LamportFast" "y" "I" (.int (0 : Int32)) := D93 (Or.inr (H.w 361 rfl)) (ty := .int) (by decide)
  have F99 : Fld G.Z h88 a87 "com/example/foyer/foyer/LamportFast" "b" "Lcom/example/foyer/foyer/Layout$RegisterArray;" .null := D93 (Or.inr (H.w 371 rfl)) (ty := (.object "com/example/foyer/foyer/Layout$RegisterArray")) (by decide)
  have F100 : Fld G.Z h88 a87 "com/example/foyer/foyer/LamportFast" "list" "Lcom/example/foyer/foyer/Layout$RegisterArray;" .null := D93 (Or.inr (H.w 373 rfl)) (ty := (.object "com/example/foyer/foyer/Layout$RegisterArray")) (by decide)
  refine go_run K 26 3 (pc' := 53) (st' := [(.ref a), (.int pn), (.ref a87), (.ref a87), (.ref a)]) rfl ?_
  have c101 := (F78.ext E91)
  have c102 := (F81.ext E91)
  refine go_virtUp K (k := 29) rfl (H.w 95 rfl) (H.w 96 rfl) (H.w 97 rfl) (by decide) (H.w 99 rfl) (H.w 98 rfl) (H.w 23 rfl) (H.w 100 rfl) pd_29 c101 (c_layG H c102) (argsL := []) (rest := [(.int pn), (.ref a87), (.ref a87), (.ref a)]) rfl rfl rfl sub0 rfl ?_
  rintro _ _ _ - ⟨rfl, rfl⟩
  show Go G B M_mt _ h88 (a87 :: (a49 :: [])) 14 93 56 #[.val (.ref a), .val (.int pn), .val (.ref rg), .val (.int rv)] [(.ref la2), (.int pn), (.ref a87), (.ref a87), (.ref a)]
  refine go_run K 30 1 (pc' := 57) (st' := [(.ref a), (.ref la2), (.int pn), (.ref a87), (.ref a87), (.ref a)]) rfl ?_
  have c103 := (F84.ext E91)
  refine go_getfield K (k := 31) rfl (host := "") (Or.inl (H.w 295 rfl)) Via.refl c103 ?_
  have c104 := ((Alk.keep L65 (Keep.of_wr W70) (ninS (Exa.ne (Alk.exa L65) c68 (by decide)) nin0) (ninS (Exa.ne (Alk.exaT L65) c68 (by decide)) nin0) (ninS (Exa.ne (Alk.exaR L65) c68 (by decide)) nin0)).ext E91)
  have c105 := ((Ly.keep (Ly.keep c56 K63 (ninS (Exa.ne c55 (((Exa.wr W35 (Exa.wr W22 (Al0.exa L8))).ext E47).ext E53) (by decide)) nin0) (allS (Ap.of_exa (((Exa.wr W35 (Exa.wr W22 (Al0.exa L8))).ext E47).ext E53) (by decide) (H.w 32 rfl)) all0)) (Keep.of_wr W70) (ninS (Exa.ne (c55.keep K63) c68 (by decide)) nin0) (allS (Ap.of_exa c68 (by decide) (H.w 2 rfl)) all0)).ext E91)
  refine go_special K (k := 32) rfl rfl (H.w 300 rfl) (H.w 301 rfl) (H.w 299 rfl) (H.w 302 rfl) (by decide) pd_32 (c_lfR (pn := pn) (lx := r60) H A92 F94 F95 F96 F97 F98 F99 F100 g90 c104 (by decide) c105 lat0 (by decide)) (argsL := [(.int pn), (.ref la2), (.ref r60)]) (rest := [(.ref a87), (.ref a)]) rfl rfl rfl sub0 rfl ?_
  rintro _ h106 _ - ⟨rfl, K107, r108, b109, f110, n111, ini112, L113⟩
  show Go G B M_mt _ h106 (a87 :: (a49 :: [])) 41 288 63 #[.val (.ref a), .val (.int pn), .val (.ref rg), .val (.int rv)] [(.ref a87), (.ref a)]
  have c114 := ((F85.ext E91).keep K107 (ninS (Exa.ne c101 A92 (by decide)) (ninS (Exa.ne c101 ((Exa.wr W70 (Alk.exa L65)).ext E91) (by decide)) (ninS (Exa.ne c101 ((Exa.wr W70 (Alk.exaT L65)).ext E91) (by decide)) nin0))))
  have c115 := (c101.keep K107)
  refine go_putfield K (k := 33) rfl (host := "") (Or.inl (H.w 374 rfl)) Via.refl c114 c115 (Or.inr ⟨(H.w 375 rfl), rfl, rfl⟩) (H.w 2 rfl) (ty := (.object "com/example/foyer/foyer/LamportFast")) (by decide) rfl rfl g0 (Or.inr (by decide)) ?_
  intro h116 W117
  have c118 := ((F79.ext E91).keep K107 (ninS (Exa.ne c101 A92 (by decide)) (ninS (Exa.ne c101 ((Exa.wr W70 (Alk.exa L65)).ext E91) (by decide)) (ninS (Exa.ne c101 ((Exa.wr W70 (Alk.exaT L65)).ext E91) (by decide)) nin0))))
  have c119 := ((F80.ext E91).keep K107 (ninS (Exa.ne c101 A92 (by decide)) (ninS (Exa.ne c101 ((Exa.wr W70 (Alk.exa L65)).ext E91) (by decide)) (ninS (Exa.ne c101 ((Exa.wr W70 (Alk.exaT L65)).ext E91) (by decide)) nin0))))
  have c120 := (c102.keep K107 (ninS (Exa.ne c101 A92 (by decide)) (ninS (Exa.ne c101 ((Exa.wr W70 (Alk.exa L65)).ext E91) (by decide)) (ninS (Exa.ne c101 ((Exa.wr W70 (Alk.exaT L65)).ext E91) (by decide)) nin0))))
  have c121 := ((F82.ext E91).keep K107 (ninS (Exa.ne c101 A92 (by decide)) (ninS (Exa.ne c101 ((Exa.wr W70 (Alk.exa L65)).ext E91) (by decide)) (ninS (Exa.ne c101 ((Exa.wr W70 (Alk.exaT L65)).ext E91) (by decide)) nin0))))
  have c122 := ((F83.ext E91).keep K107 (ninS (Exa.ne c101 A92 (by decide)) (ninS (Exa.ne c101 ((Exa.wr W70 (Alk.exa L65)).ext E91) (by decide)) (ninS (Exa.ne c101 ((Exa.wr W70 (Alk.exaT L65)).ext E91) (by decide)) nin0))))
  have c123 := (c103.keep K107 (ninS (Exa.ne c101 A92 (by decide)) (ninS (Exa.ne c101 ((Exa.wr W70 (Alk.exa L65)).ext E91) (by decide)) (ninS (Exa.ne c101 ((Exa.wr W70 (Alk.exaT L65)).ext E91) (by decide)) nin0))))
  have c124 := ((F86.ext E91).keep K107 (ninS (Exa.ne c101 A92 (by decide)) (ninS (Exa.ne c101 ((Exa.wr W70 (Alk.exa L65)).ext E91) (by decide)) (ninS (Exa.ne c101 ((Exa.wr W70 (Alk.exaT L65)).ext E91) (by decide)) nin0))))
  have F125 : Exa G.Z h116 a "com/example/foyer/foyer/MerrittTaubenfeld" := Exa.wr W117 c115
  have F126 : Fld G.Z h116 a "com/example/foyer/foyer/Algorithm" "processes" "I" (.int pn) := Fld.other W117 c118 (Or.inr (slot_ne (Or.inr (H.w 76 rfl)) (Or.inr (H.w 375 rfl)) (by decide) (t := .int) (t' := (.object "com/example/foyer/foyer/LamportFast")) (by decide) (by decide)))
  have F127 : Fld G.Z h116 a "com/example/foyer/foyer/Algorithm" "critical" "I" (.int (7 : Int32)) := Fld.other W117 c119 (Or.inr (slot_ne (Or.inr (H.w 78 rfl)) (Or.inr (H.w 375 rfl)) (by decide) (t := .int) (t' := (.object "com/example/foyer/foyer/LamportFast")) (by decide) (by decide)))
  have F128 : Fld G.Z h116 a "com/example/foyer/foyer/Algorithm" "layout" "Lcom/example/foyer/foyer/Layout;" (.ref la2) := Fld.other W117 c120 (Or.inr (slot_ne (Or.inr (H.w 80 rfl)) (Or.inr (H.w 375 rfl)) (by decide) (t := (.object "com/example/foyer/foyer/Layout")) (t' := (.object "com/example/foyer/foyer/LamportFast")) (by decide) (by decide)))
  have F129 : Fld G.Z h116 a "com/example/foyer/foyer/MerrittTaubenfeld" "registered" "I" (.int rv) := Fld.other W117 c121 (Or.inr (slot_ne (Or.inr (H.w 87 rfl)) (Or.inr (H.w 375 rfl)) (by decide) (t := .int) (t' := (.object "com/example/foyer/foyer/LamportFast")) (by decide) (by decide)))
  have F130 : Fld G.Z h116 a "com/example/foyer/foyer/MerrittTaubenfeld" "churn" "Z" (.int cv) := Fld.other W117 c122 (Or.inr (slot_ne (Or.inr (H.w 94 rfl)) (Or.inr (H.w 375 rfl)) (by decide) (t := .boolean) (t' := (.object "com/example/foyer/foyer/LamportFast")) (by decide) (by decide)))
  have F131 : Fld G.Z h116 a "com/example/foyer/foyer/MerrittTaubenfeld" "list" "Lcom/example/foyer/foyer/Layout$RegisterArray;" (.ref r60) := Fld.other W117 c123 (Or.inr (slot_ne (Or.inr (H.w 296 rfl)) (Or.inr (H.w 375 rfl)) (by decide) (t := (.object "com/example/foyer/foyer/Layout$RegisterArray")) (t' := (.object "com/example/foyer/foyer/LamportFast")) (by decide) (by decide)))
  have F132 : Fld G.Z h116 a "com/example/foyer/foyer/MerrittTaubenfeld" "lock" "Lcom/example/foyer/foyer/LamportFast;" (.ref a87) := Fld.same W117 c114
  have F133 : Fld G.Z h116 a "com/example/foyer/foyer/MerrittTaubenfeld" "registry" "Lcom/example/foyer/foyer/LamportFast;" .null := Fld.other W117 c124 (Or.inr (slot_ne (Or.inr (H.w 384 rfl)) (Or.inr (H.w 375 rfl)) (by decide) (t := (.object "com/example/foyer/foyer/LamportFast")) (t' := (.object "com/example/foyer/foyer/LamportFast")) (by decide) (by decide)))
  refine go_run K 34 1 (pc' := 67) (st' := [(.ref a)]) rfl ?_
  refine go_new K (k := 35) rfl (H.w 297 rfl) (H.w 298 rfl) (H.w 299 rfl) rfl rfl ?_
  intro h135 a134 e136 g137 E138 A139 D140
  have F141 : Fld G.Z h135 a134 "com/example/foyer/foyer/Algorithm" "processes" "I" (.int (0 : Int32)) := D140 (Or.inr (H.w 305 rfl)) (ty := .int) (by decide)
  have F142 : Fld G.Z h135 a134 "com/example/foyer/foyer/Algorithm" "critical" "I" (.int (0 : Int32)) := D140 (Or.inr (H.w 306 rfl)) (ty := .int) (by decide)
  have F143 : Fld G.Z h135 a134 "com/example/foyer/foyer/Algorithm" "layout" "Lcom/example/foyer/foyer/Layout;" .null := D140 (Or.inr (H.w 307 rfl)) (ty := (.object "com/example/foyer/foyer/Layout")) (by decide)
  have F144 : Fld G.Z h135 a134 "com/example/foyer/foyer/LamportFast" "x" "I" (.int (0 : Int32)) := D140 (Or.inr (H.w 358 rfl)) (ty := .int) (by decide)
  have F145 : Fld G.Z h135 a134 "com/example/foyer/foyer/LamportFast" "y" "I" (.int (0 : Int32)) := D140 (Or.inr (H.w 361 rfl)) (ty := .int) (by decide)
  have F146 : Fld G.Z h135 a134 "com/example/foyer/foyer/LamportFast" "b" "Lcom/example/foyer/foyer/Layout$RegisterArray;" .null := D140 (Or.inr (H.w 371 rfl)) (ty := (.object "com/example/foyer/foyer/Layout$RegisterArray")) (by decide)
  have F147 : Fld G.Z h135 a134 "com/example/foyer/foyer/LamportFast" "list" "Lcom/example/foyer/foyer/Layout$RegisterArray;" .null := D140 (Or.inr (H.w 373 rfl)) (ty := (.object "com/example/foyer/foyer/Layout$RegisterArray")) (by decide)
  refine go_run K 36 3 (pc' := 73) (st' := [(.ref a), (.int pn), (.ref a134), (.ref a134), (.ref a)]) rfl ?_
  have c148 := (F125.ext E138)
  have c149 := (F128.ext E138)
  refine go_virtUp K (k := 39) rfl (H.w 95 rfl) (H.w 96 rfl) (H.w 97 rfl) (by decide) (H.w 99 rfl) (H.w 98 rfl) (H.w 23 rfl) (H.w 100 rfl) pd_29 c148 (c_layG H c149) (argsL := []) (rest := [(.int pn), (.ref a134), (.ref a134), (.ref a)]) rfl rfl rfl sub0 rfl ?_
  rintro _ _ _ - ⟨rfl, rfl⟩
  show Go G B M_mt _ h135 (a134 :: (a87 :: (a49 :: []))) 42 295 76 #[.val (.ref a), .val (.int pn), .val (.ref rg), .val (.int rv)] [(.ref la2), (.int pn), (.ref a134), (.ref a134), (.ref a)]
  refine go_ldcT K (k := 40) rfl (H.w 376 rfl) H.ws (H.mem (by decide)) (cs := [(114 : Int32), (101 : Int32), (103 : Int32), (105 : Int32), (115 : Int32), (116 : Int32), (114 : Int32), (121 : Int32), (46 : Int32)]) (by decide) (by decide) (n := 36) rfl rfl rfl rfl ?_
  intro h151 a150 E152 S153
  have c154 := (((Exa.wr W117 (((Exa.wr W70 (c55.keep K63)).ext E91).keep K107)).ext E138).ext E152)
  have c155 := (((Ly.keep (Ly.keep c105 K107 (ninS (Exa.ne ((Exa.wr W70 (c55.keep K63)).ext E91) A92 (by decide)) (ninS (Exa.ne ((Exa.wr W70 (c55.keep K63)).ext E91) ((Exa.wr W70 (Alk.exa L65)).ext E91) (by decide)) (ninS (Exa.ne ((Exa.wr W70 (c55.keep K63)).ext E91) ((Exa.wr W70 (Alk.exaT L65)).ext E91) (by decide)) nin0))) (allS (Ap.of_exa A92 (by decide) (H.w 298 rfl)) (allS (Ap.of_exa ((Exa.wr W70 (Alk.exa L65)).ext E91) (by decide) (H.w 32 rfl)) (allS (Alk.apT c104 (H.w 57 rfl)) all0)))) (Keep.of_wr W117) (ninS (Exa.ne (((Exa.wr W70 (c55.keep K63)).ext E91).keep K107) c115 (by decide)) nin0) (allS (Ap.of_exa c115 (by decide) (H.w 2 rfl)) all0)).ext E138).ext E152)
  refine go_virt0 K (k := 41) rfl (H.w 377 rfl) (H.w 380 rfl) (H.w 379 rfl) (H.w 27 rfl) (H.w 381 rfl) (by decide) pd_33 c154 (c_wit H c155 lat0 (by exact ⟨by decide, by decide⟩) (by decide) S153) (argsL := [(.ref a150)]) (rest := [(.int pn), (.ref a134), (.ref a134), (.ref a)]) rfl rfl rfl sub0 rfl ?_
  rintro _ h156 _ - ⟨lb157, pb158, rfl, E159, Y160, f161⟩
  show Go G B M_mt _ h156 (a134 :: (a87 :: (a49 :: []))) 49 377 81 #[.val (.ref a), .val (.int pn), .val (.ref rg), .val (.int rv)] [(.ref lb157), (.int pn), (.ref a134), (.ref a134), (.ref a)]
  refine go_run K 42 1 (pc' := 82) (st' := [.null, (.ref lb157), (.int pn), (.ref a134), (.ref a134), (.ref a)]) rfl ?_
  have X162 : Ext h135 h156 := (Ext.tr E152 E159)
  have c163 := (A139.ext X162)
  have c164 := (F141.ext X162)
  have c165 := (F142.ext X162)
  have c166 := (F143.ext X162)
  have c167 := (F144.ext X162)
  have c168 := (F145.ext X162)
  have c169 := (F146.ext X162)
  have c170 := (F147.ext X162)
  have c171 := ((((Alk.keep L113 (Keep.of_wr W117) (ninS (Exa.ne (Alk.exa L113) c115 (by decide)) nin0) (ninS (Exa.ne (Alk.exaT L113) c115 (by decide)) nin0) (ninS (Exa.ne (Alk.exaR L113) c115 (by decide)) nin0)).ext E138).ext E152).ext E159)
  refine go_special K (k := 43) rfl rfl (H.w 300 rfl) (H.w 301 rfl) (H.w 299 rfl) (H.w 302 rfl) (by decide) pd_32 (c_lfN (pn := pn) H c163 c164 c165 c166 c167 c168 c169 c170 g137 c171 (by decide) Y160 (by exact ⟨by decide, by decide⟩) (by decide)) (argsL := [(.int pn), (.ref lb157), .null]) (rest := [(.ref a134), (.ref a)]) rfl rfl rfl sub0 rfl ?_
  rintro _ h172 _ - ⟨rfl, K173, r174, b175, f176, n177, ini178, L179⟩
  show Go G B M_mt _ h172 (a134 :: (a87 :: (a49 :: []))) 76 572 85 #[.val (.ref a), .val (.int pn), .val (.ref rg), .val (.int rv)] [(.ref a134), (.ref a)]
  have X180 : Ext h116 h151 := (Ext.tr E138 E152)
  have X181 : Ext h116 h156 := (Ext.tr X180 E159)
  have c182 := ((((F133.ext E138).ext E152).ext E159).keep K173 (ninS (Exa.ne ((c148.ext E152).ext E159) c163 (by decide)) (ninS (Exa.ne ((c148.ext E152).ext E159) ((((Exa.wr W117 (Alk.exa L113)).ext E138).ext E152).ext E159) (by decide)) (ninS (Exa.ne ((c148.ext E152).ext E159) ((((Exa.wr W117 (Alk.exaT L113)).ext E138).ext E152).ext E159) (by decide)) nin0))))
  have c183 := (((c148.ext E152).ext E159).keep K173)
  refine go_putfield K (k := 44) rfl (host := "") (Or.inl (H.w 383 rfl)) Via.refl c182 c183 (Or.inr ⟨(H.w 384 rfl), rfl, rfl⟩) (H.w 2 rfl) (ty := (.object "com/example/foyer/foyer/LamportFast")) (by decide) rfl rfl g0 (Or.inr (by decide)) ?_
  intro h184 W185
  have c186 := ((((F126.ext E138).ext E152).ext E159).keep K173 (ninS (Exa.ne ((c148.ext E152).ext E159) c163 (by decide)) (ninS (Exa.ne ((c148.ext E152).ext E159) ((((Exa.wr W117 (Alk.exa L113)).ext E138).ext E152).ext E159) (by decide)) (ninS (Exa.ne ((c148.ext E152).ext E159) ((((Exa.wr W117 (Alk.exaT L113)).ext E138).ext E152).ext E159) (by decide)) nin0))))
  have c187 := ((((F127.ext E138).ext E152).ext E159).keep K173 (ninS (Exa.ne ((c148.ext E152).ext E159) c163 (by decide)) (ninS (Exa.ne ((c148.ext E152).ext E159) ((((Exa.wr W117 (Alk.exa L113)).ext E138).ext E152).ext E159) (by decide)) (ninS (Exa.ne ((c148.ext E152).ext E159) ((((Exa.wr W117 (Alk.exaT L113)).ext E138).ext E152).ext E159) (by decide)) nin0))))
  have c188 := (((c149.ext E152).ext E159).keep K173 (ninS (Exa.ne ((c148.ext E152).ext E159) c163 (by decide)) (ninS (Exa.ne ((c148.ext E152).ext E159) ((((Exa.wr W117 (Alk.exa L113)).ext E138).ext E152).ext E159) (by decide)) (ninS (Exa.ne ((c148.ext E152).ext E159) ((((Exa.wr W117 (Alk.exaT L113)).ext E138).ext E152).ext E159) (by decide)) nin0))))
  have c189 := ((((F129.ext E138).ext E152).ext E159).keep K173 (ninS (Exa.ne ((c148.ext E152).ext E159) c163 (by decide)) (ninS (Exa.ne ((c148.ext E152).ext E159) ((((Exa.wr W117 (Alk.exa L113)).ext E138).ext E152).ext E159) (by decide)) (ninS (Exa.ne ((c148.ext E152).ext E159) ((((Exa.wr W117 (Alk.exaT L113)).ext E138).ext E152).ext E159) (by decide)) nin0))))
  have c190 := ((((F130.ext E138).ext E152).ext E159).keep K173 (ninS (Exa.ne ((c148.ext E152).ext E159) c163 (by decide)) (ninS (Exa.ne ((c148.ext E152).ext E159) ((((Exa.wr W117 (Alk.exa L113)).ext E138).ext E152).ext E159) (by decide)) (ninS (Exa.ne ((c148.ext E152).ext E159) ((((Exa.wr W117 (Alk.exaT L113)).ext E138).ext E152).ext E159) (by decide)) nin0))))
  have c191 := ((((F131.ext E138).ext E152).ext E159).keep K173 (ninS (Exa.ne ((c148.ext E152).ext E159) c163 (by decide)) (ninS (Exa.ne ((c148.ext E152).ext E159) ((((Exa.wr W117 (Alk.exa L113)).ext E138).ext E152).ext E159) (by decide)) (ninS (Exa.ne ((c148.ext E152).ext E159) ((((Exa.wr W117 (Alk.exaT L113)).ext E138).ext E152).ext E159) (by decide)) nin0))))
  have c192 := ((((F132.ext E138).ext E152).ext E159).keep K173 (ninS (Exa.ne ((c148.ext E152).ext E159) c163 (by decide)) (ninS (Exa.ne ((c148.ext E152).ext E159) ((((Exa.wr W117 (Alk.exa L113)).ext E138).ext E152).ext E159) (by decide)) (ninS (Exa.ne ((c148.ext E152).ext E159) ((((Exa.wr W117 (Alk.exaT L113)).ext E138).ext E152).ext E159) (by decide)) nin0))))
  have F193 : Exa G.Z h184 a "com/example/foyer/foyer/MerrittTaubenfeld" := Exa.wr W185 c183
  have F194 : Fld G.Z h184 a "com/example/foyer/foyer/Algorithm" "processes" "I" (.int pn) := Fld.other W185 c186 (Or.inr (slot_ne (Or.inr (H.w 76 rfl)) (Or.inr (H.w 384 rfl)) (by decide) (t := .int) (t' := (.object "com/example/foyer/foyer/LamportFast")) (by decide) (by decide)))
  have F195 : Fld G.Z h184 a "com/example/foyer/foyer/Algorithm" "critical" "I" (.int (7 : Int32)) := Fld.other W185 c187 (Or.inr (slot_ne (Or.inr (H.w 78 rfl)) (Or.inr (H.w 384 rfl)) (by decide) (t := .int) (t' := (.object "com/example/foyer/foyer/LamportFast")) (by decide) (by decide)))
  have F196 : Fld G.Z h184 a "com/example/foyer/foyer/Algorithm" "layout" "Lcom/example/foyer/foyer/Layout;" (.ref la2) := Fld.other W185 c188 (Or.inr (slot_ne (Or.inr (H.w 80 rfl)) (Or.inr (H.w 384 rfl)) (by decide) (t := (.object "com/example/foyer/foyer/Layout")) (t' := (.object "com/example/foyer/foyer/LamportFast")) (by decide) (by decide)))
  have F197 : Fld G.Z h184 a "com/example/foyer/foyer/MerrittTaubenfeld" "registered" "I" (.int rv) := Fld.other W185 c189 (Or.inr (slot_ne (Or.inr (H.w 87 rfl)) (Or.inr (H.w 384 rfl)) (by decide) (t := .int) (t' := (.object "com/example/foyer/foyer/LamportFast")) (by decide) (by decide)))
  have F198 : Fld G.Z h184 a "com/example/foyer/foyer/MerrittTaubenfeld" "churn" "Z" (.int cv) := Fld.other W185 c190 (Or.inr (slot_ne (Or.inr (H.w 94 rfl)) (Or.inr (H.w 384 rfl)) (by decide) (t := .boolean) (t' := (.object "com/example/foyer/foyer/LamportFast")) (by decide) (by decide)))
  have F199 : Fld G.Z h184 a "com/example/foyer/foyer/MerrittTaubenfeld" "list" "Lcom/example/foyer/foyer/Layout$RegisterArray;" (.ref r60) := Fld.other W185 c191 (Or.inr (slot_ne (Or.inr (H.w 296 rfl)) (Or.inr (H.w 384 rfl)) (by decide) (t := (.object "com/example/foyer/foyer/Layout$RegisterArray")) (t' := (.object "com/example/foyer/foyer/LamportFast")) (by decide) (by decide)))
  have F200 : Fld G.Z h184 a "com/example/foyer/foyer/MerrittTaubenfeld" "lock" "Lcom/example/foyer/foyer/LamportFast;" (.ref a87) := Fld.other W185 c192 (Or.inr (slot_ne (Or.inr (H.w 375 rfl)) (Or.inr (H.w 384 rfl)) (by decide) (t := (.object "com/example/foyer/foyer/LamportFast")) (t' := (.object "com/example/foyer/foyer/LamportFast")) (by decide) (by decide)))
  have F201 : Fld G.Z h184 a "com/example/foyer/foyer/MerrittTaubenfeld" "registry" "Lcom/example/foyer/foyer/LamportFast;" (.ref a134) := Fld.same W185 c182
  refine go_return K (k := 45) rfl rfl rfl rfl ?_
  intro Sf hSf
  exact ⟨rfl, ((((((((((((((((Keep.refl _ [a]).trans K5 (allS (Or.inl (List.mem_cons_self ..)) all0)).wr W22 (Or.inl (List.mem_cons_self ..))).wr W35 (Or.inl (List.mem_cons_self ..))).ext E47).ext E53).trans K63 (allS (Or.inr (f10)) all0)).wr W70 (Or.inl (List.mem_cons_self ..))).ext E91).trans K107 (allS (Or.inr (Nat.le_trans (Nat.le_trans (Nat.le_trans (Nat.le_trans (Nat.le_trans (Nat.le_trans (Nat.le_trans (K5).1 (Nat.le_of_eq (W22).size.symm)) (Nat.le_of_eq (W35).size.symm)) (E47).1) (E53).1) (K63).1) (Nat.le_of_eq (W70).size.symm)) (Nat.le_of_eq e89.symm))) (allS (Or.inr (f10)) (allS (Or.inr (Nat.le_trans (Nat.le_trans (Nat.le_trans (Nat.le_trans (Nat.le_trans (K5).1 (Nat.le_of_eq (W22).size.symm)) (Nat.le_of_eq (W35).size.symm)) (E47).1) (E53).1) f64)) all0)))).wr W117 (Or.inl (List.mem_cons_self ..))).ext E138).ext E152).ext E159).trans K173 (allS (Or.inr (Nat.le_trans (Nat.le_trans (Nat.le_trans (Nat.le_trans (Nat.le_trans (Nat.le_trans (Nat.le_trans (Nat.le_trans (Nat.le_trans (Nat.le_trans (K5).1 (Nat.le_of_eq (W22).size.symm)) (Nat.le_of_eq (W35).size.symm)) (E47).1) (E53).1) (K63).1) (Nat.le_of_eq (W70).size.symm)) (E91).1) (K107).1) (Nat.le_of_eq (W117).size.symm)) (Nat.le_of_eq e136.symm))) (allS (Or.inr (f10)) (allS (Or.inr (Nat.le_trans (Nat.le_trans (Nat.le_trans (Nat.le_trans (Nat.le_trans (K5).1 (Nat.le_of_eq (W22).size.symm)) (Nat.le_of_eq (W35).size.symm)) (E47).1) (E53).1) f64)) all0)))).wr W185 (Or.inl (List.mem_cons_self ..))), F193, F197⟩
def P_loc : List (Nat × Instr × Nat) := [(0, .iconst 5, 1), (1, .ireturn, 1)]
theorem L_loc : ∀ q ∈ P_loc, decode prog_37_method_2_code q.1 = .ok q.2 := by decide +kernel
def M_loc : Mt := (("com/example/foyer/foyer/MerrittTaubenfeld", "locals", ({ frames := 0, cells := 0, slots := 0, locals := 0 } : Room)), P_loc, 1, (some .int))
set_option maxRecDepth 65536 in
set_option maxHeartbeats 40000000 in
theorem c_loc {G : Gb} (H : Gl tables_1 els G) {h : Heap} {a : Addr} :
    Ctr G [] (⟨"com/example/foyer/foyer/MerrittTaubenfeld", "locals", "()I"⟩ : MethodName) prog_37_method_2_code 1 (some .int) ({ frames := 0, cells := 0, slots := 0, locals := 0 } : Room) #[.ref a] h [] (fun v h' Sf => v = some (.int 5) ∧ h = h') := by
  refine ctr_of M_loc rfl rfl (plainFor_of_name pn_16) L_loc H.el (Ls := #[.val (.ref a)]) (fun m => ef_ok (by show argsToLocals _ 1 = _; first | (simp [argsToLocals, Value.category]; done) | rfl)) ?_
  intro B K hE
  refine go_run K 0 1 (pc' := 1) (st' := [(.int (5 : Int32))]) rfl ?_
  refine go_ireturn K (k := 1) rfl rfl (by decide) rfl rfl rfl ?_
  intro Sf hSf
  exact ⟨rfl, rfl⟩
def P_ail : List (Nat × Instr × Nat) := [(0, .aload_n 0, 1), (1, .invokevirtual 26, 3), (4, .newarray .int, 2), (6, .areturn, 1)]
theorem L_ail : ∀ q ∈ P_ail, decode prog_3_method_8_code q.1 = .ok q.2 := by decide +kernel
def M_ail : Mt := (("com/example/foyer/foyer/Algorithm", "initialLocals", ({ frames := 1, cells := 1, slots := 5, locals := 12 } : Room)), P_ail, 2, (some (.array .int)))
set_option maxRecDepth 65536 in
set_option maxHeartbeats 40000000 in
theorem c_ail {G : Gb} (H : Gl tables_1 els G) {h : Heap} {a : Addr} {i : Int32} (E0 : Exa G.Z h a "com/example/foyer/foyer/MerrittTaubenfeld") :
    Ctr G [] (⟨"com/example/foyer/foyer/Algorithm", "initialLocals", "(I)[I"⟩ : MethodName) prog_3_method_8_code 2 (some (.array .int)) ({ frames := 1, cells := 1, slots := 5, locals := 12 } : Room) #[.ref a, .int i] h [] (fun v h' Sf => ∃ (d : Addr) (kd : ClassId), v = some (.ref d) ∧ Ext h h' ∧ Arv G.Z h' d kd .int (5 : Int32) [.int 0, .int 0, .int 0, .int 0, .int 0] (.int 0) ∧ G.Z.heap.size ≤ d ∧ h.size ≤ d ∧ Sf d) := by
  refine ctr_of M_ail rfl rfl (plainFor_of_name pn_13) L_ail H.el (Ls := #[.val (.ref a), .val (.int i)]) (fun m => ef_ok (by show argsToLocals _ 2 = _; first | (simp [argsToLocals, Value.category]; done) | rfl)) ?_
  intro B K hE
  refine go_run K 0 1 (pc' := 1) (st' := [(.ref a)]) rfl ?_
  refine go_virtual K (k := 1) rfl (H.w 395 rfl) (H.w 396 rfl) (H.w 397 rfl) (H.w 398 rfl) (H.w 3 rfl) (H.w 399 rfl) (by decide) pd_6 E0 (nfO2 (H.w 99 rfl) rfl) (c_loc (a := a) H) (argsL := []) (rest := []) rfl rfl rfl sub0 rfl ?_
  rintro _ _ _ - ⟨rfl, rfl⟩
  show Go G B M_ail _ h [] 0 0 4 #[.val (.ref a), .val (.int i)] [(.int (5 : Int32))]
  refine go_newarray K (k := 2) rfl (H.w 400 rfl) (by decide) (cap := 5) (by decide) rfl rfl rfl ?_
  intro h2 a1 k3 e4 g5 E6 A7
  have A7' : Arv G.Z h2 a1 k3 .int (5 : Int32) [(.int (0 : Int32)), (.int (0 : Int32)), (.int (0 : Int32)), (.int (0 : Int32)), (.int (0 : Int32))] (.int (0 : Int32)) := Arv.pad A7 (pad_rep [] (.int (0 : Int32)) 5)
  refine go_areturn K (k := 3) rfl rfl rfl rfl rfl rfl rfl ?_
  intro Sf hSf
  exact ⟨a1, k3, rfl, E6, A7', g5, Nat.le_trans (Nat.le_refl _) (Nat.le_of_eq e4.symm), hSf _ (List.mem_cons_self ..)⟩
def P_mil : List (Nat × Instr × Nat) := [(0, .aload_n 0, 1), (1, .iload_n 1, 1), (2, .invokespecial 62, 3), (5, .astore_n 2, 1), (6, .aload_n 2, 1), (7, .iconst 2, 1), (8, .iload_n 1, 1), (9, .aload_n 0, 1), (10, .getfield 15, 3), (13, .if_icmp .gt 7, 3), (16, .iconst 1, 1), (17, .goto 4, 3), (20, .iconst 0, 1), (21, .iastore, 1), (22, .aload_n 2, 1), (23, .areturn, 1)]
theorem L_mil : ∀ q ∈ P_mil, decode prog_37_method_3_code q.1 = .ok q.2 := by decide +kernel
def M_mil : Mt := (("com/example/foyer/foyer/MerrittTaubenfeld", "initialLocals", ({ frames := 2, cells := 1, slots := 5, locals := 25 } : Room)), P_mil, 3, (some (.array .int)))
set_option maxRecDepth 65536 in
set_option maxHeartbeats 40000000 in
theorem c_mil {G : Gb} (H : Gl tables_1 els G) {h : Heap} {a : Addr} {i rv : Int32} (E0 : Exa G.Z h a "com/example/foyer/foyer/MerrittTaubenfeld") (F0 : Fld G.Z h a "com/example/foyer/foyer/MerrittTaubenfeld" "registered" "I" (.int rv)) :
    Ctr G [] (⟨"com/example/foyer/foyer/MerrittTaubenfeld", "initialLocals", "(I)[I"⟩ : MethodName) prog_37_method_3_code 3 (some (.array .int)) ({ frames := 2, cells := 1, slots := 5, locals := 25 } : Room) #[.ref a, .int i] h [] (fun v h' Sf => ∃ (e : Int32) (d : Addr) (kd : ClassId), v = some (.ref d) ∧ Ext h h' ∧ Arv G.Z h' d kd .int (5 : Int32) [.int 0, .int 0, .int e, .int 0, .int 0] (.int 0) ∧ G.Z.heap.size ≤ d ∧ h.size ≤ d ∧ ((¬ rv < i ∧ e = 1) ∨ (rv < i ∧ e = 0))) := by
  refine ctr_of M_mil rfl rfl (plainFor_of_name pn_16) L_mil H.el (Ls := #[.val (.ref a), .val (.int i), .unset]) (fun m => ef_ok (by show argsToLocals _ 3 = _; first | (simp [argsToLocals, Value.category]; done) | rfl)) ?_
  intro B K hE
  refine go_run K 0 2 (pc' := 2) (st' := [(.int i), (.ref a)]) rfl ?_
  refine go_superN K (k := 2) rfl (H.w 390 rfl) (sameM2 (H.w 393 rfl) (H.w 99 rfl) rfl (by decide)) (H.w 391 rfl) (H.w 392 rfl) (H.w 23 rfl) (H.w 394 rfl) (by decide) pd_34 E0 (c_ail (i := i) H E0) (argsL := [(.int i)]) (rest := []) rfl rfl rfl sub0 rfl ?_
  rintro _ h1 Sf9 - ⟨d2, k3, rfl, E4, A5, g6, f7, s8⟩
  refine ⟨[d2], allS s8 all0, ?_⟩
  show Go G B M_mil _ h1 (d2 :: []) 1 5 5 #[.val (.ref a), .val (.int i), .unset] [(.ref d2)]
  refine go_run K 3 5 (pc' := 10) (Ls' := #[.val (.ref a), .val (.int i), .val (.ref d2)]) (st' := [(.ref a), (.int i), (.int (2 : Int32)), (.ref d2)]) rfl ?_
  have c10 := (F0.ext E4)
  refine go_getfield K (k := 8) rfl (host := "") (Or.inl (H.w 86 rfl)) Via.refl c10 ?_
  refine go_icmpgt K (k := 9) rfl (pc' := 20) (by decide) (fun q11 => ?_) (fun q12 => ?_)
  · refine go_run K 12 1 (pc' := 21) (st' := [(.int (0 : Int32)), (.int (2 : Int32)), (.ref d2)]) rfl ?_
    refine go_iastore K (k := 13) rfl A5 (i := 2) (by decide) rfl (Nat.le_of_ble_eq_true rfl) g6 ?_
    intro h13 W14 A15
    refine go_run K 14 1 (pc' := 23) (st' := [(.ref d2)]) rfl ?_
    have X16 : Ext h h13 := (Ext.wrN E4 W14 (f7))
    refine go_areturn K (k := 15) rfl rfl rfl rfl rfl rfl rfl ?_
    intro Sf hSf
    exact ⟨_, d2, k3, rfl, X16, A15, g6, f7, Or.inr ⟨q11, rfl⟩⟩
  · refine go_run K 10 2 (pc' := 21) (st' := [(.int (1 : Int32)), (.int (2 : Int32)), (.ref d2)]) rfl ?_
    refine go_iastore K (k := 13) rfl A5 (i := 2) (by decide) rfl (Nat.le_of_ble_eq_true rfl) g6 ?_
    intro h17 W18 A19
    refine go_run K 14 1 (pc' := 23) (st' := [(.ref d2)]) rfl ?_
    have X20 : Ext h h17 := (Ext.wrN E4 W18 (f7))
    refine go_areturn K (k := 15) rfl rfl rfl rfl rfl rfl rfl ?_
    intro Sf hSf
    exact ⟨_, d2, k3, rfl, X20, A19, g6, f7, Or.inl ⟨q12, rfl⟩⟩
theorem pn_17 : plainName "com/example/foyer/foyer/MerrittTaubenfeldInitialLocalsPinLaw" = true := by first | (simp [plainName, overriddenIn]; done) | decide +kernel
def P_ok : List (Nat × Instr × Nat) := [(0, .aload_n 0, 1), (1, .arraylength, 1), (2, .iconst 5, 1), (3, .if_icmp .eq 5, 3), (6, .iconst 0, 1), (7, .ireturn, 1), (8, .aload_n 0, 1), (9, .iconst 0, 1), (10, .iaload, 1), (11, .ifCond .ne 32, 3), (14, .aload_n 0, 1), (15, .iconst 1, 1), (16, .iaload, 1), (17, .ifCond .ne 26, 3), (20, .aload_n 0, 1), (21, .iconst 2, 1), (22, .iaload, 1), (23, .iload_n 1, 1), (24, .if_icmp .ne 19, 3), (27, .aload_n 0, 1), (28, .iconst 3, 1), (29, .iaload, 1), (30, .ifCond .ne 13, 3), (33, .aload_n 0, 1), (34, .iconst 4, 1), (35, .iaload, 1), (36, .ifCond .ne 7, 3), (39, .iconst 1, 1), (40, .goto 4, 3), (43, .iconst 0, 1), (44, .ireturn, 1)]
theorem L_ok : ∀ q ∈ P_ok, decode method_3_code q.1 = .ok q.2 := by decide +kernel
def M_ok : Mt := (("com/example/foyer/foyer/MerrittTaubenfeldInitialLocalsPinLaw", "ok", ({ frames := 0, cells := 0, slots := 0, locals := 0 } : Room)), P_ok, 2, (some .boolean))
set_option maxRecDepth 65536 in
set_option maxHeartbeats 40000000 in
theorem c_ok {G : Gb} (H : Gl tables_1 els G) {h : Heap} {d : Addr} {kd : ClassId} {e : Int32} (A0 : Arv G.Z h d kd .int (5 : Int32) [.int 0, .int 0, .int e, .int 0, .int 0] (.int 0)) :
    Ctr G [] (⟨"com/example/foyer/foyer/MerrittTaubenfeldInitialLocalsPinLaw", "ok", "([II)Z"⟩ : MethodName) method_3_code 2 (some .boolean) ({ frames := 0, cells := 0, slots := 0, locals := 0 } : Room) #[.ref d, .int e] h [] (fun v h' Sf => v = some (.int 1) ∧ h = h') := by
  refine ctr_of M_ok rfl rfl (plainFor_of_name pn_17) L_ok H.el (Ls := #[.val (.ref d), .val (.int e)]) (fun m => ef_ok (by show argsToLocals _ 2 = _; first | (simp [argsToLocals, Value.category]; done) | rfl)) ?_
  intro B K hE
  refine go_run K 0 1 (pc' := 1) (st' := [(.ref d)]) rfl ?_
  refine go_arraylength K (k := 1) rfl A0 ?_
  refine go_run K 2 1 (pc' := 3) (st' := [(.int (5 : Int32)), (.int (5 : Int32))]) rfl ?_
  refine go_icmpeq K (k := 3) rfl (pc' := 8) (by decide) (fun _ => ?_) (fun q => absurd rfl q)
  refine go_run K 6 2 (pc' := 10) (st' := [(.int (0 : Int32)), (.ref d)]) rfl ?_
  refine go_iaload K (k := 8) rfl A0 (by decide) (v := .int (0 : Int32)) rfl ?_
  refine go_ifne K (k := 9) rfl (pc' := 43) (by decide) (fun q => absurd rfl q) (fun _ => ?_)
  refine go_run K 10 2 (pc' := 16) (st' := [(.int (1 : Int32)), (.ref d)]) rfl ?_
  refine go_iaload K (k := 12) rfl A0 (by decide) (v := .int (0 : Int32)) rfl ?_
  refine go_ifne K (k := 13) rfl (pc' := 43) (by decide) (fun q => absurd rfl q) (fun _ => ?_)
  refine go_run K 14 2 (pc' := 22) (st' := [(.int (2 : Int32)), (.ref d)]) rfl ?_
  refine go_iaload K (k := 16) rfl A0 (by decide) (v := .int e) rfl ?_
  refine go_run K 17 1 (pc' := 24) (st' := [(.int e), (.int e)]) rfl ?_
  refine go_icmpne K (k := 18) rfl (pc' := 43) (by decide) (fun q => absurd rfl q) (fun _ => ?_)
  refine go_run K 19 2 (pc' := 29) (st' := [(.int (3 : Int32)), (.ref d)]) rfl ?_
  refine go_iaload K (k := 21) rfl A0 (by decide) (v := .int (0 : Int32)) rfl ?_
  refine go_ifne K (k := 22) rfl (pc' := 43) (by decide) (fun q => absurd rfl q) (fun _ => ?_)
  refine go_run K 23 2 (pc' := 35) (st' := [(.int (4 : Int32)), (.ref d)]) rfl ?_
  refine go_iaload K (k := 25) rfl A0 (by decide) (v := .int (0 : Int32)) rfl ?_
  refine go_ifne K (k := 26) rfl (pc' := 43) (by decide) (fun q => absurd rfl q) (fun _ => ?_)
  refine go_run K 27 2 (pc' := 44) (st' := [(.int (1 : Int32))]) rfl ?_
  refine go_ireturn K (k := 30) rfl rfl (by decide) rfl rfl rfl ?_
  intro Sf hSf
  exact ⟨rfl, rfl⟩
def P_law : List (Nat × Instr × Nat) := [(0, .iconst 1, 1), (1, .iload_n 0, 1), (2, .bipush 7, 2), (4, .iand, 1), (5, .iadd, 1), (6, .istore 4, 2), (8, .iload_n 1, 1), (9, .ldc 7, 2), (11, .iand, 1), (12, .iload 4, 2), (14, .iconst 1, 1), (15, .iadd, 1), (16, .irem, 1), (17, .istore 5, 2), (19, .iconst 1, 1), (20, .iload_n 2, 1), (21, .ldc 7, 2), (23, .iand, 1), (24, .iload 4, 2), (26, .irem, 1), (27, .iadd, 1), (28, .istore 6, 2), (30, .iload_n 3, 1), (31, .iconst 1, 1), (32, .iand, 1), (33, .ifCond .eq 7, 3), (36, .iconst 1, 1), (37, .goto 4, 3), (40, .iconst 0, 1), (41, .istore 7, 2), (43, .new 8, 3), (46, .dup, 1), (47, .iload 4, 2), (49, .new 10, 3), (52, .dup, 1), (53, .iload 5, 2), (55, .iload 7, 2), (57, .invokespecial 12, 3), (60, .invokespecial 15, 3), (63, .astore 8, 2), (65, .aload 8, 2), (67, .iload 6, 2), (69, .invokevirtual 18, 3), (72, .astore 9, 2), (74, .aload 8, 2), (76, .iload 6, 2), (78, .invokevirtual 18, 3), (81, .astore 10, 2), (83, .aload 9, 2), (85, .ifnull 15, 3), (88, .aload 10, 2), (90, .ifnull 10, 3), (93, .aload 9, 2), (95, .aload 10, 2), (97, .if_acmp .ne 5, 3), (100, .iconst 0, 1), (101, .ireturn, 1), (102, .iconst 0, 1), (103, .istore 11, 2), (105, .iconst 1, 1), (106, .iload 6, 2), (108, .if_icmp .gt 13, 3), (111, .iload 6, 2), (113, .iload 5, 2), (115, .if_icmp .gt 6, 3), (118, .iconst 1, 1), (119, .istore 11, 2), (121, .aload 9, 2), (123, .iload 11, 2), (125, .invokestatic 22, 3), (128, .ifCond .ne 5, 3), (131, .iconst 0, 1), (132, .ireturn, 1), (133, .aload 9, 2), (135, .iconst 0, 1), (136, .bipush 7, 2), (138, .iastore, 1), (139, .aload 9, 2), (141, .iconst 2, 1), (142, .bipush 7, 2), (144, .iastore, 1), (145, .aload 9, 2), (147, .iconst 4, 1), (148, .bipush 7, 2), (150, .iastore, 1), (151, .aload 10, 2), (153, .iload 11, 2), (155, .invokestatic 22, 3), (158, .ireturn, 1)]
theorem L_law : ∀ q ∈ P_law, decode code q.1 = .ok q.2 := by decide +kernel
def M_law : Mt := (("com/example/foyer/foyer/MerrittTaubenfeldInitialLocalsPinLaw", "law", room_1), P_law, 12, (some .boolean))
set_option maxRecDepth 65536 in
set_option maxHeartbeats 40000000 in
theorem law_ok {G : Gb} (H : Gl tables_1 els G) {h : Heap} {p0 p1 p2 p3 : Int32} {ed : Addr} {ke : ClassId} (sE : Sta G.Z G.Z.heap "java/util/ArrayList" "DEFAULTCAPACITY_EMPTY_ELEMENTDATA" "[Ljava/lang/Object;" (.ref ed)) (aE : Arv G.Z G.Z.heap ed ke (.object "java/lang/Object") (0 : Int32) [] .null) :
    Ctr G tables_1 x code maxLocals ret room_1 #[.int p0, .int p1, .int p2, .int p3] h [] (fun v h' Sf => v = some (.int 1)) := by
  refine ctr_of M_law rfl rfl (plainFor_of_name pn_17) L_law H.el (Ls := #[.val (.int p0), .val (.int p1), .val (.int p2), .val (.int p3), .unset, .unset, .unset, .unset, .unset, .unset, .unset, .unset]) (fun m => ef_ok (by show argsToLocals _ 12 = _; first | (simp [argsToLocals, Value.category]; done) | rfl)) ?_
  intro B K hE
  refine go_run K 0 7 (pc' := 9) (Ls' := #[.val (.int p0), .val (.int p1), .val (.int p2), .val (.int p3), .val (.int ((1 : Int32) + (p0 &&& (7 : Int32)))), .unset, .unset, .unset, .unset, .unset, .unset, .unset]) (st' := [(.int p1)]) rfl ?_
  refine go_ldcI K (k := 7) rfl (H.w 0 rfl) ?_
  refine go_run K 8 4 (pc' := 16) (st' := [(.int (((1 : Int32) + (p0 &&& (7 : Int32))) + (1 : Int32))), (.int (p1 &&& (2147483647 : Int32)))]) rfl ?_
  refine go_irem K (k := 12) rfl (and7p p0).2 ?_
  refine go_run K 13 3 (pc' := 21) (Ls' := #[.val (.int p0), .val (.int p1), .val (.int p2), .val (.int p3), .val (.int ((1 : Int32) + (p0 &&& (7 : Int32)))), .val (.int ((p1 &&& (2147483647 : Int32)) % (((1 : Int32) + (p0 &&& (7 : Int32))) + (1 : Int32)))), .unset, .unset, .unset, .unset, .unset, .unset]) (st' := [(.int p2), (.int (1 : Int32))]) rfl ?_
  refine go_ldcI K (k := 16) rfl (H.w 0 rfl) ?_
  refine go_run K 17 2 (pc' := 26) (st' := [(.int ((1 : Int32) + (p0 &&& (7 : Int32)))), (.int (p2 &&& (2147483647 : Int32))), (.int (1 : Int32))]) rfl ?_
  refine go_irem K (k := 19) rfl (and7p p0).1 ?_
  refine go_run K 20 5 (pc' := 33) (Ls' := #[.val (.int p0), .val (.int p1), .val (.int p2), .val (.int p3), .val (.int ((1 : Int32) + (p0 &&& (7 : Int32)))), .val (.int ((p1 &&& (2147483647 : Int32)) % (((1 : Int32) + (p0 &&& (7 : Int32))) + (1 : Int32)))), .val (.int ((1 : Int32) + ((p2 &&& (2147483647 : Int32)) % ((1 : Int32) + (p0 &&& (7 : Int32)))))), .unset, .unset, .unset, .unset, .unset]) (st' := [(.int (p3 &&& (1 : Int32)))]) rfl ?_
  have J43 : ∀ (cz : Int32), (cz = 0 ∨ cz = 1) → Go G B M_law (fun v h' Sf => v = some (.int 1)) h [] 0 0 43 #[.val (.int p0), .val (.int p1), .val (.int p2), .val (.int p3), .val (.int ((1 : Int32) + (p0 &&& (7 : Int32)))), .val (.int ((p1 &&& (2147483647 : Int32)) % (((1 : Int32) + (p0 &&& (7 : Int32))) + (1 : Int32)))), .val (.int ((1 : Int32) + ((p2 &&& (2147483647 : Int32)) % ((1 : Int32) + (p0 &&& (7 : Int32)))))), .val (.int cz), .unset, .unset, .unset, .unset] [] := by
    intro cz hz
    refine go_new K (k := 30) rfl (H.w 1 rfl) (H.w 2 rfl) (H.w 3 rfl) rfl rfl ?_
    intro h2 a1 e3 g4 E5 A6 D7
    have F8 : Fld G.Z h2 a1 "com/example/foyer/foyer/Algorithm" "processes" "I" (.int (0 : Int32)) := D7 (Or.inr (H.w 76 rfl)) (ty := .int) (by decide)
    have F9 : Fld G.Z h2 a1 "com/example/foyer/foyer/Algorithm" "critical" "I" (.int (0 : Int32)) := D7 (Or.inr (H.w 78 rfl)) (ty := .int) (by decide)
    have F10 : Fld G.Z h2 a1 "com/example/foyer/foyer/Algorithm" "layout" "Lcom/example/foyer/foyer/Layout;" .null := D7 (Or.inr (H.w 80 rfl)) (ty := (.object "com/example/foyer/foyer/Layout")) (by decide)
    have F11 : Fld G.Z h2 a1 "com/example/foyer/foyer/MerrittTaubenfeld" "registered" "I" (.int (0 : Int32)) := D7 (Or.inr (H.w 87 rfl)) (ty := .int) (by decide)
    have F12 : Fld G.Z h2 a1 "com/example/foyer/foyer/MerrittTaubenfeld" "churn" "Z" (.int (0 : Int32)) := D7 (Or.inr (H.w 94 rfl)) (ty := .boolean) (by decide)
    have F13 : Fld G.Z h2 a1 "com/example/foyer/foyer/MerrittTaubenfeld" "list" "Lcom/example/foyer/foyer/Layout$RegisterArray;" .null := D7 (Or.inr (H.w 296 rfl)) (ty := (.object "com/example/foyer/foyer/Layout$RegisterArray")) (by decide)
    have F14 : Fld G.Z h2 a1 "com/example/foyer/foyer/MerrittTaubenfeld" "lock" "Lcom/example/foyer/foyer/LamportFast;" .null := D7 (Or.inr (H.w 375 rfl)) (ty := (.object "com/example/foyer/foyer/LamportFast")) (by decide)
    have F15 : Fld G.Z h2 a1 "com/example/foyer/foyer/MerrittTaubenfeld" "registry" "Lcom/example/foyer/foyer/LamportFast;" .null := D7 (Or.inr (H.w 384 rfl)) (ty := (.object "com/example/foyer/foyer/LamportFast")) (by decide)
    refine go_run K 31 2 (pc' := 49) (st' := [(.int ((1 : Int32) + (p0 &&& (7 : Int32)))), (.ref a1), (.ref a1)]) rfl ?_
    refine go_new K (k := 33) rfl (H.w 4 rfl) (H.w 5 rfl) (H.w 6 rfl) rfl rfl ?_
    intro h17 a16 e18 g19 E20 A21 D22
    have F23 : Fld G.Z h17 a16 "com/example/foyer/foyer/Registration" "registered" "I" (.int (0 : Int32)) := D22 (Or.inr (H.w 14 rfl)) (ty := .int) (by decide)
    have F24 : Fld G.Z h17 a16 "com/example/foyer/foyer/Registration" "churn" "Z" (.int (0 : Int32)) := D22 (Or.inr (H.w 16 rfl)) (ty := .boolean) (by decide)
    refine go_run K 34 3 (pc' := 57) (st' := [(.int cz), (.int ((p1 &&& (2147483647 : Int32)) % (((1 : Int32) + (p0 &&& (7 : Int32))) + (1 : Int32)))), (.ref a16), (.ref a16), (.int ((1 : Int32) + (p0 &&& (7 : Int32)))), (.ref a1), (.ref a1)]) rfl ?_
    refine go_special K (k := 37) rfl rfl (H.w 7 rfl) (H.w 8 rfl) (H.w 6 rfl) (H.w 9 rfl) (by decide) pd_35 (c_reg (a := a16) (p0 := ((p1 &&& (2147483647 : Int32)) % (((1 : Int32) + (p0 &&& (7 : Int32))) + (1 : Int32)))) (p1 := cz) H A21 F23 F24 g19 hz) (argsL := [(.int ((p1 &&& (2147483647 : Int32)) % (((1 : Int32) + (p0 &&& (7 : Int32))) + (1 : Int32)))), (.int cz)]) (rest := [(.ref a16), (.int ((1 : Int32) + (p0 &&& (7 : Int32)))), (.ref a1), (.ref a1)]) rfl rfl rfl sub0 rfl ?_
    rintro _ h25 _ - ⟨rfl, K26, E27, F28, F29⟩
    show Go G B M_law _ h25 (a16 :: (a1 :: [])) 2 10 60 #[.val (.int p0), .val (.int p1), .val (.int p2), .val (.int p3), .val (.int ((1 : Int32) + (p0 &&& (7 : Int32)))), .val (.int ((p1 &&& (2147483647 : Int32)) % (((1 : Int32) + (p0 &&& (7 : Int32))) + (1 : Int32)))), .val (.int ((1 : Int32) + ((p2 &&& (2147483647 : Int32)) % ((1 : Int32) + (p0 &&& (7 : Int32)))))), .val (.int cz), .unset, .unset, .unset, .unset] [(.ref a16), (.int ((1 : Int32) + (p0 &&& (7 : Int32)))), (.ref a1), (.ref a1)]
    have X30 : Ext h2 h25 := (Ext.keepN E20 K26 (allS (Nat.le_trans (Nat.le_refl _) (Nat.le_of_eq e18.symm)) all0))
    have c31 := (A6.ext X30)
    have c32 := (F8.ext X30)
    have c33 := (F9.ext X30)
    have c34 := (F10.ext X30)
    have c35 := (F11.ext X30)
    have c36 := (F12.ext X30)
    have c37 := (F13.ext X30)
    have c38 := (F14.ext X30)
    have c39 := (F15.ext X30)
    refine go_special K (k := 38) rfl rfl (H.w 17 rfl) (H.w 18 rfl) (H.w 3 rfl) (H.w 19 rfl) (by decide) pd_36 (c_mt (pn := ((1 : Int32) + (p0 &&& (7 : Int32)))) H sE aE c31 c32 c33 c34 c35 c36 c37 c38 c39 g4 hz E27 F28 F29) (argsL := [(.int ((1 : Int32) + (p0 &&& (7 : Int32)))), (.ref a16)]) (rest := [(.ref a1)]) rfl rfl rfl sub0 rfl ?_
    rintro _ h40 _ - ⟨rfl, K41, e42, F43⟩
    show Go G B M_law _ h40 (a16 :: (a1 :: [])) 78 582 63 #[.val (.int p0), .val (.int p1), .val (.int p2), .val (.int p3), .val (.int ((1 : Int32) + (p0 &&& (7 : Int32)))), .val (.int ((p1 &&& (2147483647 : Int32)) % (((1 : Int32) + (p0 &&& (7 : Int32))) + (1 : Int32)))), .val (.int ((1 : Int32) + ((p2 &&& (2147483647 : Int32)) % ((1 : Int32) + (p0 &&& (7 : Int32)))))), .val (.int cz), .unset, .unset, .unset, .unset] [(.ref a1)]
    refine go_run K 39 3 (pc' := 69) (Ls' := #[.val (.int p0), .val (.int p1), .val (.int p2), .val (.int p3), .val (.int ((1 : Int32) + (p0 &&& (7 : Int32)))), .val (.int ((p1 &&& (2147483647 : Int32)) % (((1 : Int32) + (p0 &&& (7 : Int32))) + (1 : Int32)))), .val (.int ((1 : Int32) + ((p2 &&& (2147483647 : Int32)) % ((1 : Int32) + (p0 &&& (7 : Int32)))))), .val (.int cz), .val (.ref a1), .unset, .unset, .unset]) (st' := [(.int ((1 : Int32) + ((p2 &&& (2147483647 : Int32)) % ((1 : Int32) + (p0 &&& (7 : Int32)))))), (.ref a1)]) rfl ?_
    refine go_virt0 K (k := 42) rfl (H.w 385 rfl) (H.w 388 rfl) (H.w 387 rfl) (H.w 3 rfl) (H.w 389 rfl) (by decide) pd_34 e42 (c_mil (i := ((1 : Int32) + ((p2 &&& (2147483647 : Int32)) % ((1 : Int32) + (p0 &&& (7 : Int32)))))) H e42 F43) (argsL := [(.int ((1 : Int32) + ((p2 &&& (2147483647 : Int32)) % ((1 : Int32) + (p0 &&& (7 : Int32))))))]) (rest := []) rfl rfl rfl sub0 rfl ?_
    rintro _ h44 _ - ⟨r54, d45, k46, rfl, E47, A48, g49, f50, q53⟩
    show Go G B M_law _ h44 (a16 :: (a1 :: [])) 79 587 72 #[.val (.int p0), .val (.int p1), .val (.int p2), .val (.int p3), .val (.int ((1 : Int32) + (p0 &&& (7 : Int32)))), .val (.int ((p1 &&& (2147483647 : Int32)) % (((1 : Int32) + (p0 &&& (7 : Int32))) + (1 : Int32)))), .val (.int ((1 : Int32) + ((p2 &&& (2147483647 : Int32)) % ((1 : Int32) + (p0 &&& (7 : Int32)))))), .val (.int cz), .val (.ref a1), .unset, .unset, .unset] [(.ref d45)]
    refine go_run K 43 3 (pc' := 78) (Ls' := #[.val (.int p0), .val (.int p1), .val (.int p2), .val (.int p3), .val (.int ((1 : Int32) + (p0 &&& (7 : Int32)))), .val (.int ((p1 &&& (2147483647 : Int32)) % (((1 : Int32) + (p0 &&& (7 : Int32))) + (1 : Int32)))), .val (.int ((1 : Int32) + ((p2 &&& (2147483647 : Int32)) % ((1 : Int32) + (p0 &&& (7 : Int32)))))), .val (.int cz), .val (.ref a1), .val (.ref d45), .unset, .unset]) (st' := [(.int ((1 : Int32) + ((p2 &&& (2147483647 : Int32)) % ((1 : Int32) + (p0 &&& (7 : Int32)))))), (.ref a1)]) rfl ?_
    have c55 := (e42.ext E47)
    have c56 := (F43.ext E47)
    refine go_virt0 K (k := 46) rfl (H.w 385 rfl) (H.w 388 rfl) (H.w 387 rfl) (H.w 3 rfl) (H.w 389 rfl) (by decide) pd_34 c55 (c_mil (i := ((1 : Int32) + ((p2 &&& (2147483647 : Int32)) % ((1 : Int32) + (p0 &&& (7 : Int32)))))) H c55 c56) (argsL := [(.int ((1 : Int32) + ((p2 &&& (2147483647 : Int32)) % ((1 : Int32) + (p0 &&& (7 : Int32))))))]) (rest := []) rfl rfl rfl sub0 rfl ?_
    rintro _ h57 _ - ⟨r67, d58, k59, rfl, E60, A61, g62, f63, q66⟩
    show Go G B M_law _ h57 (a16 :: (a1 :: [])) 80 592 81 #[.val (.int p0), .val (.int p1), .val (.int p2), .val (.int p3), .val (.int ((1 : Int32) + (p0 &&& (7 : Int32)))), .val (.int ((p1 &&& (2147483647 : Int32)) % (((1 : Int32) + (p0 &&& (7 : Int32))) + (1 : Int32)))), .val (.int ((1 : Int32) + ((p2 &&& (2147483647 : Int32)) % ((1 : Int32) + (p0 &&& (7 : Int32)))))), .val (.int cz), .val (.ref a1), .val (.ref d45), .unset, .unset] [(.ref d58)]
    refine go_run K 47 2 (pc' := 85) (Ls' := #[.val (.int p0), .val (.int p1), .val (.int p2), .val (.int p3), .val (.int ((1 : Int32) + (p0 &&& (7 : Int32)))), .val (.int ((p1 &&& (2147483647 : Int32)) % (((1 : Int32) + (p0 &&& (7 : Int32))) + (1 : Int32)))), .val (.int ((1 : Int32) + ((p2 &&& (2147483647 : Int32)) % ((1 : Int32) + (p0 &&& (7 : Int32)))))), .val (.int cz), .val (.ref a1), .val (.ref d45), .val (.ref d58), .unset]) (st' := [(.ref d45)]) rfl ?_
    refine go_ifnullN K (k := 49) rfl ?_
    refine go_run K 50 1 (pc' := 90) (st' := [(.ref d58)]) rfl ?_
    refine go_ifnullN K (k := 51) rfl ?_
    refine go_run K 52 2 (pc' := 97) (st' := [(.ref d58), (.ref d45)]) rfl ?_
    have hne : d45 ≠ d58 := fun q => Nat.lt_irrefl _ (Nat.lt_of_lt_of_le (q ▸ A48.lt) f63)
    refine go_acmp K (k := 54) rfl rfl rfl (same := false) (decide_eq_false (fun q => hne (Value.ref.inj q))) (pc' := 102) (by decide) rfl ?_
    refine go_run K 57 4 (pc' := 108) (Ls' := #[.val (.int p0), .val (.int p1), .val (.int p2), .val (.int p3), .val (.int ((1 : Int32) + (p0 &&& (7 : Int32)))), .val (.int ((p1 &&& (2147483647 : Int32)) % (((1 : Int32) + (p0 &&& (7 : Int32))) + (1 : Int32)))), .val (.int ((1 : Int32) + ((p2 &&& (2147483647 : Int32)) % ((1 : Int32) + (p0 &&& (7 : Int32)))))), .val (.int cz), .val (.ref a1), .val (.ref d45), .val (.ref d58), .val (.int (0 : Int32))]) (st' := [(.int ((1 : Int32) + ((p2 &&& (2147483647 : Int32)) % ((1 : Int32) + (p0 &&& (7 : Int32)))))), (.int (1 : Int32))]) rfl ?_
    refine go_icmpgt K (k := 61) rfl (pc' := 121) (by decide) (fun q => absurd q pid) (fun _ => ?_)
    refine go_run K 62 2 (pc' := 115) (st' := [(.int ((p1 &&& (2147483647 : Int32)) % (((1 : Int32) + (p0 &&& (7 : Int32))) + (1 : Int32)))), (.int ((1 : Int32) + ((p2 &&& (2147483647 : Int32)) % ((1 : Int32) + (p0 &&& (7 : Int32))))))]) rfl ?_
    refine go_icmpgt K (k := 64) rfl (pc' := 121) (by decide) (fun q68 => ?_) (fun q69 => ?_)
    · have e_r54 : r54 = (0 : Int32) := by
        rcases q53 with ⟨u1, u2⟩ | ⟨u1, u2⟩
        · exact absurd q68 u1
        · exact u2
      have e_r67 : r67 = (0 : Int32) := by
        rcases q66 with ⟨u1, u2⟩ | ⟨u1, u2⟩
        · exact absurd q68 u1
        · exact u2
      subst e_r54 e_r67
      refine go_run K 67 2 (pc' := 125) (st' := [(.int (0 : Int32)), (.ref d45)]) rfl ?_
      have c70 := (A48.ext E60)
      refine go_static K (k := 69) rfl (H.w 401 rfl) (H.w 402 rfl) (H.w 403 rfl) (H.w 404 rfl) (by decide) pd_37 (c_ok (e := (0 : Int32)) H c70) (argsL := [(.ref d45), (.int (0 : Int32))]) (rest := []) rfl rfl rfl sub0 rfl ?_
      rintro _ _ _ - ⟨rfl, rfl⟩
      show Go G B M_law _ h57 (a16 :: (a1 :: [])) 80 592 128 #[.val (.int p0), .val (.int p1), .val (.int p2), .val (.int p3), .val (.int ((1 : Int32) + (p0 &&& (7 : Int32)))), .val (.int ((p1 &&& (2147483647 : Int32)) % (((1 : Int32) + (p0 &&& (7 : Int32))) + (1 : Int32)))), .val (.int ((1 : Int32) + ((p2 &&& (2147483647 : Int32)) % ((1 : Int32) + (p0 &&& (7 : Int32)))))), .val (.int cz), .val (.ref a1), .val (.ref d45), .val (.ref d58), .val (.int (0 : Int32))] [(.int (1 : Int32))]
      refine go_ifne K (k := 70) rfl (pc' := 133) (by decide) (fun _ => ?_) (fun q => absurd q (by decide))
      refine go_run K 73 3 (pc' := 138) (st' := [(.int (7 : Int32)), (.int (0 : Int32)), (.ref d45)]) rfl ?_
      refine go_iastore K (k := 76) rfl c70 (i := 0) (by decide) rfl (Nat.le_of_ble_eq_true rfl) g49 ?_
      intro h71 W72 A73
      refine go_run K 77 3 (pc' := 144) (st' := [(.int (7 : Int32)), (.int (2 : Int32)), (.ref d45)]) rfl ?_
      refine go_iastore K (k := 80) rfl A73 (i := 2) (by decide) rfl (Nat.le_of_ble_eq_true rfl) g49 ?_
      intro h74 W75 A76
      refine go_run K 81 3 (pc' := 150) (st' := [(.int (7 : Int32)), (.int (4 : Int32)), (.ref d45)]) rfl ?_
      refine go_iastore K (k := 84) rfl A76 (i := 4) (by decide) rfl (Nat.le_of_ble_eq_true rfl) g49 ?_
      intro h77 W78 A79
      refine go_run K 85 2 (pc' := 155) (st' := [(.int (0 : Int32)), (.ref d58)]) rfl ?_
      have A80 := (Arv.other (Arv.other (Arv.other A61 W72 (Ne.symm hne)) W75 (Ne.symm hne)) W78 (Ne.symm hne))
      refine go_static K (k := 87) rfl (H.w 401 rfl) (H.w 402 rfl) (H.w 403 rfl) (H.w 404 rfl) (by decide) pd_37 (c_ok (e := (0 : Int32)) H A80) (argsL := [(.ref d58), (.int (0 : Int32))]) (rest := []) rfl rfl rfl sub0 rfl ?_
      rintro _ _ _ - ⟨rfl, rfl⟩
      show Go G B M_law _ h77 (a16 :: (a1 :: [])) 80 592 158 #[.val (.int p0), .val (.int p1), .val (.int p2), .val (.int p3), .val (.int ((1 : Int32) + (p0 &&& (7 : Int32)))), .val (.int ((p1 &&& (2147483647 : Int32)) % (((1 : Int32) + (p0 &&& (7 : Int32))) + (1 : Int32)))), .val (.int ((1 : Int32) + ((p2 &&& (2147483647 : Int32)) % ((1 : Int32) + (p0 &&& (7 : Int32)))))), .val (.int cz), .val (.ref a1), .val (.ref d45), .val (.ref d58), .val (.int (0 : Int32))] [(.int (1 : Int32))]
      refine go_ireturn K (k := 88) rfl rfl (by decide) rfl rfl rfl ?_
      intro Sf hSf
      exact rfl
    · have e_r54 : r54 = (1 : Int32) := by
        rcases q53 with ⟨u1, u2⟩ | ⟨u1, u2⟩
        · exact u2
        · exact absurd u1 q69
      have e_r67 : r67 = (1 : Int32) := by
        rcases q66 with ⟨u1, u2⟩ | ⟨u1, u2⟩
        · exact u2
        · exact absurd u1 q69
      subst e_r54 e_r67
      refine go_run K 65 2 (pc' := 121) (Ls' := #[.val (.int p0), .val (.int p1), .val (.int p2), .val (.int p3), .val (.int ((1 : Int32) + (p0 &&& (7 : Int32)))), .val (.int ((p1 &&& (2147483647 : Int32)) % (((1 : Int32) + (p0 &&& (7 : Int32))) + (1 : Int32)))), .val (.int ((1 : Int32) + ((p2 &&& (2147483647 : Int32)) % ((1 : Int32) + (p0 &&& (7 : Int32)))))), .val (.int cz), .val (.ref a1), .val (.ref d45), .val (.ref d58), .val (.int (1 : Int32))]) (st' := []) rfl ?_
      refine go_run K 67 2 (pc' := 125) (st' := [(.int (1 : Int32)), (.ref d45)]) rfl ?_
      have c81 := (A48.ext E60)
      refine go_static K (k := 69) rfl (H.w 401 rfl) (H.w 402 rfl) (H.w 403 rfl) (H.w 404 rfl) (by decide) pd_37 (c_ok (e := (1 : Int32)) H c81) (argsL := [(.ref d45), (.int (1 : Int32))]) (rest := []) rfl rfl rfl sub0 rfl ?_
      rintro _ _ _ - ⟨rfl, rfl⟩
      show Go G B M_law _ h57 (a16 :: (a1 :: [])) 80 592 128 #[.val (.int p0), .val (.int p1), .val (.int p2), .val (.int p3), .val (.int ((1 : Int32) + (p0 &&& (7 : Int32)))), .val (.int ((p1 &&& (2147483647 : Int32)) % (((1 : Int32) + (p0 &&& (7 : Int32))) + (1 : Int32)))), .val (.int ((1 : Int32) + ((p2 &&& (2147483647 : Int32)) % ((1 : Int32) + (p0 &&& (7 : Int32)))))), .val (.int cz), .val (.ref a1), .val (.ref d45), .val (.ref d58), .val (.int (1 : Int32))] [(.int (1 : Int32))]
      refine go_ifne K (k := 70) rfl (pc' := 133) (by decide) (fun _ => ?_) (fun q => absurd q (by decide))
      refine go_run K 73 3 (pc' := 138) (st' := [(.int (7 : Int32)), (.int (0 : Int32)), (.ref d45)]) rfl ?_
      refine go_iastore K (k := 76) rfl c81 (i := 0) (by decide) rfl (Nat.le_of_ble_eq_true rfl) g49 ?_
      intro h82 W83 A84
      refine go_run K 77 3 (pc' := 144) (st' := [(.int (7 : Int32)), (.int (2 : Int32)), (.ref d45)]) rfl ?_
      refine go_iastore K (k := 80) rfl A84 (i := 2) (by decide) rfl (Nat.le_of_ble_eq_true rfl) g49 ?_
      intro h85 W86 A87
      refine go_run K 81 3 (pc' := 150) (st' := [(.int (7 : Int32)), (.int (4 : Int32)), (.ref d45)]) rfl ?_
      refine go_iastore K (k := 84) rfl A87 (i := 4) (by decide) rfl (Nat.le_of_ble_eq_true rfl) g49 ?_
      intro h88 W89 A90
      refine go_run K 85 2 (pc' := 155) (st' := [(.int (1 : Int32)), (.ref d58)]) rfl ?_
      have A91 := (Arv.other (Arv.other (Arv.other A61 W83 (Ne.symm hne)) W86 (Ne.symm hne)) W89 (Ne.symm hne))
      refine go_static K (k := 87) rfl (H.w 401 rfl) (H.w 402 rfl) (H.w 403 rfl) (H.w 404 rfl) (by decide) pd_37 (c_ok (e := (1 : Int32)) H A91) (argsL := [(.ref d58), (.int (1 : Int32))]) (rest := []) rfl rfl rfl sub0 rfl ?_
      rintro _ _ _ - ⟨rfl, rfl⟩
      show Go G B M_law _ h88 (a16 :: (a1 :: [])) 80 592 158 #[.val (.int p0), .val (.int p1), .val (.int p2), .val (.int p3), .val (.int ((1 : Int32) + (p0 &&& (7 : Int32)))), .val (.int ((p1 &&& (2147483647 : Int32)) % (((1 : Int32) + (p0 &&& (7 : Int32))) + (1 : Int32)))), .val (.int ((1 : Int32) + ((p2 &&& (2147483647 : Int32)) % ((1 : Int32) + (p0 &&& (7 : Int32)))))), .val (.int cz), .val (.ref a1), .val (.ref d45), .val (.ref d58), .val (.int (1 : Int32))] [(.int (1 : Int32))]
      refine go_ireturn K (k := 88) rfl rfl (by decide) rfl rfl rfl ?_
      intro Sf hSf
      exact rfl
  refine go_ifeq K (k := 25) rfl (pc' := 40) (by decide) (fun q92 => ?_) (fun q93 => ?_)
  · refine go_run K 28 2 (pc' := 43) (Ls' := #[.val (.int p0), .val (.int p1), .val (.int p2), .val (.int p3), .val (.int ((1 : Int32) + (p0 &&& (7 : Int32)))), .val (.int ((p1 &&& (2147483647 : Int32)) % (((1 : Int32) + (p0 &&& (7 : Int32))) + (1 : Int32)))), .val (.int ((1 : Int32) + ((p2 &&& (2147483647 : Int32)) % ((1 : Int32) + (p0 &&& (7 : Int32)))))), .val (.int (0 : Int32)), .unset, .unset, .unset, .unset]) (st' := []) rfl ?_
    exact J43 _ (by decide)
  · refine go_run K 26 2 (pc' := 41) (st' := [(.int (1 : Int32))]) rfl ?_
    refine go_run K 29 1 (pc' := 43) (Ls' := #[.val (.int p0), .val (.int p1), .val (.int p2), .val (.int p3), .val (.int ((1 : Int32) + (p0 &&& (7 : Int32)))), .val (.int ((p1 &&& (2147483647 : Int32)) % (((1 : Int32) + (p0 &&& (7 : Int32))) + (1 : Int32)))), .val (.int ((1 : Int32) + ((p2 &&& (2147483647 : Int32)) % ((1 : Int32) + (p0 &&& (7 : Int32)))))), .val (.int (1 : Int32)), .unset, .unset, .unset, .unset]) (st' := []) rfl ?_
    exact J43 _ (by decide)
set_option maxRecDepth 65536 in
set_option maxHeartbeats 40000000 in
theorem comes_1 {Post : Tables → Env → Array Value → State → Outcome → State → Prop} (hpost : ∀ tb e args s v u, (limb_1_1.after args s (.returned v) u = true ∧ limb_1_2.after args s (.returned v) u = true ∧ True) → ReturnedEndW s (.returned v) u (Jvm.fieldLocs frame_1_writes args s ++ Jvm.arrayLocs frame_1_arrays args s ++ Jvm.staticLocs frame_1_statics s) 136 6912 → Post tb e args s (.returned v) u) :
    ArmFor flags0 classFile x code maxLocals ret World_1 tables_1 room_1 Calls_1 rest_1 Pre_1 Post := by
  intro l hfl _ _ p e ha hc hk s m args below hf hA hF happ hP
  obtain ⟨hcalls, hrest, hpre⟩ := hP
  obtain ⟨-, -, -, hnamed, -, -, -, hat⟩ := (Spec.applies_iff hf).mp happ
  obtain ⟨hg, hn⟩ := and_e (Cond.before_iff.mp (show (Jvm.Cond.and given_1 narrow_1).before args s = true from hpre))
  obtain ⟨hcnt, hz0⟩ := and_e hg
  obtain ⟨hi0, hz1⟩ := and_e hz0
  obtain ⟨hi1, hz2⟩ := and_e hz1
  obtain ⟨hi2, hz3⟩ := and_e hz2
  have hi3 := hz3
  obtain ⟨w0, w1, w2, w3, rfl⟩ : ∃ w0 w1 w2 w3 : Value, args = #[w0, w1, w2, w3] := by
    have hs : args.size = 4 := by simpa [Cond.value, given_1] using hcnt
    obtain ⟨L⟩ := args
    match L, hs with
    | [w0, w1, w2, w3], _ => exact ⟨w0, w1, w2, w3, rfl⟩
  have hw := fun d (hd : d ∈ tables_1) => atoms_spec (ws := Jvm.Cond.code x code maxLocals ret :: tables_1) hat d (List.mem_cons_of_mem _ hd)
  obtain ⟨hsets, hown0⟩ := atoms_of _ (rest_1_c_eq ▸ (show rest_1_c.before _ s = true from hrest))
  obtain ⟨i0, e0⟩ := is_v hi0
  obtain rfl : w0 = (.int i0) := Option.some.inj e0
  obtain ⟨i1, e1⟩ := is_v hi1
  obtain rfl : w1 = (.int i1) := Option.some.inj e1
  obtain ⟨i2, e2⟩ := is_v hi2
  obtain rfl : w2 = (.int i2) := Option.some.inj e2
  obtain ⟨i3, e3⟩ := is_v hi3
  obtain rfl : w3 = (.int i3) := Option.some.inj e3
  have nz := not_v (Cond.before_iff.mp (hsets _ (List.mem_of_getElem? (i := 11) rfl)))
  obtain ⟨cz, ecz⟩ := is_v (Cond.before_iff.mp (hsets _ (List.mem_of_getElem? (i := 10) rfl)))
  have Scz : Sta s s.heap "java/lang/String" "COMPACT_STRINGS" "Z" (.int cz) := Sta.start ecz (Or.inl (hsets _ (List.mem_of_getElem? (i := 9) rfl)))
  have hcz : ¬ (cz = (0 : Int32)) := gotF (Cond.eq_ints ecz (Term.int_eval (0))) nz
  have hEW : EW s #[(.int i0), (.int i1), (.int i2), (.int i3)] els := by
    exact (EW.cons (hw _ (List.mem_of_getElem? (i := 311) rfl)) (by decide) (EW.cons (hw _ (List.mem_of_getElem? (i := 359) rfl)) (by decide) (EW.cons (hw _ (List.mem_of_getElem? (i := 362) rfl)) (by decide) (EW.cons (hw _ (List.mem_of_getElem? (i := 55) rfl)) (by decide) (EW.cons (hw _ (List.mem_of_getElem? (i := 101) rfl)) (by decide) (EW.cons (hw _ (List.mem_of_getElem? (i := 376) rfl)) (by decide) EW.nil))))))
  have hCH : CHv s els s.vm s.heap := CHv.start hEW (fun p hp => hcalls.1 p hp) (hsets _ (List.mem_of_getElem? (i := 11) rfl)) (hw _ (List.mem_of_getElem? (i := 58) rfl)) (hw _ (List.mem_of_getElem? (i := 57) rfl))
  have H : Gl tables_1 els (l, s, #[(.int i0), (.int i1), (.int i2), (.int i3)], els) := ⟨hw, rfl, hEW, fun d hd => hw d ((by decide +kernel : ∀ d ∈ Bundle.stringAtoms, d ∈ tables_1) d hd), cz, Scz, hcz⟩
  obtain ⟨vf0, evf0, hvf0⟩ := isR_v (Cond.before_iff.mp (hsets _ (List.mem_of_getElem? (i := 17) rfl)))
  have hF0 : ∃ vf : Value, Sta s s.heap "jdk/internal/util/Preconditions" "SIOOBE_FORMATTER" "Ljava/util/function/BiFunction;" vf ∧ vf.isRef = true := ⟨vf0, Sta.start evf0 (Or.inl (hsets _ (List.mem_of_getElem? (i := 16) rfl))), hvf0⟩
  have hFit : Fit s := by intro x c hc i hi; exact (Jvm.heapFits'_iff s).mp hF x c hc i _ (Array.getElem?_eq_getElem hi)
  have nA := Cond.before_iff.mp (hsets _ (List.mem_of_getElem? (i := 6) rfl))
  have nL := Cond.before_iff.mp (hsets _ (List.mem_of_getElem? (i := 8) rfl))
  obtain ⟨ed, evD⟩ := arr_v nA
  have sE := Sta.start evD (Or.inr ⟨hw _ (List.mem_of_getElem? (i := 33) rfl), hsets _ (List.mem_of_getElem? (i := 2) rfl)⟩)
  obtain ⟨ke, aE⟩ := arr0_start (args := #[(.int i0), (.int i1), (.int i2), (.int i3)]) (G := (l, s, #[(.int i0), (.int i1), (.int i2), (.int i3)], els)) hFit evD nA (eqv_i (Term.int_eval (0)) nL)
  obtain ⟨n, o, k1, k2, k3, v, L, rfl, ⟨rfl, N, hext⟩, hC, hq⟩ := law_ok (G := (l, s, #[(.int i0), (.int i1), (.int i2), (.int i3)], els)) H sE aE p e ha hc hk s m _ below hf ((Spec.applies_iff_loose hf).mp happ).1 ⟨rfl, State.Warmed39.refl s, rfl, hCH, Ext.rf _, fun _ q => nomatch q⟩ trivial
  refine ⟨n, _, k1, k2, k3, hpost _ _ _ _ _ _ ⟨Cond.after_iff.mpr rfl, Cond.after_iff.mpr (eq_i res_at (Term.int_eval (1)) rfl), trivial⟩ ?_⟩
  obtain ⟨q1, q2, q3, q4⟩ := hq
  exact ⟨q1, q2, q3, (q4.sift fun y hy => Or.inr (N y hy)).mono (by decide) (by decide)⟩
theorem main_1_1 : Claimed_1_1 := comes_1 fun _ _ _ _ _ _ h hF => ⟨h.1, hF⟩
theorem main_1_2 : Claimed_1_2 := comes_1 fun _ _ _ _ _ _ h hF => ⟨h.2.1, hF⟩
end Jvm.Pilot.@@N@@
namespace Jvm.Pilot.@@N@@
open Jvm Jvm.ClassFile Sem Op Lib Jvm.Free Jvm.Stand Jvm.Pilot.@@N@@.Jvm.D
/-! MADE BY PROGRAM (witnessworld.py) out of the Statement's table words and the real class files: 42 classes; the members and pool entries that the words name. The judged class is class 1, her method 1. -/
namespace start1
open Jvm.ClassFile
def u (s : String) : CpInfo := .utf8 (stringToUtf16 s)
/-- a pool by its gaps: so many unusable entries, then the entry; so many at the end -/
def gap : Nat → List CpInfo → List CpInfo
  | 0, r => r
  | n + 1, r => .unusable :: gap n r
def poolList (es : List (Nat × CpInfo)) (last : Nat) : List CpInfo := es.foldr (fun e r => gap e.1 (e.2 :: r)) (gap last [])
def pool (es : List (Nat × CpInfo)) (last : Nat) : Array CpInfo := ⟨poolList es last⟩
def fileOf (pool : Array CpInfo) (this : Nat) (attrs : Array Attribute := #[]) (ms : Array MethodInfo := #[]) (fl : Nat := 33) (sup : Nat := 0) (ifs : Array Nat := #[]) (fds : Array FieldInfo := #[]) : ClassFile where
  minorVersion := 0
  majorVersion := 65
  constantPool := pool
  accessFlags := fl
  thisClass := this
  superClass := sup
  interfaces := ifs
  fields := fds
  methods := ms
  attributes := attrs
def plain (name : String) (sup : Option ClassId) : Class where
  name := name
  kind := .ordinary
  loader := none
  accessFlags := 33
  super := sup
  interfaces := #[]
  cf := none
  fields := #[]
  methods := #[]
  instanceTypes := #[]
  staticTypes := #[]
  resolved := #[]
  callSites := []
  init := .initialized
  statics := none
  mirror := none

def pool0 : Array CpInfo := pool [(5, u "<init>"), (0, u "()V"), (1, .class_ 10), (1, u "java/lang/Object")] 113

def k0c0 : Code := { maxStack := 0, maxLocals := 1, code := object_method_1_code, exceptionTable := #[], attributes := #[] }
def k0m0 : Method := { name := "<init>", desc := "()V", sig := { parameters := [], returnType := none }, accessFlags := 1, code := some k0c0 }
/-- java/lang/Object -/
def k0 : Class := { plain "java/lang/Object" none with
  accessFlags := 33
  interfaces := #[]
  cf := some (fileOf pool0 8 #[] #[{ accessFlags := 1, nameIndex := 5, descriptorIndex := 6, attributes := #[] }] 33 0 #[] #[])
  fields := #[]
  methods := #[k0m0]
  instanceTypes := #[]
  staticTypes := #[]
  resolved := Array.replicate 124 none
  statics := none }

def pool1 : Array CpInfo := pool [(2, .class_ 4), (1, u "java/lang/Object"), (0, u "<init>"), (0, u "()V"), (0, .integer 2147483647), (0, .class_ 9), (0, u "com/example/foyer/foyer/MerrittTaubenfeld"), (0, .class_ 11), (0, u "com/example/foyer/foyer/Registration"), (0, .methodref 10 13), (0, .nameAndType 5 14), (0, u "(IZ)V"), (0, .methodref 8 16), (0, .nameAndType 5 17), (0, u "(ILcom/example/foyer/foyer/Registration;)V"), (0, .methodref 8 19), (0, .nameAndType 20 21), (0, u "initialLocals"), (0, u "(I)[I"), (0, .methodref 23 24), (0, .class_ 25), (0, .nameAndType 26 27), (0, u "com/example/foyer/foyer/MerrittTaubenfeldInitialLocalsPinLaw"), (0, u "ok"), (0, u "([II)Z"), (2, u "law"), (0, u "(IIII)Z")] 5

def k1m0 : Method := { name := "<init>", desc := "()V", sig := { parameters := [], returnType := none }, accessFlags := 1, code := none }
def k1c1 : Code := { maxStack := 7, maxLocals := 12, code := code, exceptionTable := #[], attributes := #[] }
def k1m1 : Method := { name := "law", desc := "(IIII)Z", sig := { parameters := [.int, .int, .int, .int], returnType := some .boolean }, accessFlags := 9, code := some k1c1 }
def k1c2 : Code := { maxStack := 2, maxLocals := 2, code := method_3_code, exceptionTable := #[], attributes := #[] }
def k1m2 : Method := { name := "ok", desc := "([II)Z", sig := { parameters := [(.array .int), .int], returnType := some .boolean }, accessFlags := 10, code := some k1c2 }
/-- com/example/foyer/foyer/MerrittTaubenfeldInitialLocalsPinLaw -/
def k1 : Class := { plain "com/example/foyer/foyer/MerrittTaubenfeldInitialLocalsPinLaw" (some 0) with
  accessFlags := 49
  interfaces := #[]
  cf := some (fileOf pool1 23 #[] #[{ accessFlags := 1, nameIndex := 5, descriptorIndex := 6, attributes := #[] }, { accessFlags := 9, nameIndex := 30, descriptorIndex := 31, attributes := #[] }, { accessFlags := 10, nameIndex := 26, descriptorIndex := 27, attributes := #[] }] 49 2 #[] #[])
  fields := #[]
  methods := #[k1m0, k1m1, k1m2]
  instanceTypes := #[]
  staticTypes := #[]
  resolved := Array.replicate 37 none
  statics := none }

def pool2 : Array CpInfo := pool [(1, .class_ 2), (0, u "com/example/foyer/foyer/Layout"), (0, .methodref 1 4), (0, .nameAndType 5 6), (0, u "<init>"), (0, u "()V"), (0, .methodref 8 9), (0, .class_ 10), (0, .nameAndType 5 11), (0, u "com/example/foyer/foyer/Algorithm"), (0, u "(IILcom/example/foyer/foyer/Layout;)V"), (0, .methodref 13 4), (0, .class_ 14), (0, u "java/lang/Object"), (0, .fieldref 8 16), (0, .nameAndType 17 18), (0, u "processes"), (0, u "I"), (0, .fieldref 8 20), (0, .nameAndType 21 18), (0, u "critical"), (0, .fieldref 8 23), (0, .nameAndType 24 25), (0, u "layout"), (0, u "Lcom/example/foyer/foyer/Layout;"), (0, .methodref 8 27), (0, .nameAndType 28 29), (0, u "locals"), (0, u "()I"), (4, u "IDLE"), (12, u "(II)V"), (2, u "()Lcom/example/foyer/foyer/Layout;"), (2, u "initialLocals"), (0, u "(I)[I")] 11

def k2c0 : Code := { maxStack := 5, maxLocals := 3, code := prog_3_method_1_code, exceptionTable := #[], attributes := #[] }
def k2m0 : Method := { name := "<init>", desc := "(II)V", sig := { parameters := [.int, .int], returnType := none }, accessFlags := 0, code := some k2c0 }
def k2c1 : Code := { maxStack := 2, maxLocals := 4, code := prog_3_method_2_code, exceptionTable := #[], attributes := #[] }
def k2m1 : Method := { name := "<init>", desc := "(IILcom/example/foyer/foyer/Layout;)V", sig := { parameters := [.int, .int, (.object "com/example/foyer/foyer/Layout")], returnType := none }, accessFlags := 0, code := some k2c1 }
def k2c2 : Code := { maxStack := 1, maxLocals := 1, code := prog_3_method_5_code, exceptionTable := #[], attributes := #[] }
def k2m2 : Method := { name := "layout", desc := "()Lcom/example/foyer/foyer/Layout;", sig := { parameters := [], returnType := some (.object "com/example/foyer/foyer/Layout") }, accessFlags := 16, code := some k2c2 }
def k2m3 : Method := { name := "locals", desc := "()I", sig := { parameters := [], returnType := some .int }, accessFlags := 1024, code := none }
def k2c4 : Code := { maxStack := 1, maxLocals := 2, code := prog_3_method_8_code, exceptionTable := #[], attributes := #[] }
def k2m4 : Method := { name := "initialLocals", desc := "(I)[I", sig := { parameters := [.int], returnType := some (.array .int) }, accessFlags := 0, code := some k2c4 }
/-- com/example/foyer/foyer/Algorithm -/
def k2 : Class := { plain "com/example/foyer/foyer/Algorithm" (some 0) with
  accessFlags := 1056
  interfaces := #[]
  cf := some (fileOf pool2 8 #[] #[{ accessFlags := 0, nameIndex := 5, descriptorIndex := 47, attributes := #[] }, { accessFlags := 0, nameIndex := 5, descriptorIndex := 11, attributes := #[] }, { accessFlags := 16, nameIndex := 24, descriptorIndex := 50, attributes := #[] }, { accessFlags := 1024, nameIndex := 28, descriptorIndex := 29, attributes := #[] }, { accessFlags := 0, nameIndex := 53, descriptorIndex := 54, attributes := #[] }] 1056 13 #[] #[{ accessFlags := 24, nameIndex := 34, descriptorIndex := 18, attributes := #[] }, { accessFlags := 18, nameIndex := 17, descriptorIndex := 18, attributes := #[] }, { accessFlags := 18, nameIndex := 21, descriptorIndex := 18, attributes := #[] }, { accessFlags := 18, nameIndex := 24, descriptorIndex := 25, attributes := #[] }])
  fields := #[{ name := "IDLE", type := .int, accessFlags := 24, slot := 0, constantValue := 0 }, { name := "processes", type := .int, accessFlags := 18, slot := 0, constantValue := 0 }, { name := "critical", type := .int, accessFlags := 18, slot := 1, constantValue := 0 }, { name := "layout", type := (.object "com/example/foyer/foyer/Layout"), accessFlags := 18, slot := 2, constantValue := 0 }]
  methods := #[k2m0, k2m1, k2m2, k2m3, k2m4]
  instanceTypes := #[.int, .int, (.object "com/example/foyer/foyer/Layout")]
  staticTypes := #[.int]
  resolved := Array.replicate 66 none
  statics := none }

def pool3 : Array CpInfo := pool [(1, .class_ 2), (0, u "com/example/foyer/foyer/MerrittTaubenfeld"), (0, .methodref 4 5), (0, .class_ 6), (0, .nameAndType 7 8), (0, u "com/example/foyer/foyer/Algorithm"), (0, u "<init>"), (0, u "(II)V"), (0, .methodref 10 11), (0, .class_ 12), (0, .nameAndType 13 14), (0, u "com/example/foyer/foyer/Registration"), (0, u "registered"), (0, u "()I"), (0, .fieldref 1 16), (0, .nameAndType 13 17), (0, u "I"), (0, .methodref 10 19), (0, .nameAndType 20 21), (0, u "churn"), (0, u "()Z"), (0, .fieldref 1 23), (0, .nameAndType 20 24), (0, u "Z"), (0, .methodref 1 26), (0, .nameAndType 27 28), (0, u "layout"), (0, u "()Lcom/example/foyer/foyer/Layout;"), (0, .string 30), (0, u "list"), (0, .invokeDynamic 0 32), (0, .nameAndType 33 34), (0, u "applyAsInt"), (0, u "(I)Ljava/util/function/IntUnaryOperator;"), (0, .methodref 36 37), (0, .class_ 38), (0, .nameAndType 39 40), (0, u "com/example/foyer/foyer/Layout"), (0, u "array"), (0, u "(Ljava/lang/String;IILjava/util/function/IntUnaryOperator;)Lcom/example/foyer/foyer/Layout$RegisterArray;"), (0, .fieldref 1 42), (0, .nameAndType 30 43), (0, u "Lcom/example/foyer/foyer/Layout$RegisterArray;"), (0, .class_ 45), (0, u "com/example/foyer/foyer/LamportFast"), (0, .methodref 44 47), (0, .nameAndType 7 48), (0, u "(ILcom/example/foyer/foyer/Layout;Lcom/example/foyer/foyer/Layout$RegisterArray;)V"), (0, .fieldref 1 50), (0, .nameAndType 51 52), (0, u "lock"), (0, u "Lcom/example/foyer/foyer/LamportFast;"), (0, .string 54), (0, u "registry."), (0, .methodref 36 56), (0, .nameAndType 57 58), (0, u "within"), (0, u "(Ljava/lang/String;)Lcom/example/foyer/foyer/Layout;"), (0, .fieldref 1 60), (0, .nameAndType 61 52), (0, u "registry"), (0, .methodref 4 63), (0, .nameAndType 64 65), (0, u "initialLocals"), (0, u "(I)[I"), (4, u "CRITICAL"), (14, u "(I)I"), (48, u "LOCK_TO_REGISTER"), (2, u "FIND_PLACE"), (1, u "LINK"), (1, u "INSERT"), (1, u "UNLOCK_REGISTERED"), (1, u "ENTRY"), (2, u "EXIT"), (1, u "LOCK_TO_DEREGISTER"), (1, u "FIND_SELF"), (1, u "READ_SUCCESSOR"), (1, u "UNLINK"), (1, u "UNLOCK_DEREGISTERED"), (1, u "J"), (1, u "AT"), (0, u "REGISTERED"), (0, u "P"), (0, u "Q"), (0, u "(ILcom/example/foyer/foyer/Registration;)V"), (2, u "locals"), (5, u "lambda$new$0"), (0, u "(II)I"), (3, .methodType 85), (0, .methodHandle 6 182), (0, .methodref 1 183), (0, .nameAndType 175 176), (0, .methodHandle 6 185), (0, .methodref 186 187), (0, .class_ 188), (0, .nameAndType 189 190), (0, u "java/lang/invoke/LambdaMetafactory"), (0, u "metafactory"), (0, u "(Ljava/lang/invoke/MethodHandles$Lookup;Ljava/lang/String;Ljava/lang/invoke/MethodType;Ljava/lang/invoke/MethodType;Ljava/lang/invoke/MethodHandle;Ljava/lang/invoke/MethodType;)Ljava/lang/invoke/CallSite;")] 7

def k3c0 : Code := { maxStack := 6, maxLocals := 4, code := prog_37_method_1_code, exceptionTable := #[], attributes := #[] }
def k3m0 : Method := { name := "<init>", desc := "(ILcom/example/foyer/foyer/Registration;)V", sig := { parameters := [.int, (.object "com/example/foyer/foyer/Registration")], returnType := none }, accessFlags := 0, code := some k3c0 }
def k3c1 : Code := { maxStack := 1, maxLocals := 1, code := prog_37_method_2_code, exceptionTable := #[], attributes := #[] }
def k3m1 : Method := { name := "locals", desc := "()I", sig := { parameters := [], returnType := some .int }, accessFlags := 0, code := some k3c1 }
def k3c2 : Code := { maxStack := 4, maxLocals := 3, code := prog_37_method_3_code, exceptionTable := #[], attributes := #[] }
def k3m2 : Method := { name := "initialLocals", desc := "(I)[I", sig := { parameters := [.int], returnType := some (.array .int) }, accessFlags := 0, code := some k3c2 }
def k3c3 : Code := { maxStack := 2, maxLocals := 2, code := ⟨#[0x1b, 0x1a, 0xa2, 0x00, 0x09, 0x1b, 0x04, 0x60, 0xa7, 0x00, 0x04, 0x03, 0xac]⟩, exceptionTable := #[], attributes := #[] }
def k3m3 : Method := { name := "lambda$new$0", desc := "(II)I", sig := { parameters := [.int, .int], returnType := some .int }, accessFlags := 4106, code := some k3c3 }
/-- com/example/foyer/foyer/MerrittTaubenfeld -/
def k3 : Class := { plain "com/example/foyer/foyer/MerrittTaubenfeld" (some 2) with
  accessFlags := 48
  interfaces := #[]
  cf := some (fileOf pool3 1 #[.bootstrapMethods #[⟨184, #[180, 181, 180]⟩]] #[{ accessFlags := 0, nameIndex := 7, descriptorIndex := 166, attributes := #[] }, { accessFlags := 0, nameIndex := 169, descriptorIndex := 14, attributes := #[] }, { accessFlags := 0, nameIndex := 64, descriptorIndex := 65, attributes := #[] }, { accessFlags := 4106, nameIndex := 175, descriptorIndex := 176, attributes := #[] }] 48 4 #[] #[{ accessFlags := 26, nameIndex := 134, descriptorIndex := 17, attributes := #[] }, { accessFlags := 26, nameIndex := 137, descriptorIndex := 17, attributes := #[] }, { accessFlags := 26, nameIndex := 139, descriptorIndex := 17, attributes := #[] }, { accessFlags := 26, nameIndex := 141, descriptorIndex := 17, attributes := #[] }, { accessFlags := 26, nameIndex := 143, descriptorIndex := 17, attributes := #[] }, { accessFlags := 26, nameIndex := 145, descriptorIndex := 17, attributes := #[] }, { accessFlags := 26, nameIndex := 70, descriptorIndex := 17, attributes := #[] }, { accessFlags := 26, nameIndex := 148, descriptorIndex := 17, attributes := #[] }, { accessFlags := 26, nameIndex := 150, descriptorIndex := 17, attributes := #[] }, { accessFlags := 26, nameIndex := 152, descriptorIndex := 17, attributes := #[] }, { accessFlags := 26, nameIndex := 154, descriptorIndex := 17, attributes := #[] }, { accessFlags := 26, nameIndex := 156, descriptorIndex := 17, attributes := #[] }, { accessFlags := 26, nameIndex := 158, descriptorIndex := 17, attributes := #[] }, { accessFlags := 26, nameIndex := 160, descriptorIndex := 17, attributes := #[] }, { accessFlags := 26, nameIndex := 162, descriptorIndex := 17, attributes := #[] }, { accessFlags := 26, nameIndex := 163, descriptorIndex := 17, attributes := #[] }, { accessFlags := 26, nameIndex := 164, descriptorIndex := 17, attributes := #[] }, { accessFlags := 26, nameIndex := 165, descriptorIndex := 17, attributes := #[] }, { accessFlags := 18, nameIndex := 13, descriptorIndex := 17, attributes := #[] }, { accessFlags := 18, nameIndex := 20, descriptorIndex := 24, attributes := #[] }, { accessFlags := 18, nameIndex := 30, descriptorIndex := 43, attributes := #[] }, { accessFlags := 18, nameIndex := 51, descriptorIndex := 52, attributes := #[] }, { accessFlags := 18, nameIndex := 61, descriptorIndex := 52, attributes := #[] }])
  fields := #[{ name := "LOCK_TO_REGISTER", type := .int, accessFlags := 26, slot := 0, constantValue := 0 }, { name := "FIND_PLACE", type := .int, accessFlags := 26, slot := 1, constantValue := 0 }, { name := "LINK", type := .int, accessFlags := 26, slot := 2, constantValue := 0 }, { name := "INSERT", type := .int, accessFlags := 26, slot := 3, constantValue := 0 }, { name := "UNLOCK_REGISTERED", type := .int, accessFlags := 26, slot := 4, constantValue := 0 }, { name := "ENTRY", type := .int, accessFlags := 26, slot := 5, constantValue := 0 }, { name := "CRITICAL", type := .int, accessFlags := 26, slot := 6, constantValue := 0 }, { name := "EXIT", type := .int, accessFlags := 26, slot := 7, constantValue := 0 }, { name := "LOCK_TO_DEREGISTER", type := .int, accessFlags := 26, slot := 8, constantValue := 0 }, { name := "FIND_SELF", type := .int, accessFlags := 26, slot := 9, constantValue := 0 }, { name := "READ_SUCCESSOR", type := .int, accessFlags := 26, slot := 10, constantValue := 0 }, { name := "UNLINK", type := .int, accessFlags := 26, slot := 11, constantValue := 0 }, { name := "UNLOCK_DEREGISTERED", type := .int, accessFlags := 26, slot := 12, constantValue := 0 }, { name := "J", type := .int, accessFlags := 26, slot := 13, constantValue := 0 }, { name := "AT", type := .int, accessFlags := 26, slot := 14, constantValue := 0 }, { name := "REGISTERED", type := .int, accessFlags := 26, slot := 15, constantValue := 0 }, { name := "P", type := .int, accessFlags := 26, slot := 16, constantValue := 0 }, { name := "Q", type := .int, accessFlags := 26, slot := 17, constantValue := 0 }, { name := "registered", type := .int, accessFlags := 18, slot := 3, constantValue := 0 }, { name := "churn", type := .boolean, accessFlags := 18, slot := 4, constantValue := 0 }, { name := "list", type := (.object "com/example/foyer/foyer/Layout$RegisterArray"), accessFlags := 18, slot := 5, constantValue := 0 }, { name := "lock", type := (.object "com/example/foyer/foyer/LamportFast"), accessFlags := 18, slot := 6, constantValue := 0 }, { name := "registry", type := (.object "com/example/foyer/foyer/LamportFast"), accessFlags := 18, slot := 7, constantValue := 0 }]
  methods := #[k3m0, k3m1, k3m2, k3m3]
  instanceTypes := #[.int, .int, (.object "com/example/foyer/foyer/Layout"), .int, .boolean, (.object "com/example/foyer/foyer/Layout$RegisterArray"), (.object "com/example/foyer/foyer/LamportFast"), (.object "com/example/foyer/foyer/LamportFast")]
  staticTypes := #[.int, .int, .int, .int, .int, .int, .int, .int, .int, .int, .int, .int, .int, .int, .int, .int, .int, .int]
  resolved := Array.replicate 198 none
  callSites := [(0, 35, .makes 39)]
  statics := none }

def pool4 : Array CpInfo := pool [(1, .methodref 2 3), (0, .class_ 4), (0, .nameAndType 5 6), (0, u "java/lang/Object"), (0, u "<init>"), (0, u "()V"), (0, .fieldref 8 9), (0, .class_ 10), (0, .nameAndType 11 12), (0, u "com/example/foyer/foyer/Registration"), (0, u "registered"), (0, u "I"), (0, .fieldref 8 14), (0, .nameAndType 15 16), (0, u "churn"), (0, u "Z"), (2, u "(IZ)V"), (2, u "ON_FIRST_ENTRY"), (0, u "Lcom/example/foyer/foyer/Registration;"), (2, u "()I"), (0, u "()Z")] 3

def k4c0 : Code := { maxStack := 2, maxLocals := 3, code := prog_50_method_1_code, exceptionTable := #[], attributes := #[] }
def k4m0 : Method := { name := "<init>", desc := "(IZ)V", sig := { parameters := [.int, .boolean], returnType := none }, accessFlags := 0, code := some k4c0 }
def k4c1 : Code := { maxStack := 1, maxLocals := 1, code := prog_50_method_2_code, exceptionTable := #[], attributes := #[] }
def k4m1 : Method := { name := "registered", desc := "()I", sig := { parameters := [], returnType := some .int }, accessFlags := 0, code := some k4c1 }
def k4c2 : Code := { maxStack := 1, maxLocals := 1, code := prog_50_method_3_code, exceptionTable := #[], attributes := #[] }
def k4m2 : Method := { name := "churn", desc := "()Z", sig := { parameters := [], returnType := some .boolean }, accessFlags := 0, code := some k4c2 }
/-- com/example/foyer/foyer/Registration -/
def k4 : Class := { plain "com/example/foyer/foyer/Registration" (some 0) with
  accessFlags := 48
  interfaces := #[]
  cf := some (fileOf pool4 8 #[] #[{ accessFlags := 0, nameIndex := 5, descriptorIndex := 19, attributes := #[] }, { accessFlags := 0, nameIndex := 11, descriptorIndex := 26, attributes := #[] }, { accessFlags := 0, nameIndex := 15, descriptorIndex := 27, attributes := #[] }] 48 2 #[] #[{ accessFlags := 24, nameIndex := 22, descriptorIndex := 23, attributes := #[] }, { accessFlags := 18, nameIndex := 11, descriptorIndex := 12, attributes := #[] }, { accessFlags := 18, nameIndex := 15, descriptorIndex := 16, attributes := #[] }])
  fields := #[{ name := "ON_FIRST_ENTRY", type := (.object "com/example/foyer/foyer/Registration"), accessFlags := 24, slot := 0, constantValue := 0 }, { name := "registered", type := .int, accessFlags := 18, slot := 0, constantValue := 0 }, { name := "churn", type := .boolean, accessFlags := 18, slot := 1, constantValue := 0 }]
  methods := #[k4m0, k4m1, k4m2]
  instanceTypes := #[.int, .boolean]
  staticTypes := #[(.object "com/example/foyer/foyer/Registration")]
  resolved := Array.replicate 31 none
  statics := none }

def pool5 : Array CpInfo := pool [(1, .class_ 2), (0, u "java/util/ArrayList"), (0, .methodref 1 4), (0, .nameAndType 5 6), (0, u "<init>"), (0, u "()V"), (0, .string 8), (0, u ""), (0, .methodref 10 11), (0, .class_ 12), (0, .nameAndType 5 13), (0, u "com/example/foyer/foyer/Layout"), (0, u "(Ljava/util/List;Ljava/lang/String;)V"), (0, .methodref 15 4), (0, .class_ 16), (0, u "java/lang/Object"), (0, .fieldref 10 18), (0, .nameAndType 19 20), (0, u "declared"), (0, u "Ljava/util/List;"), (0, .fieldref 10 22), (0, .nameAndType 23 24), (0, u "prefix"), (0, u "Ljava/lang/String;"), (0, .class_ 26), (0, u "java/lang/StringBuilder"), (0, .methodref 25 4), (0, .methodref 25 29), (0, .nameAndType 30 31), (0, u "append"), (0, u "(Ljava/lang/String;)Ljava/lang/StringBuilder;"), (0, .methodref 25 33), (0, .nameAndType 34 35), (0, u "toString"), (0, u "()Ljava/lang/String;"), (0, .invokeDynamic 0 37), (0, .nameAndType 38 39), (0, u "applyAsInt"), (0, u "(I)Ljava/util/function/IntUnaryOperator;"), (0, .methodref 10 41), (0, .nameAndType 42 43), (0, u "declare"), (0, u "(Ljava/lang/String;IILjava/util/function/IntUnaryOperator;Z)Lcom/example/foyer/foyer/Layout$RegisterArray;"), (0, .methodref 45 46), (0, .class_ 47), (0, .nameAndType 48 49), (0, u "com/example/foyer/foyer/Layout$RegisterArray"), (0, u "at"), (0, u "(I)I"), (0, .invokeDynamic 1 37), (0, .methodref 10 52), (0, .nameAndType 53 54), (0, u "array"), (0, u "(Ljava/lang/String;IILjava/util/function/IntUnaryOperator;)Lcom/example/foyer/foyer/Layout$RegisterArray;"), (0, .methodref 10 56), (0, .nameAndType 57 58), (0, u "size"), (0, u "()I"), (1, .class_ 62), (1, u "java/util/List"), (7, u "()Z"), (4, .fieldref 45 76), (0, .nameAndType 77 78), (0, u "length"), (0, u "I"), (0, .fieldref 45 80), (0, .nameAndType 81 78), (0, u "base"), (29, .interfaceMethodref 60 112), (0, .nameAndType 113 70), (0, u "isEmpty"), (0, .interfaceMethodref 60 56), (0, .interfaceMethodref 60 116), (0, .nameAndType 117 118), (0, u "get"), (0, u "(I)Ljava/lang/Object;"), (0, .methodref 45 120), (0, .nameAndType 5 121), (0, u "(Ljava/lang/String;IIILjava/util/function/IntUnaryOperator;Z)V"), (0, .interfaceMethodref 60 123), (0, .nameAndType 124 125), (0, u "add"), (0, u "(Ljava/lang/Object;)Z"), (5, u "(II)I"), (5, u "within"), (0, u "(Ljava/lang/String;)Lcom/example/foyer/foyer/Layout;"), (0, u "scalar"), (0, u "(Ljava/lang/String;I)I"), (0, u "(Ljava/lang/String;III)Lcom/example/foyer/foyer/Layout$RegisterArray;"), (8, u "lambda$array$1"), (0, u "lambda$scalar$0"), (4, .methodType 49), (0, .methodHandle 6 158), (0, .methodref 10 159), (0, .nameAndType 151 131), (0, .methodHandle 6 161), (0, .methodref 10 162), (0, .nameAndType 150 131), (0, .methodHandle 6 164), (0, .methodref 165 166), (0, .class_ 167), (0, .nameAndType 168 169), (0, u "java/lang/invoke/LambdaMetafactory"), (0, u "metafactory"), (0, u "(Ljava/lang/invoke/MethodHandles$Lookup;Ljava/lang/String;Ljava/lang/invoke/MethodType;Ljava/lang/invoke/MethodType;Ljava/lang/invoke/MethodHandle;Ljava/lang/invoke/MethodType;)Ljava/lang/invoke/CallSite;")] 7

def k5c0 : Code := { maxStack := 3, maxLocals := 1, code := prog_33_method_1_code, exceptionTable := #[], attributes := #[] }
def k5m0 : Method := { name := "<init>", desc := "()V", sig := { parameters := [], returnType := none }, accessFlags := 0, code := some k5c0 }
def k5c1 : Code := { maxStack := 2, maxLocals := 3, code := prog_33_method_2_code, exceptionTable := #[], attributes := #[] }
def k5m1 : Method := { name := "<init>", desc := "(Ljava/util/List;Ljava/lang/String;)V", sig := { parameters := [(.object "java/util/List"), (.object "java/lang/String")], returnType := none }, accessFlags := 2, code := some k5c1 }
def k5c2 : Code := { maxStack := 5, maxLocals := 2, code := prog_33_method_3_code, exceptionTable := #[], attributes := #[] }
def k5m2 : Method := { name := "within", desc := "(Ljava/lang/String;)Lcom/example/foyer/foyer/Layout;", sig := { parameters := [(.object "java/lang/String")], returnType := some (.object "com/example/foyer/foyer/Layout") }, accessFlags := 0, code := some k5c2 }
def k5c3 : Code := { maxStack := 6, maxLocals := 3, code := prog_33_method_4_code, exceptionTable := #[], attributes := #[] }
def k5m3 : Method := { name := "scalar", desc := "(Ljava/lang/String;I)I", sig := { parameters := [(.object "java/lang/String"), .int], returnType := some .int }, accessFlags := 0, code := some k5c3 }
def k5c4 : Code := { maxStack := 5, maxLocals := 5, code := prog_33_method_5_code, exceptionTable := #[], attributes := #[] }
def k5m4 : Method := { name := "array", desc := "(Ljava/lang/String;III)Lcom/example/foyer/foyer/Layout$RegisterArray;", sig := { parameters := [(.object "java/lang/String"), .int, .int, .int], returnType := some (.object "com/example/foyer/foyer/Layout$RegisterArray") }, accessFlags := 0, code := some k5c4 }
def k5c5 : Code := { maxStack := 6, maxLocals := 5, code := prog_33_method_6_code, exceptionTable := #[], attributes := #[] }
def k5m5 : Method := { name := "array", desc := "(Ljava/lang/String;IILjava/util/function/IntUnaryOperator;)Lcom/example/foyer/foyer/Layout$RegisterArray;", sig := { parameters := [(.object "java/lang/String"), .int, .int, (.object "java/util/function/IntUnaryOperator")], returnType := some (.object "com/example/foyer/foyer/Layout$RegisterArray") }, accessFlags := 0, code := some k5c5 }
def k5c6 : Code := { maxStack := 3, maxLocals := 3, code := prog_33_method_9_code, exceptionTable := #[], attributes := #[] }
def k5m6 : Method := { name := "size", desc := "()I", sig := { parameters := [], returnType := some .int }, accessFlags := 2, code := some k5c6 }
def k5c7 : Code := { maxStack := 8, maxLocals := 7, code := prog_33_method_10_code, exceptionTable := #[], attributes := #[] }
def k5m7 : Method := { name := "declare", desc := "(Ljava/lang/String;IILjava/util/function/IntUnaryOperator;Z)Lcom/example/foyer/foyer/Layout$RegisterArray;", sig := { parameters := [(.object "java/lang/String"), .int, .int, (.object "java/util/function/IntUnaryOperator"), .boolean], returnType := some (.object "com/example/foyer/foyer/Layout$RegisterArray") }, accessFlags := 2, code := some k5c7 }
def k5c8 : Code := { maxStack := 1, maxLocals := 2, code := ⟨#[0x1a, 0xac]⟩, exceptionTable := #[], attributes := #[] }
def k5m8 : Method := { name := "lambda$array$1", desc := "(II)I", sig := { parameters := [.int, .int], returnType := some .int }, accessFlags := 4106, code := some k5c8 }
def k5c9 : Code := { maxStack := 1, maxLocals := 2, code := ⟨#[0x1a, 0xac]⟩, exceptionTable := #[], attributes := #[] }
def k5m9 : Method := { name := "lambda$scalar$0", desc := "(II)I", sig := { parameters := [.int, .int], returnType := some .int }, accessFlags := 4106, code := some k5c9 }
/-- com/example/foyer/foyer/Layout -/
def k5 : Class := { plain "com/example/foyer/foyer/Layout" (some 0) with
  accessFlags := 48
  interfaces := #[]
  cf := some (fileOf pool5 10 #[.nestMembers #[45], .bootstrapMethods #[⟨163, #[156, 157, 156]⟩, ⟨163, #[156, 160, 156]⟩]] #[{ accessFlags := 0, nameIndex := 5, descriptorIndex := 6, attributes := #[] }, { accessFlags := 2, nameIndex := 5, descriptorIndex := 13, attributes := #[] }, { accessFlags := 0, nameIndex := 137, descriptorIndex := 138, attributes := #[] }, { accessFlags := 0, nameIndex := 139, descriptorIndex := 140, attributes := #[] }, { accessFlags := 0, nameIndex := 53, descriptorIndex := 141, attributes := #[] }, { accessFlags := 0, nameIndex := 53, descriptorIndex := 54, attributes := #[] }, { accessFlags := 2, nameIndex := 57, descriptorIndex := 58, attributes := #[] }, { accessFlags := 2, nameIndex := 42, descriptorIndex := 43, attributes := #[] }, { accessFlags := 4106, nameIndex := 150, descriptorIndex := 131, attributes := #[] }, { accessFlags := 4106, nameIndex := 151, descriptorIndex := 131, attributes := #[] }] 48 15 #[] #[{ accessFlags := 18, nameIndex := 19, descriptorIndex := 20, attributes := #[] }, { accessFlags := 18, nameIndex := 23, descriptorIndex := 24, attributes := #[] }])
  fields := #[{ name := "declared", type := (.object "java/util/List"), accessFlags := 18, slot := 0, constantValue := 0 }, { name := "prefix", type := (.object "java/lang/String"), accessFlags := 18, slot := 1, constantValue := 0 }]
  methods := #[k5m0, k5m1, k5m2, k5m3, k5m4, k5m5, k5m6, k5m7, k5m8, k5m9]
  instanceTypes := #[(.object "java/util/List"), (.object "java/lang/String")]
  staticTypes := #[]
  resolved := (((((Array.replicate 177 none).setIfInBounds 119 (some (.method ⟨22, 0⟩))).setIfInBounds 45 (some (.cls 22))).setIfInBounds 79 (some (.field 22 1))).setIfInBounds 75 (some (.field 22 3)))
  callSites := [(3, 5, .makes 40), (4, 6, .makes 41)]
  statics := none }

def pool6 : Array CpInfo := pool [(8, .class_ 10), (1, u "java/lang/Iterable"), (24, .class_ 36), (0, u "java/lang/Object")] 25

/-- java/lang/Iterable -/
def k6 : Class := { plain "java/lang/Iterable" (some 0) with
  accessFlags := 1537
  interfaces := #[]
  cf := some (fileOf pool6 8 #[] #[] 1537 35 #[] #[])
  fields := #[]
  methods := #[]
  instanceTypes := #[]
  staticTypes := #[]
  resolved := Array.replicate 62 none
  statics := none }

def pool7 : Array CpInfo := pool [(10, .class_ 12), (1, u "java/util/Collection"), (47, .class_ 61), (0, u "java/lang/Object"), (0, .class_ 63), (0, u "java/lang/Iterable")] 51

/-- java/util/Collection -/
def k7 : Class := { plain "java/util/Collection" (some 0) with
  accessFlags := 1537
  interfaces := #[6]
  cf := some (fileOf pool7 10 #[] #[] 1537 60 #[62] #[])
  fields := #[]
  methods := #[]
  instanceTypes := #[]
  staticTypes := #[]
  resolved := Array.replicate 115 none
  statics := none }

def pool8 : Array CpInfo := pool [(1, .methodref 2 3), (0, .class_ 4), (0, .nameAndType 5 6), (0, u "java/lang/Object"), (0, u "<init>"), (0, u "()V"), (1, .class_ 10), (1, u "java/util/AbstractCollection"), (66, .class_ 78), (0, u "java/util/Collection")] 81

def k8c0 : Code := { maxStack := 1, maxLocals := 1, code := jdk_22_method_1_code, exceptionTable := #[], attributes := #[] }
def k8m0 : Method := { name := "<init>", desc := "()V", sig := { parameters := [], returnType := none }, accessFlags := 4, code := some k8c0 }
/-- java/util/AbstractCollection -/
def k8 : Class := { plain "java/util/AbstractCollection" (some 0) with
  accessFlags := 1057
  interfaces := #[7]
  cf := some (fileOf pool8 8 #[] #[{ accessFlags := 4, nameIndex := 5, descriptorIndex := 6, attributes := #[] }] 1057 2 #[77] #[])
  fields := #[]
  methods := #[k8m0]
  instanceTypes := #[]
  staticTypes := #[]
  resolved := Array.replicate 160 none
  statics := none }

def pool9 : Array CpInfo := pool [(8, .class_ 10), (1, u "java/util/SequencedCollection"), (15, .class_ 27), (0, u "java/lang/Object"), (0, .class_ 29), (0, u "java/util/Collection")] 27

/-- java/util/SequencedCollection -/
def k9 : Class := { plain "java/util/SequencedCollection" (some 0) with
  accessFlags := 1537
  interfaces := #[7]
  cf := some (fileOf pool9 8 #[] #[] 1537 26 #[28] #[])
  fields := #[]
  methods := #[]
  instanceTypes := #[]
  staticTypes := #[]
  resolved := Array.replicate 57 none
  statics := none }

def pool10 : Array CpInfo := pool [(8, .class_ 10), (1, u "java/util/List"), (7, u "()Z"), (41, u "add"), (3, u "(Ljava/lang/Object;)Z"), (2, u "isEmpty"), (7, u "get"), (0, u "(I)Ljava/lang/Object;"), (2, u "size"), (0, u "()I"), (22, .class_ 104), (0, u "java/lang/Object"), (15, .class_ 121), (0, u "java/util/SequencedCollection")] 129

def k10m0 : Method := { name := "size", desc := "()I", sig := { parameters := [], returnType := some .int }, accessFlags := 1025, code := none }
def k10m1 : Method := { name := "isEmpty", desc := "()Z", sig := { parameters := [], returnType := some .boolean }, accessFlags := 1025, code := none }
def k10m2 : Method := { name := "add", desc := "(Ljava/lang/Object;)Z", sig := { parameters := [(.object "java/lang/Object")], returnType := some .boolean }, accessFlags := 1025, code := none }
def k10m3 : Method := { name := "get", desc := "(I)Ljava/lang/Object;", sig := { parameters := [.int], returnType := some (.object "java/lang/Object") }, accessFlags := 1025, code := none }
/-- java/util/List -/
def k10 : Class := { plain "java/util/List" (some 0) with
  accessFlags := 1537
  interfaces := #[9]
  cf := some (fileOf pool10 8 #[] #[{ accessFlags := 1025, nameIndex := 79, descriptorIndex := 80, attributes := #[] }, { accessFlags := 1025, nameIndex := 67, descriptorIndex := 18, attributes := #[] }, { accessFlags := 1025, nameIndex := 60, descriptorIndex := 64, attributes := #[] }, { accessFlags := 1025, nameIndex := 75, descriptorIndex := 76, attributes := #[] }] 1537 103 #[120] #[])
  fields := #[]
  methods := #[k10m0, k10m1, k10m2, k10m3]
  instanceTypes := #[]
  staticTypes := #[]
  resolved := Array.replicate 251 none
  statics := none }

def pool11 : Array CpInfo := pool [(1, .methodref 2 3), (0, .class_ 4), (0, .nameAndType 5 6), (0, u "java/util/AbstractCollection"), (0, u "<init>"), (0, u "()V"), (0, .fieldref 8 9), (0, .class_ 10), (0, .nameAndType 11 12), (0, u "java/util/AbstractList"), (0, u "modCount"), (0, u "I"), (64, .class_ 78), (0, u "java/util/AbstractList$Itr"), (3, .class_ 83), (0, u "java/util/AbstractList$ListItr"), (9, .class_ 94), (0, u "java/util/AbstractList$RandomAccessSubList"), (3, .class_ 99), (0, u "java/util/AbstractList$SubList"), (33, .class_ 134), (0, u "java/util/List"), (73, .class_ 209), (0, u "java/util/AbstractList$SubList$1"), (0, .class_ 211), (0, u "java/util/AbstractList$RandomAccessSpliterator")] 6

def k11c0 : Code := { maxStack := 2, maxLocals := 1, code := jdk_39_method_1_code, exceptionTable := #[], attributes := #[] }
def k11m0 : Method := { name := "<init>", desc := "()V", sig := { parameters := [], returnType := none }, accessFlags := 4, code := some k11c0 }
/-- java/util/AbstractList -/
def k11 : Class := { plain "java/util/AbstractList" (some 8) with
  accessFlags := 1057
  interfaces := #[10]
  cf := some (fileOf pool11 8 #[.nestMembers #[93, 98, 208, 210, 82, 77]] #[{ accessFlags := 4, nameIndex := 5, descriptorIndex := 6, attributes := #[] }] 1057 2 #[133] #[{ accessFlags := 132, nameIndex := 11, descriptorIndex := 12, attributes := #[] }])
  fields := #[{ name := "modCount", type := .int, accessFlags := 132, slot := 0, constantValue := 0 }]
  methods := #[k11m0]
  instanceTypes := #[.int]
  staticTypes := #[]
  resolved := Array.replicate 218 none
  statics := none }

def pool12 : Array CpInfo := pool [(1, .class_ 2), (0, u "java/util/RandomAccess"), (0, .class_ 4), (0, u "java/lang/Object")] 2

/-- java/util/RandomAccess -/
def k12 : Class := { plain "java/util/RandomAccess" (some 0) with
  accessFlags := 1537
  interfaces := #[]
  cf := some (fileOf pool12 1 #[] #[] 1537 3 #[] #[])
  fields := #[]
  methods := #[]
  instanceTypes := #[]
  staticTypes := #[]
  resolved := Array.replicate 7 none
  statics := none }

def pool13 : Array CpInfo := pool [(1, .class_ 2), (0, u "java/lang/Cloneable"), (0, .class_ 4), (0, u "java/lang/Object")] 2

/-- java/lang/Cloneable -/
def k13 : Class := { plain "java/lang/Cloneable" (some 0) with
  accessFlags := 1537
  interfaces := #[]
  cf := some (fileOf pool13 1 #[] #[] 1537 3 #[] #[])
  fields := #[]
  methods := #[]
  instanceTypes := #[]
  staticTypes := #[]
  resolved := Array.replicate 7 none
  statics := none }

def pool14 : Array CpInfo := pool [(1, .class_ 2), (0, u "java/io/Serializable"), (0, .class_ 4), (0, u "java/lang/Object")] 2

/-- java/io/Serializable -/
def k14 : Class := { plain "java/io/Serializable" (some 0) with
  accessFlags := 1537
  interfaces := #[]
  cf := some (fileOf pool14 1 #[] #[] 1537 3 #[] #[])
  fields := #[]
  methods := #[]
  instanceTypes := #[]
  staticTypes := #[]
  resolved := Array.replicate 7 none
  statics := none }

def pool15 : Array CpInfo := pool [(1, .methodref 2 3), (0, .class_ 4), (0, .nameAndType 5 6), (0, u "java/util/AbstractList"), (0, u "<init>"), (0, u "()V"), (0, .class_ 8), (0, u "java/lang/Object"), (0, .fieldref 10 11), (0, .class_ 12), (0, .nameAndType 13 14), (0, u "java/util/ArrayList"), (0, u "elementData"), (0, u "[Ljava/lang/Object;"), (2, u "EMPTY_ELEMENTDATA"), (21, .fieldref 10 40), (0, .nameAndType 41 14), (0, u "DEFAULTCAPACITY_EMPTY_ELEMENTDATA"), (5, u "()[Ljava/lang/Object;"), (0, .fieldref 10 49), (0, .nameAndType 50 51), (0, u "size"), (0, u "I"), (11, .fieldref 10 64), (0, .nameAndType 65 51), (0, u "modCount"), (3, .methodref 10 70), (0, .nameAndType 71 72), (0, u "grow"), (0, u "(I)[Ljava/lang/Object;"), (6, .methodref 80 81), (0, .class_ 82), (0, .nameAndType 83 84), (0, u "java/lang/Math"), (0, u "max"), (0, u "(II)I"), (11, u "(Ljava/lang/Object;)Z"), (21, .methodref 119 120), (0, .class_ 121), (0, .nameAndType 122 84), (0, u "java/util/Objects"), (0, u "checkIndex"), (0, .methodref 10 124), (0, .nameAndType 13 125), (0, u "(I)Ljava/lang/Object;"), (3, .methodref 10 130), (0, .nameAndType 71 47), (0, .methodref 10 132), (0, .nameAndType 133 134), (0, u "add"), (0, u "(Ljava/lang/Object;[Ljava/lang/Object;I)V"), (13, .class_ 149), (0, u "java/util/List"), (23, u "()Z"), (12, u "()I"), (75, .class_ 263), (0, u "java/util/ArrayList$ListItr"), (3, .class_ 268), (0, u "java/util/ArrayList$Itr"), (7, .class_ 277), (0, u "java/util/ArrayList$SubList"), (12, .class_ 291), (0, u "java/util/ArrayList$ArrayListSpliterator"), (37, .class_ 330), (0, u "java/util/RandomAccess"), (0, .class_ 332), (0, u "java/lang/Cloneable"), (0, .class_ 334), (0, u "java/io/Serializable"), (0, u "serialVersionUID"), (0, u "J"), (3, u "DEFAULT_CAPACITY"), (22, u "isEmpty"), (17, u "get"), (118, .class_ 501), (0, u "java/util/ArrayList$SubList$2"), (0, .class_ 503), (0, u "java/util/ArrayList$SubList$1")] 5

def k15c0 : Code := { maxStack := 2, maxLocals := 1, code := jdk_38_method_2_code, exceptionTable := #[], attributes := #[] }
def k15m0 : Method := { name := "<init>", desc := "()V", sig := { parameters := [], returnType := none }, accessFlags := 1, code := some k15c0 }
def k15c1 : Code := { maxStack := 4, maxLocals := 4, code := jdk_38_method_6_code, exceptionTable := #[], attributes := #[] }
def k15m1 : Method := { name := "grow", desc := "(I)[Ljava/lang/Object;", sig := { parameters := [.int], returnType := some (.array (.object "java/lang/Object")) }, accessFlags := 2, code := some k15c1 }
def k15c2 : Code := { maxStack := 3, maxLocals := 1, code := jdk_38_method_7_code, exceptionTable := #[], attributes := #[] }
def k15m2 : Method := { name := "grow", desc := "()[Ljava/lang/Object;", sig := { parameters := [], returnType := some (.array (.object "java/lang/Object")) }, accessFlags := 2, code := some k15c2 }
def k15c3 : Code := { maxStack := 1, maxLocals := 1, code := jdk_38_method_8_code, exceptionTable := #[], attributes := #[] }
def k15m3 : Method := { name := "size", desc := "()I", sig := { parameters := [], returnType := some .int }, accessFlags := 1, code := some k15c3 }
def k15c4 : Code := { maxStack := 1, maxLocals := 1, code := jdk_38_method_9_code, exceptionTable := #[], attributes := #[] }
def k15m4 : Method := { name := "isEmpty", desc := "()Z", sig := { parameters := [], returnType := some .boolean }, accessFlags := 1, code := some k15c4 }
def k15c5 : Code := { maxStack := 2, maxLocals := 2, code := jdk_38_method_18_code, exceptionTable := #[], attributes := #[] }
def k15m5 : Method := { name := "elementData", desc := "(I)Ljava/lang/Object;", sig := { parameters := [.int], returnType := some (.object "java/lang/Object") }, accessFlags := 0, code := some k15c5 }
def k15c6 : Code := { maxStack := 2, maxLocals := 2, code := jdk_38_method_20_code, exceptionTable := #[], attributes := #[] }
def k15m6 : Method := { name := "get", desc := "(I)Ljava/lang/Object;", sig := { parameters := [.int], returnType := some (.object "java/lang/Object") }, accessFlags := 1, code := some k15c6 }
def k15c7 : Code := { maxStack := 3, maxLocals := 4, code := jdk_38_method_24_code, exceptionTable := #[], attributes := #[] }
def k15m7 : Method := { name := "add", desc := "(Ljava/lang/Object;[Ljava/lang/Object;I)V", sig := { parameters := [(.object "java/lang/Object"), (.array (.object "java/lang/Object")), .int], returnType := none }, accessFlags := 2, code := some k15c7 }
def k15c8 : Code := { maxStack := 4, maxLocals := 2, code := jdk_38_method_25_code, exceptionTable := #[], attributes := #[] }
def k15m8 : Method := { name := "add", desc := "(Ljava/lang/Object;)Z", sig := { parameters := [(.object "java/lang/Object")], returnType := some .boolean }, accessFlags := 1, code := some k15c8 }
/-- java/util/ArrayList -/
def k15 : Class := { plain "java/util/ArrayList" (some 11) with
  accessFlags := 33
  interfaces := #[10, 12, 13, 14]
  cf := some (fileOf pool15 10 #[.nestMembers #[290, 276, 500, 502, 262, 267]] #[{ accessFlags := 1, nameIndex := 5, descriptorIndex := 6, attributes := #[] }, { accessFlags := 2, nameIndex := 71, descriptorIndex := 72, attributes := #[] }, { accessFlags := 2, nameIndex := 71, descriptorIndex := 47, attributes := #[] }, { accessFlags := 1, nameIndex := 50, descriptorIndex := 186, attributes := #[] }, { accessFlags := 1, nameIndex := 363, descriptorIndex := 173, attributes := #[] }, { accessFlags := 0, nameIndex := 13, descriptorIndex := 125, attributes := #[] }, { accessFlags := 1, nameIndex := 381, descriptorIndex := 125, attributes := #[] }, { accessFlags := 2, nameIndex := 133, descriptorIndex := 134, attributes := #[] }, { accessFlags := 1, nameIndex := 133, descriptorIndex := 96, attributes := #[] }] 33 2 #[148, 329, 331, 333] #[{ accessFlags := 26, nameIndex := 335, descriptorIndex := 336, attributes := #[] }, { accessFlags := 26, nameIndex := 340, descriptorIndex := 51, attributes := #[] }, { accessFlags := 26, nameIndex := 17, descriptorIndex := 14, attributes := #[] }, { accessFlags := 26, nameIndex := 41, descriptorIndex := 14, attributes := #[] }, { accessFlags := 128, nameIndex := 13, descriptorIndex := 14, attributes := #[] }, { accessFlags := 2, nameIndex := 50, descriptorIndex := 51, attributes := #[] }])
  fields := #[{ name := "serialVersionUID", type := .long, accessFlags := 26, slot := 0, constantValue := 0 }, { name := "DEFAULT_CAPACITY", type := .int, accessFlags := 26, slot := 1, constantValue := 0 }, { name := "EMPTY_ELEMENTDATA", type := (.array (.object "java/lang/Object")), accessFlags := 26, slot := 2, constantValue := 0 }, { name := "DEFAULTCAPACITY_EMPTY_ELEMENTDATA", type := (.array (.object "java/lang/Object")), accessFlags := 26, slot := 3, constantValue := 0 }, { name := "elementData", type := (.array (.object "java/lang/Object")), accessFlags := 128, slot := 1, constantValue := 0 }, { name := "size", type := .int, accessFlags := 2, slot := 2, constantValue := 0 }]
  methods := #[k15m0, k15m1, k15m2, k15m3, k15m4, k15m5, k15m6, k15m7, k15m8]
  instanceTypes := #[.int, (.array (.object "java/lang/Object")), .int]
  staticTypes := #[.long, .int, (.array (.object "java/lang/Object")), (.array (.object "java/lang/Object"))]
  resolved := Array.replicate 509 none
  statics := some 0 }

def pool16 : Array CpInfo := pool [(1, .class_ 2), (0, u "java/lang/Comparable"), (0, .class_ 4), (0, u "java/lang/Object")] 7

/-- java/lang/Comparable -/
def k16 : Class := { plain "java/lang/Comparable" (some 0) with
  accessFlags := 1537
  interfaces := #[]
  cf := some (fileOf pool16 1 #[] #[] 1537 3 #[] #[])
  fields := #[]
  methods := #[]
  instanceTypes := #[]
  staticTypes := #[]
  resolved := Array.replicate 12 none
  statics := none }

def pool17 : Array CpInfo := pool [(2, .class_ 4), (1, u "java/lang/CharSequence"), (42, .class_ 48), (0, u "java/lang/CharSequence$1CodePointIterator"), (10, .class_ 60), (0, u "java/lang/CharSequence$1CharIterator"), (5, .class_ 67), (0, u "java/lang/Object")] 63

/-- java/lang/CharSequence -/
def k17 : Class := { plain "java/lang/CharSequence" (some 0) with
  accessFlags := 1537
  interfaces := #[]
  cf := some (fileOf pool17 2 #[.nestMembers #[47, 59]] #[] 1537 66 #[] #[])
  fields := #[]
  methods := #[]
  instanceTypes := #[]
  staticTypes := #[]
  resolved := Array.replicate 131 none
  statics := none }

def pool18 : Array CpInfo := pool [(1, .class_ 2), (0, u "java/lang/constant/Constable"), (0, .class_ 4), (0, u "java/lang/Object")] 6

/-- java/lang/constant/Constable -/
def k18 : Class := { plain "java/lang/constant/Constable" (some 0) with
  accessFlags := 1537
  interfaces := #[]
  cf := some (fileOf pool18 1 #[] #[] 1537 3 #[] #[])
  fields := #[]
  methods := #[]
  instanceTypes := #[]
  staticTypes := #[]
  resolved := Array.replicate 11 none
  statics := none }

def pool19 : Array CpInfo := pool [(1, .class_ 2), (0, u "java/lang/constant/ConstantDesc"), (0, .class_ 4), (0, u "java/lang/Object")] 32

/-- java/lang/constant/ConstantDesc -/
def k19 : Class := { plain "java/lang/constant/ConstantDesc" (some 0) with
  accessFlags := 1537
  interfaces := #[]
  cf := some (fileOf pool19 1 #[] #[] 1537 3 #[] #[])
  fields := #[]
  methods := #[]
  instanceTypes := #[]
  staticTypes := #[]
  resolved := Array.replicate 37 none
  statics := none }

def pool20 : Array CpInfo := pool [(1, .methodref 2 3), (0, .class_ 4), (0, .nameAndType 5 6), (0, u "java/lang/Object"), (0, u "<init>"), (0, u "()V"), (2, .fieldref 10 11), (0, .class_ 12), (0, .nameAndType 13 14), (0, u "java/lang/String"), (0, u "value"), (0, u "[B"), (0, .fieldref 10 16), (0, .nameAndType 17 18), (0, u "coder"), (0, u "B"), (2, u "hash"), (0, u "I"), (2, u "hashIsZero"), (0, u "Z"), (11, .fieldref 10 39), (0, .nameAndType 40 26), (0, u "COMPACT_STRINGS"), (13, .methodref 55 56), (0, .class_ 57), (0, .nameAndType 58 59), (0, u "java/util/Arrays"), (0, u "copyOfRange"), (0, u "([BII)[B"), (82, u "()Z"), (50, .class_ 195), (1, u "java/lang/System"), (16, .methodref 193 213), (0, .nameAndType 214 215), (0, u "arraycopy"), (0, u "(Ljava/lang/Object;ILjava/lang/Object;II)V"), (118, u "()I"), (0, .methodref 10 336), (0, .nameAndType 17 337), (0, u "()B"), (2, u "()[B"), (148, .methodref 10 490), (0, .nameAndType 5 491), (0, u "(Ljava/lang/AbstractStringBuilder;Ljava/lang/Void;)V"), (1, .nameAndType 494 142), (0, u "isLatin1"), (11, .nameAndType 507 334), (0, u "length"), (24, u "getBytes"), (16, .methodref 550 506), (0, .class_ 551), (0, u "java/lang/AbstractStringBuilder"), (0, .methodref 550 553), (0, .nameAndType 554 340), (0, u "getValue"), (20, .class_ 576), (0, u "java/lang/CharSequence"), (22, u "CASE_INSENSITIVE_ORDER"), (0, u "Ljava/util/Comparator;"), (220, u "([BIB)V"), (225, .methodref 550 493), (53, u "serialPersistentFields"), (0, u "[Ljava/io/ObjectStreamField;"), (0, .class_ 1104), (0, u "java/lang/String$CaseInsensitiveComparator"), (1, .class_ 1107), (0, u "java/io/Serializable"), (0, .class_ 1109), (0, u "java/lang/Comparable"), (0, .class_ 1111), (0, u "java/lang/constant/Constable"), (0, .class_ 1113), (0, u "java/lang/constant/ConstantDesc"), (2, u "serialVersionUID"), (0, u "J"), (3, u "REPL"), (0, u "C"), (2, u "LATIN1"), (1, u "UTF16"), (105, u "(Ljava/lang/StringBuilder;)V")] 217

def k20m0 : Method := { name := "<init>", desc := "()V", sig := { parameters := [], returnType := none }, accessFlags := 1, code := none }
def k20c1 : Code := { maxStack := 3, maxLocals := 2, code := jdk_42_method_53_code, exceptionTable := #[], attributes := #[] }
def k20m1 : Method := { name := "<init>", desc := "(Ljava/lang/StringBuilder;)V", sig := { parameters := [(.object "java/lang/StringBuilder")], returnType := none }, accessFlags := 1, code := some k20c1 }
def k20c2 : Code := { maxStack := 2, maxLocals := 1, code := jdk_42_method_54_code, exceptionTable := #[], attributes := #[] }
def k20m2 : Method := { name := "length", desc := "()I", sig := { parameters := [], returnType := some .int }, accessFlags := 1, code := some k20c2 }
def k20c3 : Code := { maxStack := 5, maxLocals := 4, code := jdk_42_method_147_code, exceptionTable := #[], attributes := #[] }
def k20m3 : Method := { name := "getBytes", desc := "([BIB)V", sig := { parameters := [(.array .byte), .int, .byte], returnType := none }, accessFlags := 0, code := some k20c3 }
def k20c4 : Code := { maxStack := 5, maxLocals := 5, code := jdk_42_method_150_code, exceptionTable := #[], attributes := #[] }
def k20m4 : Method := { name := "<init>", desc := "(Ljava/lang/AbstractStringBuilder;Ljava/lang/Void;)V", sig := { parameters := [(.object "java/lang/AbstractStringBuilder"), (.object "java/lang/Void")], returnType := none }, accessFlags := 0, code := some k20c4 }
def k20c5 : Code := { maxStack := 1, maxLocals := 1, code := jdk_42_method_152_code, exceptionTable := #[], attributes := #[] }
def k20m5 : Method := { name := "coder", desc := "()B", sig := { parameters := [], returnType := some .byte }, accessFlags := 0, code := some k20c5 }
/-- java/lang/String -/
def k20 : Class := { plain "java/lang/String" (some 0) with
  accessFlags := 49
  interfaces := #[14, 16, 17, 18, 19]
  cf := some (fileOf pool20 10 #[.nestMembers #[1103]] #[{ accessFlags := 1, nameIndex := 5, descriptorIndex := 6, attributes := #[] }, { accessFlags := 1, nameIndex := 5, descriptorIndex := 1233, attributes := #[] }, { accessFlags := 1, nameIndex := 507, descriptorIndex := 334, attributes := #[] }, { accessFlags := 0, nameIndex := 532, descriptorIndex := 821, attributes := #[] }, { accessFlags := 0, nameIndex := 5, descriptorIndex := 491, attributes := #[] }, { accessFlags := 0, nameIndex := 17, descriptorIndex := 337, attributes := #[] }] 49 2 #[1106, 1108, 575, 1110, 1112] #[{ accessFlags := 18, nameIndex := 13, descriptorIndex := 14, attributes := #[] }, { accessFlags := 18, nameIndex := 17, descriptorIndex := 18, attributes := #[] }, { accessFlags := 2, nameIndex := 21, descriptorIndex := 22, attributes := #[] }, { accessFlags := 2, nameIndex := 25, descriptorIndex := 26, attributes := #[] }, { accessFlags := 26, nameIndex := 1116, descriptorIndex := 1117, attributes := #[] }, { accessFlags := 24, nameIndex := 40, descriptorIndex := 26, attributes := #[] }, { accessFlags := 26, nameIndex := 1101, descriptorIndex := 1102, attributes := #[] }, { accessFlags := 26, nameIndex := 1121, descriptorIndex := 1122, attributes := #[] }, { accessFlags := 25, nameIndex := 599, descriptorIndex := 600, attributes := #[] }, { accessFlags := 24, nameIndex := 1125, descriptorIndex := 18, attributes := #[] }, { accessFlags := 24, nameIndex := 1127, descriptorIndex := 18, attributes := #[] }])
  fields := #[{ name := "value", type := (.array .byte), accessFlags := 18, slot := 0, constantValue := 0 }, { name := "coder", type := .byte, accessFlags := 18, slot := 1, constantValue := 0 }, { name := "hash", type := .int, accessFlags := 2, slot := 2, constantValue := 0 }, { name := "hashIsZero", type := .boolean, accessFlags := 2, slot := 3, constantValue := 0 }, { name := "serialVersionUID", type := .long, accessFlags := 26, slot := 0, constantValue := 0 }, { name := "COMPACT_STRINGS", type := .boolean, accessFlags := 24, slot := 1, constantValue := 0 }, { name := "serialPersistentFields", type := (.array (.object "java/io/ObjectStreamField")), accessFlags := 26, slot := 2, constantValue := 0 }, { name := "REPL", type := .char, accessFlags := 26, slot := 3, constantValue := 0 }, { name := "CASE_INSENSITIVE_ORDER", type := (.object "java/util/Comparator"), accessFlags := 25, slot := 4, constantValue := 0 }, { name := "LATIN1", type := .byte, accessFlags := 24, slot := 5, constantValue := 0 }, { name := "UTF16", type := .byte, accessFlags := 24, slot := 6, constantValue := 0 }]
  methods := #[k20m0, k20m1, k20m2, k20m3, k20m4, k20m5]
  instanceTypes := #[(.array .byte), .byte, .int, .boolean]
  staticTypes := #[.long, .boolean, (.array (.object "java/io/ObjectStreamField")), .char, (.object "java/util/Comparator"), .byte, .byte]
  resolved := Array.replicate 1451 none
  statics := some 1 }

def pool21 : Array CpInfo := pool [(9, u "applyAsInt"), (6, .class_ 18), (1, u "java/util/function/IntUnaryOperator"), (0, u "(I)I"), (0, .class_ 21), (0, u "java/lang/Object")] 46

def k21m0 : Method := { name := "applyAsInt", desc := "(I)I", sig := { parameters := [.int], returnType := some .int }, accessFlags := 1025, code := none }
/-- java/util/function/IntUnaryOperator -/
def k21 : Class := { plain "java/util/function/IntUnaryOperator" (some 0) with
  accessFlags := 1537
  interfaces := #[]
  cf := some (fileOf pool21 16 #[] #[{ accessFlags := 1025, nameIndex := 9, descriptorIndex := 19, attributes := #[] }] 1537 20 #[] #[])
  fields := #[]
  methods := #[k21m0]
  instanceTypes := #[]
  staticTypes := #[]
  resolved := Array.replicate 68 none
  statics := none }

def pool22 : Array CpInfo := pool [(1, .methodref 2 3), (0, .class_ 4), (0, .nameAndType 5 6), (0, u "java/lang/Object"), (0, u "<init>"), (0, u "()V"), (0, .fieldref 8 9), (0, .class_ 10), (0, .nameAndType 11 12), (0, u "com/example/foyer/foyer/Layout$RegisterArray"), (0, u "name"), (0, u "Ljava/lang/String;"), (0, .fieldref 8 14), (0, .nameAndType 15 16), (0, u "base"), (0, u "I"), (0, .fieldref 8 18), (0, .nameAndType 19 16), (0, u "first"), (0, .fieldref 8 21), (0, .nameAndType 22 16), (0, u "length"), (0, .fieldref 8 24), (0, .nameAndType 25 26), (0, u "initial"), (0, u "Ljava/util/function/IntUnaryOperator;"), (0, .fieldref 8 28), (0, .nameAndType 29 30), (0, u "indexed"), (0, u "Z"), (0, .methodref 32 33), (0, .class_ 34), (0, .nameAndType 35 36), (0, u "java/util/Objects"), (0, u "checkIndex"), (0, u "(II)I"), (0, u "(Ljava/lang/String;IIILjava/util/function/IntUnaryOperator;Z)V"), (2, u "at"), (0, u "(I)I"), (3, .class_ 46), (0, u "com/example/foyer/foyer/Layout")] 2

def k22c0 : Code := { maxStack := 2, maxLocals := 7, code := prog_34_method_1_code, exceptionTable := #[], attributes := #[] }
def k22m0 : Method := { name := "<init>", desc := "(Ljava/lang/String;IIILjava/util/function/IntUnaryOperator;Z)V", sig := { parameters := [(.object "java/lang/String"), .int, .int, .int, (.object "java/util/function/IntUnaryOperator"), .boolean], returnType := none }, accessFlags := 2, code := some k22c0 }
def k22c1 : Code := { maxStack := 3, maxLocals := 2, code := prog_34_method_2_code, exceptionTable := #[], attributes := #[] }
def k22m1 : Method := { name := "at", desc := "(I)I", sig := { parameters := [.int], returnType := some .int }, accessFlags := 0, code := some k22c1 }
/-- com/example/foyer/foyer/Layout$RegisterArray -/
def k22 : Class := { plain "com/example/foyer/foyer/Layout$RegisterArray" (some 0) with
  accessFlags := 48
  interfaces := #[]
  cf := some (fileOf pool22 8 #[.nestHost 45] #[{ accessFlags := 2, nameIndex := 5, descriptorIndex := 37, attributes := #[] }, { accessFlags := 0, nameIndex := 40, descriptorIndex := 41, attributes := #[] }] 48 2 #[] #[{ accessFlags := 18, nameIndex := 11, descriptorIndex := 12, attributes := #[] }, { accessFlags := 18, nameIndex := 15, descriptorIndex := 16, attributes := #[] }, { accessFlags := 18, nameIndex := 19, descriptorIndex := 16, attributes := #[] }, { accessFlags := 18, nameIndex := 22, descriptorIndex := 16, attributes := #[] }, { accessFlags := 18, nameIndex := 25, descriptorIndex := 26, attributes := #[] }, { accessFlags := 18, nameIndex := 29, descriptorIndex := 30, attributes := #[] }])
  fields := #[{ name := "name", type := (.object "java/lang/String"), accessFlags := 18, slot := 0, constantValue := 0 }, { name := "base", type := .int, accessFlags := 18, slot := 1, constantValue := 0 }, { name := "first", type := .int, accessFlags := 18, slot := 2, constantValue := 0 }, { name := "length", type := .int, accessFlags := 18, slot := 3, constantValue := 0 }, { name := "initial", type := (.object "java/util/function/IntUnaryOperator"), accessFlags := 18, slot := 4, constantValue := 0 }, { name := "indexed", type := .boolean, accessFlags := 18, slot := 5, constantValue := 0 }]
  methods := #[k22m0, k22m1]
  instanceTypes := #[(.object "java/lang/String"), .int, .int, .int, (.object "java/util/function/IntUnaryOperator"), .boolean]
  staticTypes := #[]
  resolved := Array.replicate 49 none
  statics := none }

def pool23 : Array CpInfo := pool [(1, .class_ 2), (0, u "java/lang/Appendable"), (0, .class_ 4), (0, u "java/lang/Object")] 9

/-- java/lang/Appendable -/
def k23 : Class := { plain "java/lang/Appendable" (some 0) with
  accessFlags := 1537
  interfaces := #[]
  cf := some (fileOf pool23 1 #[] #[] 1537 3 #[] #[])
  fields := #[]
  methods := #[]
  instanceTypes := #[]
  staticTypes := #[]
  resolved := Array.replicate 14 none
  statics := none }

def pool24 : Array CpInfo := pool [(1, .class_ 2), (0, u "java/lang/String"), (0, .methodref 4 5), (0, .class_ 6), (0, .nameAndType 7 8), (0, u "java/lang/Object"), (0, u "<init>"), (0, u "()V"), (1, .class_ 12), (1, u "java/lang/AbstractStringBuilder"), (0, u "EMPTYVALUE"), (0, u "[B"), (0, .fieldref 10 16), (0, .nameAndType 17 14), (0, u "value"), (0, .fieldref 1 19), (0, .nameAndType 20 21), (0, u "COMPACT_STRINGS"), (0, u "Z"), (0, .fieldref 10 23), (0, .nameAndType 24 25), (0, u "coder"), (0, u "B"), (6, .methodref 1 33), (0, .nameAndType 34 35), (0, u "length"), (0, u "()I"), (4, .methodref 1 41), (0, .nameAndType 24 42), (0, u "()B"), (2, u "append"), (0, u "(Ljava/lang/String;)Ljava/lang/AbstractStringBuilder;"), (1, .class_ 49), (0, u "java/lang/CharSequence"), (19, u "(Ljava/lang/String;)V"), (5, u "maybeLatin1"), (3, .fieldref 10 80), (0, .nameAndType 81 82), (0, u "count"), (0, u "I"), (2, u "isLatin1"), (0, u "()Z"), (13, .methodref 10 101), (0, .nameAndType 102 103), (0, u "ensureCapacityInternal"), (0, u "(I)V"), (104, .methodref 10 209), (0, .nameAndType 210 211), (0, u "putStringAt"), (0, u "(ILjava/lang/String;)V"), (5, u "inflateIfNeededFor"), (2, .nameAndType 221 222), (0, u "getBytes"), (0, u "([BIB)V"), (174, .methodref 10 398), (0, .nameAndType 217 69), (0, .methodref 1 220), (3, u "()[B"), (40, .class_ 445), (0, u "java/lang/Appendable"), (106, u "getValue")] 56

def k24m0 : Method := { name := "<init>", desc := "()V", sig := { parameters := [], returnType := none }, accessFlags := 0, code := none }
def k24c1 : Code := { maxStack := 2, maxLocals := 2, code := jdk_68_method_2_code, exceptionTable := #[], attributes := #[] }
def k24m1 : Method := { name := "<init>", desc := "(I)V", sig := { parameters := [.int], returnType := none }, accessFlags := 0, code := some k24c1 }
def k24c2 : Code := { maxStack := 1, maxLocals := 1, code := jdk_68_method_6_code, exceptionTable := #[], attributes := #[] }
def k24m2 : Method := { name := "length", desc := "()I", sig := { parameters := [], returnType := some .int }, accessFlags := 1, code := some k24c2 }
def k24c3 : Code := { maxStack := 4, maxLocals := 3, code := jdk_68_method_9_code, exceptionTable := #[], attributes := #[] }
def k24m3 : Method := { name := "ensureCapacityInternal", desc := "(I)V", sig := { parameters := [.int], returnType := none }, accessFlags := 2, code := some k24c3 }
def k24c4 : Code := { maxStack := 3, maxLocals := 3, code := jdk_68_method_22_code, exceptionTable := #[], attributes := #[] }
def k24m4 : Method := { name := "append", desc := "(Ljava/lang/String;)Ljava/lang/AbstractStringBuilder;", sig := { parameters := [(.object "java/lang/String")], returnType := some (.object "java/lang/AbstractStringBuilder") }, accessFlags := 1, code := some k24c4 }
def k24c5 : Code := { maxStack := 1, maxLocals := 1, code := jdk_68_method_64_code, exceptionTable := #[], attributes := #[] }
def k24m5 : Method := { name := "getValue", desc := "()[B", sig := { parameters := [], returnType := some (.array .byte) }, accessFlags := 16, code := some k24c5 }
def k24c6 : Code := { maxStack := 1, maxLocals := 1, code := jdk_68_method_68_code, exceptionTable := #[], attributes := #[] }
def k24m6 : Method := { name := "isLatin1", desc := "()Z", sig := { parameters := [], returnType := some .boolean }, accessFlags := 16, code := some k24c6 }
def k24c7 : Code := { maxStack := 2, maxLocals := 2, code := jdk_68_method_71_code, exceptionTable := #[], attributes := #[] }
def k24m7 : Method := { name := "inflateIfNeededFor", desc := "(Ljava/lang/String;)V", sig := { parameters := [(.object "java/lang/String")], returnType := none }, accessFlags := 2, code := some k24c7 }
def k24c8 : Code := { maxStack := 4, maxLocals := 3, code := jdk_68_method_73_code, exceptionTable := #[], attributes := #[] }
def k24m8 : Method := { name := "putStringAt", desc := "(ILjava/lang/String;)V", sig := { parameters := [.int, (.object "java/lang/String")], returnType := none }, accessFlags := 2, code := some k24c8 }
/-- java/lang/AbstractStringBuilder -/
def k24 : Class := { plain "java/lang/AbstractStringBuilder" (some 0) with
  accessFlags := 1056
  interfaces := #[23, 17]
  cf := some (fileOf pool24 10 #[] #[{ accessFlags := 0, nameIndex := 7, descriptorIndex := 8, attributes := #[] }, { accessFlags := 0, nameIndex := 7, descriptorIndex := 103, attributes := #[] }, { accessFlags := 1, nameIndex := 34, descriptorIndex := 35, attributes := #[] }, { accessFlags := 2, nameIndex := 102, descriptorIndex := 103, attributes := #[] }, { accessFlags := 1, nameIndex := 45, descriptorIndex := 46, attributes := #[] }, { accessFlags := 16, nameIndex := 552, descriptorIndex := 403, attributes := #[] }, { accessFlags := 16, nameIndex := 85, descriptorIndex := 86, attributes := #[] }, { accessFlags := 2, nameIndex := 217, descriptorIndex := 69, attributes := #[] }, { accessFlags := 2, nameIndex := 210, descriptorIndex := 211, attributes := #[] }] 1056 4 #[444, 48] #[{ accessFlags := 0, nameIndex := 17, descriptorIndex := 14, attributes := #[] }, { accessFlags := 0, nameIndex := 24, descriptorIndex := 25, attributes := #[] }, { accessFlags := 0, nameIndex := 75, descriptorIndex := 21, attributes := #[] }, { accessFlags := 0, nameIndex := 81, descriptorIndex := 82, attributes := #[] }, { accessFlags := 26, nameIndex := 13, descriptorIndex := 14, attributes := #[] }])
  fields := #[{ name := "value", type := (.array .byte), accessFlags := 0, slot := 0, constantValue := 0 }, { name := "coder", type := .byte, accessFlags := 0, slot := 1, constantValue := 0 }, { name := "maybeLatin1", type := .boolean, accessFlags := 0, slot := 2, constantValue := 0 }, { name := "count", type := .int, accessFlags := 0, slot := 3, constantValue := 0 }, { name := "EMPTYVALUE", type := (.array .byte), accessFlags := 26, slot := 0, constantValue := 0 }]
  methods := #[k24m0, k24m1, k24m2, k24m3, k24m4, k24m5, k24m6, k24m7, k24m8]
  instanceTypes := #[(.array .byte), .byte, .boolean, .int]
  staticTypes := #[(.array .byte)]
  resolved := Array.replicate 609 none
  statics := none }

def pool25 : Array CpInfo := pool [(1, .methodref 2 3), (0, .class_ 4), (0, .nameAndType 5 6), (0, u "java/lang/AbstractStringBuilder"), (0, u "<init>"), (0, u "(I)V"), (11, .class_ 20), (1, u "java/lang/String"), (3, .class_ 26), (1, u "java/lang/StringBuilder"), (0, u "append"), (0, u "(Ljava/lang/String;)Ljava/lang/StringBuilder;"), (0, .methodref 2 30), (0, .nameAndType 27 31), (0, u "(Ljava/lang/String;)Ljava/lang/AbstractStringBuilder;"), (105, .methodref 18 138), (0, .nameAndType 5 139), (0, u "(Ljava/lang/StringBuilder;)V"), (5, u "()V"), (10, u "()I"), (186, .methodref 2 344), (0, .nameAndType 345 156), (0, u "length"), (3, .class_ 350), (0, u "java/lang/Appendable"), (0, .class_ 352), (0, u "java/io/Serializable"), (0, .class_ 354), (0, u "java/lang/Comparable"), (0, .class_ 356), (0, u "java/lang/CharSequence"), (0, u "serialVersionUID"), (0, u "J"), (40, u "toString"), (0, u "()Ljava/lang/String;")] 21

def k25c0 : Code := { maxStack := 2, maxLocals := 1, code := jdk_67_method_1_code, exceptionTable := #[], attributes := #[] }
def k25m0 : Method := { name := "<init>", desc := "()V", sig := { parameters := [], returnType := none }, accessFlags := 1, code := some k25c0 }
def k25c1 : Code := { maxStack := 2, maxLocals := 2, code := jdk_67_method_7_code, exceptionTable := #[], attributes := #[] }
def k25m1 : Method := { name := "append", desc := "(Ljava/lang/String;)Ljava/lang/StringBuilder;", sig := { parameters := [(.object "java/lang/String")], returnType := some (.object "java/lang/StringBuilder") }, accessFlags := 1, code := some k25c1 }
def k25c2 : Code := { maxStack := 3, maxLocals := 1, code := jdk_67_method_42_code, exceptionTable := #[], attributes := #[] }
def k25m2 : Method := { name := "toString", desc := "()Ljava/lang/String;", sig := { parameters := [], returnType := some (.object "java/lang/String") }, accessFlags := 1, code := some k25c2 }
def k25c3 : Code := { maxStack := 1, maxLocals := 1, code := jdk_67_method_93_code, exceptionTable := #[], attributes := #[] }
def k25m3 : Method := { name := "length", desc := "()I", sig := { parameters := [], returnType := some .int }, accessFlags := 4161, code := some k25c3 }
/-- java/lang/StringBuilder -/
def k25 : Class := { plain "java/lang/StringBuilder" (some 24) with
  accessFlags := 49
  interfaces := #[23, 14, 16, 17]
  cf := some (fileOf pool25 24 #[] #[{ accessFlags := 1, nameIndex := 5, descriptorIndex := 145, attributes := #[] }, { accessFlags := 1, nameIndex := 27, descriptorIndex := 28, attributes := #[] }, { accessFlags := 1, nameIndex := 399, descriptorIndex := 400, attributes := #[] }, { accessFlags := 4161, nameIndex := 345, descriptorIndex := 156, attributes := #[] }] 49 2 #[349, 351, 353, 355] #[{ accessFlags := 24, nameIndex := 357, descriptorIndex := 358, attributes := #[] }])
  fields := #[{ name := "serialVersionUID", type := .long, accessFlags := 24, slot := 0, constantValue := 0 }]
  methods := #[k25m0, k25m1, k25m2, k25m3]
  instanceTypes := #[(.array .byte), .byte, .boolean, .int]
  staticTypes := #[.long]
  resolved := Array.replicate 422 none
  statics := none }

def pool26 : Array CpInfo := pool [(2, .class_ 4), (1, u "java/lang/Object"), (0, u "<init>"), (0, u "()V"), (1, .class_ 10), (1, u "java/lang/System"), (0, u "allowSecurityManager"), (0, u "I"), (16, u "cons"), (0, u "Ljava/io/Console;"), (77, .class_ 110), (1, u "java/lang/System$CallersHolder"), (43, u "initialErrStream"), (0, u "Ljava/io/PrintStream;"), (19, u "security"), (0, u "Ljava/lang/SecurityManager;"), (31, .class_ 209), (0, u "java/lang/System$1"), (7, u "props"), (0, u "Ljava/util/Properties;"), (2, u "lineSeparator"), (0, u "Ljava/lang/String;"), (96, .class_ 321), (1, u "java/lang/System$LoggerFinder"), (5, .class_ 328), (0, u "java/lang/System$Logger"), (67, u "err"), (2, u "out"), (91, u "notSupportedJnuEncoding"), (15, u "in"), (17, u "initialIn"), (0, u "Ljava/io/InputStream;"), (35, u "bootLayer"), (0, u "Ljava/lang/ModuleLayer;"), (99, .class_ 664), (0, u "java/lang/System$2"), (9, u "NEVER"), (2, u "MAYBE"), (49, u "arraycopy"), (0, u "(Ljava/lang/Object;ILjava/lang/Object;II)V"), (72, .class_ 802), (0, u "java/lang/System$Logger$Level")] 31

def k26m0 : Method := { name := "<init>", desc := "()V", sig := { parameters := [], returnType := none }, accessFlags := 2, code := none }
def k26m1 : Method := { name := "arraycopy", desc := "(Ljava/lang/Object;ILjava/lang/Object;II)V", sig := { parameters := [(.object "java/lang/Object"), .int, (.object "java/lang/Object"), .int, .int], returnType := none }, accessFlags := 265, code := none }
/-- java/lang/System -/
def k26 : Class := { plain "java/lang/System" (some 0) with
  accessFlags := 49
  interfaces := #[]
  cf := some (fileOf pool26 8 #[.nestMembers #[319, 327, 801, 108, 663, 208]] #[{ accessFlags := 2, nameIndex := 5, descriptorIndex := 6, attributes := #[] }, { accessFlags := 265, nameIndex := 727, descriptorIndex := 728, attributes := #[] }] 49 2 #[] #[{ accessFlags := 25, nameIndex := 507, descriptorIndex := 526, attributes := #[] }, { accessFlags := 25, nameIndex := 399, descriptorIndex := 155, attributes := #[] }, { accessFlags := 25, nameIndex := 396, descriptorIndex := 155, attributes := #[] }, { accessFlags := 10, nameIndex := 525, descriptorIndex := 526, attributes := #[] }, { accessFlags := 26, nameIndex := 674, descriptorIndex := 12, attributes := #[] }, { accessFlags := 26, nameIndex := 677, descriptorIndex := 12, attributes := #[] }, { accessFlags := 10, nameIndex := 11, descriptorIndex := 12, attributes := #[] }, { accessFlags := 74, nameIndex := 175, descriptorIndex := 176, attributes := #[] }, { accessFlags := 10, nameIndex := 491, descriptorIndex := 222, attributes := #[] }, { accessFlags := 74, nameIndex := 29, descriptorIndex := 30, attributes := #[] }, { accessFlags := 74, nameIndex := 154, descriptorIndex := 155, attributes := #[] }, { accessFlags := 10, nameIndex := 217, descriptorIndex := 218, attributes := #[] }, { accessFlags := 10, nameIndex := 221, descriptorIndex := 222, attributes := #[] }, { accessFlags := 8, nameIndex := 562, descriptorIndex := 563, attributes := #[] }])
  fields := #[{ name := "in", type := (.object "java/io/InputStream"), accessFlags := 25, slot := 0, constantValue := 0 }, { name := "out", type := (.object "java/io/PrintStream"), accessFlags := 25, slot := 1, constantValue := 0 }, { name := "err", type := (.object "java/io/PrintStream"), accessFlags := 25, slot := 2, constantValue := 0 }, { name := "initialIn", type := (.object "java/io/InputStream"), accessFlags := 10, slot := 3, constantValue := 0 }, { name := "NEVER", type := .int, accessFlags := 26, slot := 4, constantValue := 0 }, { name := "MAYBE", type := .int, accessFlags := 26, slot := 5, constantValue := 0 }, { name := "allowSecurityManager", type := .int, accessFlags := 10, slot := 6, constantValue := 0 }, { name := "security", type := (.object "java/lang/SecurityManager"), accessFlags := 74, slot := 7, constantValue := 0 }, { name := "notSupportedJnuEncoding", type := (.object "java/lang/String"), accessFlags := 10, slot := 8, constantValue := 0 }, { name := "cons", type := (.object "java/io/Console"), accessFlags := 74, slot := 9, constantValue := 0 }, { name := "initialErrStream", type := (.object "java/io/PrintStream"), accessFlags := 74, slot := 10, constantValue := 0 }, { name := "props", type := (.object "java/util/Properties"), accessFlags := 10, slot := 11, constantValue := 0 }, { name := "lineSeparator", type := (.object "java/lang/String"), accessFlags := 10, slot := 12, constantValue := 0 }, { name := "bootLayer", type := (.object "java/lang/ModuleLayer"), accessFlags := 8, slot := 13, constantValue := 0 }]
  methods := #[k26m0, k26m1]
  instanceTypes := #[]
  staticTypes := #[(.object "java/io/InputStream"), (.object "java/io/PrintStream"), (.object "java/io/PrintStream"), (.object "java/io/InputStream"), .int, .int, .int, (.object "java/lang/SecurityManager"), (.object "java/lang/String"), (.object "java/io/Console"), (.object "java/io/PrintStream"), (.object "java/util/Properties"), (.object "java/lang/String"), (.object "java/lang/ModuleLayer")]
  resolved := Array.replicate 834 none
  statics := none }

def pool27 : Array CpInfo := pool [(2, .class_ 4), (1, u "java/lang/Object"), (0, u "<init>"), (0, u "()V"), (7, .class_ 16), (1, u "java/util/Arrays"), (57, .class_ 76), (1, u "java/util/Arrays$NaturalOrder"), (36, .class_ 115), (1, u "java/util/Arrays$LegacyMergeSort"), (1, u "Z"), (21, u "copyOfRange"), (10, .methodref 151 152), (0, .class_ 153), (0, .nameAndType 154 155), (0, u "java/lang/System"), (0, u "arraycopy"), (0, u "(Ljava/lang/Object;ILjava/lang/Object;II)V"), (148, .methodref 305 306), (0, .class_ 307), (0, .nameAndType 308 309), (0, u "java/lang/Math"), (0, u "min"), (0, u "(II)I"), (29, .methodref 14 340), (0, .nameAndType 341 342), (0, u "copyOfRangeByte"), (0, u "([BII)[B"), (0, .methodref 14 344), (0, .nameAndType 345 346), (0, u "checkLength"), (0, u "(II)V"), (28, .class_ 376), (0, u "java/util/Arrays$ArrayList"), (68, u "$assertionsDisabled"), (269, u "MIN_ARRAY_SORT_GRAN"), (0, u "I"), (2, u "INSERTIONSORT_THRESHOLD"), (255, .class_ 976), (0, u "java/util/Arrays$ArrayItr")] 52

def k27m0 : Method := { name := "<init>", desc := "()V", sig := { parameters := [], returnType := none }, accessFlags := 2, code := none }
def k27c1 : Code := { maxStack := 4, maxLocals := 2, code := jdk_65_method_131_code, exceptionTable := #[], attributes := #[] }
def k27m1 : Method := { name := "checkLength", desc := "(II)V", sig := { parameters := [.int, .int], returnType := none }, accessFlags := 10, code := some k27c1 }
def k27c2 : Code := { maxStack := 3, maxLocals := 3, code := jdk_65_method_132_code, exceptionTable := #[], attributes := #[] }
def k27m2 : Method := { name := "copyOfRange", desc := "([BII)[B", sig := { parameters := [(.array .byte), .int, .int], returnType := some (.array .byte) }, accessFlags := 9, code := some k27c2 }
def k27c3 : Code := { maxStack := 6, maxLocals := 5, code := jdk_65_method_133_code, exceptionTable := #[], attributes := #[] }
def k27m3 : Method := { name := "copyOfRangeByte", desc := "([BII)[B", sig := { parameters := [(.array .byte), .int, .int], returnType := some (.array .byte) }, accessFlags := 10, code := some k27c3 }
/-- java/util/Arrays -/
def k27 : Class := { plain "java/util/Arrays" (some 0) with
  accessFlags := 49
  interfaces := #[]
  cf := some (fileOf pool27 14 #[.nestMembers #[975, 375, 113, 74]] #[{ accessFlags := 2, nameIndex := 5, descriptorIndex := 6, attributes := #[] }, { accessFlags := 10, nameIndex := 345, descriptorIndex := 346, attributes := #[] }, { accessFlags := 9, nameIndex := 139, descriptorIndex := 342, attributes := #[] }, { accessFlags := 10, nameIndex := 341, descriptorIndex := 342, attributes := #[] }] 49 2 #[] #[{ accessFlags := 26, nameIndex := 715, descriptorIndex := 716, attributes := #[] }, { accessFlags := 26, nameIndex := 719, descriptorIndex := 716, attributes := #[] }, { accessFlags := 4120, nameIndex := 445, descriptorIndex := 117, attributes := #[] }])
  fields := #[{ name := "MIN_ARRAY_SORT_GRAN", type := .int, accessFlags := 26, slot := 0, constantValue := 0 }, { name := "INSERTIONSORT_THRESHOLD", type := .int, accessFlags := 26, slot := 1, constantValue := 0 }, { name := "$assertionsDisabled", type := .boolean, accessFlags := 4120, slot := 2, constantValue := 0 }]
  methods := #[k27m0, k27m1, k27m2, k27m3]
  instanceTypes := #[]
  staticTypes := #[.int, .int, .boolean]
  resolved := Array.replicate 1029 none
  statics := none }

def pool28 : Array CpInfo := pool [(1, .class_ 2), (0, u "java/lang/Math"), (1, .class_ 6), (1, u "java/lang/Object"), (0, u "<init>"), (0, u "()V"), (89, .class_ 100), (1, u "java/lang/Math$RandomNumberGeneratorHolder"), (71, u "negativeZeroFloatBits"), (0, u "J"), (2, u "negativeZeroDoubleBits"), (21, u "max"), (2, u "min"), (43, u "$assertionsDisabled"), (0, u "Z"), (88, u "(II)I"), (2, u "twoToTheDoubleScaleDown"), (0, u "D"), (4, u "twoToTheDoubleScaleUp"), (9, u "E"), (3, u "PI"), (2, u "TAU"), (2, u "DEGREES_TO_RADIANS"), (0, u "RADIANS_TO_DEGREES")] 94

def k28m0 : Method := { name := "<init>", desc := "()V", sig := { parameters := [], returnType := none }, accessFlags := 2, code := none }
def k28c1 : Code := { maxStack := 2, maxLocals := 2, code := jdk_29_method_65_code, exceptionTable := #[], attributes := #[] }
def k28m1 : Method := { name := "max", desc := "(II)I", sig := { parameters := [.int, .int], returnType := some .int }, accessFlags := 9, code := some k28c1 }
def k28c2 : Code := { maxStack := 2, maxLocals := 2, code := jdk_29_method_69_code, exceptionTable := #[], attributes := #[] }
def k28m2 : Method := { name := "min", desc := "(II)I", sig := { parameters := [.int, .int], returnType := some .int }, accessFlags := 9, code := some k28c2 }
/-- java/lang/Math -/
def k28 : Class := { plain "java/lang/Math" (some 0) with
  accessFlags := 49
  interfaces := #[]
  cf := some (fileOf pool28 1 #[.nestMembers #[98]] #[{ accessFlags := 2, nameIndex := 7, descriptorIndex := 8, attributes := #[] }, { accessFlags := 9, nameIndex := 198, descriptorIndex := 335, attributes := #[] }, { accessFlags := 9, nameIndex := 201, descriptorIndex := 335, attributes := #[] }] 49 4 #[] #[{ accessFlags := 25, nameIndex := 354, descriptorIndex := 339, attributes := #[] }, { accessFlags := 25, nameIndex := 358, descriptorIndex := 339, attributes := #[] }, { accessFlags := 25, nameIndex := 361, descriptorIndex := 339, attributes := #[] }, { accessFlags := 26, nameIndex := 364, descriptorIndex := 339, attributes := #[] }, { accessFlags := 26, nameIndex := 365, descriptorIndex := 339, attributes := #[] }, { accessFlags := 26, nameIndex := 172, descriptorIndex := 173, attributes := #[] }, { accessFlags := 26, nameIndex := 176, descriptorIndex := 173, attributes := #[] }, { accessFlags := 8, nameIndex := 344, descriptorIndex := 339, attributes := #[] }, { accessFlags := 8, nameIndex := 338, descriptorIndex := 339, attributes := #[] }, { accessFlags := 4120, nameIndex := 245, descriptorIndex := 246, attributes := #[] }])
  fields := #[{ name := "E", type := .double, accessFlags := 25, slot := 0, constantValue := 0 }, { name := "PI", type := .double, accessFlags := 25, slot := 1, constantValue := 0 }, { name := "TAU", type := .double, accessFlags := 25, slot := 2, constantValue := 0 }, { name := "DEGREES_TO_RADIANS", type := .double, accessFlags := 26, slot := 3, constantValue := 0 }, { name := "RADIANS_TO_DEGREES", type := .double, accessFlags := 26, slot := 4, constantValue := 0 }, { name := "negativeZeroFloatBits", type := .long, accessFlags := 26, slot := 5, constantValue := 0 }, { name := "negativeZeroDoubleBits", type := .long, accessFlags := 26, slot := 6, constantValue := 0 }, { name := "twoToTheDoubleScaleUp", type := .double, accessFlags := 8, slot := 7, constantValue := 0 }, { name := "twoToTheDoubleScaleDown", type := .double, accessFlags := 8, slot := 8, constantValue := 0 }, { name := "$assertionsDisabled", type := .boolean, accessFlags := 4120, slot := 9, constantValue := 0 }]
  methods := #[k28m0, k28m1, k28m2]
  instanceTypes := #[]
  staticTypes := #[.double, .double, .double, .double, .double, .long, .long, .double, .double, .boolean]
  resolved := Array.replicate 460 none
  statics := none }

def pool29 : Array CpInfo := pool [(1, .class_ 2), (0, u "com/example/foyer/foyer/Layout"), (2, u "<init>"), (2, .class_ 10), (1, u "com/example/foyer/foyer/LamportFast"), (0, u "(ILcom/example/foyer/foyer/Layout;Lcom/example/foyer/foyer/Layout$RegisterArray;)V"), (0, .methodref 13 14), (0, .class_ 15), (0, .nameAndType 5 16), (0, u "com/example/foyer/foyer/Algorithm"), (0, u "(IILcom/example/foyer/foyer/Layout;)V"), (0, .methodref 8 18), (0, .nameAndType 19 20), (0, u "layout"), (0, u "()Lcom/example/foyer/foyer/Layout;"), (0, .string 22), (0, u "x"), (0, .methodref 1 24), (0, .nameAndType 25 26), (0, u "scalar"), (0, u "(Ljava/lang/String;I)I"), (0, .fieldref 8 28), (0, .nameAndType 22 29), (0, u "I"), (0, .string 31), (0, u "y"), (0, .fieldref 8 33), (0, .nameAndType 31 29), (0, .string 35), (0, u "b"), (0, .methodref 1 37), (0, .nameAndType 38 39), (0, u "array"), (0, u "(Ljava/lang/String;III)Lcom/example/foyer/foyer/Layout$RegisterArray;"), (0, .fieldref 8 41), (0, .nameAndType 35 42), (0, u "Lcom/example/foyer/foyer/Layout$RegisterArray;"), (0, .fieldref 8 44), (0, .nameAndType 45 42), (0, u "list"), (40, u "START"), (2, u "WRITE_X"), (1, u "TEST_Y"), (1, u "BACK_OFF"), (1, u "AWAIT_FREE"), (1, u "WRITE_Y"), (1, u "TEST_X"), (1, u "LOWER_FLAG"), (1, u "AWAIT_FLAGS"), (1, u "READ_NEXT"), (1, u "AWAIT_LISTED"), (1, u "TEST_Y_AGAIN"), (1, u "AWAIT_FREE_AGAIN"), (1, u "CRITICAL"), (1, u "LOWER_FLAG_ON_EXIT"), (1, u "J")] 13

def k29c0 : Code := { maxStack := 6, maxLocals := 4, code := prog_32_method_2_code, exceptionTable := #[], attributes := #[] }
def k29m0 : Method := { name := "<init>", desc := "(ILcom/example/foyer/foyer/Layout;Lcom/example/foyer/foyer/Layout$RegisterArray;)V", sig := { parameters := [.int, (.object "com/example/foyer/foyer/Layout"), (.object "com/example/foyer/foyer/Layout$RegisterArray")], returnType := none }, accessFlags := 0, code := some k29c0 }
/-- com/example/foyer/foyer/LamportFast -/
def k29 : Class := { plain "com/example/foyer/foyer/LamportFast" (some 2) with
  accessFlags := 48
  interfaces := #[]
  cf := some (fileOf pool29 8 #[] #[{ accessFlags := 0, nameIndex := 5, descriptorIndex := 11, attributes := #[] }] 48 13 #[] #[{ accessFlags := 26, nameIndex := 86, descriptorIndex := 29, attributes := #[] }, { accessFlags := 26, nameIndex := 89, descriptorIndex := 29, attributes := #[] }, { accessFlags := 26, nameIndex := 91, descriptorIndex := 29, attributes := #[] }, { accessFlags := 26, nameIndex := 93, descriptorIndex := 29, attributes := #[] }, { accessFlags := 26, nameIndex := 95, descriptorIndex := 29, attributes := #[] }, { accessFlags := 26, nameIndex := 97, descriptorIndex := 29, attributes := #[] }, { accessFlags := 26, nameIndex := 99, descriptorIndex := 29, attributes := #[] }, { accessFlags := 26, nameIndex := 101, descriptorIndex := 29, attributes := #[] }, { accessFlags := 26, nameIndex := 103, descriptorIndex := 29, attributes := #[] }, { accessFlags := 26, nameIndex := 105, descriptorIndex := 29, attributes := #[] }, { accessFlags := 26, nameIndex := 107, descriptorIndex := 29, attributes := #[] }, { accessFlags := 26, nameIndex := 109, descriptorIndex := 29, attributes := #[] }, { accessFlags := 26, nameIndex := 111, descriptorIndex := 29, attributes := #[] }, { accessFlags := 26, nameIndex := 113, descriptorIndex := 29, attributes := #[] }, { accessFlags := 26, nameIndex := 115, descriptorIndex := 29, attributes := #[] }, { accessFlags := 26, nameIndex := 117, descriptorIndex := 29, attributes := #[] }, { accessFlags := 18, nameIndex := 22, descriptorIndex := 29, attributes := #[] }, { accessFlags := 18, nameIndex := 31, descriptorIndex := 29, attributes := #[] }, { accessFlags := 18, nameIndex := 35, descriptorIndex := 42, attributes := #[] }, { accessFlags := 18, nameIndex := 45, descriptorIndex := 42, attributes := #[] }])
  fields := #[{ name := "START", type := .int, accessFlags := 26, slot := 0, constantValue := 0 }, { name := "WRITE_X", type := .int, accessFlags := 26, slot := 1, constantValue := 0 }, { name := "TEST_Y", type := .int, accessFlags := 26, slot := 2, constantValue := 0 }, { name := "BACK_OFF", type := .int, accessFlags := 26, slot := 3, constantValue := 0 }, { name := "AWAIT_FREE", type := .int, accessFlags := 26, slot := 4, constantValue := 0 }, { name := "WRITE_Y", type := .int, accessFlags := 26, slot := 5, constantValue := 0 }, { name := "TEST_X", type := .int, accessFlags := 26, slot := 6, constantValue := 0 }, { name := "LOWER_FLAG", type := .int, accessFlags := 26, slot := 7, constantValue := 0 }, { name := "AWAIT_FLAGS", type := .int, accessFlags := 26, slot := 8, constantValue := 0 }, { name := "READ_NEXT", type := .int, accessFlags := 26, slot := 9, constantValue := 0 }, { name := "AWAIT_LISTED", type := .int, accessFlags := 26, slot := 10, constantValue := 0 }, { name := "TEST_Y_AGAIN", type := .int, accessFlags := 26, slot := 11, constantValue := 0 }, { name := "AWAIT_FREE_AGAIN", type := .int, accessFlags := 26, slot := 12, constantValue := 0 }, { name := "CRITICAL", type := .int, accessFlags := 26, slot := 13, constantValue := 0 }, { name := "LOWER_FLAG_ON_EXIT", type := .int, accessFlags := 26, slot := 14, constantValue := 0 }, { name := "J", type := .int, accessFlags := 26, slot := 15, constantValue := 0 }, { name := "x", type := .int, accessFlags := 18, slot := 3, constantValue := 0 }, { name := "y", type := .int, accessFlags := 18, slot := 4, constantValue := 0 }, { name := "b", type := (.object "com/example/foyer/foyer/Layout$RegisterArray"), accessFlags := 18, slot := 5, constantValue := 0 }, { name := "list", type := (.object "com/example/foyer/foyer/Layout$RegisterArray"), accessFlags := 18, slot := 6, constantValue := 0 }]
  methods := #[k29m0]
  instanceTypes := #[.int, .int, (.object "com/example/foyer/foyer/Layout"), .int, .int, (.object "com/example/foyer/foyer/Layout$RegisterArray"), (.object "com/example/foyer/foyer/Layout$RegisterArray")]
  staticTypes := #[.int, .int, .int, .int, .int, .int, .int, .int, .int, .int, .int, .int, .int, .int, .int, .int]
  resolved := Array.replicate 131 none
  statics := none }

def pool30 : Array CpInfo := pool [(2, .class_ 4), (1, u "java/lang/Object"), (0, u "<init>"), (0, u "()V"), (35, .class_ 44), (1, u "java/util/Objects"), (60, .methodref 106 107), (0, .class_ 108), (0, .nameAndType 109 110), (0, u "jdk/internal/util/Preconditions"), (0, u "checkIndex"), (0, u "(IILjava/util/function/BiFunction;)I"), (60, u "(II)I")] 12

def k30m0 : Method := { name := "<init>", desc := "()V", sig := { parameters := [], returnType := none }, accessFlags := 2, code := none }
def k30c1 : Code := { maxStack := 3, maxLocals := 2, code := jdk_31_method_17_code, exceptionTable := #[], attributes := #[] }
def k30m1 : Method := { name := "checkIndex", desc := "(II)I", sig := { parameters := [.int, .int], returnType := some .int }, accessFlags := 9, code := some k30c1 }
/-- java/util/Objects -/
def k30 : Class := { plain "java/util/Objects" (some 0) with
  accessFlags := 49
  interfaces := #[]
  cf := some (fileOf pool30 42 #[] #[{ accessFlags := 2, nameIndex := 5, descriptorIndex := 6, attributes := #[] }, { accessFlags := 9, nameIndex := 109, descriptorIndex := 171, attributes := #[] }] 49 2 #[] #[])
  fields := #[]
  methods := #[k30m0, k30m1]
  instanceTypes := #[]
  staticTypes := #[]
  resolved := Array.replicate 184 none
  statics := none }

def pool31 : Array CpInfo := pool [(2, .class_ 4), (1, u "java/lang/Object"), (0, u "<init>"), (0, u "()V"), (17, .class_ 26), (1, u "jdk/internal/util/Preconditions"), (6, u "checkIndex"), (21, .class_ 56), (0, u "jdk/internal/util/Preconditions$4"), (57, .class_ 115), (0, u "jdk/internal/util/Preconditions$1"), (7, u "SIOOBE_FORMATTER"), (0, u "Ljava/util/function/BiFunction;"), (0, .class_ 126), (0, u "jdk/internal/util/Preconditions$2"), (3, u "AIOOBE_FORMATTER"), (0, .class_ 132), (0, u "jdk/internal/util/Preconditions$3"), (3, u "IOOBE_FORMATTER"), (41, u "(IILjava/util/function/BiFunction;)I")] 15

def k31m0 : Method := { name := "<init>", desc := "()V", sig := { parameters := [], returnType := none }, accessFlags := 1, code := none }
def k31c1 : Code := { maxStack := 3, maxLocals := 3, code := jdk_41_method_11_code, exceptionTable := #[], attributes := #[] }
def k31m1 : Method := { name := "checkIndex", desc := "(IILjava/util/function/BiFunction;)I", sig := { parameters := [.int, .int, (.object "java/util/function/BiFunction")], returnType := some .int }, accessFlags := 9, code := some k31c1 }
/-- jdk/internal/util/Preconditions -/
def k31 : Class := { plain "jdk/internal/util/Preconditions" (some 0) with
  accessFlags := 33
  interfaces := #[]
  cf := some (fileOf pool31 24 #[.nestMembers #[55, 131, 125, 114]] #[{ accessFlags := 1, nameIndex := 5, descriptorIndex := 6, attributes := #[] }, { accessFlags := 9, nameIndex := 33, descriptorIndex := 178, attributes := #[] }] 33 2 #[] #[{ accessFlags := 25, nameIndex := 123, descriptorIndex := 124, attributes := #[] }, { accessFlags := 25, nameIndex := 130, descriptorIndex := 124, attributes := #[] }, { accessFlags := 25, nameIndex := 136, descriptorIndex := 124, attributes := #[] }])
  fields := #[{ name := "SIOOBE_FORMATTER", type := (.object "java/util/function/BiFunction"), accessFlags := 25, slot := 0, constantValue := 0 }, { name := "AIOOBE_FORMATTER", type := (.object "java/util/function/BiFunction"), accessFlags := 25, slot := 1, constantValue := 0 }, { name := "IOOBE_FORMATTER", type := (.object "java/util/function/BiFunction"), accessFlags := 25, slot := 2, constantValue := 0 }]
  methods := #[k31m0, k31m1]
  instanceTypes := #[]
  staticTypes := #[(.object "java/util/function/BiFunction"), (.object "java/util/function/BiFunction"), (.object "java/util/function/BiFunction")]
  resolved := Array.replicate 194 none
  statics := some 2 }

def pool32 : Array CpInfo := pool [(4, .class_ 6), (1, u "java/lang/Object"), (0, u "<init>"), (0, u "()V"), (5, .class_ 16), (1, u "java/lang/StringLatin1"), (104, u "$assertionsDisabled"), (0, u "Z"), (98, .class_ 223), (1, u "java/lang/StringLatin1$LinesSpliterator"), (166, .class_ 391), (0, u "java/lang/StringLatin1$CharsSpliterator")] 3

def k32m0 : Method := { name := "<init>", desc := "()V", sig := { parameters := [], returnType := none }, accessFlags := 0, code := none }
/-- java/lang/StringLatin1 -/
def k32 : Class := { plain "java/lang/StringLatin1" (some 0) with
  accessFlags := 48
  interfaces := #[]
  cf := some (fileOf pool32 14 #[.nestMembers #[390, 221]] #[{ accessFlags := 0, nameIndex := 7, descriptorIndex := 8, attributes := #[] }] 48 4 #[] #[{ accessFlags := 4120, nameIndex := 121, descriptorIndex := 122, attributes := #[] }])
  fields := #[{ name := "$assertionsDisabled", type := .boolean, accessFlags := 4120, slot := 0, constantValue := 0 }]
  methods := #[k32m0]
  instanceTypes := #[]
  staticTypes := #[.boolean]
  resolved := Array.replicate 395 none
  statics := none }

def pool33 : Array CpInfo := pool [(9, u "<init>"), (6, .class_ 18), (1, u "java/lang/Object"), (0, u "()V"), (1, .class_ 23), (1, u "jdk/internal/util/ArraysSupport"), (0, u "LOG2_ARRAY_LONG_INDEX_SCALE"), (0, u "I"), (2, u "U"), (0, u "Ljdk/internal/misc/Unsafe;"), (8, u "BIG_ENDIAN"), (0, u "Z"), (8, u "LOG2_BYTE_BIT_SIZE"), (4, u "LOG2_ARRAY_INT_INDEX_SCALE"), (54, u "JLA"), (0, u "Ljdk/internal/access/JavaLangAccess;"), (11, u "LOG2_ARRAY_BOOLEAN_INDEX_SCALE"), (9, u "LOG2_ARRAY_BYTE_INDEX_SCALE"), (5, u "LOG2_ARRAY_CHAR_INDEX_SCALE"), (5, u "LOG2_ARRAY_SHORT_INDEX_SCALE"), (18, u "LOG2_ARRAY_FLOAT_INDEX_SCALE"), (24, u "LOG2_ARRAY_DOUBLE_INDEX_SCALE"), (89, u "T_BOOLEAN"), (2, u "T_CHAR"), (1, u "T_FLOAT"), (1, u "T_DOUBLE"), (1, u "T_BYTE"), (1, u "T_SHORT"), (1, u "T_INT"), (1, u "T_LONG"), (1, u "SOFT_MAX_ARRAY_LENGTH")] 83

def k33m0 : Method := { name := "<init>", desc := "()V", sig := { parameters := [], returnType := none }, accessFlags := 2, code := none }
/-- jdk/internal/util/ArraysSupport -/
def k33 : Class := { plain "jdk/internal/util/ArraysSupport" (some 0) with
  accessFlags := 33
  interfaces := #[]
  cf := some (fileOf pool33 21 #[] #[{ accessFlags := 2, nameIndex := 9, descriptorIndex := 19, attributes := #[] }] 33 16 #[] #[{ accessFlags := 24, nameIndex := 28, descriptorIndex := 29, attributes := #[] }, { accessFlags := 26, nameIndex := 38, descriptorIndex := 39, attributes := #[] }, { accessFlags := 25, nameIndex := 121, descriptorIndex := 25, attributes := #[] }, { accessFlags := 25, nameIndex := 131, descriptorIndex := 25, attributes := #[] }, { accessFlags := 25, nameIndex := 137, descriptorIndex := 25, attributes := #[] }, { accessFlags := 25, nameIndex := 143, descriptorIndex := 25, attributes := #[] }, { accessFlags := 25, nameIndex := 53, descriptorIndex := 25, attributes := #[] }, { accessFlags := 25, nameIndex := 24, descriptorIndex := 25, attributes := #[] }, { accessFlags := 25, nameIndex := 162, descriptorIndex := 25, attributes := #[] }, { accessFlags := 25, nameIndex := 187, descriptorIndex := 25, attributes := #[] }, { accessFlags := 26, nameIndex := 48, descriptorIndex := 25, attributes := #[] }, { accessFlags := 25, nameIndex := 277, descriptorIndex := 25, attributes := #[] }, { accessFlags := 25, nameIndex := 280, descriptorIndex := 25, attributes := #[] }, { accessFlags := 25, nameIndex := 282, descriptorIndex := 25, attributes := #[] }, { accessFlags := 25, nameIndex := 284, descriptorIndex := 25, attributes := #[] }, { accessFlags := 25, nameIndex := 286, descriptorIndex := 25, attributes := #[] }, { accessFlags := 25, nameIndex := 288, descriptorIndex := 25, attributes := #[] }, { accessFlags := 25, nameIndex := 290, descriptorIndex := 25, attributes := #[] }, { accessFlags := 25, nameIndex := 292, descriptorIndex := 25, attributes := #[] }, { accessFlags := 26, nameIndex := 108, descriptorIndex := 109, attributes := #[] }, { accessFlags := 25, nameIndex := 294, descriptorIndex := 25, attributes := #[] }])
  fields := #[{ name := "U", type := (.object "jdk/internal/misc/Unsafe"), accessFlags := 24, slot := 0, constantValue := 0 }, { name := "BIG_ENDIAN", type := .boolean, accessFlags := 26, slot := 1, constantValue := 0 }, { name := "LOG2_ARRAY_BOOLEAN_INDEX_SCALE", type := .int, accessFlags := 25, slot := 2, constantValue := 0 }, { name := "LOG2_ARRAY_BYTE_INDEX_SCALE", type := .int, accessFlags := 25, slot := 3, constantValue := 0 }, { name := "LOG2_ARRAY_CHAR_INDEX_SCALE", type := .int, accessFlags := 25, slot := 4, constantValue := 0 }, { name := "LOG2_ARRAY_SHORT_INDEX_SCALE", type := .int, accessFlags := 25, slot := 5, constantValue := 0 }, { name := "LOG2_ARRAY_INT_INDEX_SCALE", type := .int, accessFlags := 25, slot := 6, constantValue := 0 }, { name := "LOG2_ARRAY_LONG_INDEX_SCALE", type := .int, accessFlags := 25, slot := 7, constantValue := 0 }, { name := "LOG2_ARRAY_FLOAT_INDEX_SCALE", type := .int, accessFlags := 25, slot := 8, constantValue := 0 }, { name := "LOG2_ARRAY_DOUBLE_INDEX_SCALE", type := .int, accessFlags := 25, slot := 9, constantValue := 0 }, { name := "LOG2_BYTE_BIT_SIZE", type := .int, accessFlags := 26, slot := 10, constantValue := 0 }, { name := "T_BOOLEAN", type := .int, accessFlags := 25, slot := 11, constantValue := 0 }, { name := "T_CHAR", type := .int, accessFlags := 25, slot := 12, constantValue := 0 }, { name := "T_FLOAT", type := .int, accessFlags := 25, slot := 13, constantValue := 0 }, { name := "T_DOUBLE", type := .int, accessFlags := 25, slot := 14, constantValue := 0 }, { name := "T_BYTE", type := .int, accessFlags := 25, slot := 15, constantValue := 0 }, { name := "T_SHORT", type := .int, accessFlags := 25, slot := 16, constantValue := 0 }, { name := "T_INT", type := .int, accessFlags := 25, slot := 17, constantValue := 0 }, { name := "T_LONG", type := .int, accessFlags := 25, slot := 18, constantValue := 0 }, { name := "JLA", type := (.object "jdk/internal/access/JavaLangAccess"), accessFlags := 26, slot := 19, constantValue := 0 }, { name := "SOFT_MAX_ARRAY_LENGTH", type := .int, accessFlags := 25, slot := 20, constantValue := 0 }]
  methods := #[k33m0]
  instanceTypes := #[]
  staticTypes := #[(.object "jdk/internal/misc/Unsafe"), .boolean, .int, .int, .int, .int, .int, .int, .int, .int, .int, .int, .int, .int, .int, .int, .int, .int, .int, (.object "jdk/internal/access/JavaLangAccess"), .int]
  resolved := Array.replicate 378 none
  statics := none }

/-- the primitive byte -/
def k34 : Class := { plain "byte" none with kind := .primitive 'B', accessFlags := 0x411 }
/-- [B -/
def k35 : Class := { plain "[B" (some 0) with kind := .array 34 .byte, interfaces := #[13, 14], accessFlags := 1041 }

/-- the primitive int -/
def k36 : Class := { plain "int" none with kind := .primitive 'I', accessFlags := 0x411 }
/-- [I -/
def k37 : Class := { plain "[I" (some 0) with kind := .array 36 .int, interfaces := #[13, 14], accessFlags := 1041 }

/-- [Ljava/lang/Object; -/
def k38 : Class := { plain "[Ljava/lang/Object;" (some 0) with kind := .array 0 (.object "java/lang/Object"), interfaces := #[13, 14], accessFlags := 1041 }

def classes0 : Array Class := #[k0, k1, k2, k3, k4, k5, k6, k7, k8, k9, k10, k11, k12, k13, k14, k15, k16, k17, k18, k19, k20, k21, k22, k23, k24, k25, k26, k27, k28, k29, k30, k31, k32, k33, k34, k35, k36, k37, k38]
/-- the class that the rule has made for the site at 35 of com/example/foyer/foyer/MerrittTaubenfeld.<init> -/
def k39 : Class := Jvm.LamKit.madeRec { classes := classes0 } "com/example/foyer/foyer/MerrittTaubenfeld" (Jvm.Lambda.Shape.mk "java/util/function/IntUnaryOperator" "applyAsInt" (Jvm.ClassFile.MethodDescriptor.mk ([Jvm.ClassFile.FieldType.int] : List Jvm.ClassFile.FieldType) (Option.some Jvm.ClassFile.FieldType.int)) ([Jvm.ClassFile.FieldType.int] : List Jvm.ClassFile.FieldType) (6 : Nat) "com/example/foyer/foyer/MerrittTaubenfeld" "lambda$new$0" (Jvm.ClassFile.MethodDescriptor.mk ([Jvm.ClassFile.FieldType.int, Jvm.ClassFile.FieldType.int] : List Jvm.ClassFile.FieldType) (Option.some Jvm.ClassFile.FieldType.int)) false (Jvm.ClassFile.MethodDescriptor.mk ([Jvm.ClassFile.FieldType.int] : List Jvm.ClassFile.FieldType) (Option.some Jvm.ClassFile.FieldType.int))) 39

/-- the class that the rule has made for the site at 5 of com/example/foyer/foyer/Layout.scalar -/
def k40 : Class := Jvm.LamKit.madeRec { classes := classes0 } "com/example/foyer/foyer/Layout" (Jvm.Lambda.Shape.mk "java/util/function/IntUnaryOperator" "applyAsInt" (Jvm.ClassFile.MethodDescriptor.mk ([Jvm.ClassFile.FieldType.int] : List Jvm.ClassFile.FieldType) (Option.some Jvm.ClassFile.FieldType.int)) ([Jvm.ClassFile.FieldType.int] : List Jvm.ClassFile.FieldType) (6 : Nat) "com/example/foyer/foyer/Layout" "lambda$scalar$0" (Jvm.ClassFile.MethodDescriptor.mk ([Jvm.ClassFile.FieldType.int, Jvm.ClassFile.FieldType.int] : List Jvm.ClassFile.FieldType) (Option.some Jvm.ClassFile.FieldType.int)) false (Jvm.ClassFile.MethodDescriptor.mk ([Jvm.ClassFile.FieldType.int] : List Jvm.ClassFile.FieldType) (Option.some Jvm.ClassFile.FieldType.int))) 40

/-- the class that the rule has made for the site at 6 of com/example/foyer/foyer/Layout.array -/
def k41 : Class := Jvm.LamKit.madeRec { classes := classes0 } "com/example/foyer/foyer/Layout" (Jvm.Lambda.Shape.mk "java/util/function/IntUnaryOperator" "applyAsInt" (Jvm.ClassFile.MethodDescriptor.mk ([Jvm.ClassFile.FieldType.int] : List Jvm.ClassFile.FieldType) (Option.some Jvm.ClassFile.FieldType.int)) ([Jvm.ClassFile.FieldType.int] : List Jvm.ClassFile.FieldType) (6 : Nat) "com/example/foyer/foyer/Layout" "lambda$array$1" (Jvm.ClassFile.MethodDescriptor.mk ([Jvm.ClassFile.FieldType.int, Jvm.ClassFile.FieldType.int] : List Jvm.ClassFile.FieldType) (Option.some Jvm.ClassFile.FieldType.int)) false (Jvm.ClassFile.MethodDescriptor.mk ([Jvm.ClassFile.FieldType.int] : List Jvm.ClassFile.FieldType) (Option.some Jvm.ClassFile.FieldType.int))) 41

def heap : Heap := #[{ cls := 15, slots := #[.long 0, .int 0, .ref 3, .ref 4], vm := .statics 15 },
  { cls := 20, slots := #[.long 0, .int 1, .null, .int 0, .null, .int 0, .int 0], vm := .statics 20 },
  { cls := 31, slots := #[.null, .null, .null], vm := .statics 31 },
  { cls := 38, slots := #[], vm := .none },
  { cls := 38, slots := #[], vm := .none }]
def classes : Array Class := #[k0, k1, k2, k3, k4, k5, k6, k7, k8, k9, k10, k11, k12, k13, k14, k15, k16, k17, k18, k19, k20, k21, k22, k23, k24, k25, k26, k27, k28, k29, k30, k31, k32, k33, k34, k35, k36, k37, k38, k39, k40, k41]
def interned : List (Array UInt16 × Addr) := []
def slotsUsed : Nat := 14
def theMethod : MethodId := ⟨1, 1⟩
def args0 : Array Value := #[.int 5, .int 5, .int 5, .int 5]
def aboutOver (below : List Frame) : State where
  vm := { classes := classes, interned := interned.toArray }
  heap := heap
  slotsUsed := slotsUsed
  threads := #[{ frames := .invoking theMethod args0 :: below }]
def below0 : List Frame := [.native { method := ⟨0, 0⟩, args := #[] }]
def about1 : State := aboutOver below0
def p0 : Program := .bare "" "" ""
def e0 : Env := launch0.env 0 0 0
theorem w_frames : about1.frames = Frame.invoking theMethod args0 :: below0 := rfl
set_option maxRecDepth 65536 in
theorem w_args : argsFit about1.vm theMethod args0 = true := by decide +kernel
set_option maxRecDepth 65536 in
theorem w_heap : heapFits about1 = true := by decide +kernel
set_option maxRecDepth 65536 in
theorem w_runnable : about1.curStatus? = some .runnable := by decide +kernel
set_option maxRecDepth 65536 in
theorem w_alone : about1.alone = true := by decide +kernel
set_option maxRecDepth 65536 in
theorem w_named : about1.methodNamed? x = some theMethod := by decide +kernel
set_option maxRecDepth 65536 in
theorem w_hears : about1.hears theMethod below0 = true := by decide +kernel
set_option maxRecDepth 65536 in
theorem w_ripe : about1.ripe theMethod args0 below0 = true := by decide +kernel
theorem w_running : about1.status = .running := rfl
set_option maxRecDepth 65536 in
theorem w_room : about1.hasRoom e0.platform room_1 = true :=
  launch0.hasRoom_least _ room_1 (by decide +kernel) (by decide +kernel) (by decide +kernel) (by decide +kernel) (by decide +kernel) (by decide +kernel)
theorem allAtoms_all (ts : List Jvm.Cond) (a : Array Jvm.Value) (st : Jvm.State) : (allAtoms ts).before a st = ts.all (fun c => c.before a st) := by
  induction ts with
  | nil => rfl
  | cons c t ih =>
    show (Jvm.Cond.and c (allAtoms t)).before a st = _
    rw [Jvm.Cond.before_and, ih, List.all_cons]
def words1 : List Jvm.Cond := Jvm.Cond.code x code maxLocals ret :: tables_1
/-- a 'code' word, met by the world's own term for the bytes: nothing is compared byte by byte -/
theorem code_word {y : MethodName} {bytes : ByteArray} {mx : Nat} {rt : Option FieldType} {a : Array Value} {s : State} {m : MethodId} {meth : Method} {c : Code} (h1 : s.methodNamed? y = some m) (h2 : s.vm.method? m = some meth) (h3 : meth.code = some c) (h4 : c.code = bytes)
    (h5 : (c.maxLocals == mx && c.exceptionTable.isEmpty && decide (c.maxStack ≤ mostOperands) && decide (meth.sig.returnType = rt) && !meth.locks && decide (parseMethodDescriptor y.desc = some meth.sig)) = true) : (Jvm.Cond.code y bytes mx rt).before a s = true := by
  simp only [Bool.and_eq_true, beq_iff_eq, Bool.not_eq_true', decide_eq_true_eq] at h5
  obtain ⟨⟨⟨⟨⟨g1, g2⟩, g3⟩, g4⟩, g5⟩, g6⟩ := h5
  simp [Cond.before, Cond.holds, Cond.value, h1, h2, h3, h4, g1, g2, g3, g4, g5, g6]
def isCode : Jvm.Cond → Bool
  | .code _ _ _ _ => true
  | _ => false
theorem all_split {L : List Jvm.Cond} {P : Jvm.Cond → Bool} (h1 : L.all (fun c => isCode c || P c) = true) (h2 : ∀ c ∈ L.filter isCode, P c = true) : L.all P = true := by
  refine List.all_eq_true.mpr fun c hc => ?_
  have h := List.all_eq_true.mp h1 c hc
  rcases Bool.eq_false_or_eq_true (isCode c) with hi | hi
  · exact h2 c (List.mem_filter.mpr ⟨hc, hi⟩)
  · simpa [hi] using h
set_option maxRecDepth 65536 in
theorem w_c0 : (Jvm.Cond.code x code maxLocals ret).before args0 about1 = true := code_word (m := ⟨1, 1⟩) (meth := k1m1) (c := k1c1) (by decide +kernel) rfl rfl rfl (by decide +kernel)
set_option maxRecDepth 65536 in
theorem w_c1 : (Jvm.Cond.code ({ cls := "com/example/foyer/foyer/Registration", name := "<init>", desc := "(IZ)V" } : Jvm.MethodName) prog_50_method_1_code (3 : Nat) (Option.none : Option Jvm.ClassFile.FieldType)).before args0 about1 = true := code_word (m := ⟨4, 0⟩) (meth := k4m0) (c := k4c0) (by decide +kernel) rfl rfl rfl (by decide +kernel)
set_option maxRecDepth 65536 in
theorem w_c2 : (Jvm.Cond.code ({ cls := "java/lang/Object", name := "<init>", desc := "()V" } : Jvm.MethodName) object_method_1_code (1 : Nat) (Option.none : Option Jvm.ClassFile.FieldType)).before args0 about1 = true := code_word (m := ⟨0, 0⟩) (meth := k0m0) (c := k0c0) (by decide +kernel) rfl rfl rfl (by decide +kernel)
set_option maxRecDepth 65536 in
theorem w_c3 : (Jvm.Cond.code ({ cls := "com/example/foyer/foyer/MerrittTaubenfeld", name := "<init>", desc := "(ILcom/example/foyer/foyer/Registration;)V" } : Jvm.MethodName) prog_37_method_1_code (4 : Nat) (Option.none : Option Jvm.ClassFile.FieldType)).before args0 about1 = true := code_word (m := ⟨3, 0⟩) (meth := k3m0) (c := k3c0) (by decide +kernel) rfl rfl rfl (by decide +kernel)
set_option maxRecDepth 65536 in
theorem w_c4 : (Jvm.Cond.code ({ cls := "com/example/foyer/foyer/Algorithm", name := "<init>", desc := "(II)V" } : Jvm.MethodName) prog_3_method_1_code (3 : Nat) (Option.none : Option Jvm.ClassFile.FieldType)).before args0 about1 = true := code_word (m := ⟨2, 0⟩) (meth := k2m0) (c := k2c0) (by decide +kernel) rfl rfl rfl (by decide +kernel)
set_option maxRecDepth 65536 in
theorem w_c5 : (Jvm.Cond.code ({ cls := "com/example/foyer/foyer/Layout", name := "<init>", desc := "()V" } : Jvm.MethodName) prog_33_method_1_code (1 : Nat) (Option.none : Option Jvm.ClassFile.FieldType)).before args0 about1 = true := code_word (m := ⟨5, 0⟩) (meth := k5m0) (c := k5c0) (by decide +kernel) rfl rfl rfl (by decide +kernel)
set_option maxRecDepth 65536 in
theorem w_c6 : (Jvm.Cond.code ({ cls := "java/util/ArrayList", name := "<init>", desc := "()V" } : Jvm.MethodName) jdk_38_method_2_code (1 : Nat) (Option.none : Option Jvm.ClassFile.FieldType)).before args0 about1 = true := code_word (m := ⟨15, 0⟩) (meth := k15m0) (c := k15c0) (by decide +kernel) rfl rfl rfl (by decide +kernel)
set_option maxRecDepth 65536 in
theorem w_c7 : (Jvm.Cond.code ({ cls := "java/util/AbstractList", name := "<init>", desc := "()V" } : Jvm.MethodName) jdk_39_method_1_code (1 : Nat) (Option.none : Option Jvm.ClassFile.FieldType)).before args0 about1 = true := code_word (m := ⟨11, 0⟩) (meth := k11m0) (c := k11c0) (by decide +kernel) rfl rfl rfl (by decide +kernel)
set_option maxRecDepth 65536 in
theorem w_c8 : (Jvm.Cond.code ({ cls := "java/util/AbstractCollection", name := "<init>", desc := "()V" } : Jvm.MethodName) jdk_22_method_1_code (1 : Nat) (Option.none : Option Jvm.ClassFile.FieldType)).before args0 about1 = true := code_word (m := ⟨8, 0⟩) (meth := k8m0) (c := k8c0) (by decide +kernel) rfl rfl rfl (by decide +kernel)
set_option maxRecDepth 65536 in
theorem w_c9 : (Jvm.Cond.code ({ cls := "com/example/foyer/foyer/Layout", name := "<init>", desc := "(Ljava/util/List;Ljava/lang/String;)V" } : Jvm.MethodName) prog_33_method_2_code (3 : Nat) (Option.none : Option Jvm.ClassFile.FieldType)).before args0 about1 = true := code_word (m := ⟨5, 1⟩) (meth := k5m1) (c := k5c1) (by decide +kernel) rfl rfl rfl (by decide +kernel)
set_option maxRecDepth 65536 in
theorem w_c10 : (Jvm.Cond.code ({ cls := "com/example/foyer/foyer/Algorithm", name := "<init>", desc := "(IILcom/example/foyer/foyer/Layout;)V" } : Jvm.MethodName) prog_3_method_2_code (4 : Nat) (Option.none : Option Jvm.ClassFile.FieldType)).before args0 about1 = true := code_word (m := ⟨2, 1⟩) (meth := k2m1) (c := k2c1) (by decide +kernel) rfl rfl rfl (by decide +kernel)
set_option maxRecDepth 65536 in
theorem w_c11 : (Jvm.Cond.code ({ cls := "com/example/foyer/foyer/Registration", name := "registered", desc := "()I" } : Jvm.MethodName) prog_50_method_2_code (1 : Nat) (Option.some Jvm.ClassFile.FieldType.int)).before args0 about1 = true := code_word (m := ⟨4, 1⟩) (meth := k4m1) (c := k4c1) (by decide +kernel) rfl rfl rfl (by decide +kernel)
set_option maxRecDepth 65536 in
theorem w_c12 : (Jvm.Cond.code ({ cls := "com/example/foyer/foyer/Registration", name := "churn", desc := "()Z" } : Jvm.MethodName) prog_50_method_3_code (1 : Nat) (Option.some Jvm.ClassFile.FieldType.boolean)).before args0 about1 = true := code_word (m := ⟨4, 2⟩) (meth := k4m2) (c := k4c2) (by decide +kernel) rfl rfl rfl (by decide +kernel)
set_option maxRecDepth 65536 in
theorem w_c13 : (Jvm.Cond.code ({ cls := "com/example/foyer/foyer/Algorithm", name := "layout", desc := "()Lcom/example/foyer/foyer/Layout;" } : Jvm.MethodName) prog_3_method_5_code (1 : Nat) (Option.some (Jvm.ClassFile.FieldType.object "com/example/foyer/foyer/Layout"))).before args0 about1 = true := code_word (m := ⟨2, 2⟩) (meth := k2m2) (c := k2c2) (by decide +kernel) rfl rfl rfl (by decide +kernel)
set_option maxRecDepth 65536 in
theorem w_c14 : (Jvm.Cond.code ({ cls := "com/example/foyer/foyer/Layout", name := "array", desc := "(Ljava/lang/String;IILjava/util/function/IntUnaryOperator;)Lcom/example/foyer/foyer/Layout$RegisterArray;" } : Jvm.MethodName) prog_33_method_6_code (5 : Nat) (Option.some (Jvm.ClassFile.FieldType.object "com/example/foyer/foyer/Layout$RegisterArray"))).before args0 about1 = true := code_word (m := ⟨5, 5⟩) (meth := k5m5) (c := k5c5) (by decide +kernel) rfl rfl rfl (by decide +kernel)
set_option maxRecDepth 65536 in
theorem w_c15 : (Jvm.Cond.code ({ cls := "com/example/foyer/foyer/Layout", name := "declare", desc := "(Ljava/lang/String;IILjava/util/function/IntUnaryOperator;Z)Lcom/example/foyer/foyer/Layout$RegisterArray;" } : Jvm.MethodName) prog_33_method_10_code (7 : Nat) (Option.some (Jvm.ClassFile.FieldType.object "com/example/foyer/foyer/Layout$RegisterArray"))).before args0 about1 = true := code_word (m := ⟨5, 7⟩) (meth := k5m7) (c := k5c7) (by decide +kernel) rfl rfl rfl (by decide +kernel)
set_option maxRecDepth 65536 in
theorem w_c16 : (Jvm.Cond.code ({ cls := "java/lang/StringBuilder", name := "<init>", desc := "()V" } : Jvm.MethodName) jdk_67_method_1_code (1 : Nat) (Option.none : Option Jvm.ClassFile.FieldType)).before args0 about1 = true := code_word (m := ⟨25, 0⟩) (meth := k25m0) (c := k25c0) (by decide +kernel) rfl rfl rfl (by decide +kernel)
set_option maxRecDepth 65536 in
theorem w_c17 : (Jvm.Cond.code ({ cls := "java/lang/AbstractStringBuilder", name := "<init>", desc := "(I)V" } : Jvm.MethodName) jdk_68_method_2_code (2 : Nat) (Option.none : Option Jvm.ClassFile.FieldType)).before args0 about1 = true := code_word (m := ⟨24, 1⟩) (meth := k24m1) (c := k24c1) (by decide +kernel) rfl rfl rfl (by decide +kernel)
set_option maxRecDepth 65536 in
theorem w_c18 : (Jvm.Cond.code ({ cls := "java/lang/StringBuilder", name := "append", desc := "(Ljava/lang/String;)Ljava/lang/StringBuilder;" } : Jvm.MethodName) jdk_67_method_7_code (2 : Nat) (Option.some (Jvm.ClassFile.FieldType.object "java/lang/StringBuilder"))).before args0 about1 = true := code_word (m := ⟨25, 1⟩) (meth := k25m1) (c := k25c1) (by decide +kernel) rfl rfl rfl (by decide +kernel)
set_option maxRecDepth 65536 in
theorem w_c19 : (Jvm.Cond.code ({ cls := "java/lang/AbstractStringBuilder", name := "append", desc := "(Ljava/lang/String;)Ljava/lang/AbstractStringBuilder;" } : Jvm.MethodName) jdk_68_method_22_code (3 : Nat) (Option.some (Jvm.ClassFile.FieldType.object "java/lang/AbstractStringBuilder"))).before args0 about1 = true := code_word (m := ⟨24, 4⟩) (meth := k24m4) (c := k24c4) (by decide +kernel) rfl rfl rfl (by decide +kernel)
set_option maxRecDepth 65536 in
theorem w_c20 : (Jvm.Cond.code ({ cls := "java/lang/String", name := "length", desc := "()I" } : Jvm.MethodName) jdk_42_method_54_code (1 : Nat) (Option.some Jvm.ClassFile.FieldType.int)).before args0 about1 = true := code_word (m := ⟨20, 2⟩) (meth := k20m2) (c := k20c2) (by decide +kernel) rfl rfl rfl (by decide +kernel)
set_option maxRecDepth 65536 in
theorem w_c21 : (Jvm.Cond.code ({ cls := "java/lang/String", name := "coder", desc := "()B" } : Jvm.MethodName) jdk_42_method_152_code (1 : Nat) (Option.some Jvm.ClassFile.FieldType.byte)).before args0 about1 = true := code_word (m := ⟨20, 5⟩) (meth := k20m5) (c := k20c5) (by decide +kernel) rfl rfl rfl (by decide +kernel)
set_option maxRecDepth 65536 in
theorem w_c22 : (Jvm.Cond.code ({ cls := "java/lang/AbstractStringBuilder", name := "ensureCapacityInternal", desc := "(I)V" } : Jvm.MethodName) jdk_68_method_9_code (3 : Nat) (Option.none : Option Jvm.ClassFile.FieldType)).before args0 about1 = true := code_word (m := ⟨24, 3⟩) (meth := k24m3) (c := k24c3) (by decide +kernel) rfl rfl rfl (by decide +kernel)
set_option maxRecDepth 65536 in
theorem w_c23 : (Jvm.Cond.code ({ cls := "java/lang/AbstractStringBuilder", name := "putStringAt", desc := "(ILjava/lang/String;)V" } : Jvm.MethodName) jdk_68_method_73_code (3 : Nat) (Option.none : Option Jvm.ClassFile.FieldType)).before args0 about1 = true := code_word (m := ⟨24, 8⟩) (meth := k24m8) (c := k24c8) (by decide +kernel) rfl rfl rfl (by decide +kernel)
set_option maxRecDepth 65536 in
theorem w_c24 : (Jvm.Cond.code ({ cls := "java/lang/AbstractStringBuilder", name := "inflateIfNeededFor", desc := "(Ljava/lang/String;)V" } : Jvm.MethodName) jdk_68_method_71_code (2 : Nat) (Option.none : Option Jvm.ClassFile.FieldType)).before args0 about1 = true := code_word (m := ⟨24, 7⟩) (meth := k24m7) (c := k24c7) (by decide +kernel) rfl rfl rfl (by decide +kernel)
set_option maxRecDepth 65536 in
theorem w_c25 : (Jvm.Cond.code ({ cls := "java/lang/String", name := "getBytes", desc := "([BIB)V" } : Jvm.MethodName) jdk_42_method_147_code (4 : Nat) (Option.none : Option Jvm.ClassFile.FieldType)).before args0 about1 = true := code_word (m := ⟨20, 3⟩) (meth := k20m3) (c := k20c3) (by decide +kernel) rfl rfl rfl (by decide +kernel)
set_option maxRecDepth 65536 in
theorem w_c26 : (Jvm.Cond.code ({ cls := "java/lang/StringBuilder", name := "toString", desc := "()Ljava/lang/String;" } : Jvm.MethodName) jdk_67_method_42_code (1 : Nat) (Option.some (Jvm.ClassFile.FieldType.object "java/lang/String"))).before args0 about1 = true := code_word (m := ⟨25, 2⟩) (meth := k25m2) (c := k25c2) (by decide +kernel) rfl rfl rfl (by decide +kernel)
set_option maxRecDepth 65536 in
theorem w_c27 : (Jvm.Cond.code ({ cls := "java/lang/String", name := "<init>", desc := "(Ljava/lang/StringBuilder;)V" } : Jvm.MethodName) jdk_42_method_53_code (2 : Nat) (Option.none : Option Jvm.ClassFile.FieldType)).before args0 about1 = true := code_word (m := ⟨20, 1⟩) (meth := k20m1) (c := k20c1) (by decide +kernel) rfl rfl rfl (by decide +kernel)
set_option maxRecDepth 65536 in
theorem w_c28 : (Jvm.Cond.code ({ cls := "java/lang/String", name := "<init>", desc := "(Ljava/lang/AbstractStringBuilder;Ljava/lang/Void;)V" } : Jvm.MethodName) jdk_42_method_150_code (5 : Nat) (Option.none : Option Jvm.ClassFile.FieldType)).before args0 about1 = true := code_word (m := ⟨20, 4⟩) (meth := k20m4) (c := k20c4) (by decide +kernel) rfl rfl rfl (by decide +kernel)
set_option maxRecDepth 65536 in
theorem w_c29 : (Jvm.Cond.code ({ cls := "java/lang/AbstractStringBuilder", name := "getValue", desc := "()[B" } : Jvm.MethodName) jdk_68_method_64_code (1 : Nat) (Option.some (Jvm.ClassFile.FieldType.array Jvm.ClassFile.FieldType.byte))).before args0 about1 = true := code_word (m := ⟨24, 5⟩) (meth := k24m5) (c := k24c5) (by decide +kernel) rfl rfl rfl (by decide +kernel)
set_option maxRecDepth 65536 in
theorem w_c30 : (Jvm.Cond.code ({ cls := "java/lang/StringBuilder", name := "length", desc := "()I" } : Jvm.MethodName) jdk_67_method_93_code (1 : Nat) (Option.some Jvm.ClassFile.FieldType.int)).before args0 about1 = true := code_word (m := ⟨25, 3⟩) (meth := k25m3) (c := k25c3) (by decide +kernel) rfl rfl rfl (by decide +kernel)
set_option maxRecDepth 65536 in
theorem w_c31 : (Jvm.Cond.code ({ cls := "java/lang/AbstractStringBuilder", name := "length", desc := "()I" } : Jvm.MethodName) jdk_68_method_6_code (1 : Nat) (Option.some Jvm.ClassFile.FieldType.int)).before args0 about1 = true := code_word (m := ⟨24, 2⟩) (meth := k24m2) (c := k24c2) (by decide +kernel) rfl rfl rfl (by decide +kernel)
set_option maxRecDepth 65536 in
theorem w_c32 : (Jvm.Cond.code ({ cls := "java/lang/AbstractStringBuilder", name := "isLatin1", desc := "()Z" } : Jvm.MethodName) jdk_68_method_68_code (1 : Nat) (Option.some Jvm.ClassFile.FieldType.boolean)).before args0 about1 = true := code_word (m := ⟨24, 6⟩) (meth := k24m6) (c := k24c6) (by decide +kernel) rfl rfl rfl (by decide +kernel)
set_option maxRecDepth 65536 in
theorem w_c33 : (Jvm.Cond.code ({ cls := "java/util/Arrays", name := "copyOfRange", desc := "([BII)[B" } : Jvm.MethodName) jdk_65_method_132_code (3 : Nat) (Option.some (Jvm.ClassFile.FieldType.array Jvm.ClassFile.FieldType.byte))).before args0 about1 = true := code_word (m := ⟨27, 2⟩) (meth := k27m2) (c := k27c2) (by decide +kernel) rfl rfl rfl (by decide +kernel)
set_option maxRecDepth 65536 in
theorem w_c34 : (Jvm.Cond.code ({ cls := "java/util/Arrays", name := "copyOfRangeByte", desc := "([BII)[B" } : Jvm.MethodName) jdk_65_method_133_code (5 : Nat) (Option.some (Jvm.ClassFile.FieldType.array Jvm.ClassFile.FieldType.byte))).before args0 about1 = true := code_word (m := ⟨27, 3⟩) (meth := k27m3) (c := k27c3) (by decide +kernel) rfl rfl rfl (by decide +kernel)
set_option maxRecDepth 65536 in
theorem w_c35 : (Jvm.Cond.code ({ cls := "java/util/Arrays", name := "checkLength", desc := "(II)V" } : Jvm.MethodName) jdk_65_method_131_code (2 : Nat) (Option.none : Option Jvm.ClassFile.FieldType)).before args0 about1 = true := code_word (m := ⟨27, 1⟩) (meth := k27m1) (c := k27c1) (by decide +kernel) rfl rfl rfl (by decide +kernel)
set_option maxRecDepth 65536 in
theorem w_c36 : (Jvm.Cond.code ({ cls := "java/lang/Math", name := "min", desc := "(II)I" } : Jvm.MethodName) jdk_29_method_69_code (2 : Nat) (Option.some Jvm.ClassFile.FieldType.int)).before args0 about1 = true := code_word (m := ⟨28, 2⟩) (meth := k28m2) (c := k28c2) (by decide +kernel) rfl rfl rfl (by decide +kernel)
set_option maxRecDepth 65536 in
theorem w_c37 : (Jvm.Cond.code ({ cls := "com/example/foyer/foyer/Layout", name := "size", desc := "()I" } : Jvm.MethodName) prog_33_method_9_code (3 : Nat) (Option.some Jvm.ClassFile.FieldType.int)).before args0 about1 = true := code_word (m := ⟨5, 6⟩) (meth := k5m6) (c := k5c6) (by decide +kernel) rfl rfl rfl (by decide +kernel)
set_option maxRecDepth 65536 in
theorem w_c38 : (Jvm.Cond.code ({ cls := "java/util/ArrayList", name := "isEmpty", desc := "()Z" } : Jvm.MethodName) jdk_38_method_9_code (1 : Nat) (Option.some Jvm.ClassFile.FieldType.boolean)).before args0 about1 = true := code_word (m := ⟨15, 4⟩) (meth := k15m4) (c := k15c4) (by decide +kernel) rfl rfl rfl (by decide +kernel)
set_option maxRecDepth 65536 in
theorem w_c39 : (Jvm.Cond.code ({ cls := "com/example/foyer/foyer/Layout$RegisterArray", name := "<init>", desc := "(Ljava/lang/String;IIILjava/util/function/IntUnaryOperator;Z)V" } : Jvm.MethodName) prog_34_method_1_code (7 : Nat) (Option.none : Option Jvm.ClassFile.FieldType)).before args0 about1 = true := code_word (m := ⟨22, 0⟩) (meth := k22m0) (c := k22c0) (by decide +kernel) rfl rfl rfl (by decide +kernel)
set_option maxRecDepth 65536 in
theorem w_c40 : (Jvm.Cond.code ({ cls := "java/util/ArrayList", name := "add", desc := "(Ljava/lang/Object;)Z" } : Jvm.MethodName) jdk_38_method_25_code (2 : Nat) (Option.some Jvm.ClassFile.FieldType.boolean)).before args0 about1 = true := code_word (m := ⟨15, 8⟩) (meth := k15m8) (c := k15c8) (by decide +kernel) rfl rfl rfl (by decide +kernel)
set_option maxRecDepth 65536 in
theorem w_c41 : (Jvm.Cond.code ({ cls := "java/util/ArrayList", name := "add", desc := "(Ljava/lang/Object;[Ljava/lang/Object;I)V" } : Jvm.MethodName) jdk_38_method_24_code (4 : Nat) (Option.none : Option Jvm.ClassFile.FieldType)).before args0 about1 = true := code_word (m := ⟨15, 7⟩) (meth := k15m7) (c := k15c7) (by decide +kernel) rfl rfl rfl (by decide +kernel)
set_option maxRecDepth 65536 in
theorem w_c42 : (Jvm.Cond.code ({ cls := "java/util/ArrayList", name := "grow", desc := "()[Ljava/lang/Object;" } : Jvm.MethodName) jdk_38_method_7_code (1 : Nat) (Option.some (Jvm.ClassFile.FieldType.array (Jvm.ClassFile.FieldType.object "java/lang/Object")))).before args0 about1 = true := code_word (m := ⟨15, 2⟩) (meth := k15m2) (c := k15c2) (by decide +kernel) rfl rfl rfl (by decide +kernel)
set_option maxRecDepth 65536 in
theorem w_c43 : (Jvm.Cond.code ({ cls := "java/util/ArrayList", name := "grow", desc := "(I)[Ljava/lang/Object;" } : Jvm.MethodName) jdk_38_method_6_code (4 : Nat) (Option.some (Jvm.ClassFile.FieldType.array (Jvm.ClassFile.FieldType.object "java/lang/Object")))).before args0 about1 = true := code_word (m := ⟨15, 1⟩) (meth := k15m1) (c := k15c1) (by decide +kernel) rfl rfl rfl (by decide +kernel)
set_option maxRecDepth 65536 in
theorem w_c44 : (Jvm.Cond.code ({ cls := "java/lang/Math", name := "max", desc := "(II)I" } : Jvm.MethodName) jdk_29_method_65_code (2 : Nat) (Option.some Jvm.ClassFile.FieldType.int)).before args0 about1 = true := code_word (m := ⟨28, 1⟩) (meth := k28m1) (c := k28c1) (by decide +kernel) rfl rfl rfl (by decide +kernel)
set_option maxRecDepth 65536 in
theorem w_c45 : (Jvm.Cond.code ({ cls := "com/example/foyer/foyer/LamportFast", name := "<init>", desc := "(ILcom/example/foyer/foyer/Layout;Lcom/example/foyer/foyer/Layout$RegisterArray;)V" } : Jvm.MethodName) prog_32_method_2_code (4 : Nat) (Option.none : Option Jvm.ClassFile.FieldType)).before args0 about1 = true := code_word (m := ⟨29, 0⟩) (meth := k29m0) (c := k29c0) (by decide +kernel) rfl rfl rfl (by decide +kernel)
set_option maxRecDepth 65536 in
theorem w_c46 : (Jvm.Cond.code ({ cls := "com/example/foyer/foyer/Layout", name := "scalar", desc := "(Ljava/lang/String;I)I" } : Jvm.MethodName) prog_33_method_4_code (3 : Nat) (Option.some Jvm.ClassFile.FieldType.int)).before args0 about1 = true := code_word (m := ⟨5, 3⟩) (meth := k5m3) (c := k5c3) (by decide +kernel) rfl rfl rfl (by decide +kernel)
set_option maxRecDepth 65536 in
theorem w_c47 : (Jvm.Cond.code ({ cls := "java/util/ArrayList", name := "size", desc := "()I" } : Jvm.MethodName) jdk_38_method_8_code (1 : Nat) (Option.some Jvm.ClassFile.FieldType.int)).before args0 about1 = true := code_word (m := ⟨15, 3⟩) (meth := k15m3) (c := k15c3) (by decide +kernel) rfl rfl rfl (by decide +kernel)
set_option maxRecDepth 65536 in
theorem w_c48 : (Jvm.Cond.code ({ cls := "java/util/ArrayList", name := "get", desc := "(I)Ljava/lang/Object;" } : Jvm.MethodName) jdk_38_method_20_code (2 : Nat) (Option.some (Jvm.ClassFile.FieldType.object "java/lang/Object"))).before args0 about1 = true := code_word (m := ⟨15, 6⟩) (meth := k15m6) (c := k15c6) (by decide +kernel) rfl rfl rfl (by decide +kernel)
set_option maxRecDepth 65536 in
theorem w_c49 : (Jvm.Cond.code ({ cls := "java/util/Objects", name := "checkIndex", desc := "(II)I" } : Jvm.MethodName) jdk_31_method_17_code (2 : Nat) (Option.some Jvm.ClassFile.FieldType.int)).before args0 about1 = true := code_word (m := ⟨30, 1⟩) (meth := k30m1) (c := k30c1) (by decide +kernel) rfl rfl rfl (by decide +kernel)
set_option maxRecDepth 65536 in
theorem w_c50 : (Jvm.Cond.code ({ cls := "jdk/internal/util/Preconditions", name := "checkIndex", desc := "(IILjava/util/function/BiFunction;)I" } : Jvm.MethodName) jdk_41_method_11_code (3 : Nat) (Option.some Jvm.ClassFile.FieldType.int)).before args0 about1 = true := code_word (m := ⟨31, 1⟩) (meth := k31m1) (c := k31c1) (by decide +kernel) rfl rfl rfl (by decide +kernel)
set_option maxRecDepth 65536 in
theorem w_c51 : (Jvm.Cond.code ({ cls := "java/util/ArrayList", name := "elementData", desc := "(I)Ljava/lang/Object;" } : Jvm.MethodName) jdk_38_method_18_code (2 : Nat) (Option.some (Jvm.ClassFile.FieldType.object "java/lang/Object"))).before args0 about1 = true := code_word (m := ⟨15, 5⟩) (meth := k15m5) (c := k15c5) (by decide +kernel) rfl rfl rfl (by decide +kernel)
set_option maxRecDepth 65536 in
theorem w_c52 : (Jvm.Cond.code ({ cls := "com/example/foyer/foyer/Layout$RegisterArray", name := "at", desc := "(I)I" } : Jvm.MethodName) prog_34_method_2_code (2 : Nat) (Option.some Jvm.ClassFile.FieldType.int)).before args0 about1 = true := code_word (m := ⟨22, 1⟩) (meth := k22m1) (c := k22c1) (by decide +kernel) rfl rfl rfl (by decide +kernel)
set_option maxRecDepth 65536 in
theorem w_c53 : (Jvm.Cond.code ({ cls := "com/example/foyer/foyer/Layout", name := "array", desc := "(Ljava/lang/String;III)Lcom/example/foyer/foyer/Layout$RegisterArray;" } : Jvm.MethodName) prog_33_method_5_code (5 : Nat) (Option.some (Jvm.ClassFile.FieldType.object "com/example/foyer/foyer/Layout$RegisterArray"))).before args0 about1 = true := code_word (m := ⟨5, 4⟩) (meth := k5m4) (c := k5c4) (by decide +kernel) rfl rfl rfl (by decide +kernel)
set_option maxRecDepth 65536 in
theorem w_c54 : (Jvm.Cond.code ({ cls := "com/example/foyer/foyer/Layout", name := "within", desc := "(Ljava/lang/String;)Lcom/example/foyer/foyer/Layout;" } : Jvm.MethodName) prog_33_method_3_code (2 : Nat) (Option.some (Jvm.ClassFile.FieldType.object "com/example/foyer/foyer/Layout"))).before args0 about1 = true := code_word (m := ⟨5, 2⟩) (meth := k5m2) (c := k5c2) (by decide +kernel) rfl rfl rfl (by decide +kernel)
set_option maxRecDepth 65536 in
theorem w_c55 : (Jvm.Cond.code ({ cls := "com/example/foyer/foyer/MerrittTaubenfeld", name := "initialLocals", desc := "(I)[I" } : Jvm.MethodName) prog_37_method_3_code (3 : Nat) (Option.some (Jvm.ClassFile.FieldType.array Jvm.ClassFile.FieldType.int))).before args0 about1 = true := code_word (m := ⟨3, 2⟩) (meth := k3m2) (c := k3c2) (by decide +kernel) rfl rfl rfl (by decide +kernel)
set_option maxRecDepth 65536 in
theorem w_c56 : (Jvm.Cond.code ({ cls := "com/example/foyer/foyer/Algorithm", name := "initialLocals", desc := "(I)[I" } : Jvm.MethodName) prog_3_method_8_code (2 : Nat) (Option.some (Jvm.ClassFile.FieldType.array Jvm.ClassFile.FieldType.int))).before args0 about1 = true := code_word (m := ⟨2, 4⟩) (meth := k2m4) (c := k2c4) (by decide +kernel) rfl rfl rfl (by decide +kernel)
set_option maxRecDepth 65536 in
theorem w_c57 : (Jvm.Cond.code ({ cls := "com/example/foyer/foyer/MerrittTaubenfeld", name := "locals", desc := "()I" } : Jvm.MethodName) prog_37_method_2_code (1 : Nat) (Option.some Jvm.ClassFile.FieldType.int)).before args0 about1 = true := code_word (m := ⟨3, 1⟩) (meth := k3m1) (c := k3c1) (by decide +kernel) rfl rfl rfl (by decide +kernel)
set_option maxRecDepth 65536 in
theorem w_c58 : (Jvm.Cond.code ({ cls := "com/example/foyer/foyer/MerrittTaubenfeldInitialLocalsPinLaw", name := "ok", desc := "([II)Z" } : Jvm.MethodName) method_3_code (2 : Nat) (Option.some Jvm.ClassFile.FieldType.boolean)).before args0 about1 = true := code_word (m := ⟨1, 2⟩) (meth := k1m2) (c := k1c2) (by decide +kernel) rfl rfl rfl (by decide +kernel)
def codes1 : List Jvm.Cond := [Jvm.Cond.code x code maxLocals ret, Jvm.Cond.code ({ cls := "com/example/foyer/foyer/Registration", name := "<init>", desc := "(IZ)V" } : Jvm.MethodName) prog_50_method_1_code (3 : Nat) (Option.none : Option Jvm.ClassFile.FieldType), Jvm.Cond.code ({ cls := "java/lang/Object", name := "<init>", desc := "()V" } : Jvm.MethodName) object_method_1_code (1 : Nat) (Option.none : Option Jvm.ClassFile.FieldType), Jvm.Cond.code ({ cls := "com/example/foyer/foyer/MerrittTaubenfeld", name := "<init>", desc := "(ILcom/example/foyer/foyer/Registration;)V" } : Jvm.MethodName) prog_37_method_1_code (4 : Nat) (Option.none : Option Jvm.ClassFile.FieldType), Jvm.Cond.code ({ cls := "com/example/foyer/foyer/Algorithm", name := "<init>", desc := "(II)V" } : Jvm.MethodName) prog_3_method_1_code (3 : Nat) (Option.none : Option Jvm.ClassFile.FieldType), Jvm.Cond.code ({ cls := "com/example/foyer/foyer/Layout", name := "<init>", desc := "()V" } : Jvm.MethodName) prog_33_method_1_code (1 : Nat) (Option.none : Option Jvm.ClassFile.FieldType), Jvm.Cond.code ({ cls := "java/util/ArrayList", name := "<init>", desc := "()V" } : Jvm.MethodName) jdk_38_method_2_code (1 : Nat) (Option.none : Option Jvm.ClassFile.FieldType), Jvm.Cond.code ({ cls := "java/util/AbstractList", name := "<init>", desc := "()V" } : Jvm.MethodName) jdk_39_method_1_code (1 : Nat) (Option.none : Option Jvm.ClassFile.FieldType), Jvm.Cond.code ({ cls := "java/util/AbstractCollection", name := "<init>", desc := "()V" } : Jvm.MethodName) jdk_22_method_1_code (1 : Nat) (Option.none : Option Jvm.ClassFile.FieldType), Jvm.Cond.code ({ cls := "com/example/foyer/foyer/Layout", name := "<init>", desc := "(Ljava/util/List;Ljava/lang/String;)V" } : Jvm.MethodName) prog_33_method_2_code (3 : Nat) (Option.none : Option Jvm.ClassFile.FieldType), Jvm.Cond.code ({ cls := "com/example/foyer/foyer/Algorithm", name := "<init>", desc := "(IILcom/example/foyer/foyer/Layout;)V" } : Jvm.MethodName) prog_3_method_2_code (4 : Nat) (Option.none : Option Jvm.ClassFile.FieldType), Jvm.Cond.code ({ cls := "com/example/foyer/foyer/Registration", name := "registered", desc := "()I" } : Jvm.MethodName) prog_50_method_2_code (1 : Nat) (Option.some Jvm.ClassFile.FieldType.int), Jvm.Cond.code ({ cls := "com/example/foyer/foyer/Registration", name := "churn", desc := "()Z" } : Jvm.MethodName) prog_50_method_3_code (1 : Nat) (Option.some Jvm.ClassFile.FieldType.boolean), Jvm.Cond.code ({ cls := "com/example/foyer/foyer/Algorithm", name := "layout", desc := "()Lcom/example/foyer/foyer/Layout;" } : Jvm.MethodName) prog_3_method_5_code (1 : Nat) (Option.some (Jvm.ClassFile.FieldType.object "com/example/foyer/foyer/Layout")), Jvm.Cond.code ({ cls := "com/example/foyer/foyer/Layout", name := "array", desc := "(Ljava/lang/String;IILjava/util/function/IntUnaryOperator;)Lcom/example/foyer/foyer/Layout$RegisterArray;" } : Jvm.MethodName) prog_33_method_6_code (5 : Nat) (Option.some (Jvm.ClassFile.FieldType.object "com/example/foyer/foyer/Layout$RegisterArray")), Jvm.Cond.code ({ cls := "com/example/foyer/foyer/Layout", name := "declare", desc := "(Ljava/lang/String;IILjava/util/function/IntUnaryOperator;Z)Lcom/example/foyer/foyer/Layout$RegisterArray;" } : Jvm.MethodName) prog_33_method_10_code (7 : Nat) (Option.some (Jvm.ClassFile.FieldType.object "com/example/foyer/foyer/Layout$RegisterArray")), Jvm.Cond.code ({ cls := "java/lang/StringBuilder", name := "<init>", desc := "()V" } : Jvm.MethodName) jdk_67_method_1_code (1 : Nat) (Option.none : Option Jvm.ClassFile.FieldType), Jvm.Cond.code ({ cls := "java/lang/AbstractStringBuilder", name := "<init>", desc := "(I)V" } : Jvm.MethodName) jdk_68_method_2_code (2 : Nat) (Option.none : Option Jvm.ClassFile.FieldType), Jvm.Cond.code ({ cls := "java/lang/StringBuilder", name := "append", desc := "(Ljava/lang/String;)Ljava/lang/StringBuilder;" } : Jvm.MethodName) jdk_67_method_7_code (2 : Nat) (Option.some (Jvm.ClassFile.FieldType.object "java/lang/StringBuilder")), Jvm.Cond.code ({ cls := "java/lang/AbstractStringBuilder", name := "append", desc := "(Ljava/lang/String;)Ljava/lang/AbstractStringBuilder;" } : Jvm.MethodName) jdk_68_method_22_code (3 : Nat) (Option.some (Jvm.ClassFile.FieldType.object "java/lang/AbstractStringBuilder")), Jvm.Cond.code ({ cls := "java/lang/String", name := "length", desc := "()I" } : Jvm.MethodName) jdk_42_method_54_code (1 : Nat) (Option.some Jvm.ClassFile.FieldType.int), Jvm.Cond.code ({ cls := "java/lang/String", name := "coder", desc := "()B" } : Jvm.MethodName) jdk_42_method_152_code (1 : Nat) (Option.some Jvm.ClassFile.FieldType.byte), Jvm.Cond.code ({ cls := "java/lang/AbstractStringBuilder", name := "ensureCapacityInternal", desc := "(I)V" } : Jvm.MethodName) jdk_68_method_9_code (3 : Nat) (Option.none : Option Jvm.ClassFile.FieldType), Jvm.Cond.code ({ cls := "java/lang/AbstractStringBuilder", name := "putStringAt", desc := "(ILjava/lang/String;)V" } : Jvm.MethodName) jdk_68_method_73_code (3 : Nat) (Option.none : Option Jvm.ClassFile.FieldType), Jvm.Cond.code ({ cls := "java/lang/AbstractStringBuilder", name := "inflateIfNeededFor", desc := "(Ljava/lang/String;)V" } : Jvm.MethodName) jdk_68_method_71_code (2 : Nat) (Option.none : Option Jvm.ClassFile.FieldType), Jvm.Cond.code ({ cls := "java/lang/String", name := "getBytes", desc := "([BIB)V" } : Jvm.MethodName) jdk_42_method_147_code (4 : Nat) (Option.none : Option Jvm.ClassFile.FieldType), Jvm.Cond.code ({ cls := "java/lang/StringBuilder", name := "toString", desc := "()Ljava/lang/String;" } : Jvm.MethodName) jdk_67_method_42_code (1 : Nat) (Option.some (Jvm.ClassFile.FieldType.object "java/lang/String")), Jvm.Cond.code ({ cls := "java/lang/String", name := "<init>", desc := "(Ljava/lang/StringBuilder;)V" } : Jvm.MethodName) jdk_42_method_53_code (2 : Nat) (Option.none : Option Jvm.ClassFile.FieldType), Jvm.Cond.code ({ cls := "java/lang/String", name := "<init>", desc := "(Ljava/lang/AbstractStringBuilder;Ljava/lang/Void;)V" } : Jvm.MethodName) jdk_42_method_150_code (5 : Nat) (Option.none : Option Jvm.ClassFile.FieldType), Jvm.Cond.code ({ cls := "java/lang/AbstractStringBuilder", name := "getValue", desc := "()[B" } : Jvm.MethodName) jdk_68_method_64_code (1 : Nat) (Option.some (Jvm.ClassFile.FieldType.array Jvm.ClassFile.FieldType.byte)), Jvm.Cond.code ({ cls := "java/lang/StringBuilder", name := "length", desc := "()I" } : Jvm.MethodName) jdk_67_method_93_code (1 : Nat) (Option.some Jvm.ClassFile.FieldType.int), Jvm.Cond.code ({ cls := "java/lang/AbstractStringBuilder", name := "length", desc := "()I" } : Jvm.MethodName) jdk_68_method_6_code (1 : Nat) (Option.some Jvm.ClassFile.FieldType.int), Jvm.Cond.code ({ cls := "java/lang/AbstractStringBuilder", name := "isLatin1", desc := "()Z" } : Jvm.MethodName) jdk_68_method_68_code (1 : Nat) (Option.some Jvm.ClassFile.FieldType.boolean), Jvm.Cond.code ({ cls := "java/util/Arrays", name := "copyOfRange", desc := "([BII)[B" } : Jvm.MethodName) jdk_65_method_132_code (3 : Nat) (Option.some (Jvm.ClassFile.FieldType.array Jvm.ClassFile.FieldType.byte)), Jvm.Cond.code ({ cls := "java/util/Arrays", name := "copyOfRangeByte", desc := "([BII)[B" } : Jvm.MethodName) jdk_65_method_133_code (5 : Nat) (Option.some (Jvm.ClassFile.FieldType.array Jvm.ClassFile.FieldType.byte)), Jvm.Cond.code ({ cls := "java/util/Arrays", name := "checkLength", desc := "(II)V" } : Jvm.MethodName) jdk_65_method_131_code (2 : Nat) (Option.none : Option Jvm.ClassFile.FieldType), Jvm.Cond.code ({ cls := "java/lang/Math", name := "min", desc := "(II)I" } : Jvm.MethodName) jdk_29_method_69_code (2 : Nat) (Option.some Jvm.ClassFile.FieldType.int), Jvm.Cond.code ({ cls := "com/example/foyer/foyer/Layout", name := "size", desc := "()I" } : Jvm.MethodName) prog_33_method_9_code (3 : Nat) (Option.some Jvm.ClassFile.FieldType.int), Jvm.Cond.code ({ cls := "java/util/ArrayList", name := "isEmpty", desc := "()Z" } : Jvm.MethodName) jdk_38_method_9_code (1 : Nat) (Option.some Jvm.ClassFile.FieldType.boolean), Jvm.Cond.code ({ cls := "com/example/foyer/foyer/Layout$RegisterArray", name := "<init>", desc := "(Ljava/lang/String;IIILjava/util/function/IntUnaryOperator;Z)V" } : Jvm.MethodName) prog_34_method_1_code (7 : Nat) (Option.none : Option Jvm.ClassFile.FieldType), Jvm.Cond.code ({ cls := "java/util/ArrayList", name := "add", desc := "(Ljava/lang/Object;)Z" } : Jvm.MethodName) jdk_38_method_25_code (2 : Nat) (Option.some Jvm.ClassFile.FieldType.boolean), Jvm.Cond.code ({ cls := "java/util/ArrayList", name := "add", desc := "(Ljava/lang/Object;[Ljava/lang/Object;I)V" } : Jvm.MethodName) jdk_38_method_24_code (4 : Nat) (Option.none : Option Jvm.ClassFile.FieldType), Jvm.Cond.code ({ cls := "java/util/ArrayList", name := "grow", desc := "()[Ljava/lang/Object;" } : Jvm.MethodName) jdk_38_method_7_code (1 : Nat) (Option.some (Jvm.ClassFile.FieldType.array (Jvm.ClassFile.FieldType.object "java/lang/Object"))), Jvm.Cond.code ({ cls := "java/util/ArrayList", name := "grow", desc := "(I)[Ljava/lang/Object;" } : Jvm.MethodName) jdk_38_method_6_code (4 : Nat) (Option.some (Jvm.ClassFile.FieldType.array (Jvm.ClassFile.FieldType.object "java/lang/Object"))), Jvm.Cond.code ({ cls := "java/lang/Math", name := "max", desc := "(II)I" } : Jvm.MethodName) jdk_29_method_65_code (2 : Nat) (Option.some Jvm.ClassFile.FieldType.int), Jvm.Cond.code ({ cls := "com/example/foyer/foyer/LamportFast", name := "<init>", desc := "(ILcom/example/foyer/foyer/Layout;Lcom/example/foyer/foyer/Layout$RegisterArray;)V" } : Jvm.MethodName) prog_32_method_2_code (4 : Nat) (Option.none : Option Jvm.ClassFile.FieldType), Jvm.Cond.code ({ cls := "com/example/foyer/foyer/Layout", name := "scalar", desc := "(Ljava/lang/String;I)I" } : Jvm.MethodName) prog_33_method_4_code (3 : Nat) (Option.some Jvm.ClassFile.FieldType.int), Jvm.Cond.code ({ cls := "java/util/ArrayList", name := "size", desc := "()I" } : Jvm.MethodName) jdk_38_method_8_code (1 : Nat) (Option.some Jvm.ClassFile.FieldType.int), Jvm.Cond.code ({ cls := "java/util/ArrayList", name := "get", desc := "(I)Ljava/lang/Object;" } : Jvm.MethodName) jdk_38_method_20_code (2 : Nat) (Option.some (Jvm.ClassFile.FieldType.object "java/lang/Object")), Jvm.Cond.code ({ cls := "java/util/Objects", name := "checkIndex", desc := "(II)I" } : Jvm.MethodName) jdk_31_method_17_code (2 : Nat) (Option.some Jvm.ClassFile.FieldType.int), Jvm.Cond.code ({ cls := "jdk/internal/util/Preconditions", name := "checkIndex", desc := "(IILjava/util/function/BiFunction;)I" } : Jvm.MethodName) jdk_41_method_11_code (3 : Nat) (Option.some Jvm.ClassFile.FieldType.int), Jvm.Cond.code ({ cls := "java/util/ArrayList", name := "elementData", desc := "(I)Ljava/lang/Object;" } : Jvm.MethodName) jdk_38_method_18_code (2 : Nat) (Option.some (Jvm.ClassFile.FieldType.object "java/lang/Object")), Jvm.Cond.code ({ cls := "com/example/foyer/foyer/Layout$RegisterArray", name := "at", desc := "(I)I" } : Jvm.MethodName) prog_34_method_2_code (2 : Nat) (Option.some Jvm.ClassFile.FieldType.int), Jvm.Cond.code ({ cls := "com/example/foyer/foyer/Layout", name := "array", desc := "(Ljava/lang/String;III)Lcom/example/foyer/foyer/Layout$RegisterArray;" } : Jvm.MethodName) prog_33_method_5_code (5 : Nat) (Option.some (Jvm.ClassFile.FieldType.object "com/example/foyer/foyer/Layout$RegisterArray")), Jvm.Cond.code ({ cls := "com/example/foyer/foyer/Layout", name := "within", desc := "(Ljava/lang/String;)Lcom/example/foyer/foyer/Layout;" } : Jvm.MethodName) prog_33_method_3_code (2 : Nat) (Option.some (Jvm.ClassFile.FieldType.object "com/example/foyer/foyer/Layout")), Jvm.Cond.code ({ cls := "com/example/foyer/foyer/MerrittTaubenfeld", name := "initialLocals", desc := "(I)[I" } : Jvm.MethodName) prog_37_method_3_code (3 : Nat) (Option.some (Jvm.ClassFile.FieldType.array Jvm.ClassFile.FieldType.int)), Jvm.Cond.code ({ cls := "com/example/foyer/foyer/Algorithm", name := "initialLocals", desc := "(I)[I" } : Jvm.MethodName) prog_3_method_8_code (2 : Nat) (Option.some (Jvm.ClassFile.FieldType.array Jvm.ClassFile.FieldType.int)), Jvm.Cond.code ({ cls := "com/example/foyer/foyer/MerrittTaubenfeld", name := "locals", desc := "()I" } : Jvm.MethodName) prog_37_method_2_code (1 : Nat) (Option.some Jvm.ClassFile.FieldType.int), Jvm.Cond.code ({ cls := "com/example/foyer/foyer/MerrittTaubenfeldInitialLocalsPinLaw", name := "ok", desc := "([II)Z" } : Jvm.MethodName) method_3_code (2 : Nat) (Option.some Jvm.ClassFile.FieldType.boolean)]
set_option maxRecDepth 65536 in
theorem codes_eq : words1.filter isCode = codes1 := rfl
theorem w_codes : ∀ c ∈ words1.filter isCode, c.before args0 about1 = true := by
  rw [codes_eq]
  intro c hc
  simp only [codes1, List.mem_cons, List.not_mem_nil, or_false] at hc
  rcases hc with rfl | rfl | rfl | rfl | rfl | rfl | rfl | rfl | rfl | rfl | rfl | rfl | rfl | rfl | rfl | rfl | rfl | rfl | rfl | rfl | rfl | rfl | rfl | rfl | rfl | rfl | rfl | rfl | rfl | rfl | rfl | rfl | rfl | rfl | rfl | rfl | rfl | rfl | rfl | rfl | rfl | rfl | rfl | rfl | rfl | rfl | rfl | rfl | rfl | rfl | rfl | rfl | rfl | rfl | rfl | rfl | rfl | rfl | rfl
  · exact w_c0
  · exact w_c1
  · exact w_c2
  · exact w_c3
  · exact w_c4
  · exact w_c5
  · exact w_c6
  · exact w_c7
  · exact w_c8
  · exact w_c9
  · exact w_c10
  · exact w_c11
  · exact w_c12
  · exact w_c13
  · exact w_c14
  · exact w_c15
  · exact w_c16
  · exact w_c17
  · exact w_c18
  · exact w_c19
  · exact w_c20
  · exact w_c21
  · exact w_c22
  · exact w_c23
  · exact w_c24
  · exact w_c25
  · exact w_c26
  · exact w_c27
  · exact w_c28
  · exact w_c29
  · exact w_c30
  · exact w_c31
  · exact w_c32
  · exact w_c33
  · exact w_c34
  · exact w_c35
  · exact w_c36
  · exact w_c37
  · exact w_c38
  · exact w_c39
  · exact w_c40
  · exact w_c41
  · exact w_c42
  · exact w_c43
  · exact w_c44
  · exact w_c45
  · exact w_c46
  · exact w_c47
  · exact w_c48
  · exact w_c49
  · exact w_c50
  · exact w_c51
  · exact w_c52
  · exact w_c53
  · exact w_c54
  · exact w_c55
  · exact w_c56
  · exact w_c57
  · exact w_c58
set_option maxRecDepth 65536 in
theorem w_t1 : (words1.take 24).all (fun c => isCode c || c.before args0 about1) = true := by decide +kernel
set_option maxRecDepth 65536 in
theorem w_t2 : ((words1.drop 24).take 24).all (fun c => isCode c || c.before args0 about1) = true := by decide +kernel
set_option maxRecDepth 65536 in
theorem w_t3 : (((words1.drop 24).drop 24).take 24).all (fun c => isCode c || c.before args0 about1) = true := by decide +kernel
set_option maxRecDepth 65536 in
theorem w_t4 : ((((words1.drop 24).drop 24).drop 24).take 24).all (fun c => isCode c || c.before args0 about1) = true := by decide +kernel
set_option maxRecDepth 65536 in
theorem w_t5 : (((((words1.drop 24).drop 24).drop 24).drop 24).take 24).all (fun c => isCode c || c.before args0 about1) = true := by decide +kernel
set_option maxRecDepth 65536 in
theorem w_t6 : ((((((words1.drop 24).drop 24).drop 24).drop 24).drop 24).take 24).all (fun c => isCode c || c.before args0 about1) = true := by decide +kernel
set_option maxRecDepth 65536 in
theorem w_t7 : (((((((words1.drop 24).drop 24).drop 24).drop 24).drop 24).drop 24).take 24).all (fun c => isCode c || c.before args0 about1) = true := by decide +kernel
set_option maxRecDepth 65536 in
theorem w_t8 : ((((((((words1.drop 24).drop 24).drop 24).drop 24).drop 24).drop 24).drop 24).take 24).all (fun c => isCode c || c.before args0 about1) = true := by decide +kernel
set_option maxRecDepth 65536 in
theorem w_t9 : (((((((((words1.drop 24).drop 24).drop 24).drop 24).drop 24).drop 24).drop 24).drop 24).take 24).all (fun c => isCode c || c.before args0 about1) = true := by decide +kernel
set_option maxRecDepth 65536 in
theorem w_t10 : ((((((((((words1.drop 24).drop 24).drop 24).drop 24).drop 24).drop 24).drop 24).drop 24).drop 24).take 24).all (fun c => isCode c || c.before args0 about1) = true := by decide +kernel
set_option maxRecDepth 65536 in
theorem w_t11 : (((((((((((words1.drop 24).drop 24).drop 24).drop 24).drop 24).drop 24).drop 24).drop 24).drop 24).drop 24).take 24).all (fun c => isCode c || c.before args0 about1) = true := by decide +kernel
set_option maxRecDepth 65536 in
theorem w_t12 : ((((((((((((words1.drop 24).drop 24).drop 24).drop 24).drop 24).drop 24).drop 24).drop 24).drop 24).drop 24).drop 24).take 24).all (fun c => isCode c || c.before args0 about1) = true := by decide +kernel
set_option maxRecDepth 65536 in
theorem w_t13 : (((((((((((((words1.drop 24).drop 24).drop 24).drop 24).drop 24).drop 24).drop 24).drop 24).drop 24).drop 24).drop 24).drop 24).take 24).all (fun c => isCode c || c.before args0 about1) = true := by decide +kernel
set_option maxRecDepth 65536 in
theorem w_t14 : ((((((((((((((words1.drop 24).drop 24).drop 24).drop 24).drop 24).drop 24).drop 24).drop 24).drop 24).drop 24).drop 24).drop 24).drop 24).take 24).all (fun c => isCode c || c.before args0 about1) = true := by decide +kernel
set_option maxRecDepth 65536 in
theorem w_t15 : (((((((((((((((words1.drop 24).drop 24).drop 24).drop 24).drop 24).drop 24).drop 24).drop 24).drop 24).drop 24).drop 24).drop 24).drop 24).drop 24).take 24).all (fun c => isCode c || c.before args0 about1) = true := by decide +kernel
set_option maxRecDepth 65536 in
theorem w_t16 : ((((((((((((((((words1.drop 24).drop 24).drop 24).drop 24).drop 24).drop 24).drop 24).drop 24).drop 24).drop 24).drop 24).drop 24).drop 24).drop 24).drop 24).take 24).all (fun c => isCode c || c.before args0 about1) = true := by decide +kernel
set_option maxRecDepth 65536 in
theorem w_t17 : ((((((((((((((((words1.drop 24).drop 24).drop 24).drop 24).drop 24).drop 24).drop 24).drop 24).drop 24).drop 24).drop 24).drop 24).drop 24).drop 24).drop 24).drop 24).all (fun c => isCode c || c.before args0 about1) = true := by decide +kernel
theorem w_tables : (allAtoms (Jvm.Cond.code x code maxLocals ret :: tables_1)).before args0 about1 = true := by
  rw [allAtoms_all]
  show words1.all (fun c => c.before args0 about1) = true
  refine all_split ?_ w_codes
  rw [← List.take_append_drop 24 words1, List.all_append, w_t1, ← List.take_append_drop 24 (words1.drop 24), List.all_append, w_t2, ← List.take_append_drop 24 ((words1.drop 24).drop 24), List.all_append, w_t3, ← List.take_append_drop 24 (((words1.drop 24).drop 24).drop 24), List.all_append, w_t4, ← List.take_append_drop 24 ((((words1.drop 24).drop 24).drop 24).drop 24), List.all_append, w_t5, ← List.take_append_drop 24 (((((words1.drop 24).drop 24).drop 24).drop 24).drop 24), List.all_append, w_t6, ← List.take_append_drop 24 ((((((words1.drop 24).drop 24).drop 24).drop 24).drop 24).drop 24), List.all_append, w_t7, ← List.take_append_drop 24 (((((((words1.drop 24).drop 24).drop 24).drop 24).drop 24).drop 24).drop 24), List.all_append, w_t8, ← List.take_append_drop 24 ((((((((words1.drop 24).drop 24).drop 24).drop 24).drop 24).drop 24).drop 24).drop 24), List.all_append, w_t9, ← List.take_append_drop 24 (((((((((words1.drop 24).drop 24).drop 24).drop 24).drop 24).drop 24).drop 24).drop 24).drop 24), List.all_append, w_t10, ← List.take_append_drop 24 ((((((((((words1.drop 24).drop 24).drop 24).drop 24).drop 24).drop 24).drop 24).drop 24).drop 24).drop 24), List.all_append, w_t11, ← List.take_append_drop 24 (((((((((((words1.drop 24).drop 24).drop 24).drop 24).drop 24).drop 24).drop 24).drop 24).drop 24).drop 24).drop 24), List.all_append, w_t12, ← List.take_append_drop 24 ((((((((((((words1.drop 24).drop 24).drop 24).drop 24).drop 24).drop 24).drop 24).drop 24).drop 24).drop 24).drop 24).drop 24), List.all_append, w_t13, ← List.take_append_drop 24 (((((((((((((words1.drop 24).drop 24).drop 24).drop 24).drop 24).drop 24).drop 24).drop 24).drop 24).drop 24).drop 24).drop 24).drop 24), List.all_append, w_t14, ← List.take_append_drop 24 ((((((((((((((words1.drop 24).drop 24).drop 24).drop 24).drop 24).drop 24).drop 24).drop 24).drop 24).drop 24).drop 24).drop 24).drop 24).drop 24), List.all_append, w_t15, ← List.take_append_drop 24 (((((((((((((((words1.drop 24).drop 24).drop 24).drop 24).drop 24).drop 24).drop 24).drop 24).drop 24).drop 24).drop 24).drop 24).drop 24).drop 24).drop 24), List.all_append, w_t16, w_t17]
  rfl
set_option maxRecDepth 65536 in
theorem w_rest : rest_1_c.before args0 about1 = true := by decide +kernel
set_option maxRecDepth 65536 in
theorem w_case : (Jvm.Cond.and given_1 narrow_1).before args0 about1 = true := by decide +kernel
set_option maxRecDepth 65536 in
theorem w_consts : constsHeld consts_1 about1 := Jvm.Lit.constsHeldB_iff.mp (by decide +kernel)
theorem w_applies : (headSpec (Jvm.Cond.code x code maxLocals ret :: tables_1) room_1).applies x e0.platform about1 = true :=
  (Spec.applies_iff w_frames).mpr ⟨w_running, w_runnable, w_alone, w_named, w_hears, w_ripe, w_room, w_tables⟩
theorem atStart : AtStart classFile x code maxLocals ret World_1 tables_1 room_1 Calls_1 rest_1 Pre_1 launch0 p0 e0 about1 theMethod args0 below0 :=
  ⟨lists_1, trivial, launch0.admits_env _ _ _, launch0.least_env, fairChoices_fair.cas, fairChoices_fair.clock, w_frames, w_args, w_heap, w_applies, ⟨w_consts, trivial⟩, w_rest, w_case⟩
end start1
theorem witness_1 : WitnessClaimed_1 := ⟨start1.p0, start1.e0, start1.about1, start1.theMethod, start1.args0, start1.below0, start1.atStart⟩
end Jvm.Pilot.@@N@@
