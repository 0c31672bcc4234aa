import JvmDerived
import JvmDerived.Pilot.@@N@@Statement
import JvmDerived.Pilot.@@N@@Code
set_option linter.unusedVariables false
set_option linter.unusedSimpArgs false
namespace Jvm.OwnW
open Sem ClassFile Op Lib Bundle Jvm.Stand Jvm.Free Jvm.LawKit Jvm.RoadKit
/-! OwnW: a walk as one goal. Go: 'from every state of the walk that stands over this heap, with this frame, the method comes to its end with Q'. Each step is one lemma; tables, written places, rebased starts and booked constants ride inside. -/
abbrev Gb : Type := Launch × State × Array Value × List (String × Nat)
abbrev Gb.l (G : Gb) : Launch := G.1
abbrev Gb.Z (G : Gb) : State := G.2.1
abbrev Gb.a0 (G : Gb) : Array Value := G.2.2.1
abbrev Gb.EL (G : Gb) : List (String × Nat) := G.2.2.2
abbrev Cx : Type := (Program × Env × State × MethodId) × (Array Value × List Frame × Method × Code)
abbrev Cx.p (B : Cx) : Program := B.1.1
abbrev Cx.e (B : Cx) : Env := B.1.2.1
abbrev Cx.s (B : Cx) : State := B.1.2.2.1
abbrev Cx.m (B : Cx) : MethodId := B.1.2.2.2
abbrev Cx.as (B : Cx) : Array Value := B.2.1
abbrev Cx.bl (B : Cx) : List Frame := B.2.2.1
abbrev Cx.mt (B : Cx) : Method := B.2.2.2.1
abbrev Cx.c (B : Cx) : Code := B.2.2.2.2
abbrev Mt : Type := (String × String × Room) × (List (Nat × Instr × Nat) × Nat × Option FieldType)
abbrev Mt.own (M : Mt) : String := M.1.1
abbrev Mt.nm (M : Mt) : String := M.1.2.1
abbrev Mt.R (M : Mt) : Room := M.1.2.2
abbrev Mt.P (M : Mt) : List (Nat × Instr × Nat) := M.2.1
abbrev Mt.maxL (M : Mt) : Nat := M.2.2.1
abbrev Mt.ret (M : Mt) : Option FieldType := M.2.2.2
abbrev Wd (G : Gb) (d : Jvm.Cond) : Prop := d.before G.a0 G.Z = true
def Wo (G : Gb) (B : Cx) (own : String) (R : Room) (h : Heap) (sf : List Addr) (cells slots : Nat) (T : State) (vm0 : Vm) (k0 : Nat) (locs : List Loc) : Prop :=
  Stand B.p G.l B.e R (B.s.setVm vm0) B.m B.as B.bl B.mt B.c T locs cells slots ∧ T.heap = h ∧ B.s.Since vm0 k0 ∧ k0 ≤ h.size ∧
  G.Z.Warmed39 vm0 ∧ vm0.findClass own = some B.m.cls ∧ Fr G.Z.heap.size locs ∧ Ext G.Z.heap h ∧ CHr G.Z G.EL B.s.vm B.s.heap vm0 h ∧
  ∀ x ∈ sf, Safe G.Z G.EL vm0 h x ∧ x < h.size
def Fin (G : Gb) (B : Cx) (R : Room) (Q : Option Value → Heap → (Addr → Prop) → Prop) (u : State) : Prop :=
  ∃ (t : State) (v : Option Value) (L : List Loc), Steps B.p.tables B.e B.bl u t ∧ t.status = .running ∧ Ended t B.bl (.returned v) ∧ Q v t.heap (fun x => Safe G.Z G.EL t.vm t.heap x ∧ x < t.heap.size) ∧ Fr G.Z.heap.size L ∧ Ext G.Z.heap t.heap ∧
    CHr G.Z G.EL B.s.vm B.s.heap t.vm t.heap ∧ ReturnedEndW B.s (.returned v) t L R.cells R.slots
def Go (G : Gb) (B : Cx) (M : Mt) (Q : Option Value → Heap → (Addr → Prop) → Prop) (h : Heap) (sf : List Addr) (cells slots pc : Nat) (Ls : Array Slot) (st : List Value) : Prop :=
  ∀ T vm0 k0 locs, Wo G B M.own M.R h sf cells slots T vm0 k0 locs → Fin G B M.R Q (T.setTop (mkF B.m pc Ls st))
def Kd (G : Gb) (B : Cx) (M : Mt) : Prop :=
  B.p.tables.exec = Jvm.exec ∧ (∀ q ∈ M.P, decode B.c.code q.1 = .ok q.2) ∧ B.c.maxLocals = M.maxL ∧ B.mt.sig.returnType = M.ret ∧ B.mt.locks = false ∧ B.mt.name = M.nm ∧ EW G.Z G.a0 G.EL
/-- a contract: from these arguments over this heap it returns, and Q holds of what is returned and of the heap behind -/
def Ctr (G : Gb) (ws : List Jvm.Cond) (y : MethodName) (bytes : ByteArray) (maxL : Nat) (ret : Option FieldType) (rm : Room) (as' : Array Value) (h : Heap) (sf : List Addr) (Q : Option Value → Heap → (Addr → Prop) → Prop) : Prop :=
  MetFree G.l y (head1 (Jvm.Cond.code y bytes maxL ret :: ws) rm)
    (fun a U => a = as' ∧ G.Z.Warmed39 U.vm ∧ U.heap = h ∧ CHv G.Z G.EL U.vm h ∧ Ext G.Z.heap h ∧ ∀ x ∈ sf, Safe G.Z G.EL U.vm h x ∧ x < h.size) (fun _ _ _ _ _ => True)
    (fun _ U o U' => ∃ v L, o = .returned v ∧ (Q v U'.heap (fun x => Safe G.Z G.EL U'.vm U'.heap x ∧ x < U'.heap.size) ∧ Fr G.Z.heap.size L ∧ Ext G.Z.heap U'.heap) ∧ CHr G.Z G.EL U.vm U.heap U'.vm U'.heap ∧ ReturnedEndW U o U' L rm.cells rm.slots)
section Base
variable {G : Gb} {B : Cx} {M : Mt} {R : Room} {Q : Option Value → Heap → (Addr → Prop) → Prop} {h : Heap} {sf : List Addr} {cells slots pc : Nat} {Ls : Array Slot} {st : List Value}
theorem Fin.pre {u u' : State} (f : Fin G B R Q u') (k : ∀ target, Steps B.p.tables B.e B.bl u' target → Steps B.p.tables B.e B.bl u target) : Fin G B R Q u := by
  obtain ⟨t, v, L, s, r⟩ := f
  exact ⟨t, v, L, k _ s, r⟩
theorem ef_ok {m : MethodId} {as' : Array Value} {n : Nat} {Ls : Array Slot} (q : argsToLocals as' n = Ls) : entryFrame m as' n = mkF m 0 Ls [] := by
  subst q
  rfl
theorem Kd.dec (K : Kd G B M) {k : Nat} {i : Instr} {len : Nat} (hd : M.P[k]? = some (pc, i, len)) : decode B.c.code pc = .ok (i, len) := K.2.1 (pc, i, len) (List.mem_of_getElem? hd)
/-! ### plain steps -/
def intAt (Ls : Array Slot) (k : Nat) : Option Int32 := match Ls[k]? with | some (.val (.int v)) => some v | _ => none
def longAt (Ls : Array Slot) (k : Nat) : Option Int64 := match Ls[k]? with | some (.val (.long v)) => some v | _ => none
def refAt (Ls : Array Slot) (k : Nat) : Option Value := match Ls[k]? with | some (.val (.ref a)) => some (.ref a) | some (.val .null) => some .null | _ => none
theorem intAt_ok {k : Nat} {v : Int32} (q : intAt Ls k = some v) : Ls[k]? = some (.val (.int v)) := by
  unfold intAt at q; split at q
  · rename_i u; cases q; exact u
  · cases q
theorem longAt_ok {k : Nat} {v : Int64} (q : longAt Ls k = some v) : Ls[k]? = some (.val (.long v)) := by
  unfold longAt at q; split at q
  · rename_i u; cases q; exact u
  · cases q
theorem refAt_ok {k : Nat} {v : Value} (q : refAt Ls k = some v) : Ls[k]? = some (.val v) ∧ v.isRef = true := by
  unfold refAt at q; split at q
  · rename_i u; cases q; exact ⟨u, rfl⟩
  · rename_i u; cases q; exact ⟨u, rfl⟩
  · cases q
def sem1 (i : Instr) (n pc : Nat) (Ls : Array Slot) (st : List Value) : Option (Nat × Array Slot × List Value) :=
  match i, n, st with
  | .aconst_null, 1, st => some (pc + 1, Ls, .null :: st)
  | .iconst z, 1, st => some (pc + 1, Ls, .int (Int32.ofInt z) :: st)
  | .bipush z, 2, st => some (pc + 2, Ls, .int (Int8.ofInt z).toInt32 :: st)
  | .sipush z, 3, st => some (pc + 3, Ls, .int (Int16.ofInt z).toInt32 :: st)
  | .iload k, 2, st => (intAt Ls k).map fun v => (pc + 2, Ls, .int v :: st)
  | .iload_n k, 1, st => (intAt Ls k.val).map fun v => (pc + 1, Ls, .int v :: st)
  | .lload k, 2, st => (longAt Ls k).map fun v => (pc + 2, Ls, .long v :: st)
  | .lload_n k, 1, st => (longAt Ls k.val).map fun v => (pc + 1, Ls, .long v :: st)
  | .aload k, 2, st => (refAt Ls k).map fun v => (pc + 2, Ls, v :: st)
  | .aload_n k, 1, st => (refAt Ls k.val).map fun v => (pc + 1, Ls, v :: st)
  | .istore k, 2, .int x :: st => (storeLocals Ls k (.int x)).map fun l => (pc + 2, l, st)
  | .istore_n k, 1, .int x :: st => (storeLocals Ls k.val (.int x)).map fun l => (pc + 1, l, st)
  | .astore k, 2, .ref x :: st => (storeLocals Ls k (.ref x)).map fun l => (pc + 2, l, st)
  | .astore k, 2, .null :: st => (storeLocals Ls k .null).map fun l => (pc + 2, l, st)
  | .astore_n k, 1, .ref x :: st => (storeLocals Ls k.val (.ref x)).map fun l => (pc + 1, l, st)
  | .astore_n k, 1, .null :: st => (storeLocals Ls k.val .null).map fun l => (pc + 1, l, st)
  | .pop, 1, x :: st => if x.category = 1 then some (pc + 1, Ls, st) else none
  | .dup, 1, x :: st => if x.category = 1 then some (pc + 1, Ls, x :: x :: st) else none
  | .dup_x1, 1, x :: y :: st => if x.category = 1 then (if y.category = 1 then some (pc + 1, Ls, x :: y :: x :: st) else none) else none
  | .iadd, 1, .int y :: .int x :: st => some (pc + 1, Ls, .int (x + y) :: st)
  | .isub, 1, .int y :: .int x :: st => some (pc + 1, Ls, .int (x - y) :: st)
  | .imul, 1, .int y :: .int x :: st => some (pc + 1, Ls, .int (x * y) :: st)
  | .iand, 1, .int y :: .int x :: st => some (pc + 1, Ls, .int (x &&& y) :: st)
  | .ior, 1, .int y :: .int x :: st => some (pc + 1, Ls, .int (x ||| y) :: st)
  | .ixor, 1, .int y :: .int x :: st => some (pc + 1, Ls, .int (x ^^^ y) :: st)
  | .ishl, 1, .int y :: .int x :: st => some (pc + 1, Ls, .int (x <<< (y &&& 31)) :: st)
  | .ishr, 1, .int y :: .int x :: st => some (pc + 1, Ls, .int (x >>> (y &&& 31)) :: st)
  | .iushr, 1, .int y :: .int x :: st => some (pc + 1, Ls, .int (XT.ushr x y) :: st)
  | .lushr, 1, .int y :: .long x :: st => some (pc + 1, Ls, .long (XT.ushrL x y) :: st)
  | .i2l, 1, .int x :: st => some (pc + 1, Ls, .long x.toInt64 :: st)
  | .l2i, 1, .long x :: st => some (pc + 1, Ls, .int x.toInt32 :: st)
  | .i2b, 1, .int x :: st => some (pc + 1, Ls, .int x.toInt8.toInt32 :: st)
  | .i2c, 1, .int x :: st => some (pc + 1, Ls, .int x.toUInt32.toUInt16.toUInt32.toInt32 :: st)
  | .lcmp, 1, .long y :: .long x :: st => some (pc + 1, Ls, .int (XT.cmpL x y) :: st)
  | .iinc k z, 3, st => (intAt Ls k).bind fun x => (storeLocals Ls k (.int (x + Int32.ofInt z))).map fun l => (pc + 3, l, st)
  | .goto o, 3, st => if 0 ≤ (pc : Int) + o then some (((pc : Int) + o).toNat, Ls, st) else none
  | _, _, _ => none
theorem sem1_ok {tb : Tables} [Ours tb] {e : Env} {below : List Frame} {T target : State} {m : MethodId} {c : Code} (h : At T m c below) (hx : tb.exec = Jvm.exec) {i : Instr} {n : Nat} {f : Nat × Array Slot × List Value}
    (hd : decode c.code pc = .ok (i, n)) (hs : sem1 i n pc Ls st = some f) (hr : Steps tb e below (T.setTop (mkF m f.1 f.2.1 f.2.2)) target) : Steps tb e below (T.setTop (mkF m pc Ls st)) target := by
  unfold sem1 at hs
  split at hs
  · cases hs; exact XS.aconstNull h hx rfl hd hr
  · cases hs; exact XS.iconst h hx rfl hd hr
  · cases hs; exact XS.bipush h hx rfl hd hr
  · cases hs; exact XS.sipush h hx rfl hd hr
  · obtain ⟨v, q, rfl⟩ := Option.map_eq_some_iff.mp hs; exact XS.iload h hx rfl hd (intAt_ok q) hr
  · obtain ⟨v, q, rfl⟩ := Option.map_eq_some_iff.mp hs; exact XS.iloadN h hx rfl hd (intAt_ok q) hr
  · obtain ⟨v, q, rfl⟩ := Option.map_eq_some_iff.mp hs; exact XT.lload h hx rfl hd (longAt_ok q) hr
  · obtain ⟨v, q, rfl⟩ := Option.map_eq_some_iff.mp hs; exact XT.lloadN h hx rfl hd (longAt_ok q) hr
  · obtain ⟨v, q, rfl⟩ := Option.map_eq_some_iff.mp hs; exact XS.aload h hx rfl hd (refAt_ok q).1 (refAt_ok q).2 hr
  · obtain ⟨v, q, rfl⟩ := Option.map_eq_some_iff.mp hs; exact XS.aloadN h hx rfl hd (refAt_ok q).1 (refAt_ok q).2 hr
  · obtain ⟨v, q, rfl⟩ := Option.map_eq_some_iff.mp hs; exact XS.istore h hx rfl hd rfl q hr
  · obtain ⟨v, q, rfl⟩ := Option.map_eq_some_iff.mp hs; exact XS.istoreN h hx rfl hd rfl q hr
  · obtain ⟨v, q, rfl⟩ := Option.map_eq_some_iff.mp hs; exact XS.astore h hx rfl hd rfl rfl q hr
  · obtain ⟨v, q, rfl⟩ := Option.map_eq_some_iff.mp hs; exact XS.astore h hx rfl hd rfl rfl q hr
  · obtain ⟨v, q, rfl⟩ := Option.map_eq_some_iff.mp hs; exact XS.astoreN h hx rfl hd rfl rfl q hr
  · obtain ⟨v, q, rfl⟩ := Option.map_eq_some_iff.mp hs; exact XS.astoreN h hx rfl hd rfl rfl q hr
  · split at hs
    · rename_i q; cases hs; exact XT.pop h hx rfl hd rfl q hr
    · cases hs
  · split at hs
    · rename_i q; cases hs; exact XS.dup h hx rfl hd rfl q hr
    · cases hs
  · split at hs
    · rename_i q
      split at hs
      · rename_i q'; cases hs; exact XT.dupX1 h hx rfl hd rfl q q' hr
      · cases hs
    · cases hs
  · cases hs; exact XS.iadd h hx rfl hd rfl hr
  · cases hs; exact XS.isub h hx rfl hd rfl hr
  · cases hs; exact XS.imul h hx rfl hd rfl hr
  · cases hs; exact XS.iand h hx rfl hd rfl hr
  · cases hs; exact XT.ior h hx rfl hd rfl hr
  · cases hs; exact XT.ixor h hx rfl hd rfl hr
  · cases hs; exact XT.ishl h hx rfl hd rfl hr
  · cases hs; exact XT.ishr h hx rfl hd rfl hr
  · cases hs; exact XT.iushr h hx rfl hd rfl hr
  · cases hs; exact XT.lushr h hx rfl hd rfl hr
  · cases hs; exact XT.i2l h hx rfl hd rfl hr
  · cases hs; exact XT.l2i h hx rfl hd rfl hr
  · cases hs; exact XT.i2b h hx rfl hd rfl hr
  · cases hs; exact XT.i2c h hx rfl hd rfl hr
  · cases hs; exact XT.lcmp h hx rfl hd rfl hr
  · obtain ⟨x, q, hs⟩ := Option.bind_eq_some_iff.mp hs
    obtain ⟨v, q', rfl⟩ := Option.map_eq_some_iff.mp hs; exact XS.iinc h hx rfl hd (intAt_ok q) q' hr
  · split at hs
    · rename_i q; cases hs; exact XS.goto h hx rfl (pc0 := pc) rfl hd q rfl hr
    · cases hs
  · cases hs
def runs : Nat → List (Nat × Instr × Nat) → Nat × Array Slot × List Value → Option (Nat × Array Slot × List Value)
  | 0, _, f => some f
  | _ + 1, [], _ => none
  | n + 1, q :: P, f => if q.1 = f.1 then (sem1 q.2.1 q.2.2 f.1 f.2.1 f.2.2).bind fun f' => runs n P f' else none
theorem runs_ok {tb : Tables} [Ours tb] {e : Env} {below : List Frame} {T target : State} {m : MethodId} {c : Code} (h : At T m c below) (hx : tb.exec = Jvm.exec) : ∀ (n : Nat) (P : List (Nat × Instr × Nat)) (f f' : Nat × Array Slot × List Value),
    (∀ q ∈ P, decode c.code q.1 = .ok q.2) → runs n P f = some f' → Steps tb e below (T.setTop (mkF m f'.1 f'.2.1 f'.2.2)) target → Steps tb e below (T.setTop (mkF m f.1 f.2.1 f.2.2)) target
  | 0, _, f, f', _, hs, hr => by cases hs; exact hr
  | _ + 1, [], _, _, _, hs, _ => by cases hs
  | n + 1, q :: P, f, f', hP, hs, hr => by
    simp only [runs] at hs
    split at hs
    · rename_i u
      obtain ⟨g, q1, q2⟩ := Option.bind_eq_some_iff.mp hs
      exact sem1_ok h hx (by rw [← u]; exact hP q (List.mem_cons_self ..)) q1 (runs_ok h hx n P g f' (fun z hz => hP z (List.mem_cons_of_mem _ hz)) q2 hr)
    · cases hs
theorem go_run (K : Kd G B M) (k n : Nat) {pc' : Nat} {Ls' : Array Slot} {st' : List Value} (hr : runs n (M.P.drop k) (pc, Ls, st) = some (pc', Ls', st')) (g : Go G B M Q h sf cells slots pc' Ls' st') : Go G B M Q h sf cells slots pc Ls st := by
  intro T vm0 k0 locs W
  exact (g T vm0 k0 locs W).pre fun target q => runs_ok W.1.here K.1 n _ (pc, Ls, st) (pc', Ls', st') (fun z hz => K.2.1 z (List.mem_of_mem_drop hz)) hr q
/-! ### branches -/
theorem go_if2 (K : Kd G B M) {k : Nat} {cd : ClassFile.Cond} {o : Int} {x : Int32} (hd : M.P[k]? = some (pc, .ifCond cd o, 3)) {pc' : Nat} (ho : 0 ≤ (pc : Int) + o ∧ ((pc : Int) + o).toNat = pc') {A : Prop} [Decidable A] (hA : A → ifCond.holds cd x = true) (hN : ¬ A → ifCond.holds cd x = false)
    (gT : A → Go G B M Q h sf cells slots pc' Ls st) (gF : ¬ A → Go G B M Q h sf cells slots (pc + 3) Ls st) : Go G B M Q h sf cells slots pc Ls (.int x :: st) := by
  intro T vm0 k0 locs W
  by_cases a : A
  · exact (gT a T vm0 k0 locs W).pre fun target hr => XS.ifYes W.1.here K.1 rfl (pc0 := pc) (pc' := pc') rfl (K.dec hd) rfl (hA a) ho.1 ho.2 hr
  · exact (gF a T vm0 k0 locs W).pre fun target hr => XS.ifNo W.1.here K.1 rfl (K.dec hd) rfl (hN a) hr
theorem go_icmp2 (K : Kd G B M) {k : Nat} {cd : ClassFile.Cond} {o : Int} {x y : Int32} (hd : M.P[k]? = some (pc, .if_icmp cd o, 3)) {pc' : Nat} (ho : 0 ≤ (pc : Int) + o ∧ ((pc : Int) + o).toNat = pc') {A : Prop} [Decidable A] (hA : A → if_icmp.holds cd x y = true) (hN : ¬ A → if_icmp.holds cd x y = false)
    (gT : A → Go G B M Q h sf cells slots pc' Ls st) (gF : ¬ A → Go G B M Q h sf cells slots (pc + 3) Ls st) : Go G B M Q h sf cells slots pc Ls (.int y :: .int x :: st) := by
  intro T vm0 k0 locs W
  by_cases a : A
  · exact (gT a T vm0 k0 locs W).pre fun target hr => XS.icmpYes W.1.here K.1 rfl (pc0 := pc) (pc' := pc') rfl (K.dec hd) rfl (hA a) ho.1 ho.2 hr
  · exact (gF a T vm0 k0 locs W).pre fun target hr => XS.icmpNo W.1.here K.1 rfl (K.dec hd) rfl (hN a) hr
theorem go_ifeq (K : Kd G B M) {k : Nat} {o : Int} {x : Int32} (hd : M.P[k]? = some (pc, .ifCond .eq o, 3)) {pc' : Nat} (ho : 0 ≤ (pc : Int) + o ∧ ((pc : Int) + o).toNat = pc') (gT : x = 0 → Go G B M Q h sf cells slots pc' Ls st) (gF : ¬ x = 0 → Go G B M Q h sf cells slots (pc + 3) Ls st) : Go G B M Q h sf cells slots pc Ls (.int x :: st) :=
  go_if2 K hd ho (fun q => by rw [if0]; exact (teq q).1) (fun q => by rw [if0]; exact (feq q).1) gT gF
theorem go_ifne (K : Kd G B M) {k : Nat} {o : Int} {x : Int32} (hd : M.P[k]? = some (pc, .ifCond .ne o, 3)) {pc' : Nat} (ho : 0 ≤ (pc : Int) + o ∧ ((pc : Int) + o).toNat = pc') (gT : ¬ x = 0 → Go G B M Q h sf cells slots pc' Ls st) (gF : x = 0 → Go G B M Q h sf cells slots (pc + 3) Ls st) : Go G B M Q h sf cells slots pc Ls (.int x :: st) :=
  go_if2 K hd ho (A := ¬ x = 0) (fun q => by rw [if0]; exact (feq q).2) (fun q => by rw [if0]; exact (teq (Decidable.not_not.mp q)).2) gT (fun q => gF (Decidable.not_not.mp q))
theorem go_iflt (K : Kd G B M) {k : Nat} {o : Int} {x : Int32} (hd : M.P[k]? = some (pc, .ifCond .lt o, 3)) {pc' : Nat} (ho : 0 ≤ (pc : Int) + o ∧ ((pc : Int) + o).toNat = pc') (gT : x < 0 → Go G B M Q h sf cells slots pc' Ls st) (gF : ¬ x < 0 → Go G B M Q h sf cells slots (pc + 3) Ls st) : Go G B M Q h sf cells slots pc Ls (.int x :: st) :=
  go_if2 K hd ho (fun q => by rw [if0]; exact (tlt q).1) (fun q => by rw [if0]; exact (flt q).1) gT gF
theorem go_ifge (K : Kd G B M) {k : Nat} {o : Int} {x : Int32} (hd : M.P[k]? = some (pc, .ifCond .ge o, 3)) {pc' : Nat} (ho : 0 ≤ (pc : Int) + o ∧ ((pc : Int) + o).toNat = pc') (gT : ¬ x < 0 → Go G B M Q h sf cells slots pc' Ls st) (gF : x < 0 → Go G B M Q h sf cells slots (pc + 3) Ls st) : Go G B M Q h sf cells slots pc Ls (.int x :: st) :=
  go_if2 K hd ho (A := ¬ x < 0) (fun q => by rw [if0]; exact (flt q).2.1) (fun q => by rw [if0]; exact (tlt (Decidable.not_not.mp q)).2.1) gT (fun q => gF (Decidable.not_not.mp q))
theorem go_ifgt (K : Kd G B M) {k : Nat} {o : Int} {x : Int32} (hd : M.P[k]? = some (pc, .ifCond .gt o, 3)) {pc' : Nat} (ho : 0 ≤ (pc : Int) + o ∧ ((pc : Int) + o).toNat = pc') (gT : 0 < x → Go G B M Q h sf cells slots pc' Ls st) (gF : ¬ 0 < x → Go G B M Q h sf cells slots (pc + 3) Ls st) : Go G B M Q h sf cells slots pc Ls (.int x :: st) :=
  go_if2 K hd ho (fun q => by rw [if0]; exact (tlt q).2.2.1) (fun q => by rw [if0]; exact (flt q).2.2.1) gT gF
theorem go_ifle (K : Kd G B M) {k : Nat} {o : Int} {x : Int32} (hd : M.P[k]? = some (pc, .ifCond .le o, 3)) {pc' : Nat} (ho : 0 ≤ (pc : Int) + o ∧ ((pc : Int) + o).toNat = pc') (gT : ¬ 0 < x → Go G B M Q h sf cells slots pc' Ls st) (gF : 0 < x → Go G B M Q h sf cells slots (pc + 3) Ls st) : Go G B M Q h sf cells slots pc Ls (.int x :: st) :=
  go_if2 K hd ho (A := ¬ 0 < x) (fun q => by rw [if0]; exact (flt q).2.2.2) (fun q => by rw [if0]; exact (tlt (Decidable.not_not.mp q)).2.2.2) gT (fun q => gF (Decidable.not_not.mp q))
theorem go_icmpeq (K : Kd G B M) {k : Nat} {o : Int} {x y : Int32} (hd : M.P[k]? = some (pc, .if_icmp .eq o, 3)) {pc' : Nat} (ho : 0 ≤ (pc : Int) + o ∧ ((pc : Int) + o).toNat = pc') (gT : x = y → Go G B M Q h sf cells slots pc' Ls st) (gF : ¬ x = y → Go G B M Q h sf cells slots (pc + 3) Ls st) : Go G B M Q h sf cells slots pc Ls (.int y :: .int x :: st) :=
  go_icmp2 K hd ho (fun q => (teq q).1) (fun q => (feq q).1) gT gF
theorem go_icmpne (K : Kd G B M) {k : Nat} {o : Int} {x y : Int32} (hd : M.P[k]? = some (pc, .if_icmp .ne o, 3)) {pc' : Nat} (ho : 0 ≤ (pc : Int) + o ∧ ((pc : Int) + o).toNat = pc') (gT : ¬ x = y → Go G B M Q h sf cells slots pc' Ls st) (gF : x = y → Go G B M Q h sf cells slots (pc + 3) Ls st) : Go G B M Q h sf cells slots pc Ls (.int y :: .int x :: st) :=
  go_icmp2 K hd ho (A := ¬ x = y) (fun q => (feq q).2) (fun q => (teq (Decidable.not_not.mp q)).2) gT (fun q => gF (Decidable.not_not.mp q))
theorem go_icmplt (K : Kd G B M) {k : Nat} {o : Int} {x y : Int32} (hd : M.P[k]? = some (pc, .if_icmp .lt o, 3)) {pc' : Nat} (ho : 0 ≤ (pc : Int) + o ∧ ((pc : Int) + o).toNat = pc') (gT : x < y → Go G B M Q h sf cells slots pc' Ls st) (gF : ¬ x < y → Go G B M Q h sf cells slots (pc + 3) Ls st) : Go G B M Q h sf cells slots pc Ls (.int y :: .int x :: st) :=
  go_icmp2 K hd ho (fun q => (tlt q).1) (fun q => (flt q).1) gT gF
theorem go_icmpge (K : Kd G B M) {k : Nat} {o : Int} {x y : Int32} (hd : M.P[k]? = some (pc, .if_icmp .ge o, 3)) {pc' : Nat} (ho : 0 ≤ (pc : Int) + o ∧ ((pc : Int) + o).toNat = pc') (gT : ¬ x < y → Go G B M Q h sf cells slots pc' Ls st) (gF : x < y → Go G B M Q h sf cells slots (pc + 3) Ls st) : Go G B M Q h sf cells slots pc Ls (.int y :: .int x :: st) :=
  go_icmp2 K hd ho (A := ¬ x < y) (fun q => (flt q).2.1) (fun q => (tlt (Decidable.not_not.mp q)).2.1) gT (fun q => gF (Decidable.not_not.mp q))
theorem go_icmpgt (K : Kd G B M) {k : Nat} {o : Int} {x y : Int32} (hd : M.P[k]? = some (pc, .if_icmp .gt o, 3)) {pc' : Nat} (ho : 0 ≤ (pc : Int) + o ∧ ((pc : Int) + o).toNat = pc') (gT : y < x → Go G B M Q h sf cells slots pc' Ls st) (gF : ¬ y < x → Go G B M Q h sf cells slots (pc + 3) Ls st) : Go G B M Q h sf cells slots pc Ls (.int y :: .int x :: st) :=
  go_icmp2 K hd ho (fun q => (tlt q).2.2.1) (fun q => (flt q).2.2.1) gT gF
theorem go_icmple (K : Kd G B M) {k : Nat} {o : Int} {x y : Int32} (hd : M.P[k]? = some (pc, .if_icmp .le o, 3)) {pc' : Nat} (ho : 0 ≤ (pc : Int) + o ∧ ((pc : Int) + o).toNat = pc') (gT : ¬ y < x → Go G B M Q h sf cells slots pc' Ls st) (gF : y < x → Go G B M Q h sf cells slots (pc + 3) Ls st) : Go G B M Q h sf cells slots pc Ls (.int y :: .int x :: st) :=
  go_icmp2 K hd ho (A := ¬ y < x) (fun q => (flt q).2.2.2) (fun q => (tlt (Decidable.not_not.mp q)).2.2.2) gT (fun q => gF (Decidable.not_not.mp q))
theorem go_ifnullY (K : Kd G B M) {k : Nat} {o : Int} (hd : M.P[k]? = some (pc, .ifnull o, 3)) {pc' : Nat} (ho : 0 ≤ (pc : Int) + o ∧ ((pc : Int) + o).toNat = pc') (g : Go G B M Q h sf cells slots pc' Ls st) : Go G B M Q h sf cells slots pc Ls (.null :: st) := by
  intro T vm0 k0 locs W
  exact (g T vm0 k0 locs W).pre fun target hr => XS.ifnullYes W.1.here K.1 rfl (pc0 := pc) (pc' := pc') rfl (K.dec hd) rfl ho.1 ho.2 hr
theorem go_ifnullN (K : Kd G B M) {k : Nat} {o : Int} {a : Addr} (hd : M.P[k]? = some (pc, .ifnull o, 3)) (g : Go G B M Q h sf cells slots (pc + 3) Ls st) : Go G B M Q h sf cells slots pc Ls (.ref a :: st) := by
  intro T vm0 k0 locs W
  exact (g T vm0 k0 locs W).pre fun target hr => XS.ifnullNo W.1.here K.1 rfl (K.dec hd) rfl hr
theorem go_ifnonY (K : Kd G B M) {k : Nat} {o : Int} {a : Addr} (hd : M.P[k]? = some (pc, .ifnonnull o, 3)) {pc' : Nat} (ho : 0 ≤ (pc : Int) + o ∧ ((pc : Int) + o).toNat = pc') (g : Go G B M Q h sf cells slots pc' Ls st) : Go G B M Q h sf cells slots pc Ls (.ref a :: st) := by
  intro T vm0 k0 locs W
  exact (g T vm0 k0 locs W).pre fun target hr => XT.ifnonnullYes W.1.here K.1 rfl (pc0 := pc) (pc' := pc') rfl (K.dec hd) rfl ho.1 ho.2 hr
theorem go_ifnonN (K : Kd G B M) {k : Nat} {o : Int} (hd : M.P[k]? = some (pc, .ifnonnull o, 3)) (g : Go G B M Q h sf cells slots (pc + 3) Ls st) : Go G B M Q h sf cells slots pc Ls (.null :: st) := by
  intro T vm0 k0 locs W
  exact (g T vm0 k0 locs W).pre fun target hr => XT.ifnonnullNo W.1.here K.1 rfl (K.dec hd) rfl hr
theorem go_acmp (K : Kd G B M) {k : Nat} {cd : ACond} {o : Int} {x y : Value} (hd : M.P[k]? = some (pc, .if_acmp cd o, 3)) (h1 : x.isRef = true) (h2 : y.isRef = true) {same : Bool} (hq : decide (x = y) = same) {pc' : Nat} (ho : 0 ≤ (pc : Int) + o) (hp : pc' = if acV cd same = true then ((pc : Int) + o).toNat else pc + 3)
    (g : Go G B M Q h sf cells slots pc' Ls st) : Go G B M Q h sf cells slots pc Ls (y :: x :: st) := by
  intro T vm0 k0 locs W
  exact (g T vm0 k0 locs W).pre fun target hr => RoadKit.acmp W.1 K.1 rfl h1 h2 (pc0 := pc) rfl (K.dec hd) rfl hq ho hp hr
theorem go_irem (K : Kd G B M) {k : Nat} {x y : Int32} (hd : M.P[k]? = some (pc, .irem, 1)) (hy : y ≠ 0) (g : Go G B M Q h sf cells slots (pc + 1) Ls (.int (x % y) :: st)) : Go G B M Q h sf cells slots pc Ls (.int y :: .int x :: st) := by
  intro T vm0 k0 locs W
  exact (g T vm0 k0 locs W).pre fun target hr => iremM W.1 K.1 rfl (K.dec hd) rfl hy hr
/-! ### the end -/
theorem go_leave (K : Kd G B M) {v : Option Value} (hv : M.ret = none → v = none) (q : ∀ Sf : Addr → Prop, (∀ x ∈ sf, Sf x) → Q v h Sf)
    (rt : ∀ (T : State) (vm0 : Vm) (locs : List Loc) (fs : List Frame), Stand B.p G.l B.e M.R (B.s.setVm vm0) B.m B.as B.bl B.mt B.c T locs cells slots →
      (∀ (f : JFrame) (acts : List Action), f.method = B.m → f.locked = none → f.entered = [] → (doReturn B.e (T.setTop f) acts v).1 = T.setFrames fs) → Steps B.p.tables B.e B.bl (T.setTop (mkF B.m pc Ls st)) (T.setFrames fs))
    (hc : cells ≤ M.R.cells) (hs : slots ≤ M.R.slots) : Go G B M Q h sf cells slots pc Ls st := by
  intro T vm0 k0 locs W
  obtain ⟨X, eT, hS, hk, hZ, hown, hF, hE, hC, hs0⟩ := W
  obtain ⟨fs, hr, hrun, hend, hW⟩ := X.leaveW hS (by rw [eT]; exact hk) (v := v) (fun z => hv (by rw [← K.2.2.2.1]; exact z)) K.2.2.2.2.1
  obtain ⟨w1, w2, w3, w4⟩ := hW
  have A := CHv.at X hZ K.2.2.2.2.2.2 hC.1
  refine ⟨_, v, locs, rt T vm0 locs fs X hr, hrun, hend, ?_, hF, ?_, ?_, w1, w2, w3, w4.mono hc hs⟩
  · show Q v T.heap (fun x => Safe G.Z G.EL T.vm T.heap x ∧ x < T.heap.size)
    rw [eT]
    exact q _ fun x hx => ⟨A.safe (hs0 x hx).2 (hs0 x hx).1, (hs0 x hx).2⟩
  · show Ext G.Z.heap T.heap
    rw [eT]; exact hE
  · show CHr G.Z G.EL B.s.vm B.s.heap T.vm T.heap
    rw [eT]; exact hC.trans A
theorem go_return (K : Kd G B M) {k : Nat} (hd : M.P[k]? = some (pc, .return_, 1)) (hr : M.ret = none) (hc : Nat.ble cells M.R.cells = true) (hs : Nat.ble slots M.R.slots = true) (q : ∀ Sf : Addr → Prop, (∀ x ∈ sf, Sf x) → Q none h Sf) : Go G B M Q h sf cells slots pc Ls [] :=
  go_leave K (fun _ => rfl) q (fun T vm0 locs fs X hl => X.returnOut K.1 (K.2.2.2.1.trans hr) (K.dec hd) hl) (Nat.le_of_ble_eq_true hc) (Nat.le_of_ble_eq_true hs)
theorem go_ret (K : Kd G B M) {k : Nat} {i : Instr} {t : FieldType} {w : Value} (hd : M.P[k]? = some (pc, i, 1)) (hr : M.ret = some t) (hn : narrow t w = w)
    (hi : (i = .ireturn ∧ (t = .int ∨ t = .boolean ∨ t = .byte ∨ t = .char ∨ t = .short) ∧ ∃ z, w = .int z) ∨ (i = .lreturn ∧ t = .long ∧ ∃ z, w = .long z) ∨ (i = .dreturn ∧ t = .double ∧ ∃ z, w = .double z) ∨ (i = .freturn ∧ t = .float ∧ ∃ z, w = .float z) ∨ (i = .areturn ∧ t.isReference = true ∧ w.isRef = true))
    (hc : Nat.ble cells M.R.cells = true) (hs : Nat.ble slots M.R.slots = true) (q : ∀ Sf : Addr → Prop, (∀ x ∈ sf, Sf x) → Q (some w) h Sf) : Go G B M Q h sf cells slots pc Ls (w :: st) :=
  go_leave K (fun z => by rw [hr] at z; cases z) q (fun T vm0 locs fs X hl => retOut X K.1 (K.2.2.2.1.trans hr) hn hi (K.dec hd) hl) (Nat.le_of_ble_eq_true hc) (Nat.le_of_ble_eq_true hs)
theorem go_ireturn (K : Kd G B M) {k : Nat} {t : FieldType} {z : Int32} (hd : M.P[k]? = some (pc, .ireturn, 1)) (hr : M.ret = some t) (ht : t = .int ∨ t = .boolean ∨ t = .byte ∨ t = .char ∨ t = .short) (hn : narrow t (.int z) = .int z) (hc : Nat.ble cells M.R.cells = true) (hs : Nat.ble slots M.R.slots = true) (q : ∀ Sf : Addr → Prop, (∀ x ∈ sf, Sf x) → Q (some (.int z)) h Sf) : Go G B M Q h sf cells slots pc Ls (.int z :: st) :=
  go_ret K hd hr hn (Or.inl ⟨rfl, ht, z, rfl⟩) hc hs q
theorem go_areturn (K : Kd G B M) {k : Nat} {t : FieldType} {w : Value} (hd : M.P[k]? = some (pc, .areturn, 1)) (hr : M.ret = some t) (ht : t.isReference = true) (hw : w.isRef = true) (hn : narrow t w = w) (hc : Nat.ble cells M.R.cells = true) (hs : Nat.ble slots M.R.slots = true) (q : ∀ Sf : Addr → Prop, (∀ x ∈ sf, Sf x) → Q (some w) h Sf) : Go G B M Q h sf cells slots pc Ls (w :: st) :=
  go_ret K hd hr hn (Or.inr (Or.inr (Or.inr (Or.inr ⟨rfl, ht, hw⟩)))) hc hs q
theorem go_lreturn (K : Kd G B M) {k : Nat} {z : Int64} (hd : M.P[k]? = some (pc, .lreturn, 1)) (hr : M.ret = some .long) (hc : Nat.ble cells M.R.cells = true) (hs : Nat.ble slots M.R.slots = true) (q : ∀ Sf : Addr → Prop, (∀ x ∈ sf, Sf x) → Q (some (.long z)) h Sf) : Go G B M Q h sf cells slots pc Ls (.long z :: st) :=
  go_ret K hd hr rfl (Or.inr (Or.inl ⟨rfl, rfl, z, rfl⟩)) hc hs q
end Base
end Jvm.OwnW
namespace Jvm.OwnW
open Sem ClassFile Op Lib Bundle Jvm.Stand Jvm.Free Jvm.LawKit Jvm.RoadKit
section Heap
variable {G : Gb} {B : Cx} {M : Mt} {R : Room} {Q : Option Value → Heap → (Addr → Prop) → Prop} {h : Heap} {sf : List Addr} {cells slots pc : Nat} {Ls : Array Slot} {st : List Value}
theorem go_getfield (K : Kd G B M) {k ix : Nat} {R0 O n d host : String} {a : Addr} {v : Value} (hd : M.P[k]? = some (pc, .getfield ix, 3)) (w : Wd G (.fieldLink M.own ix R0 n d) ∨ Wd G (.fieldLinkNest M.own ix R0 n d host)) (via : Via G.Z R0 O n d) (F : Fld G.Z h a O n d v)
    (g : Go G B M Q h sf cells slots (pc + 3) Ls (v :: st)) : Go G B M Q h sf cells slots pc Ls (.ref a :: st) := by
  intro T vm0 k0 locs W
  obtain ⟨X, eT, hS, hk, hZ, hown, hF, hE, hC, hs⟩ := W
  obtain ⟨T', X', e', st'⟩ := RoadKit.getF X K.1 hZ hown w via eT F (g := mkF B.m pc Ls (.ref a :: st)) rfl rfl (K.dec hd)
  exact (g T' vm0 k0 locs ⟨X', e', hS, hk, hZ, hown, hF, hE, hC, hs⟩).pre st'
theorem go_getstatic (K : Kd G B M) {k ix : Nat} {R0 O n d host : String} {v : Value} (hd : M.P[k]? = some (pc, .getstatic ix, 3)) (w : Wd G (.fieldLink M.own ix R0 n d) ∨ Wd G (.fieldLinkNest M.own ix R0 n d host)) (via : Via G.Z R0 O n d) (F : Sta G.Z G.Z.heap O n d v)
    (g : Go G B M Q h sf cells slots (pc + 3) Ls (v :: st)) : Go G B M Q h sf cells slots pc Ls st := by
  intro T vm0 k0 locs W
  obtain ⟨X, eT, hS, hk, hZ, hown, hF, hE, hC, hs⟩ := W
  obtain ⟨T', X', e', st'⟩ := getS2 X K.1 hZ hown w via eT (F.ext hE) (g := mkF B.m pc Ls st) rfl (K.dec hd)
  exact (g T' vm0 k0 locs ⟨X', e', hS, hk, hZ, hown, hF, hE, hC, hs⟩).pre st'
theorem go_new (K : Kd G B M) {k ix n : Nat} {C : String} (hd : M.P[k]? = some (pc, .new ix, 3)) (w : Wd G (.classLink M.own ix C)) (wi : Wd G (.instantiable C n)) (wz : Wd G (.initialized C)) (hc : Nat.ble (cells + 1) M.R.cells = true) (hl : Nat.ble (slots + n) M.R.slots = true)
    (g : ∀ (h' : Heap) (a : Addr), a = h.size → G.Z.heap.size ≤ a → Ext h h' → Exa G.Z h' a C → (∀ {O nm d : String} {ty : FieldType}, Laid G.Z G.a0 C O nm d → parseFieldDescriptor d = some ty → Fld G.Z h' a O nm d (defaultValue ty)) → Go G B M Q h' (a :: sf) (cells + 1) (slots + n) (pc + 3) Ls (.ref a :: st)) : Go G B M Q h sf cells slots pc Ls st := by
  intro T vm0 k0 locs W
  obtain ⟨X, eT, hS, hk, hZ, hown, hF, hE, hC, hs⟩ := W
  obtain ⟨T', h', X', e', E', A', D', -, st'⟩ := newO X K.1 hZ hown w wi wz eT (g := mkF B.m pc Ls st) rfl (K.dec hd) (Nat.le_of_ble_eq_true hc) (Nat.le_of_ble_eq_true hl)
  refine (g h' h.size rfl hE.1 E' A' D' T' vm0 k0 locs ⟨X', e', hS, Nat.le_trans hk E'.1, hZ, hown, hF, ⟨Nat.le_trans hE.1 E'.1, fun x c q => E'.2 x c (hE.2 x c q)⟩, hC.trans (CHr.ext E' hC.1), fun x hx => ?_⟩).pre st'
  rcases List.mem_cons.mp hx with rfl | hx
  · exact ⟨Safe.ext E' hC.1 (Safe.new (Nat.le_refl _)), A'.lt⟩
  · exact ⟨Safe.ext E' hC.1 (hs x hx).1, Nat.lt_of_lt_of_le (hs x hx).2 E'.1⟩
theorem go_wr (K : Kd G B M) {a : Addr} {sl pc' : Nat} {v : Value} {st' : List Value} (ha : G.Z.heap.size ≤ a) (hsf : a ∈ sf ∨ ∀ vm0 : Vm, G.Z.vm.Alike vm0 → Safe G.Z G.EL vm0 h a)
    (law : ∀ (T : State) (vm0 : Vm) (locs : List Loc), Stand B.p G.l B.e M.R (B.s.setVm vm0) B.m B.as B.bl B.mt B.c T locs cells slots → T.heap = h → G.Z.Warmed39 vm0 → vm0.findClass M.own = some B.m.cls →
      ∃ (T' : State) (h' : Heap), Stand B.p G.l B.e M.R (B.s.setVm vm0) B.m B.as B.bl B.mt B.c T' (locs ++ [⟨a, sl⟩]) cells slots ∧ T'.heap = h' ∧ Wr h h' a sl v ∧ ∀ target, Steps B.p.tables B.e B.bl (T'.setTop (mkF B.m pc' Ls st')) target → Steps B.p.tables B.e B.bl (T.setTop (mkF B.m pc Ls st)) target)
    (g : ∀ h' : Heap, Wr h h' a sl v → Go G B M Q h' sf cells slots pc' Ls st') : Go G B M Q h sf cells slots pc Ls st := by
  intro T vm0 k0 locs W
  obtain ⟨X, eT, hS, hk, hZ, hown, hF, hE, hC, hs⟩ := W
  obtain ⟨T', h', X', e', W', st''⟩ := law T vm0 locs X eT hZ hown
  have S : Safe G.Z G.EL vm0 h a := hsf.elim (fun q => (hs a q).1) (fun q => q vm0 hZ.alike)
  exact (g h' W' T' vm0 k0 _ ⟨X', e', hS, by rw [W'.size]; exact hk, hZ, hown, Fr.snoc X' hF ha, (Old.wr (n0 := G.Z.heap.size) ⟨rfl, hE⟩ W' ha).2, hC.trans (CHr.wr W' S hC.1), fun x hx => ⟨Safe.wr W' S hC.1 (hs x hx).1, by rw [W'.size]; exact (hs x hx).2⟩⟩).pre st''
theorem go_putfield (K : Kd G B M) {k ix kk : Nat} {R0 O n d host C : String} {ty : FieldType} {a : Addr} {v old : Value} (hd : M.P[k]? = some (pc, .putfield ix, 3)) (w : Wd G (.fieldLink M.own ix R0 n d) ∨ Wd G (.fieldLinkNest M.own ix R0 n d host)) (via : Via G.Z R0 O n d) (F : Fld G.Z h a O n d old) (E : Exa G.Z h a C)
    (L : Wd G (.lays C O n d) ∨ (Wd G (.laysFinal C O n d) ∧ M.own = O ∧ M.nm = "<init>")) (wi : Wd G (.instantiable C kk)) (hty : parseFieldDescriptor d = some ty) (hn : narrow ty v = v) (hf : fits ty v = true) (ha : G.Z.heap.size ≤ a) (hsf : a ∈ sf ∨ (C ≠ "java/lang/String" ∧ C ≠ "[B"))
    (g : ∀ h' : Heap, Wr h h' a (RoadKit.slotOf G.Z O n d) v → Go G B M Q h' sf cells slots (pc + 3) Ls st) : Go G B M Q h sf cells slots pc Ls (v :: .ref a :: st) :=
  go_wr K ha (hsf.imp id fun q vm0 hal => Safe.exa hal E q.1 q.2) (fun T vm0 locs X eT hZ hown => RoadKit.putF X K.1 hZ hown w via eT F E (L.imp id fun q => ⟨q.1, q.2.1, K.2.2.2.2.2.1.trans q.2.2⟩) wi hty hn hf (g := mkF B.m pc Ls (v :: .ref a :: st)) rfl rfl (K.dec hd)) g
theorem go_newarray (K : Kd G B M) {k cap : Nat} {aty : ArrayType} {n : Int32} (hd : M.P[k]? = some (pc, .newarray aty, 2)) (w : Wd G (.arrayClass (newarray.typeOf aty))) (hn : ¬ n < 0) (hcap : n.toNatClampNeg ≤ cap) (hb : Nat.ble (cap * 8) 536870912 = true) (hc : Nat.ble (cells + 1) M.R.cells = true) (hl : Nat.ble (slots + cap) M.R.slots = true)
    (g : ∀ (h' : Heap) (a : Addr) (kA : ClassId), a = h.size → G.Z.heap.size ≤ a → Ext h h' → Arv G.Z h' a kA (newarray.typeOf aty) n [] (defaultValue (newarray.typeOf aty)) → Go G B M Q h' (a :: sf) (cells + 1) (slots + cap) (pc + 2) Ls (.ref a :: st)) : Go G B M Q h sf cells slots pc Ls (.int n :: st) := by
  intro T vm0 k0 locs W
  obtain ⟨X, eT, hS, hk, hZ, hown, hF, hE, hC, hs⟩ := W
  obtain ⟨T', h', cA, X', e', E', A', st'⟩ := newP X K.1 hZ w eT (g := mkF B.m pc Ls (.int n :: st)) rfl (K.dec hd) rfl hn hcap (Nat.le_of_ble_eq_true hb) (Nat.le_of_ble_eq_true hc) (Nat.le_of_ble_eq_true hl)
  refine (g h' h.size cA rfl hE.1 E' (Arv.new A' hn) T' vm0 k0 locs ⟨X', e', hS, Nat.le_trans hk E'.1, hZ, hown, hF, ⟨Nat.le_trans hE.1 E'.1, fun x c q => E'.2 x c (hE.2 x c q)⟩, hC.trans (CHr.ext E' hC.1), fun x hx => ?_⟩).pre st'
  rcases List.mem_cons.mp hx with rfl | hx
  · exact ⟨Safe.ext E' hC.1 (Safe.new (Nat.le_refl _)), A'.lt⟩
  · exact ⟨Safe.ext E' hC.1 (hs x hx).1, Nat.lt_of_lt_of_le (hs x hx).2 E'.1⟩
theorem go_castore (K : Kd G B M) {k i : Nat} {a : Addr} {kA : ClassId} {z j x : Int32} {vs : List Value} {dv : Value} (hd : M.P[k]? = some (pc, .castore, 1)) (A : Arv G.Z h a kA .char z vs dv) (hj : ¬ j < 0 ∧ j < z) (hi : j.toNatClampNeg = i) (hl : i < vs.length) (ha : G.Z.heap.size ≤ a)
    (g : ∀ h' : Heap, Wr h h' a j.toNatClampNeg (.int (nar .char x)) → Arv G.Z h' a kA .char z (vs.set i (.int (nar .char x))) dv → Go G B M Q h' sf cells slots (pc + 1) Ls st) : Go G B M Q h sf cells slots pc Ls (.int x :: .int j :: .ref a :: st) := by
  obtain ⟨c, A1, q1, S, q3, H, Gf⟩ := A
  exact go_wr K ha (Or.inr fun vm0 hal => Safe.arr hal A1 (by decide)) (fun T vm0 locs X eT hZ hown => stC X K.1 hZ eT A1 (inb_of S hj) (g := mkF B.m pc Ls (.int x :: .int j :: .ref a :: st)) rfl rfl (K.dec hd)) fun h' W => g h' W (Arv.set A1 q1 S q3 H Gf (fits_nar_char _) W i hi hl)
theorem go_bastore (K : Kd G B M) {k i : Nat} {a : Addr} {kA : ClassId} {z j x : Int32} {vs : List Value} {dv : Value} (hd : M.P[k]? = some (pc, .bastore, 1)) (A : Arv G.Z h a kA .byte z vs dv) (hj : ¬ j < 0 ∧ j < z) (hi : j.toNatClampNeg = i) (hl : i < vs.length) (ha : G.Z.heap.size ≤ a) (hsf : a ∈ sf)
    (g : ∀ h' : Heap, Wr h h' a j.toNatClampNeg (.int (nar .byte x)) → Arv G.Z h' a kA .byte z (vs.set i (.int (nar .byte x))) dv → Go G B M Q h' sf cells slots (pc + 1) Ls st) : Go G B M Q h sf cells slots pc Ls (.int x :: .int j :: .ref a :: st) := by
  obtain ⟨c, A1, q1, S, q3, H, Gf⟩ := A
  exact go_wr K ha (Or.inl hsf) (fun T vm0 locs X eT hZ hown => stB X K.1 hZ eT A1 (inb_of S hj) (g := mkF B.m pc Ls (.int x :: .int j :: .ref a :: st)) rfl rfl (K.dec hd)) fun h' W => g h' W (Arv.set A1 q1 S q3 H Gf (fits_nar_byte _) W i hi hl)
theorem go_iastore (K : Kd G B M) {k i : Nat} {a : Addr} {kA : ClassId} {z j x : Int32} {vs : List Value} {dv : Value} (hd : M.P[k]? = some (pc, .iastore, 1)) (A : Arv G.Z h a kA .int z vs dv) (hj : ¬ j < 0 ∧ j < z) (hi : j.toNatClampNeg = i) (hl : i < vs.length) (ha : G.Z.heap.size ≤ a)
    (g : ∀ h' : Heap, Wr h h' a j.toNatClampNeg (.int x) → Arv G.Z h' a kA .int z (vs.set i (.int x)) dv → Go G B M Q h' sf cells slots (pc + 1) Ls st) : Go G B M Q h sf cells slots pc Ls (.int x :: .int j :: .ref a :: st) := by
  obtain ⟨c, A1, q1, S, q3, H, Gf⟩ := A
  exact go_wr K ha (Or.inr fun vm0 hal => Safe.arr hal A1 (by decide)) (fun T vm0 locs X eT hZ hown => stI X K.1 hZ eT A1 (inb_of S hj) (g := mkF B.m pc Ls (.int x :: .int j :: .ref a :: st)) rfl rfl (K.dec hd)) fun h' W => g h' W (Arv.set A1 q1 S q3 H Gf rfl W i hi hl)
theorem go_caload (K : Kd G B M) {k : Nat} {a : Addr} {kA : ClassId} {z j : Int32} {vs : List Value} {v dv : Value} (hd : M.P[k]? = some (pc, .caload, 1)) (A : Arv G.Z h a kA .char z vs dv) (hj : ¬ j < 0 ∧ j < z) (hv : vs.getD j.toNatClampNeg dv = v)
    (g : Go G B M Q h sf cells slots (pc + 1) Ls (v :: st)) : Go G B M Q h sf cells slots pc Ls (.int j :: .ref a :: st) := by
  intro T vm0 k0 locs W
  obtain ⟨c, A1, q1, S, q3, H, Gf⟩ := A
  have X := W.1
  exact (g T vm0 k0 locs W).pre fun target hr => X.caload K.1 (j := j) (v := v) (by rw [W.2.1]; exact A1.1) (State.isArrayOf_alike W.2.2.2.2.1.alike A1.2.1) A1.2.2 (inb_of S hj) (H.at (inb_of S hj) hv) (g := mkF B.m pc Ls (.int j :: .ref a :: st)) rfl rfl (K.dec hd) _ hr
theorem go_baload (K : Kd G B M) {k : Nat} {a : Addr} {kA : ClassId} {z j : Int32} {vs : List Value} {v dv : Value} (hd : M.P[k]? = some (pc, .baload, 1)) (A : Arv G.Z h a kA .byte z vs dv) (hj : ¬ j < 0 ∧ j < z) (hv : vs.getD j.toNatClampNeg dv = v)
    (g : Go G B M Q h sf cells slots (pc + 1) Ls (v :: st)) : Go G B M Q h sf cells slots pc Ls (.int j :: .ref a :: st) := by
  intro T vm0 k0 locs W
  obtain ⟨c, A1, q1, S, q3, H, Gf⟩ := A
  have X := W.1
  exact (g T vm0 k0 locs W).pre fun target hr => X.baloadBytes K.1 (j := j) (v := v) (by rw [W.2.1]; exact A1.1) (State.isArrayOf_alike W.2.2.2.2.1.alike A1.2.1) A1.2.2 (inb_of S hj) (H.at (inb_of S hj) hv) (g := mkF B.m pc Ls (.int j :: .ref a :: st)) rfl rfl (K.dec hd) _ hr
theorem go_iaload (K : Kd G B M) {k : Nat} {a : Addr} {kA : ClassId} {z j : Int32} {vs : List Value} {v dv : Value} (hd : M.P[k]? = some (pc, .iaload, 1)) (A : Arv G.Z h a kA .int z vs dv) (hj : ¬ j < 0 ∧ j < z) (hv : vs.getD j.toNatClampNeg dv = v)
    (g : Go G B M Q h sf cells slots (pc + 1) Ls (v :: st)) : Go G B M Q h sf cells slots pc Ls (.int j :: .ref a :: st) := by
  intro T vm0 k0 locs W
  obtain ⟨c, A1, q1, S, q3, H, Gf⟩ := A
  have X := W.1
  exact (g T vm0 k0 locs W).pre fun target hr => X.iaload K.1 (j := j) (v := v) (by rw [W.2.1]; exact A1.1) (State.isArrayOf_alike W.2.2.2.2.1.alike A1.2.1) A1.2.2 (inb_of S hj) (H.at (inb_of S hj) hv) (g := mkF B.m pc Ls (.int j :: .ref a :: st)) rfl rfl (K.dec hd) _ hr
theorem go_aaload (K : Kd G B M) {k : Nat} {a : Addr} {kA : ClassId} {ty : FieldType} {z j : Int32} {vs : List Value} {v dv : Value} (hd : M.P[k]? = some (pc, .aaload, 1)) (A : Arv G.Z h a kA ty z vs dv) (hty : ty.isReference = true) (hj : ¬ j < 0 ∧ j < z) (hv : vs.getD j.toNatClampNeg dv = v)
    (g : Go G B M Q h sf cells slots (pc + 1) Ls (v :: st)) : Go G B M Q h sf cells slots pc Ls (.int j :: .ref a :: st) := by
  intro T vm0 k0 locs W
  obtain ⟨c, A1, q1, S, q3, H, Gf⟩ := A
  have X := W.1
  exact (g T vm0 k0 locs W).pre fun target hr => X.aaload K.1 (j := j) (v := v) (by rw [W.2.1]; exact A1.1) (State.isArrayOf_alike W.2.2.2.2.1.alike A1.2.1) hty A1.2.2 (inb_of S hj) (H.at (inb_of S hj) hv) (g := mkF B.m pc Ls (.int j :: .ref a :: st)) rfl rfl (K.dec hd) _ hr
theorem go_arraylength (K : Kd G B M) {k : Nat} {a : Addr} {kA : ClassId} {ty : FieldType} {z : Int32} {vs : List Value} {dv : Value} (hd : M.P[k]? = some (pc, .arraylength, 1)) (A : Arv G.Z h a kA ty z vs dv)
    (g : Go G B M Q h sf cells slots (pc + 1) Ls (.int z :: st)) : Go G B M Q h sf cells slots pc Ls (.ref a :: st) := by
  intro T vm0 k0 locs W
  obtain ⟨c, A1, q1, S, q3, H, Gf⟩ := A
  have X := W.1
  exact (g T vm0 k0 locs W).pre fun target hr => X.arraylength K.1 (by rw [W.2.1]; exact A1.1) (State.isArrayOf_alike W.2.2.2.2.1.alike A1.2.1) (g := mkF B.m pc Ls (.ref a :: st)) rfl rfl (K.dec hd) _ (by rw [len_of S q3]; exact hr)
theorem go_cast (K : Kd G B M) {k ix : Nat} {C : String} {a : Addr} (hd : M.P[k]? = some (pc, .checkcast ix, 3)) (w : Wd G (.classLink M.own ix C)) (F : Ins G.Z h a C true)
    (g : Go G B M Q h sf cells slots (pc + 3) Ls (.ref a :: st)) : Go G B M Q h sf cells slots pc Ls (.ref a :: st) := by
  intro T vm0 k0 locs W
  obtain ⟨X, eT, hS, hk, hZ, hown, hF, hE, hC, hs⟩ := W
  obtain ⟨T', X', e', st'⟩ := castY X K.1 hZ hown w eT F (g := mkF B.m pc Ls (.ref a :: st)) rfl rfl (K.dec hd)
  exact (g T' vm0 k0 locs ⟨X', e', hS, hk, hZ, hown, hF, hE, hC, hs⟩).pre st'
theorem go_instY (K : Kd G B M) {k ix : Nat} {C : String} {a : Addr} (hd : M.P[k]? = some (pc, .instanceof ix, 3)) (w : Wd G (.classLink M.own ix C)) (F : Ins G.Z h a C true)
    (g : Go G B M Q h sf cells slots (pc + 3) Ls (.int 1 :: st)) : Go G B M Q h sf cells slots pc Ls (.ref a :: st) := by
  intro T vm0 k0 locs W
  obtain ⟨X, eT, hS, hk, hZ, hown, hF, hE, hC, hs⟩ := W
  obtain ⟨T', X', e', st'⟩ := instY X K.1 hZ hown w eT F (g := mkF B.m pc Ls (.ref a :: st)) rfl rfl (K.dec hd)
  exact (g T' vm0 k0 locs ⟨X', e', hS, hk, hZ, hown, hF, hE, hC, hs⟩).pre st'
theorem go_instN (K : Kd G B M) {k ix : Nat} {C D : String} {a : Addr} (hd : M.P[k]? = some (pc, .instanceof ix, 3)) (w : Wd G (.classLink M.own ix C)) (E : Exa G.Z h a D) (F : ∃ c t, G.Z.vm.findClass D = some c ∧ G.Z.vm.findClass C = some t ∧ G.Z.vm.assignable c t = false)
    (g : Go G B M Q h sf cells slots (pc + 3) Ls (.int 0 :: st)) : Go G B M Q h sf cells slots pc Ls (.ref a :: st) := by
  intro T vm0 k0 locs W
  obtain ⟨X, eT, hS, hk, hZ, hown, hF, hE, hC, hs⟩ := W
  obtain ⟨T', X', e', st'⟩ := instNo X K.1 hZ hown w eT E F (g := mkF B.m pc Ls (.ref a :: st)) rfl rfl (K.dec hd)
  exact (g T' vm0 k0 locs ⟨X', e', hS, hk, hZ, hown, hF, hE, hC, hs⟩).pre st'
theorem go_inst0 (K : Kd G B M) {k ix : Nat} (hd : M.P[k]? = some (pc, .instanceof ix, 3)) (g : Go G B M Q h sf cells slots (pc + 3) Ls (.int 0 :: st)) : Go G B M Q h sf cells slots pc Ls (.null :: st) := by
  intro T vm0 k0 locs W
  exact (g T vm0 k0 locs W).pre fun target hr => W.1.instanceofNull K.1 (g := mkF B.m pc Ls (.null :: st)) rfl rfl (K.dec hd) target hr
theorem go_init0 (K : Kd G B M) {k ix : Nat} {a : Addr} (hd : M.P[k]? = some (pc, .invokespecial ix, 3)) (w1 : Wd G (.methodLink M.own ix Lib.objectInit)) (w2 : Wd G (.instanceMethod Lib.objectInit)) (w3 : Wd G (.code Lib.objectInit ⟨#[0xb1]⟩ 1 none)) (hsz : Ls.size = M.maxL)
    (hf : Nat.ble 1 M.R.frames = true) (hl : Nat.ble ((st.map fun v => v.category).sum + 12) M.R.locals = true) (g : Go G B M Q h sf cells slots (pc + 3) Ls st) : Go G B M Q h sf cells slots pc Ls (.ref a :: st) := by
  intro T vm0 k0 locs W
  obtain ⟨X, eT, hS, hk, hZ, hown, hF, hE, hC, hs⟩ := W
  obtain ⟨T', X', e', st'⟩ := initO X K.1 hZ hown w1 w2 w3 eT (g := mkF B.m pc Ls (.ref a :: st)) rfl (hsz.trans K.2.2.1.symm) rfl (K.dec hd) (Nat.le_of_ble_eq_true hf) (W := (st.map fun v => v.category).sum) (by show 2 * 0 + _ ≤ _; omega) (Nat.le_of_ble_eq_true hl)
  exact (g T' vm0 k0 locs ⟨X', e', hS, hk, hZ, hown, hF, hE, hC, hs⟩).pre st'
theorem go_ldcI (K : Kd G B M) {k ix : Nat} {v : Int32} (hd : M.P[k]? = some (pc, .ldc ix, 2)) (w : Wd G (.constant M.own ix v)) (g : Go G B M Q h sf cells slots (pc + 2) Ls (.int v :: st)) : Go G B M Q h sf cells slots pc Ls st := by
  intro T vm0 k0 locs W
  obtain ⟨X, eT, hS, hk, hZ, hown, hF, hE, hC, hs⟩ := id W
  exact (g T vm0 k0 locs W).pre (X.ldcInt K.1 hown (mv hZ w) (g := mkF B.m pc Ls st) rfl (K.dec hd))
/-- 'ldc' of a String constant, of which nothing is asked -/
theorem go_ldc (K : Kd G B M) {k ix n : Nat} {text : String} (hd : M.P[k]? = some (pc, .ldc ix, 2)) (w : Wd G (.stringLink M.own ix text)) (wS : ∀ d ∈ Bundle.stringAtoms, Wd G d) (hn : Nat.ble (4 * text.toList.length) n = true) (hb : Nat.ble n 536870912 = true) (hc : Nat.ble (cells + 2) M.R.cells = true) (hl : Nat.ble (slots + (n + 4)) M.R.slots = true)
    (g : ∀ (h' : Heap) (a : Addr), Ext h h' → Go G B M Q h' sf (cells + 2) (slots + (n + 4)) (pc + 2) Ls (.ref a :: st)) : Go G B M Q h sf cells slots pc Ls st := by
  intro T vm0 k0 locs W
  obtain ⟨X, eT, hS, hk, hZ, hown, hF, hE, hC, hs⟩ := W
  obtain ⟨a, T', h', k1, X', e', E', hS', hk', hZ', hown', hC', -, st'⟩ := ldcOH X K.1 hZ hown w wS eT hS hk K.2.2.2.2.2.2 hC.1 (g := mkF B.m pc Ls st) rfl (K.dec hd) (Nat.le_of_ble_eq_true hn) (Nat.le_of_ble_eq_true hb) (Nat.le_of_ble_eq_true hc) (Nat.le_of_ble_eq_true hl)
  exact (g h' a E' T' T'.vm k1 locs ⟨X', e', hS', hk', hZ', hown', hF, ⟨Nat.le_trans hE.1 E'.1, fun x c q => E'.2 x c (hE.2 x c q)⟩, hC.trans hC', fun x hx => ⟨hC'.safe (hs x hx).2 (hs x hx).1, Nat.lt_of_lt_of_le (hs x hx).2 E'.1⟩⟩).pre st'
/-- 'ldc' of a String constant whose text is known -/
theorem go_ldcS (K : Kd G B M) {k ix n : Nat} {text : String} (hd : M.P[k]? = some (pc, .ldc ix, 2)) (w : Wd G (.stringLink M.own ix text)) (wS : ∀ d ∈ Bundle.stringAtoms, Wd G d) (hmem : (M.own, ix) ∈ G.EL)
    {vs : List Value} {z : Int32} (ht : (∀ c ∈ text.toList, c.toNat < 256) ∧ text.toList.map (fun c => Value.int (Jvm.Lit.byteI c.toNat.toUInt16)) = vs) (hz : ¬ z < 0) (hzl : z.toNatClampNeg = vs.length)
    (hn : Nat.ble (4 * text.toList.length) n = true) (hb : Nat.ble n 536870912 = true) (hc : Nat.ble (cells + 2) M.R.cells = true) (hl : Nat.ble (slots + (n + 4)) M.R.slots = true)
    (g : ∀ (h' : Heap) (a b : Addr) (kb : ClassId), Ext h h' → Exa G.Z h' a "java/lang/String" → Fld G.Z h' a "java/lang/String" "coder" "B" (.int 0) → Fld G.Z h' a "java/lang/String" "value" "[B" (.ref b) → Arv G.Z h' b kb .byte z vs (.int 0) → (∀ x ∈ sf, x ≠ a ∧ x ≠ b) →
      Go G B M Q h' sf (cells + 2) (slots + (n + 4)) (pc + 2) Ls (.ref a :: st)) : Go G B M Q h sf cells slots pc Ls st := by
  intro T vm0 k0 locs W
  obtain ⟨X, eT, hS, hk, hZ, hown, hF, hE, hC, hs⟩ := W
  obtain ⟨a, T', h', k1, b, kb, X', e', E', hS', hk', hZ', hown', A1, A2, A3, A4, -, -, hC', -, hne, st'⟩ := ldcCH X K.1 hZ hown w wS eT hS hk K.2.2.2.2.2.2 hmem hC.1 ht hz hzl (g := mkF B.m pc Ls st) rfl (K.dec hd) (Nat.le_of_ble_eq_true hn) (Nat.le_of_ble_eq_true hb) (Nat.le_of_ble_eq_true hc) (Nat.le_of_ble_eq_true hl)
  have hsf : ∀ x ∈ sf, Safe G.Z G.EL T'.vm h' x ∧ x < h'.size := fun x hx => ⟨hC'.safe (hs x hx).2 (hs x hx).1, Nat.lt_of_lt_of_le (hs x hx).2 E'.1⟩
  exact (g h' a b kb E' A1 A2 A3 A4 (fun x hx => hne x (hsf x hx).1) T' T'.vm k1 locs ⟨X', e', hS', hk', hZ', hown', hF, ⟨Nat.le_trans hE.1 E'.1, fun x c q => E'.2 x c (hE.2 x c q)⟩, hC.trans hC', hsf⟩).pre st'
end Heap
/-! ### contracts and calls -/
section Calls
variable {G : Gb} {B : Cx} {M : Mt} {R : Room} {Q : Option Value → Heap → (Addr → Prop) → Prop} {h : Heap} {sf : List Addr} {cells slots pc : Nat} {Ls : Array Slot} {st : List Value}
theorem ctr_of (M : Mt) {ws : List Jvm.Cond} {y : MethodName} {bytes : ByteArray} {as' : Array Value} (ho : M.own = y.cls) (hnm : M.nm = y.name) (pf : plainFor y = true) (hP : ∀ q ∈ M.P, decode bytes q.1 = .ok q.2) (hEL : EW G.Z G.a0 G.EL) {Ls : Array Slot} (ef : ∀ m, entryFrame m as' M.maxL = mkF m 0 Ls [])
    (H : ∀ B : Cx, Kd G B M → Ext G.Z.heap h → Go G B M Q h sf 0 0 0 Ls []) : Ctr G ws y bytes M.maxL M.ret M.R as' h sf Q := by
  refine MetFree.of_bodySF pf hisR ?_
  intro p e s m args below meth c s₁ Bd hml hP' hK
  obtain ⟨rfl, hZ, hh, hCH, hE, hs⟩ := hP'
  have hK : Kd G ((p, e, s, m), (args, below, meth, c)) M := ⟨Bd.exec, fun q hq => by show decode c.code q.1 = _; rw [Bd.bytes]; exact hP q hq, hml, Bd.returns, Bd.notSynchronized, (name_of_methodNamed Bd.named Bd.method).1.trans hnm.symm, hEL⟩
  have X0 : Stand p G.l e M.R s m args below meth c s₁ [] 0 0 := Stand.of_body Bd
  have X1 : Stand p G.l e M.R (s.setVm s.vm) m args below meth c s₁ [] 0 0 := X0
  have e0 : s₁.heap = h := by rw [← hh, Bd.state]; rfl
  have hown : s.vm.findClass M.own = some m.cls := by rw [ho]; exact findClass_of_methodNamed Bd.named
  have hb : CHr G.Z G.EL s.vm s.heap s.vm h := by rw [hh]; exact CHr.refl hCH
  obtain ⟨t, v, L, k1, k2, k3, k4, k5, k6, k7, k8⟩ := H ((p, e, s, m), (args, below, meth, c)) hK hE s₁ s.vm 0 [] ⟨X1, e0, (State.WarmedH.refl s).since 0, Nat.zero_le _, hZ, hown, Fr.nil _, hE, hb, hs⟩
  refine ⟨t, .returned v, ?_, k2, k3, v, L, rfl, ⟨k4, k5, k6⟩, k7, k8⟩
  rw [ef m]
  exact k1
theorem backG {y : MethodName} {bytes : ByteArray} {maxL : Nat} {ret : Option FieldType} {rm : Room} {len W : Nat} {as' : Array Value} {Qc : Option Value → Heap → (Addr → Prop) → Prop} {sf' : List Addr} {p : Program} {e : Env} {below : List Frame} {s : State} {args : Array Value} {vm0 : Vm}
    (C : Ctr G [] y bytes maxL ret rm as' h sf' Qc) (hZ : G.Z.Warmed39 vm0) (wc : Wd G (.code y bytes maxL ret)) (wz : Wd G (.initialized y.cls)) (hf : rm.frames + 1 ≤ R.frames) (hl : W + (maxL + 11) + rm.locals ≤ R.locals) (hEL : EW G.Z G.a0 G.EL) (H : CHv G.Z G.EL vm0 h) (hE : Ext G.Z.heap h) (hs : ∀ x ∈ sf', Safe G.Z G.EL vm0 h x ∧ x < h.size) :
    BackS G.l R p e below (s.setVm vm0) args y len W (fun A a => a = as' ∧ A.U.heap = h ∧ A.cells + rm.cells ≤ R.cells ∧ A.slots + rm.slots ≤ R.slots)
      (fun A _ v B => ∃ L, (Qc v B.U.heap (fun x => Safe G.Z G.EL B.U.vm B.U.heap x ∧ x < B.U.heap.size) ∧ Fr G.Z.heap.size L ∧ Ext G.Z.heap B.U.heap) ∧ B.locs = A.locs ++ L ∧ B.cells = A.cells + rm.cells ∧ B.slots = A.slots + rm.slots ∧ CHr G.Z G.EL vm0 h B.U.vm B.U.heap) := by
  refine BackS.of_freeW (bytes := bytes) (maxL := maxL) (ret := ret) (E := fun _ first o t L k n => k = rm.cells ∧ n = rm.slots ∧ (∃ v, o = .returned v ∧ Qc v t.heap (fun x => Safe G.Z G.EL t.vm t.heap x ∧ x < t.heap.size) ∧ Fr G.Z.heap.size L ∧ Ext G.Z.heap t.heap) ∧ CHr G.Z G.EL first.vm first.heap t.vm t.heap) C hf hl ?_ ?_ ?_ ?_ ?_
  · intro m meth c A a Y hp
    have hU : G.Z.Warmed39 A.U.vm := wtrans (s := s.setVm vm0) hZ Y.warmed
    refine ⟨?_, mv hU wc, mv hU wz, hp.2.2.1, hp.2.2.2⟩
    show (Jvm.Cond.and _ .tt).before a A.U = true
    rw [Cond.before_and, mv hU wc]; rfl
  · intro m meth c A a g mk Y hp
    have A1 := CHv.at Y hZ hEL H
    exact ⟨hp.1, wtrans (s := s.setVm vm0) hZ Y.warmed, hp.2.1, A1.1, hE, fun x hx => ⟨A1.safe (hs x hx).2 (hs x hx).1, (hs x hx).2⟩⟩
  · intros; trivial
  · intro _ _ _ _ q
    obtain ⟨v, L, h1, h2, h3, h4⟩ := q
    exact ⟨L, _, _, h4, rfl, rfl, ⟨v, h1, h2⟩, h3⟩
  · intro m meth c A a g mk v t L k n Y hp _ _ q
    obtain ⟨e1, e2, ⟨v', e3, e4⟩, e5⟩ := q
    cases e3; subst e1 e2
    refine ⟨L, e4, rfl, rfl, rfl, (CHv.at Y hZ hEL H).trans ?_⟩
    rw [← hp.2.1]; exact e5
/-- the room that a call asks of its maker -/
def rok (R : Room) (rest : List Value) (maxL : Nat) (rm : Room) (cells slots : Nat) : Bool :=
  Nat.ble (rm.frames + 1) R.frames && (Nat.ble ((rest.map fun v => v.category).sum + (maxL + 11) + rm.locals) R.locals && (Nat.ble (cells + rm.cells) R.cells && Nat.ble (slots + rm.slots) R.slots))
theorem rok_ok {rest : List Value} {maxL : Nat} {rm : Room} (q : rok R rest maxL rm cells slots = true) : rm.frames + 1 ≤ R.frames ∧ (rest.map fun v => v.category).sum + (maxL + 11) + rm.locals ≤ R.locals ∧ cells + rm.cells ≤ R.cells ∧ slots + rm.slots ≤ R.slots := by
  simp only [rok, Bool.and_eq_true] at q
  exact ⟨Nat.le_of_ble_eq_true q.1, Nat.le_of_ble_eq_true q.2.1, Nat.le_of_ble_eq_true q.2.2.1, Nat.le_of_ble_eq_true q.2.2.2⟩
/-- behind any call: the walk goes on -/
theorem call_on {rm : Room} {Qc : Option Value → Heap → (Addr → Prop) → Prop} {pc' : Nat} {rest : List Value} {T : State} {vm0 : Vm} {k0 : Nat} {locs : List Loc} (W : Wo G B M.own M.R h sf cells slots T vm0 k0 locs)
    (call : ∃ (v : Option Value) (vm₁ : Vm) (A : Pt), (B.s.setVm vm0).WarmedH vm₁ ∧ Stand B.p G.l B.e M.R ((B.s.setVm vm0).setVm A.U.vm) B.m B.as B.bl B.mt B.c A.U A.locs A.cells A.slots ∧ (B.s.setVm vm0).Since A.U.vm A.U.heap.size ∧ T.heap.size ≤ A.U.heap.size ∧
      (∃ L, (Qc v A.U.heap (fun x => Safe G.Z G.EL A.U.vm A.U.heap x ∧ x < A.U.heap.size) ∧ Fr G.Z.heap.size L ∧ Ext G.Z.heap A.U.heap) ∧ A.locs = locs ++ L ∧ A.cells = cells + rm.cells ∧ A.slots = slots + rm.slots ∧ CHr G.Z G.EL vm0 h A.U.vm A.U.heap) ∧
      Steps B.p.tables B.e B.bl (T.setTop (mkF B.m pc Ls st)) (A.U.setTop (mkF B.m pc' Ls (v.toList ++ rest))))
    (g : ∀ (v : Option Value) (h' : Heap) (Sf : Addr → Prop), h.size ≤ h'.size → Qc v h' Sf → ∃ nw : List Addr, (∀ x ∈ nw, Sf x) ∧ Go G B M Q h' (nw ++ sf) (cells + rm.cells) (slots + rm.slots) pc' Ls (v.toList ++ rest)) : Fin G B M.R Q (T.setTop (mkF B.m pc Ls st)) := by
  obtain ⟨X, eT, hS, hk, hZ, hown, hF, hE, hC, hs⟩ := W
  obtain ⟨v, vm₁, ⟨U, L0, c0, n0⟩, -, X', hS', hgr, ⟨L, ⟨hq, hfr, hext⟩, e1, e2, e3, hC'⟩, stp⟩ := call
  dsimp only [Pt.U, Pt.locs, Pt.cells, Pt.slots] at X' hS' hgr hq hfr hext e1 e2 e3 hC' stp
  subst e1 e2 e3
  rw [eT] at hgr
  obtain ⟨nw, n1, n2⟩ := g v U.heap _ hgr hq
  refine (n2 U U.vm U.heap.size _ ⟨X', rfl, hS.trans hS' (Nat.le_trans hk hgr), Nat.le_refl _, State.Warmed39.trans (t := B.s.setVm vm0) hZ hS'.1, (hS'.1.alike.findClass _ _).trans hown, hF.app hfr, hext, hC.trans hC', fun x hx => ?_⟩).pre fun target hr => stp.trans hr
  rcases List.mem_append.mp hx with hx | hx
  · exact n1 x hx
  · exact ⟨hC'.safe (hs x hx).2 (hs x hx).1, Nat.lt_of_lt_of_le (hs x hx).2 hgr⟩
theorem go_staticN (K : Kd G B M) {k ix : Nat} {y : MethodName} {bytes : ByteArray} {maxL : Nat} {ret : Option FieldType} {rm : Room} {argsL rest : List Value} {ps : List FieldType} {rt : Option FieldType} {sf' : List Addr} {Qc : Option Value → Heap → (Addr → Prop) → Prop} (hd : M.P[k]? = some (pc, .invokestatic ix, 3))
    (w1 : Wd G (.methodLink M.own ix y)) (w2 : Wd G (.static y)) (w3 : Wd G (.initialized y.cls)) (w4 : Wd G (.code y bytes maxL ret)) (hy : y.cls ≠ "java/lang/invoke/MethodHandle" ∧ y.cls ≠ "java/lang/invoke/VarHandle") (pd : parseMethodDescriptor y.desc = some ⟨ps, rt⟩)
    (C : Ctr G [] y bytes maxL ret rm argsL.toArray h sf' Qc) (hst : st = argsL.reverse ++ rest) (hlen : argsL.length = ps.length) (hsz : Ls.size = M.maxL) (hsub : ∀ x ∈ sf', x ∈ sf) (hrm : rok M.R rest maxL rm cells slots = true)
    (g : ∀ (v : Option Value) (h' : Heap) (Sf : Addr → Prop), h.size ≤ h'.size → Qc v h' Sf → ∃ nw : List Addr, (∀ x ∈ nw, Sf x) ∧ Go G B M Q h' (nw ++ sf) (cells + rm.cells) (slots + rm.slots) (pc + 3) Ls (v.toList ++ rest)) : Go G B M Q h sf cells slots pc Ls st := by
  intro T vm0 k0 locs W
  obtain ⟨r1, r2, r3, r4⟩ := rok_ok hrm
  obtain ⟨X, eT, hS, hk, hZ, hown, hF, hE, hC, hs⟩ := id W
  subst hst
  exact call_on W (callSS X K.1 hown (mv hZ w1) (mv hZ w2) (mv hZ w3) (mv hZ w4) hy (backG (W := (rest.map fun v => v.category).sum) C hZ w4 w3 r1 r2 K.2.2.2.2.2.2 hC.1 hE (fun x hx => hs x (hsub x hx))) (g := mkF B.m pc Ls (argsL.reverse ++ rest)) rfl (hsz.trans K.2.2.1.symm) (argsL := argsL) (rest := rest) (lenOf pd hlen) rfl (by show 2 * 0 + _ ≤ _; omega) (K.dec hd) (fun vm₁ _ => ⟨rfl, eT, r3, r4⟩)) g
theorem go_static (K : Kd G B M) {k ix : Nat} {y : MethodName} {bytes : ByteArray} {maxL : Nat} {ret : Option FieldType} {rm : Room} {argsL rest : List Value} {ps : List FieldType} {rt : Option FieldType} {sf' : List Addr} {Qc : Option Value → Heap → (Addr → Prop) → Prop} (hd : M.P[k]? = some (pc, .invokestatic ix, 3))
    (w1 : Wd G (.methodLink M.own ix y)) (w2 : Wd G (.static y)) (w3 : Wd G (.initialized y.cls)) (w4 : Wd G (.code y bytes maxL ret)) (hy : y.cls ≠ "java/lang/invoke/MethodHandle" ∧ y.cls ≠ "java/lang/invoke/VarHandle") (pd : parseMethodDescriptor y.desc = some ⟨ps, rt⟩)
    (C : Ctr G [] y bytes maxL ret rm argsL.toArray h sf' Qc) (hst : st = argsL.reverse ++ rest) (hlen : argsL.length = ps.length) (hsz : Ls.size = M.maxL) (hsub : ∀ x ∈ sf', x ∈ sf) (hrm : rok M.R rest maxL rm cells slots = true)
    (g : ∀ (v : Option Value) (h' : Heap) (Sf : Addr → Prop), h.size ≤ h'.size → Qc v h' Sf → Go G B M Q h' sf (cells + rm.cells) (slots + rm.slots) (pc + 3) Ls (v.toList ++ rest)) : Go G B M Q h sf cells slots pc Ls st :=
  go_staticN K hd w1 w2 w3 w4 hy pd C hst hlen hsz hsub hrm fun v h' Sf z q => ⟨[], (fun _ u => nomatch u), g v h' Sf z q⟩
theorem go_specialN (K : Kd G B M) {k ix : Nat} {y : MethodName} {bytes : ByteArray} {maxL : Nat} {rm : Room} {a : Addr} {argsL rest : List Value} {ps : List FieldType} {rt : Option FieldType} {sf' : List Addr} {Qc : Option Value → Heap → (Addr → Prop) → Prop} (hd : M.P[k]? = some (pc, .invokespecial ix, 3)) (hy1 : y.name = "<init>")
    (w1 : Wd G (.methodLink M.own ix y)) (w2 : Wd G (.instanceMethod y)) (w3 : Wd G (.initialized y.cls)) (w4 : Wd G (.code y bytes maxL none)) (hy : y.cls ≠ "java/lang/invoke/MethodHandle" ∧ y.cls ≠ "java/lang/invoke/VarHandle") (pd : parseMethodDescriptor y.desc = some ⟨ps, rt⟩)
    (C : Ctr G [] y bytes maxL none rm (.ref a :: argsL).toArray h sf' Qc) (hst : st = argsL.reverse ++ .ref a :: rest) (hlen : argsL.length = ps.length) (hsz : Ls.size = M.maxL) (hsub : ∀ x ∈ sf', x ∈ sf) (hrm : rok M.R rest maxL rm cells slots = true)
    (g : ∀ (v : Option Value) (h' : Heap) (Sf : Addr → Prop), h.size ≤ h'.size → Qc v h' Sf → ∃ nw : List Addr, (∀ x ∈ nw, Sf x) ∧ Go G B M Q h' (nw ++ sf) (cells + rm.cells) (slots + rm.slots) (pc + 3) Ls (v.toList ++ rest)) : Go G B M Q h sf cells slots pc Ls st := by
  intro T vm0 k0 locs W
  obtain ⟨r1, r2, r3, r4⟩ := rok_ok hrm
  obtain ⟨X, eT, hS, hk, hZ, hown, hF, hE, hC, hs⟩ := id W
  subst hst
  exact call_on W (X.specialBackS K.1 hy1 hown (mv hZ w1) (mv hZ w2) (mv hZ w4) hy (backG (W := (rest.map fun v => v.category).sum) C hZ w4 w3 r1 r2 K.2.2.2.2.2.2 hC.1 hE (fun x hx => hs x (hsub x hx))) (g := mkF B.m pc Ls (argsL.reverse ++ .ref a :: rest)) rfl (hsz.trans K.2.2.1.symm) (Steps.refl _) (a := a) (argsL := argsL) (rest := rest) (lenOf pd hlen) rfl (by show 2 * 0 + _ ≤ _; omega) (K.dec hd) (fun vm₁ _ => ⟨rfl, eT, r3, r4⟩)) g
theorem go_special (K : Kd G B M) {k ix : Nat} {y : MethodName} {bytes : ByteArray} {maxL : Nat} {rm : Room} {a : Addr} {argsL rest : List Value} {ps : List FieldType} {rt : Option FieldType} {sf' : List Addr} {Qc : Option Value → Heap → (Addr → Prop) → Prop} (hd : M.P[k]? = some (pc, .invokespecial ix, 3)) (hy1 : y.name = "<init>")
    (w1 : Wd G (.methodLink M.own ix y)) (w2 : Wd G (.instanceMethod y)) (w3 : Wd G (.initialized y.cls)) (w4 : Wd G (.code y bytes maxL none)) (hy : y.cls ≠ "java/lang/invoke/MethodHandle" ∧ y.cls ≠ "java/lang/invoke/VarHandle") (pd : parseMethodDescriptor y.desc = some ⟨ps, rt⟩)
    (C : Ctr G [] y bytes maxL none rm (.ref a :: argsL).toArray h sf' Qc) (hst : st = argsL.reverse ++ .ref a :: rest) (hlen : argsL.length = ps.length) (hsz : Ls.size = M.maxL) (hsub : ∀ x ∈ sf', x ∈ sf) (hrm : rok M.R rest maxL rm cells slots = true)
    (g : ∀ (v : Option Value) (h' : Heap) (Sf : Addr → Prop), h.size ≤ h'.size → Qc v h' Sf → Go G B M Q h' sf (cells + rm.cells) (slots + rm.slots) (pc + 3) Ls (v.toList ++ rest)) : Go G B M Q h sf cells slots pc Ls st :=
  go_specialN K hd hy1 w1 w2 w3 w4 hy pd C hst hlen hsz hsub hrm fun v h' Sf z q => ⟨[], (fun _ u => nomatch u), g v h' Sf z q⟩
theorem go_virtualN (K : Kd G B M) {k ix : Nat} {y z : MethodName} {bytes : ByteArray} {maxL : Nat} {ret : Option FieldType} {rm : Room} {C : String} {a : Addr} {argsL rest : List Value} {ps : List FieldType} {rt : Option FieldType} {sf' : List Addr} {Qc : Option Value → Heap → (Addr → Prop) → Prop} (hd : M.P[k]? = some (pc, .invokevirtual ix, 3))
    (w1 : Wd G (.methodLink M.own ix y)) (w2 : Wd G (.declares y)) (w3 : Wd G (.selects C y z)) (w4 : Wd G (.instanceMethod z)) (w5 : Wd G (.initialized z.cls)) (w6 : Wd G (.code z bytes maxL ret)) (hy : y.cls ≠ "java/lang/invoke/MethodHandle" ∧ y.cls ≠ "java/lang/invoke/VarHandle") (pd : parseMethodDescriptor y.desc = some ⟨ps, rt⟩) (E : Exa G.Z h a C)
    (nf : ∀ vm0 : Vm, G.Z.Warmed39 vm0 → NotFace (B.s.setVm vm0) y)
    (Ct : Ctr G [] z bytes maxL ret rm (.ref a :: argsL).toArray h sf' Qc) (hst : st = argsL.reverse ++ .ref a :: rest) (hlen : argsL.length = ps.length) (hsz : Ls.size = M.maxL) (hsub : ∀ x ∈ sf', x ∈ sf) (hrm : rok M.R rest maxL rm cells slots = true)
    (g : ∀ (v : Option Value) (h' : Heap) (Sf : Addr → Prop), h.size ≤ h'.size → Qc v h' Sf → ∃ nw : List Addr, (∀ x ∈ nw, Sf x) ∧ Go G B M Q h' (nw ++ sf) (cells + rm.cells) (slots + rm.slots) (pc + 3) Ls (v.toList ++ rest)) : Go G B M Q h sf cells slots pc Ls st := by
  intro T vm0 k0 locs W
  obtain ⟨r1, r2, r3, r4⟩ := rok_ok hrm
  obtain ⟨X, eT, hS, hk, hZ, hown, hF, hE, hC, hs⟩ := id W
  obtain ⟨cB, kB, i1, i2, i3⟩ := isOf (s := B.s.setVm vm0) hZ eT E
  subst hst
  exact call_on W (X.virtualBackS K.1 hown (mv hZ w1) (mv hZ w2) (nf vm0 hZ) (mv hZ w3) (mv hZ w4) hy (backG (W := (rest.map fun v => v.category).sum) Ct hZ w6 w5 r1 r2 K.2.2.2.2.2.2 hC.1 hE (fun x hx => hs x (hsub x hx))) i1 i3 (g := mkF B.m pc Ls (argsL.reverse ++ .ref a :: rest)) rfl (hsz.trans K.2.2.1.symm) (Steps.refl _) (argsL := argsL) (rest := rest) (lenOf pd hlen) rfl (by show 2 * 0 + _ ≤ _; omega) (K.dec hd) (fun vm₁ _ => ⟨rfl, eT, r3, r4⟩)) g
theorem go_virtual (K : Kd G B M) {k ix : Nat} {y z : MethodName} {bytes : ByteArray} {maxL : Nat} {ret : Option FieldType} {rm : Room} {C : String} {a : Addr} {argsL rest : List Value} {ps : List FieldType} {rt : Option FieldType} {sf' : List Addr} {Qc : Option Value → Heap → (Addr → Prop) → Prop} (hd : M.P[k]? = some (pc, .invokevirtual ix, 3))
    (w1 : Wd G (.methodLink M.own ix y)) (w2 : Wd G (.declares y)) (w3 : Wd G (.selects C y z)) (w4 : Wd G (.instanceMethod z)) (w5 : Wd G (.initialized z.cls)) (w6 : Wd G (.code z bytes maxL ret)) (hy : y.cls ≠ "java/lang/invoke/MethodHandle" ∧ y.cls ≠ "java/lang/invoke/VarHandle") (pd : parseMethodDescriptor y.desc = some ⟨ps, rt⟩) (E : Exa G.Z h a C)
    (nf : ∀ vm0 : Vm, G.Z.Warmed39 vm0 → NotFace (B.s.setVm vm0) y)
    (Ct : Ctr G [] z bytes maxL ret rm (.ref a :: argsL).toArray h sf' Qc) (hst : st = argsL.reverse ++ .ref a :: rest) (hlen : argsL.length = ps.length) (hsz : Ls.size = M.maxL) (hsub : ∀ x ∈ sf', x ∈ sf) (hrm : rok M.R rest maxL rm cells slots = true)
    (g : ∀ (v : Option Value) (h' : Heap) (Sf : Addr → Prop), h.size ≤ h'.size → Qc v h' Sf → Go G B M Q h' sf (cells + rm.cells) (slots + rm.slots) (pc + 3) Ls (v.toList ++ rest)) : Go G B M Q h sf cells slots pc Ls st :=
  go_virtualN K hd w1 w2 w3 w4 w5 w6 hy pd E nf Ct hst hlen hsz hsub hrm fun v h' Sf z q => ⟨[], (fun _ u => nomatch u), g v h' Sf z q⟩
end Calls
end Jvm.OwnW
namespace Jvm.OwnW
open Sem ClassFile Op Lib Bundle Jvm.Stand Jvm.Free Jvm.LawKit Jvm.RoadKit
section Small
variable {G : Gb} {B : Cx} {M : Mt} {Q : Option Value → Heap → (Addr → Prop) → Prop} {h h0 h1 h2 : Heap} {sf : List Addr} {cells slots pc : Nat} {Ls : Array Slot} {st : List Value} {a b : Addr}
theorem Ext.rf (h : Heap) : Ext h h := ⟨Nat.le_refl _, fun _ _ q => q⟩
theorem Ext.tr (E : Ext h0 h1) (F : Ext h1 h2) : Ext h0 h2 := ⟨Nat.le_trans E.1 F.1, fun x c q => F.2 x c (E.2 x c q)⟩
theorem Ext.keepN {ws : List Addr} (E : Ext h0 h1) (K : Keep h1 h2 ws) (q : ∀ x ∈ ws, h0.size ≤ x) : Ext h0 h2 :=
  ⟨Nat.le_trans E.1 K.1, fun x c r => K.2.1 x c (E.2 x c r) fun z => absurd (Array.getElem?_eq_some_iff.mp r).1 (Nat.not_lt.mpr (q x z))⟩
theorem Ext.wrN {sl : Nat} {v : Value} (E : Ext h0 h1) (W : Wr h1 h2 a sl v) (q : h0.size ≤ a) : Ext h0 h2 := Ext.keepN E (Keep.of_wr W) (allS q all0)
theorem Ext.keep0 {ws : List Addr} (E : Ext h0 h1) : Keep h0 h1 ws := (Keep.refl h0 ws).ext E
theorem sub0 : ∀ x ∈ ([] : List Addr), x ∈ sf := fun _ q => nomatch q
theorem subS {L : List Addr} (m : a ∈ sf) (r : ∀ x ∈ L, x ∈ sf) : ∀ x ∈ a :: L, x ∈ sf := fun x q => (List.mem_cons.mp q).elim (fun u => u ▸ m) (r x)
theorem nfS {C : String} {y : MethodName} {s : State} (w : Wd G (.selects C y y)) : ∀ vm0 : Vm, G.Z.Warmed39 vm0 → NotFace (s.setVm vm0) y := fun vm0 hZ => notFace_of_selects (args := #[]) (mv (s := s.setVm vm0) hZ w)
/-- the sheet's words, the constants whose text is asked, what the String laws ask -/
def Gl (ts : List Jvm.Cond) (el : List (String × Nat)) (G : Gb) : Prop := (∀ d ∈ ts, Wd G d) ∧ G.EL = el ∧ EW G.Z G.a0 G.EL ∧ (∀ d ∈ Bundle.stringAtoms, Wd G d) ∧ ∃ z : Int32, Sta G.Z G.Z.heap "java/lang/String" "COMPACT_STRINGS" "Z" (.int z) ∧ ¬ z = 0
variable {ts : List Jvm.Cond} {es : List (String × Nat)}
theorem Gl.w (H : Gl ts es G) {d : Jvm.Cond} (k : Nat) (q : ts[k]? = some d) : Wd G d := H.1 d (List.mem_of_getElem? q)
theorem Gl.el (H : Gl ts es G) : EW G.Z G.a0 G.EL := H.2.2.1
theorem Gl.ws (H : Gl ts es G) : ∀ d ∈ Bundle.stringAtoms, Wd G d := H.2.2.2.1
theorem Gl.cs (H : Gl ts es G) : ∃ z : Int32, Sta G.Z G.Z.heap "java/lang/String" "COMPACT_STRINGS" "Z" (.int z) ∧ ¬ z = 0 := H.2.2.2.2
theorem Gl.mem (H : Gl ts es G) {p : String × Nat} (q : p ∈ es) : p ∈ G.EL := H.2.1 ▸ q
/-! ### Strings -/
def by8 (cs : List Int32) : List Value := cs.map fun c => Value.int c.toInt8.toInt32
def Lat (cs : List Int32) : Prop := cs.length ≤ 4000 ∧ ∀ c ∈ cs, ¬ c < 0 ∧ ¬ (255 : Int32) < c
def Str (G : Gb) (h : Heap) (a : Addr) (cs : List Int32) : Prop := ∃ (t : Addr) (kb : ClassId), Exa G.Z h a "java/lang/String" ∧ Fld G.Z h a "java/lang/String" "coder" "B" (.int 0) ∧ Fld G.Z h a "java/lang/String" "value" "[B" (.ref t) ∧ Arv G.Z h t kb .byte cs.length.toInt32 (by8 cs) (.int 0)
variable {cs ds : List Int32}
theorem Str.exa (S : Str G h a cs) : Exa G.Z h a "java/lang/String" := by obtain ⟨t, kb, h1, -⟩ := S; exact h1
theorem Str.lt (S : Str G h a cs) : a < h.size := S.exa.lt
theorem Str.ext (S : Str G h a cs) (E : Ext h h1) : Str G h1 a cs := by
  obtain ⟨t, kb, e1, e2, e3, e4⟩ := S
  exact ⟨t, kb, Exa.ext E e1, Fld.ext E e2, Fld.ext E e3, e4.ext E⟩
theorem by8_len : (by8 cs).length = cs.length := by simp [by8]
theorem len_nn {n : Nat} (q : n < 2 ^ 31) : ¬ n.toInt32 < 0 := by
  rw [Int32.lt_iff_toInt_lt, len_toInt q]; have : (0 : Int32).toInt = 0 := rfl
  omega
theorem len_nat {n : Nat} (q : n < 2 ^ 31) : n.toInt32.toNatClampNeg = n := by
  simp only [Int32.toNatClampNeg, len_toInt q]; rfl
theorem len_lt {i n : Nat} (hn : n < 2 ^ 31) (q : i < n) : i.toInt32 < n.toInt32 := by
  rw [Int32.lt_iff_toInt_lt, len_toInt hn, len_toInt (Nat.lt_trans q hn)]; omega
theorem len_nlt {i n : Nat} (hi : i < 2 ^ 31) (q : n ≤ i) : ¬ i.toInt32 < n.toInt32 := by
  rw [Int32.lt_iff_toInt_lt, len_toInt hi, len_toInt (Nat.lt_of_le_of_lt q hi)]; omega
theorem len_succ (i : Nat) : i.toInt32 + Int32.ofInt 1 = (i + 1).toInt32 := by
  rw [show Int32.ofInt 1 = (1 : Nat).toInt32 from rfl]
  exact (Int32.ofNat_add i 1).symm
theorem lat_lt (q : Lat cs) : cs.length < 2 ^ 31 := Nat.lt_of_le_of_lt q.1 (by decide)
/-- 'ldc' of a constant whose text is asked, as a Str -/
theorem go_ldcT (K : Kd G B M) {k ix n : Nat} {text : String} (hd : M.P[k]? = some (pc, .ldc ix, 2)) (w : Wd G (.stringLink M.own ix text)) (wS : ∀ d ∈ Bundle.stringAtoms, Wd G d) (hmem : (M.own, ix) ∈ G.EL)
    (ht : (∀ c ∈ text.toList, c.toNat < 256) ∧ text.toList.map (fun c => Value.int (Jvm.Lit.byteI c.toNat.toUInt16)) = by8 cs) (hz : cs.length < 2 ^ 31)
    (hn : Nat.ble (4 * text.toList.length) n = true) (hb : Nat.ble n 536870912 = true) (hc : Nat.ble (cells + 2) M.R.cells = true) (hl : Nat.ble (slots + (n + 4)) M.R.slots = true)
    (g : ∀ (h' : Heap) (a : Addr), Ext h h' → Str G h' a cs → Go G B M Q h' sf (cells + 2) (slots + (n + 4)) (pc + 2) Ls (.ref a :: st)) : Go G B M Q h sf cells slots pc Ls st :=
  go_ldcS K hd w wS hmem ht (len_nn hz) (by rw [len_nat hz, by8_len]) hn hb hc hl fun h' a b kb E1 e1 e2 e3 e4 _ => g h' a E1 ⟨b, kb, e1, e2, e3, e4⟩
theorem c8_lat (x : Int32) : ¬ (x &&& 255) < 0 ∧ ¬ (255 : Int32) < (x &&& 255) := by
  have q := c_and x 255 (by decide)
  simp only [Int32.lt_iff_toInt_lt]
  have e1 : (255 : Int32).toInt = 255 := by decide
  have e0 : (0 : Int32).toInt = 0 := by decide
  rw [e1] at q ⊢; rw [e0]; omega
theorem nar_c8 (x : Int32) : nar .char (x &&& 255) = x &&& 255 := i2c_mask x
theorem nar_i2c8 (x : Int32) : nar .char (x &&& 255).toUInt32.toUInt16.toUInt32.toInt32 = x &&& 255 := by rw [i2c_mask]; exact i2c_mask x
theorem i8_idem (x : Int32) : x.toInt8.toInt32.toInt8.toInt32 = x.toInt8.toInt32 := by rw [Int8.toInt8_toInt32]
theorem Arv.ty_ne {k1 k2 : ClassId} {t1 t2 : FieldType} {z1 z2 : Int32} {v1 v2 : List Value} {d1 d2 : Value} (A : Arv G.Z h a k1 t1 z1 v1 d1) (A' : Arv G.Z h b k2 t2 z2 v2 d2) (q : t1 ≠ t2) : a ≠ b := fun e => by
  subst e
  obtain ⟨c1, ⟨x1, ⟨-, kk, y1, p1, z1⟩, -⟩, -⟩ := A
  obtain ⟨c2, ⟨x2, ⟨-, kk', y2, p2, z2⟩, -⟩, -⟩ := A'
  cases x1.symm.trans x2
  cases y1.symm.trans y2
  have := z1.symm.trans z2
  injection this with _ e
  exact q e
end Small
end Jvm.OwnW
namespace Jvm.OwnW
open Sem ClassFile Op Lib Bundle Jvm.Stand Jvm.Free Jvm.LawKit Jvm.RoadKit
section Small2
variable {G : Gb} {h h1 : Heap} {a b : Addr} {cs ds : List Int32}
theorem Str.wrO {C : String} {n sl : Nat} {v : Value} (S : Str G h b cs) (E : Exa G.Z h a C) (hC : C ≠ "java/lang/String") (wi : Wd G (.instantiable C n)) (W : Wr h h1 a sl v) : Str G h1 b cs := by
  obtain ⟨t, kb, e1, e2, e3, e4⟩ := S
  have n1 : b ≠ a := fun q => (Exa.ne E e1 hC) q.symm
  have n2 : t ≠ a := (Exa.neArv E e4 wi).symm
  exact ⟨t, kb, Exa.wr W e1, Fld.other W e2 (Or.inl n1), Fld.other W e3 (Or.inl n1), e4.other W n2⟩
theorem get_map {i : Nat} (q : i < cs.length) : (cs.map Value.int).getD i (.int 0) = .int cs[i] := by
  simp [List.getD_eq_getElem?_getD, q]
theorem get_by8 {i : Nat} (q : i < cs.length) : (by8 cs).getD i (.int 0) = .int cs[i].toInt8.toInt32 := by
  simp [by8, List.getD_eq_getElem?_getD, q]
theorem set_by8 {i k : Nat} (q : i < cs.length) : (by8 (cs.take i) ++ List.replicate (k + 1) (Value.int 0)).set i (.int (nar .byte cs[i].toInt8.toInt32)) = by8 (cs.take (i + 1)) ++ List.replicate k (Value.int 0) := by
  have e : nar .byte cs[i].toInt8.toInt32 = cs[i].toInt8.toInt32 := i8_idem _
  have l : (by8 (cs.take i)).length = i := by rw [by8_len, List.length_take]; omega
  rw [e, List.set_append_right _ _ (Nat.le_of_eq l), l, Nat.sub_self, List.replicate_succ, List.set_cons_zero, List.take_succ_eq_append_getElem q]
  show _ = List.map _ (cs.take i ++ [cs[i]]) ++ _
  rw [List.map_append, List.append_assoc]
  rfl
theorem len_zero {n : Nat} (hn : n < 2 ^ 31) (q : n.toInt32 = 0) : n = 0 := by
  have e := congrArg Int32.toInt q
  rw [len_toInt hn] at e
  have : (0 : Int32).toInt = 0 := rfl
  omega
theorem len_inj {n m : Nat} (hn : n < 2 ^ 31) (hm : m < 2 ^ 31) (q : n.toInt32 = m.toInt32) : n = m := by
  have e := congrArg Int32.toInt q
  rw [len_toInt hn, len_toInt hm] at e
  omega
/-- the low byte, as signed, tells a char of 0 to 255 -/
theorem i8_inj {x y : Int32} (hx : ¬ x < 0 ∧ ¬ (255 : Int32) < x) (hy : ¬ y < 0 ∧ ¬ (255 : Int32) < y) (q : x.toInt8.toInt32 = y.toInt8.toInt32) : x = y := by
  have e := congrArg Int32.toInt q
  have a1 := c_i2b x
  have a2 := c_i2b y
  simp only [Int32.lt_iff_toInt_lt] at hx hy
  have e0 : (0 : Int32).toInt = 0 := by decide
  have e1 : (255 : Int32).toInt = 255 := by decide
  rw [e0, e1] at hx hy
  apply Int32.toInt_inj.mp
  omega
theorem by8_inj : ∀ {cs ds : List Int32}, (∀ c ∈ cs, ¬ c < 0 ∧ ¬ (255 : Int32) < c) → (∀ c ∈ ds, ¬ c < 0 ∧ ¬ (255 : Int32) < c) → by8 cs = by8 ds → cs = ds
  | [], [], _, _, _ => rfl
  | [], _ :: _, _, _, q => by cases q
  | _ :: _, [], _, _, q => by cases q
  | c :: cs, d :: ds, h1, h2, q => by
    simp only [by8, List.map_cons, List.cons.injEq, Value.int.injEq] at q
    rw [i8_inj (h1 c (List.mem_cons_self ..)) (h2 d (List.mem_cons_self ..)) q.1, by8_inj (fun x hx => h1 x (List.mem_cons_of_mem _ hx)) (fun x hx => h2 x (List.mem_cons_of_mem _ hx)) q.2]
/-- one String, one text -/
theorem Str.inj (hl : Lat cs) (hl' : Lat ds) (S : Str G h a cs) (S' : Str G h a ds) : cs = ds := by
  obtain ⟨t, kb, -, -, e3, c, A, -, z1, -, H, -⟩ := S
  obtain ⟨t', kb', -, -, f3, c', A', -, z2, -, H', -⟩ := S'
  have et : t = t' := by
    by_cases u : (Value.ref t) = .ref t'
    · exact Value.ref.inj u
    · exact absurd rfl (Fld.ne e3 f3 u)
  subst et
  cases A.1.symm.trans A'.1
  have n1 := lat_lt hl
  have n2 := lat_lt hl'
  rw [len_nat n1] at z1
  rw [len_nat n2] at z2
  refine by8_inj hl.2 hl'.2 (List.ext_getElem (by rw [by8_len, by8_len]; omega) fun i q1 q2 => ?_)
  have u1 := H i (by rw [by8_len] at q1; omega)
  have u2 := H' i (by rw [by8_len] at q1; omega)
  have := Option.some.inj (u1.symm.trans u2)
  rw [List.getD_eq_getElem?_getD, List.getD_eq_getElem?_getD, List.getElem?_eq_getElem q1, List.getElem?_eq_getElem q2] at this
  exact this
end Small2
end Jvm.OwnW
namespace Jvm.OwnW
open Sem ClassFile Op Lib Bundle Jvm.Stand Jvm.Free Jvm.LawKit Jvm.RoadKit
theorem bool_n {b : Int32} (q : b = 0 ∨ b = 1) : narrow .boolean (.int b) = .int b := by rcases q with rfl | rfl <;> rfl
theorem bool_f {b : Int32} (q : b = 0 ∨ b = 1) : fits .boolean (.int b) = true := by rcases q with rfl | rfl <;> rfl
theorem lat1 {x : Int32} (q : ¬ x < 0 ∧ ¬ (255 : Int32) < x) : Lat [x] := ⟨(by simp), fun c hc => by cases List.mem_singleton.mp hc; exact q⟩
theorem lat0 : Lat [] := ⟨(by decide), fun c hc => nomatch hc⟩
theorem latC {x : Int32} {cs : List Int32} (q : ¬ x < 0 ∧ ¬ (255 : Int32) < x) (l : Lat cs) (hn : cs.length + 1 ≤ 4000) : Lat (x :: cs) := ⟨hn, fun c hc => by
  rcases List.mem_cons.mp hc with rfl | hc
  · exact q
  · exact l.2 c hc⟩
end Jvm.OwnW
namespace Jvm.OwnW
open Sem ClassFile Op Lib Bundle Jvm.Stand Jvm.Free Jvm.LawKit Jvm.RoadKit
theorem shr0 (x : Int32) : x >>> ((0 : Int32) &&& 31) = x := by
  have e := c_ishr x 0 0 (by decide)
  apply Int32.toInt_inj.mp
  rw [e]; simp
theorem c8_id {c : Int32} (q : ¬ c < 0 ∧ ¬ (255 : Int32) < c) : c &&& 255 = c := by
  apply Int32.toInt_inj.mp
  rw [c_mask c 255 8 (by decide) (by decide)]
  simp only [Int32.lt_iff_toInt_lt] at q
  have e0 : (0 : Int32).toInt = 0 := by decide
  have e1 : (255 : Int32).toInt = 255 := by decide
  rw [e0, e1] at q
  have : ((2 ^ 8 : Nat) : Int) = 256 := by decide
  rw [this]; omega
theorem nar_id {c : Int32} (q : ¬ c < 0 ∧ ¬ (255 : Int32) < c) : nar .char c = c := by
  have e := nar_c8 c
  rw [c8_id q] at e
  exact e
theorem char_n {c : Int32} (q : ¬ c < 0 ∧ ¬ (255 : Int32) < c) : narrow .char (.int c) = .int c := congrArg Value.int (nar_id q)
theorem b8_char {c : Int32} (q : ¬ c < 0 ∧ ¬ (255 : Int32) < c) : (c.toInt8.toInt32 &&& (255 : Int32)).toUInt32.toUInt16.toUInt32.toInt32 = c := by
  rw [i2c_mask]
  apply Int32.toInt_inj.mp
  rw [c_mask _ 255 8 (by decide) (by decide)]
  have a1 := c_i2b c
  simp only [Int32.lt_iff_toInt_lt] at q
  have e0 : (0 : Int32).toInt = 0 := by decide
  have e1 : (255 : Int32).toInt = 255 := by decide
  rw [e0, e1] at q
  have : ((2 ^ 8 : Nat) : Int) = 256 := by decide
  rw [this]; omega
end Jvm.OwnW
namespace Jvm.OwnW
open Sem ClassFile Op Lib Bundle Jvm.Stand Jvm.Free Jvm.LawKit Jvm.RoadKit
theorem Str.keepO {G : Gb} {h h1 : Heap} {a b : Addr} {cs : List Int32} {C : String} {n : Nat} (S : Str G h b cs) (E : Exa G.Z h a C) (hC : C ≠ "java/lang/String") (wi : Wd G (.instantiable C n)) (K : Keep h h1 [a]) : Str G h1 b cs := by
  obtain ⟨t, kb, e1, e2, e3, e4⟩ := S
  have n1 : b ≠ a := fun q => (Exa.ne E e1 hC) q.symm
  have n2 : t ≠ a := (Exa.neArv E e4 wi).symm
  exact ⟨t, kb, e1.keep K, e2.keep K (ninS n1 nin0), e3.keep K (ninS n1 nin0), e4.keep K (ninS n2 nin0)⟩
end Jvm.OwnW
namespace Jvm.OwnW
theorem cmpL_self (x : Int64) : Jvm.Free.XT.cmpL x x = 0 := by simp [Jvm.Free.XT.cmpL]
end Jvm.OwnW
namespace Jvm.OwnW
open Sem ClassFile Op Lib Bundle Jvm.Stand Jvm.Free Jvm.LawKit Jvm.RoadKit
theorem rem3 (x : Int32) : (x &&& 3) % 3 = 0 ∨ (x &&& 3) % 3 = 1 ∨ (x &&& 3) % 3 = 2 := by
  have a := c_and x 3 (by decide)
  have b := (c_irem (x &&& 3) 3 3 (by decide)).1 a.1
  have e0 : (0 : Int32).toInt = 0 := by decide
  have e1 : (1 : Int32).toInt = 1 := by decide
  have e2 : (2 : Int32).toInt = 2 := by decide
  rcases (by omega : (x &&& 3).toInt % 3 = 0 ∨ (x &&& 3).toInt % 3 = 1 ∨ (x &&& 3).toInt % 3 = 2) with q | q | q
  · exact Or.inl (Int32.toInt_inj.mp (by rw [b, q, e0]))
  · exact Or.inr (Or.inl (Int32.toInt_inj.mp (by rw [b, q, e1])))
  · exact Or.inr (Or.inr (Int32.toInt_inj.mp (by rw [b, q, e2])))
theorem tok_fin {r kk s : Int32} {A B C : Prop} (sp : (r = 1 ∧ A ∧ B) ∨ (r = 0 ∧ ¬ (A ∧ B))) (hk : (kk = 1 ∧ C) ∨ (kk = 0 ∧ ¬ C)) (hs : (s = 1 ∧ B) ∨ (s = 0 ∧ ¬ B)) (hc : A ↔ C) : r = if kk = 0 then 0 else if s = 0 then 0 else 1 := by
  rcases hk with ⟨rfl, c⟩ | ⟨rfl, c⟩
  · rcases hs with ⟨rfl, b⟩ | ⟨rfl, b⟩
    · rcases sp with ⟨u, -⟩ | ⟨-, u⟩
      · rw [u]; simp
      · exact absurd ⟨hc.mpr c, b⟩ u
    · rcases sp with ⟨-, -, u⟩ | ⟨u, -⟩
      · exact absurd u b
      · rw [u]; simp
  · rcases sp with ⟨-, u, -⟩ | ⟨u, -⟩
    · exact absurd (hc.mp u) c
    · rw [u]; simp
/-- the text that a maker of Strings of up to two chars makes -/
def Mk2 (n c0 c1 : Int32) (cs : List Int32) : Prop := (n = 0 ∧ cs = []) ∨ (¬ n = 0 ∧ n = 1 ∧ cs = [c0]) ∨ (¬ n = 0 ∧ ¬ n = 1 ∧ cs = [c0, c1])
theorem Mk2.zero {c0 c1 : Int32} {cs : List Int32} (q : Mk2 0 c0 c1 cs) : cs = [] := by rcases q with ⟨-, q⟩ | ⟨q, -⟩ | ⟨q, -⟩ <;> first | exact q | exact absurd rfl q
theorem Mk2.one {c0 c1 : Int32} {cs : List Int32} (q : Mk2 1 c0 c1 cs) : cs = [c0] := by rcases q with ⟨q, -⟩ | ⟨-, -, q⟩ | ⟨-, q, -⟩ <;> first | exact q | exact absurd rfl q | exact absurd q (by decide)
theorem Mk2.two {c0 c1 : Int32} {cs : List Int32} (q : Mk2 2 c0 c1 cs) : cs = [c0, c1] := by rcases q with ⟨q, -⟩ | ⟨-, q, -⟩ | ⟨-, -, q⟩ <;> first | exact q | exact absurd q (by decide)
/-- two such texts -/
theorem Mk2.same {n m c0 c1 d0 d1 : Int32} {cs ds : List Int32} (hn : n = 0 ∨ n = 1 ∨ n = 2) (hm : m = 0 ∨ m = 1 ∨ m = 2) (q : Mk2 n c0 c1 cs) (r : Mk2 m d0 d1 ds) : cs = ds ↔ (n = m ∧ (n < 1 ∨ c0 = d0) ∧ (n < 2 ∨ c1 = d1)) := by
  rcases hn with rfl | rfl | rfl <;> rcases hm with rfl | rfl | rfl <;> (first | rw [q.zero] | rw [q.one] | rw [q.two]) <;> (first | rw [r.zero] | rw [r.one] | rw [r.two]) <;> simp
end Jvm.OwnW
namespace Jvm.OwnW
open Sem ClassFile Op Lib Bundle Jvm.Stand Jvm.Free Jvm.LawKit Jvm.RoadKit
theorem nar_ii {c : Int32} (q : ¬ c < 0 ∧ ¬ (255 : Int32) < c) : nar .char c.toUInt32.toUInt16.toUInt32.toInt32 = c := by
  have e : c.toUInt32.toUInt16.toUInt32.toInt32 = c := nar_id q
  rw [e]; exact nar_id q
theorem x8_lat (x y : Int32) : ¬ ((x &&& 255) ^^^ (y &&& 255)) < 0 ∧ ¬ (255 : Int32) < ((x &&& 255) ^^^ (y &&& 255)) := by
  have e : (x &&& 255) ^^^ (y &&& 255) = (x ^^^ y) &&& 255 := by
    apply Int32.toBitVec_inj.mp
    simp only [Int32.toBitVec_xor, Int32.toBitVec_and]
    apply BitVec.eq_of_getLsbD_eq
    intro i hi
    simp only [BitVec.getLsbD_and, BitVec.getLsbD_xor]
    cases x.toBitVec.getLsbD i <;> cases y.toBitVec.getLsbD i <;> cases (255 : Int32).toBitVec.getLsbD i <;> rfl
  rw [e]; exact c8_lat _
/-- a class under Object alone can't be cast to another one that is no interface -/
theorem noCast {G : Gb} {C O K : String} {n : Nat} (w : Wd G (.superclass C O)) (w0 : Wd G (.noSuperclass O)) (wi : Wd G (.instantiable K n)) (h1 : C ≠ K) (h2 : O ≠ K) : ∃ c t, G.Z.vm.findClass C = some c ∧ G.Z.vm.findClass K = some t ∧ G.Z.vm.assignable c t = false := by
  obtain ⟨c, hc⟩ := found_sup w
  obtain ⟨p, k, kp, a1, a2, a3, a4, a5, -, a7⟩ := Cond.superclass_spec hc w
  obtain ⟨o, ko, b1, b2, b3, -, -⟩ := Cond.noSuperclass_spec w0
  cases b1.symm.trans a1
  obtain ⟨t, kt, c1, c2, c3, c4, c5, -⟩ := Cond.instantiable_spec wi
  have n1 := ids_ne hc c1 h1
  have n2 := ids_ne b1 c1 h2
  have c4' := (Bool.or_eq_false_iff.mp c4).1
  refine ⟨c, t, hc, c1, ?_⟩
  show G.Z.vm.assignableAux (255 + 1) c t = false
  simp [Vm.assignableAux, n1, a2, c2, a5, c3, c4', Vm.isSubclass, Vm.isSubclassAux, a4]
  generalize G.Z.vm.classes.size = f
  cases f <;> simp [Vm.isSubclassAux, n2, b2, b3]
end Jvm.OwnW
namespace Jvm.OwnW
open Jvm.RoadKit
theorem fld_apart {args : Array Value} {s : State} {t u : Term} {C n d : String} {a b : Addr} {i j : Value} (e1 : t.eval args s none [] s = some (.ref a)) (e2 : u.eval args s none [] s = some (.ref b)) (f1 : (Term.field t C n d).eval args s none [] s = some i) (f2 : (Term.field u C n d).eval args s none [] s = some j) (q : i ≠ j) : a ≠ b := fun e => by
  subst e
  rw [fld_at e1] at f1
  rw [fld_at e2] at f2
  exact q (Option.some.inj (f1.symm.trans f2))
end Jvm.OwnW
namespace Jvm.OwnW
open Sem ClassFile Op Lib Bundle Jvm.Stand Jvm.Free Jvm.LawKit Jvm.RoadKit
section More
variable {G : Gb} {B : Cx} {M : Mt} {R : Room} {Q : Option Value → Heap → (Addr → Prop) → Prop} {h : Heap} {sf : List Addr} {cells slots pc : Nat} {Ls : Array Slot} {st : List Value}
theorem sameM {y z : MethodName} {C : String} (wd : Wd G (.declares y)) (ws : Wd G (.selects C z z)) (hc : y.cls = z.cls) (hy : y.cls ≠ "java/lang/invoke/MethodHandle" ∧ y.cls ≠ "java/lang/invoke/VarHandle") : Wd G (.sameMethod y.cls y.cls y.name y.desc) := by
  obtain ⟨r0, r, hn, -⟩ := Cond.declares_spec wd
  obtain ⟨c2, r2, m2, q1, q2, q3, q4, kP, hkP, hkPi⟩ := Cond.selects_spec ws
  have e1 := findClass_of_methodNamed hn
  have e2 := findClass_of_methodNamed q3
  rw [← hc] at e2
  have e3 : m2.cls = r0.cls := Option.some.inj (e2.symm.trans e1)
  have e4 := State.methodFound?_of_named hn hy
  have e5 : G.Z.methodNamed? ⟨y.cls, y.name, y.desc⟩ = some r0 := hn
  rw [e3] at hkP
  show (Jvm.Cond.sameMethod y.cls y.cls y.name y.desc).before G.a0 G.Z = true
  simp [Cond.before, Cond.holds, Cond.value, e1, e4, e5, hkP, hkPi]
/-- a method's class is no interface, told by another method of it -/
theorem nfO {C : String} {y z : MethodName} {s : State} (w : Wd G (.selects C z z)) (hc : y.cls = z.cls) : ∀ vm0 : Vm, G.Z.Warmed39 vm0 → NotFace (s.setVm vm0) y := fun vm0 hZ r0 h0 => by
  obtain ⟨c2, r2, m2, q1, q2, q3, q4, kP, hkP, hkPi⟩ := Cond.selects_spec (mv (s := s.setVm vm0) (args := #[]) hZ w)
  have e1 := findClass_of_methodNamed h0
  have e2 := findClass_of_methodNamed q3
  rw [hc] at e1
  have e3 : m2.cls = r0.cls := Option.some.inj (e2.symm.trans e1)
  exact ⟨kP, by rw [← e3]; exact hkP, hkPi⟩
theorem go_superN (K : Kd G B M) {k ix : Nat} {y : MethodName} {bytes : ByteArray} {maxL : Nat} {ret : Option FieldType} {rm : Room} {C : String} {a : Addr} {argsL rest : List Value} {ps : List FieldType} {rt : Option FieldType} {sf' : List Addr} {Qc : Option Value → Heap → (Addr → Prop) → Prop} (hd : M.P[k]? = some (pc, .invokespecial ix, 3))
    (w1 : Wd G (.methodLink M.own ix y)) (w2 : Wd G (.sameMethod y.cls y.cls y.name y.desc)) (w3 : Wd G (.instanceMethod y)) (w4 : Wd G (.superclass M.own y.cls)) (w5 : Wd G (.initialized y.cls)) (w6 : Wd G (.code y bytes maxL ret)) (hn : y.name ≠ "<init>") (pd : parseMethodDescriptor y.desc = some ⟨ps, rt⟩) (E : Exa G.Z h a C)
    (Ct : Ctr G [] y bytes maxL ret rm (.ref a :: argsL).toArray h sf' Qc) (hst : st = argsL.reverse ++ .ref a :: rest) (hlen : argsL.length = ps.length) (hsz : Ls.size = M.maxL) (hsub : ∀ x ∈ sf', x ∈ sf) (hrm : rok M.R rest maxL rm cells slots = true)
    (g : ∀ (v : Option Value) (h' : Heap) (Sf : Addr → Prop), h.size ≤ h'.size → Qc v h' Sf → ∃ nw : List Addr, (∀ x ∈ nw, Sf x) ∧ Go G B M Q h' (nw ++ sf) (cells + rm.cells) (slots + rm.slots) (pc + 3) Ls (v.toList ++ rest)) : Go G B M Q h sf cells slots pc Ls st := by
  intro T vm0 k0 locs W
  obtain ⟨r1, r2, r3, r4⟩ := rok_ok hrm
  obtain ⟨X, eT, hS, hk, hZ, hown, hF, hE, hC, hs⟩ := id W
  subst hst
  exact call_on W (superBackS X K.1 hZ hown w1 w2 w3 w4 hn (backG (W := (rest.map fun v => v.category).sum) Ct hZ w6 w5 r1 r2 K.2.2.2.2.2.2 hC.1 hE (fun x hx => hs x (hsub x hx))) eT (Ins.self E) (g := mkF B.m pc Ls (argsL.reverse ++ .ref a :: rest)) rfl (hsz.trans K.2.2.1.symm) w6 (argsL := argsL) (rest := rest) (lenOf pd hlen) rfl (by show 2 * 0 + _ ≤ _; omega) (K.dec hd) (fun vm₁ _ => ⟨rfl, eT, r3, r4⟩)) g
theorem go_super (K : Kd G B M) {k ix : Nat} {y : MethodName} {bytes : ByteArray} {maxL : Nat} {ret : Option FieldType} {rm : Room} {C : String} {a : Addr} {argsL rest : List Value} {ps : List FieldType} {rt : Option FieldType} {sf' : List Addr} {Qc : Option Value → Heap → (Addr → Prop) → Prop} (hd : M.P[k]? = some (pc, .invokespecial ix, 3))
    (w1 : Wd G (.methodLink M.own ix y)) (w2 : Wd G (.sameMethod y.cls y.cls y.name y.desc)) (w3 : Wd G (.instanceMethod y)) (w4 : Wd G (.superclass M.own y.cls)) (w5 : Wd G (.initialized y.cls)) (w6 : Wd G (.code y bytes maxL ret)) (hn : y.name ≠ "<init>") (pd : parseMethodDescriptor y.desc = some ⟨ps, rt⟩) (E : Exa G.Z h a C)
    (Ct : Ctr G [] y bytes maxL ret rm (.ref a :: argsL).toArray h sf' Qc) (hst : st = argsL.reverse ++ .ref a :: rest) (hlen : argsL.length = ps.length) (hsz : Ls.size = M.maxL) (hsub : ∀ x ∈ sf', x ∈ sf) (hrm : rok M.R rest maxL rm cells slots = true)
    (g : ∀ (v : Option Value) (h' : Heap) (Sf : Addr → Prop), h.size ≤ h'.size → Qc v h' Sf → Go G B M Q h' sf (cells + rm.cells) (slots + rm.slots) (pc + 3) Ls (v.toList ++ rest)) : Go G B M Q h sf cells slots pc Ls st :=
  go_superN K hd w1 w2 w3 w4 w5 w6 hn pd E Ct hst hlen hsz hsub hrm fun v h' Sf z q => ⟨[], (fun _ u => nomatch u), g v h' Sf z q⟩
/-- invokevirtual of a method that the receiver's class takes as it stands, the entry's own class declaring it: private ones too -/
theorem go_virt0N (K : Kd G B M) {k ix : Nat} {y : MethodName} {bytes : ByteArray} {maxL : Nat} {ret : Option FieldType} {rm : Room} {C : String} {a : Addr} {argsL rest : List Value} {ps : List FieldType} {rt : Option FieldType} {sf' : List Addr} {Qc : Option Value → Heap → (Addr → Prop) → Prop} (hd : M.P[k]? = some (pc, .invokevirtual ix, 3))
    (w1 : Wd G (.methodLink M.own ix y)) (w3 : Wd G (.selects C y y)) (w4 : Wd G (.instanceMethod y)) (w5 : Wd G (.initialized y.cls)) (w6 : Wd G (.code y bytes maxL ret)) (hy : y.cls ≠ "java/lang/invoke/MethodHandle" ∧ y.cls ≠ "java/lang/invoke/VarHandle") (pd : parseMethodDescriptor y.desc = some ⟨ps, rt⟩) (E : Exa G.Z h a C)
    (Ct : Ctr G [] y bytes maxL ret rm (.ref a :: argsL).toArray h sf' Qc) (hst : st = argsL.reverse ++ .ref a :: rest) (hlen : argsL.length = ps.length) (hsz : Ls.size = M.maxL) (hsub : ∀ x ∈ sf', x ∈ sf) (hrm : rok M.R rest maxL rm cells slots = true)
    (g : ∀ (v : Option Value) (h' : Heap) (Sf : Addr → Prop), h.size ≤ h'.size → Qc v h' Sf → ∃ nw : List Addr, (∀ x ∈ nw, Sf x) ∧ Go G B M Q h' (nw ++ sf) (cells + rm.cells) (slots + rm.slots) (pc + 3) Ls (v.toList ++ rest)) : Go G B M Q h sf cells slots pc Ls st := by
  intro T vm0 k0 locs W
  obtain ⟨r1, r2, r3, r4⟩ := rok_ok hrm
  obtain ⟨X, eT, hS, hk, hZ, hown, hF, hE, hC, hs⟩ := id W
  obtain ⟨cB, kB, i1, i2, cellB, i3, i4, i5⟩ := isOf (s := B.s.setVm vm0) hZ eT E
  subst hst
  have v3 : (Jvm.Cond.selects C y y).before B.as (B.s.setVm vm0) = true := mv hZ w3
  have v4 : (Jvm.Cond.instanceMethod y).before B.as (B.s.setVm vm0) = true := mv hZ w4
  have v6 : (Jvm.Cond.code y bytes maxL ret).before B.as (B.s.setVm vm0) = true := mv hZ w6
  obtain ⟨mk, methM, hnamed, hmethM, hstM, habM⟩ := Cond.instanceMethod_spec v4
  obtain ⟨methM', cM, hmethM', -, -, -, -, -, -, hsigM⟩ := Cond.code_spec hnamed v6
  cases hmethM.symm.trans hmethM'
  obtain ⟨c2, r2', m2, q1, q2, q3, q4, kP, hkP, hkPi⟩ := Cond.selects_spec v3
  cases i1.symm.trans q1
  cases (State.methodFound?_of_named hnamed hy).symm.trans q2
  cases hnamed.symm.trans q3
  have hselP : selectMethod B.e.platform (B.s.setVm vm0).vm cellB.cls mk = .method mk := by rw [Launch.admits_selectMethod X.admits, i4]; exact q4
  have hlen' : ∀ sig, parseMethodDescriptor y.desc = some sig → argsL.length = sig.parameters.length := lenOf pd hlen
  have hK := backG (R := M.R) (p := B.p) (e := B.e) (below := B.bl) (s := B.s) (args := B.as) (len := 3) (W := (rest.map fun v => v.category).sum) Ct hZ w6 w5 r1 r2 K.2.2.2.2.2.2 hC.1 hE (fun x hx => hs x (hsub x hx))
  refine call_on W ?_ g
  obtain ⟨vm₁, X₁, hstep₁⟩ := X.invokevirtual K.1 hown (mv hZ w1) hnamed hmethM hstM hkP hkPi hy (a := a) (cell := cellB) i3 (fun z u => by rw [u] at i5; cases i5) hselP hmethM habM hkP hkPi (g := mkF B.m pc Ls (argsL.reverse ++ .ref a :: rest)) rfl (argsL := argsL) (rest := rest) (hlen' _ hsigM) rfl (K.dec hd)
  obtain ⟨v, A, X', hS', hgr, hpost, hsteps⟩ := hK B.m B.mt B.c ⟨T.setVm vm₁, locs, cells, slots⟩ { mkF B.m pc Ls (argsL.reverse ++ .ref a :: rest) with stack := rest } (.invokevirtual ix) mk (.ref a :: argsL).toArray X₁ rfl (hsz.trans K.2.2.1.symm) (K.dec hd) (by show 2 * 0 + (rest.map fun v => v.category).sum ≤ _; omega) (X₁.named hnamed) ⟨rfl, eT, r3, r4⟩
  exact ⟨v, vm₁, A, X₁.warmed, X', hS', hgr, hpost, (hstep₁ _ fun acts => by rw [doInvoke_state]; exact Steps.refl _).trans hsteps⟩
theorem go_virt0 (K : Kd G B M) {k ix : Nat} {y : MethodName} {bytes : ByteArray} {maxL : Nat} {ret : Option FieldType} {rm : Room} {C : String} {a : Addr} {argsL rest : List Value} {ps : List FieldType} {rt : Option FieldType} {sf' : List Addr} {Qc : Option Value → Heap → (Addr → Prop) → Prop} (hd : M.P[k]? = some (pc, .invokevirtual ix, 3))
    (w1 : Wd G (.methodLink M.own ix y)) (w3 : Wd G (.selects C y y)) (w4 : Wd G (.instanceMethod y)) (w5 : Wd G (.initialized y.cls)) (w6 : Wd G (.code y bytes maxL ret)) (hy : y.cls ≠ "java/lang/invoke/MethodHandle" ∧ y.cls ≠ "java/lang/invoke/VarHandle") (pd : parseMethodDescriptor y.desc = some ⟨ps, rt⟩) (E : Exa G.Z h a C)
    (Ct : Ctr G [] y bytes maxL ret rm (.ref a :: argsL).toArray h sf' Qc) (hst : st = argsL.reverse ++ .ref a :: rest) (hlen : argsL.length = ps.length) (hsz : Ls.size = M.maxL) (hsub : ∀ x ∈ sf', x ∈ sf) (hrm : rok M.R rest maxL rm cells slots = true)
    (g : ∀ (v : Option Value) (h' : Heap) (Sf : Addr → Prop), h.size ≤ h'.size → Qc v h' Sf → Go G B M Q h' sf (cells + rm.cells) (slots + rm.slots) (pc + 3) Ls (v.toList ++ rest)) : Go G B M Q h sf cells slots pc Ls st :=
  go_virt0N K hd w1 w3 w4 w5 w6 hy pd E Ct hst hlen hsz hsub hrm fun v h' Sf z q => ⟨[], (fun _ u => nomatch u), g v h' Sf z q⟩
/-- System.arraycopy between arrays of one primitive kind -/
theorem go_arraycopy (K : Kd G B M) {k ix : Nat} {a b : Addr} {kA kB : ClassId} {ty : FieldType} {z z' sp dp nn : Int32} {vs vd us : List Value} {dv dd : Value} (hd : M.P[k]? = some (pc, .invokestatic ix, 3))
    (w1 : Wd G (.methodLink M.own ix Jvm.Stand.acN)) (w2 : Wd G (.native Jvm.Stand.acN)) (w3 : Wd G (.static Jvm.Stand.acN)) (w4 : Wd G (.initialized "java/lang/System")) (A : Arv G.Z h a kA ty z vs dv) (A' : Arv G.Z h b kB ty z' vd dd) (hp : refKind ty = false)
    (h1 : ¬ sp < 0) (h2 : ¬ dp < 0) (h3 : ¬ nn < 0) (h4 : sp.toNatClampNeg + nn.toNatClampNeg ≤ z.toNatClampNeg) (h5 : dp.toNatClampNeg + nn.toNatClampNeg ≤ z'.toNatClampNeg)
    (hus : us = (List.range nn.toNatClampNeg).map fun i => vs.getD (sp.toNatClampNeg + i) dv) (hl : dp.toNatClampNeg + nn.toNatClampNeg ≤ vd.length) (ge : G.Z.heap.size ≤ b) (hsf : b ∈ sf ∨ ty ≠ .byte) (hsz : Ls.size = M.maxL)
    (hf : Nat.ble 1 M.R.frames = true) (hlo : Nat.ble ((st.map fun v => v.category).sum + (nativeFrameWords "java/lang/System" "arraycopy" 5 + 11)) M.R.locals = true)
    (g : ∀ h' : Heap, Keep h h' [b] → Arv G.Z h' b kB ty z' (vd.take dp.toNatClampNeg ++ us ++ vd.drop (dp.toNatClampNeg + nn.toNatClampNeg)) dd → Go G B M Q h' sf cells slots (pc + 3) Ls st) : Go G B M Q h sf cells slots pc Ls (.int nn :: .int dp :: .ref b :: .int sp :: .ref a :: st) := by
  intro T vm0 k0 locs W
  obtain ⟨X, eT, hS, hk, hZ, hown, hF, hE, hC, hs⟩ := W
  have S : Safe G.Z G.EL vm0 h b := hsf.elim (fun q => (hs b q).1) (fun q => Safe.arv hZ.alike A' q)
  obtain ⟨T', h', L, X', e', N', K', A2, st'⟩ := cpA X K.1 hZ hown w1 w2 w3 w4 eT A A' (Or.inl ⟨rfl, hp⟩) h1 h2 h3 h4 h5 hus hl hF ge (g := mkF B.m pc Ls (.int nn :: .int dp :: .ref b :: .int sp :: .ref a :: st)) rfl (hsz.trans K.2.2.1.symm) rfl (K.dec hd) (Nat.le_of_ble_eq_true hf) (W := (st.map fun v => v.category).sum) (by show 2 * 0 + _ ≤ _; omega) (Nat.le_of_ble_eq_true hlo)
  have sa : ∀ x ∈ [b], Safe G.Z G.EL vm0 h x := allS S all0
  exact (g h' K' A2 T' vm0 k0 L ⟨X', e', hS, Nat.le_trans hk K'.1, hZ, hown, N', (Old.keep (n0 := G.Z.heap.size) ⟨rfl, hE⟩ K' (allS ge all0)).2, hC.trans (CHr.keep K' sa hC.1), fun x hx => ⟨Safe.keep K' sa hC.1 (hs x hx).1, Nat.lt_of_lt_of_le (hs x hx).2 K'.1⟩⟩).pre st'
end More
end Jvm.OwnW
namespace Jvm.OwnW
open Sem ClassFile Op Lib Bundle Jvm.Stand Jvm.Free Jvm.LawKit Jvm.RoadKit
section Bld
variable {G : Gb} {h h1 : Heap} {a t : Addr} {kb : ClassId} {cs ds : List Int32} {m : Nat}
/-- a StringBuilder a over the byte[] t of m bytes, holding the chars cs -/
def Sb (G : Gb) (h : Heap) (a t : Addr) (kb : ClassId) (cs : List Int32) (m : Nat) : Prop :=
  Exa G.Z h a "java/lang/StringBuilder" ∧ Fld G.Z h a "java/lang/AbstractStringBuilder" "value" "[B" (.ref t) ∧ Fld G.Z h a "java/lang/AbstractStringBuilder" "coder" "B" (.int 0) ∧
  Fld G.Z h a "java/lang/AbstractStringBuilder" "count" "I" (.int cs.length.toInt32) ∧ Arv G.Z h t kb .byte m.toInt32 (by8 cs ++ List.replicate (m - cs.length) (.int 0)) (.int 0) ∧ cs.length ≤ m ∧ m < 2 ^ 31
theorem Sb.ext (S : Sb G h a t kb cs m) (E : Ext h h1) : Sb G h1 a t kb cs m := by
  obtain ⟨e1, e2, e3, e4, e5, e6⟩ := S
  exact ⟨Exa.ext E e1, Fld.ext E e2, Fld.ext E e3, Fld.ext E e4, e5.ext E, e6⟩
theorem Sb.exa (S : Sb G h a t kb cs m) : Exa G.Z h a "java/lang/StringBuilder" := S.1
theorem Str.keep2 {C : String} {n : Nat} {b : Addr} (S : Str G h b cs) (E : Exa G.Z h a C) (hC : C ≠ "java/lang/String") (wi : Wd G (.instantiable C n)) (ws : Wd G (.instantiable "java/lang/String" 4)) (A : Arv G.Z h t kb .byte m.toInt32 ((by8 ds) ++ List.replicate (m - ds.length) (.int 0)) (.int 0)) (hne : ∀ u, Fld G.Z h b "java/lang/String" "value" "[B" (.ref u) → u ≠ t) (K : Keep h h1 [a, t]) : Str G h1 b cs := by
  obtain ⟨u, ku, e1, e2, e3, e4⟩ := S
  have n1 : b ≠ a := fun q => (Exa.ne E e1 hC) q.symm
  have n2 : u ≠ a := (Exa.neArv E e4 wi).symm
  have n3 : b ≠ t := Exa.neArv e1 A ws
  have n4 : u ≠ t := hne u e3
  exact ⟨u, ku, e1.keep K, e2.keep K (ninS n1 (ninS n3 nin0)), e3.keep K (ninS n1 (ninS n3 nin0)), e4.keep K (ninS n2 (ninS n4 nin0))⟩
theorem shl0 (x : Int32) : x <<< ((0 : Int32) &&& 31) = x := by
  rw [shlm (m := 1) (by decide)]; simp
theorem add_len (n k : Nat) : n.toInt32 + k.toInt32 = (n + k).toInt32 := (Int32.ofNat_add n k).symm
theorem sub_len {n k : Nat} (q : k ≤ n) : n.toInt32 - k.toInt32 = (n - k).toInt32 := by
  have e := add_len (n - k) k
  rw [Nat.sub_add_cancel q] at e
  rw [← e, Int32.add_sub_cancel]
theorem le_len {n k : Nat} (hk : k < 2 ^ 31) (q : n ≤ k) : ¬ 0 < n.toInt32 - k.toInt32 := by
  have h1 := len_toInt (Nat.lt_of_le_of_lt q hk)
  have h2 := len_toInt hk
  have h3 := c_isub n.toInt32 k.toInt32
  have h4 := rng32 (n.toInt32 - k.toInt32)
  rw [h1, h2] at h3
  rw [Int32.lt_iff_toInt_lt]
  have e0 : (0 : Int32).toInt = 0 := rfl
  rw [e0]; omega
theorem len_ge {p q : Nat} (hp : p < 2 ^ 31) (hq : q < 2 ^ 31) (h : q ≤ p) (u : ¬ q.toInt32 < p.toInt32) : p.toInt32 = q.toInt32 := by
  rcases Nat.lt_or_ge q p with v | v
  · exact absurd (len_lt hp v) u
  · rw [Nat.le_antisymm v h]
theorem map_range {vs : List Value} {d : Value} {i n : Nat} (q : i + n ≤ vs.length) : (List.range n).map (fun k => vs.getD (i + k) d) = (vs.drop i).take n := by
  apply List.ext_getElem
  · simp; omega
  · intro j p1 p2
    have hj : i + j < vs.length := by simp at p1; omega
    simp [List.getD_eq_getElem?_getD, hj]
theorem by8_app : by8 (cs ++ ds) = by8 cs ++ by8 ds := by simp [by8]
theorem by8_take {n : Nat} : by8 (cs.take n) = (by8 cs).take n := by simp [by8, List.map_take]
theorem by8_drop {n : Nat} : by8 (cs.drop n) = (by8 cs).drop n := by simp [by8, List.map_drop]
/-- the chars ds put behind cs -/
theorem sb_put (q : cs.length + ds.length ≤ m) : (by8 cs ++ List.replicate (m - cs.length) (Value.int 0)).take cs.length ++ by8 ds ++ (by8 cs ++ List.replicate (m - cs.length) (Value.int 0)).drop (cs.length + ds.length) = by8 (cs ++ ds) ++ List.replicate (m - (cs ++ ds).length) (Value.int 0) := by
  have l : (by8 cs).length = cs.length := by8_len
  rw [List.take_append_of_le_length (by omega), List.take_of_length_le (by omega), List.drop_append, List.drop_of_length_le (by omega), List.nil_append, l, by8_app, List.length_append]
  congr 1
  rw [List.drop_replicate]
  congr 1
  omega
end Bld
end Jvm.OwnW
namespace Jvm.OwnW
open Sem ClassFile Op Lib Bundle Jvm.Stand Jvm.Free Jvm.LawKit Jvm.RoadKit
section More
variable {G : Gb} {B : Cx} {M : Mt} {Q : Option Value → Heap → (Addr → Prop) → Prop} {h : Heap} {sf : List Addr} {cells slots pc : Nat} {Ls : Array Slot} {st : List Value}
/-- 'getfield' over an entry that is resolved -/
theorem go_getfieldR (K : Kd G B M) {k ix : Nat} {O n d : String} {a : Addr} {v : Value} (hd : M.P[k]? = some (pc, .getfield ix, 3)) (w : Wd G (.fieldRef M.own ix O n d)) (F : Fld G.Z h a O n d v)
    (g : Go G B M Q h sf cells slots (pc + 3) Ls (v :: st)) : Go G B M Q h sf cells slots pc Ls (.ref a :: st) := by
  intro T vm0 k0 locs W
  obtain ⟨X, eT, hS, hk, hZ, hown, hF, hE, hC, hs⟩ := W
  have hW : G.Z.Warmed39 T.vm := wtrans hZ X.warmed
  have w' := Cond.fieldRef_warmed39 hW w
  have hcur : T.vm.findClass M.own = some B.m.cls := by
    rw [X.warmed.alike.findClass]; exact hown
  obtain ⟨c, k1, i, f, hi, hr⟩ := Cond.fieldRef_spec (cur := B.m.cls) (s := G.Z.setVm T.vm) hcur w'
  obtain ⟨cell, cf, k2, i2, f2, h1, h2, h3, h4, -, -, h7⟩ := F
  obtain ⟨k', hi', -⟩ := State.fieldFound?_setVm (s := G.Z) hW.alike h2
  cases hi.symm.trans hi'
  refine (g T vm0 k0 locs ⟨X, eT, hS, hk, hZ, hown, hF, hE, hC, hs⟩).pre (fun target hrest => ?_)
  have hd' := K.dec hd
  jvm_step X.here [K.1, hd', getfield.wp_ready (e := B.e) (s := T) (f := mkF B.m pc Ls (.ref a :: st)) X.here.top hr h3 rfl (show T.heap[a]? = some cell by rw [eT]; exact h1) h4 h7]
  exact hrest
/-- invokeinterface; the entry's own interface declares the method -/
theorem go_interfaceN (K : Kd G B M) {k ix cnt : Nat} {xi y : MethodName} {bytes : ByteArray} {maxL : Nat} {ret : Option FieldType} {rm : Room} {C : String} {a : Addr} {argsL rest : List Value} {ps : List FieldType} {rt : Option FieldType} {sf' : List Addr} {Qc : Option Value → Heap → (Addr → Prop) → Prop} (hd : M.P[k]? = some (pc, .invokeinterface ix cnt, 5))
    (w1 : Wd G (.methodLink M.own ix xi)) (w2 : Wd G (.declares xi)) (w3 : Wd G (.interfaceMethod xi.cls xi.cls xi.name xi.desc)) (w4 : Wd G (.selects C xi y)) (w5 : Wd G (.instanceMethod y)) (w6 : Wd G (.publicMethod y)) (w7 : Wd G (.unhidden C xi.name xi.desc)) (w8 : Wd G (.castable C xi.cls)) (w9 : Wd G (.initialized y.cls)) (w10 : Wd G (.code y bytes maxL ret)) (hfa : ((Jvm.Cond.interfaceMethod xi.cls xi.cls xi.name xi.desc).onTables && (Jvm.Cond.interfaceMethod xi.cls xi.cls xi.name xi.desc).keepsFace) = true)
    (hy : xi.cls ≠ "java/lang/invoke/MethodHandle" ∧ xi.cls ≠ "java/lang/invoke/VarHandle") (pd : parseMethodDescriptor xi.desc = some ⟨ps, rt⟩) (E : Exa G.Z h a C)
    (Ct : Ctr G [] y bytes maxL ret rm (.ref a :: argsL).toArray h sf' Qc) (hst : st = argsL.reverse ++ .ref a :: rest) (hlen : argsL.length = ps.length) (hsz : Ls.size = M.maxL) (hsub : ∀ x ∈ sf', x ∈ sf) (hrm : rok M.R rest maxL rm cells slots = true)
    (g : ∀ (v : Option Value) (h' : Heap) (Sf : Addr → Prop), h.size ≤ h'.size → Qc v h' Sf → ∃ nw : List Addr, (∀ x ∈ nw, Sf x) ∧ Go G B M Q h' (nw ++ sf) (cells + rm.cells) (slots + rm.slots) (pc + 5) Ls (v.toList ++ rest)) : Go G B M Q h sf cells slots pc Ls st := by
  intro T vm0 k0 locs W
  obtain ⟨r1, r2, r3, r4⟩ := rok_ok hrm
  obtain ⟨X, eT, hS, hk, hZ, hown, hF, hE, hC, hs⟩ := id W
  obtain ⟨cB, kB, i1, i2, i3⟩ := isOf (s := B.s.setVm vm0) hZ eT E
  subst hst
  exact call_on W (X.interfaceBackS K.1 hown (mv hZ w1) (mv hZ w2) (mv hZ w3 hfa) (mv hZ w4) (mv hZ w5) (mv hZ w6) (mv hZ w7) (mv hZ w8) hy (backG (W := (rest.map fun v => v.category).sum) Ct hZ w10 w9 r1 r2 K.2.2.2.2.2.2 hC.1 hE (fun x hx => hs x (hsub x hx))) i1 i2 i3 (g := mkF B.m pc Ls (argsL.reverse ++ .ref a :: rest)) rfl (hsz.trans K.2.2.1.symm) (Steps.refl _) (argsL := argsL) (rest := rest) (lenOf pd hlen) rfl (by show 2 * 0 + _ ≤ _; omega) (K.dec hd) (fun vm₁ _ => ⟨rfl, eT, r3, r4⟩)) g
theorem go_interface (K : Kd G B M) {k ix cnt : Nat} {xi y : MethodName} {bytes : ByteArray} {maxL : Nat} {ret : Option FieldType} {rm : Room} {C : String} {a : Addr} {argsL rest : List Value} {ps : List FieldType} {rt : Option FieldType} {sf' : List Addr} {Qc : Option Value → Heap → (Addr → Prop) → Prop} (hd : M.P[k]? = some (pc, .invokeinterface ix cnt, 5))
    (w1 : Wd G (.methodLink M.own ix xi)) (w2 : Wd G (.declares xi)) (w3 : Wd G (.interfaceMethod xi.cls xi.cls xi.name xi.desc)) (w4 : Wd G (.selects C xi y)) (w5 : Wd G (.instanceMethod y)) (w6 : Wd G (.publicMethod y)) (w7 : Wd G (.unhidden C xi.name xi.desc)) (w8 : Wd G (.castable C xi.cls)) (w9 : Wd G (.initialized y.cls)) (w10 : Wd G (.code y bytes maxL ret)) (hfa : ((Jvm.Cond.interfaceMethod xi.cls xi.cls xi.name xi.desc).onTables && (Jvm.Cond.interfaceMethod xi.cls xi.cls xi.name xi.desc).keepsFace) = true)
    (hy : xi.cls ≠ "java/lang/invoke/MethodHandle" ∧ xi.cls ≠ "java/lang/invoke/VarHandle") (pd : parseMethodDescriptor xi.desc = some ⟨ps, rt⟩) (E : Exa G.Z h a C)
    (Ct : Ctr G [] y bytes maxL ret rm (.ref a :: argsL).toArray h sf' Qc) (hst : st = argsL.reverse ++ .ref a :: rest) (hlen : argsL.length = ps.length) (hsz : Ls.size = M.maxL) (hsub : ∀ x ∈ sf', x ∈ sf) (hrm : rok M.R rest maxL rm cells slots = true)
    (g : ∀ (v : Option Value) (h' : Heap) (Sf : Addr → Prop), h.size ≤ h'.size → Qc v h' Sf → Go G B M Q h' sf (cells + rm.cells) (slots + rm.slots) (pc + 5) Ls (v.toList ++ rest)) : Go G B M Q h sf cells slots pc Ls st :=
  go_interfaceN K hd w1 w2 w3 w4 w5 w6 w7 w8 w9 w10 hfa hy pd E Ct hst hlen hsz hsub hrm fun v h' Sf z q => ⟨[], (fun _ u => nomatch u), g v h' Sf z q⟩
end More
theorem lt_len {i n : Nat} (hn : n < 2 ^ 31) (hi : i < 2 ^ 31) (q : i.toInt32 < n.toInt32) : i < n := by
  rcases Nat.lt_or_ge i n with u | u
  · exact u
  · exact absurd q (len_nlt hi u)
theorem lat_app {cs ds : List Int32} (p : Lat cs) (q : Lat ds) (hn : cs.length + ds.length ≤ 4000) : Lat (cs ++ ds) :=
  ⟨by rw [List.length_append]; exact hn, fun c hc => (List.mem_append.mp hc).elim (p.2 c) (q.2 c)⟩
theorem out_len (n k : Nat) : (n + (k + 1)).toInt32 = n.toInt32 + 1 + k.toInt32 := by
  rw [show n.toInt32 + 1 = (n + 1).toInt32 from add_len n 1, add_len]
  congr 1
  omega
theorem and3 (x : Int32) : x &&& 3 = 0 ∨ x &&& 3 = 1 ∨ x &&& 3 = 2 ∨ x &&& 3 = 3 := by
  have q := c_and x 3 (by decide)
  have h1 := rng32 (x &&& 3)
  have e3 : (3 : Int32).toInt = 3 := by decide
  rw [e3] at q
  have h2 : (x &&& 3).toInt = 0 ∨ (x &&& 3).toInt = 1 ∨ (x &&& 3).toInt = 2 ∨ (x &&& 3).toInt = 3 := by omega
  rcases h2 with u | u | u | u
  · exact Or.inl (Int32.toInt_inj.mp (u.trans (by decide)))
  · exact Or.inr (Or.inl (Int32.toInt_inj.mp (u.trans (by decide))))
  · exact Or.inr (Or.inr (Or.inl (Int32.toInt_inj.mp (u.trans (by decide)))))
  · exact Or.inr (Or.inr (Or.inr (Int32.toInt_inj.mp (u.trans (by decide)))))
end Jvm.OwnW
namespace Jvm.OwnW
open Sem ClassFile Op Lib Bundle Jvm.Stand Jvm.Free Jvm.LawKit Jvm.RoadKit
theorem len_small {s : State} {args : Array Value} {t : Term} {x : Addr} {cl : Cell} {v : Value} (ht : t.eval args s none [] s = some (.ref x)) (ha : s.arrayAt? x = some cl) (hl : (Term.length t).eval args s none [] s = some v) : cl.slots.size < 2 ^ 31 :=
  Decidable.byContradiction fun nq => by simp [Term.eval, ht, ha, nq] at hl
/-- a String that stands in the heap at the start, as a sheet's words say it -/
theorem str_start {G : Gb} {args : Array Value} {t : Term} {a : Addr} {cs : List Int32} (hf : Fit G.Z) (ev : t.eval args G.Z none [] G.Z = some (.ref a)) (hx : (Cond.exactly t "java/lang/String").value args G.Z none G.Z [] = some true)
    (hA : (Cond.arrayOf (.field t "java/lang/String" "value" "[B") .byte).value args G.Z none G.Z [] = some true) (hl : (Term.length (.field t "java/lang/String" "value" "[B")).eval args G.Z none [] G.Z = some (.int cs.length.toInt32))
    (hc : (Term.field t "java/lang/String" "coder" "B").eval args G.Z none [] G.Z = some (.int 0)) (hm : cs.length < 2 ^ 31)
    (he : ∀ (x : Addr) (cl : Cell), (Term.field t "java/lang/String" "value" "[B").eval args G.Z none [] G.Z = some (.ref x) → G.Z.heap[x]? = some cl → HasL cl 0 (by8 cs)) : Str G G.Z.heap a cs := by
  obtain ⟨x, ex⟩ := arr_v hA
  obtain ⟨cl, A⟩ := Arr.start ex hA
  have ha : G.Z.arrayAt? x = some cl := Arr.fin (Vm.Alike.refl _) A
  have q : cl.slots.size < 2 ^ 31 := Decidable.byContradiction fun nq => nq (len_small ex ha hl)
  have e : cl.slots.size.toInt32 = cs.length.toInt32 := by
    have u := (len_f ex ha q).symm.trans hl
    exact Value.int.inj (Option.some.inj u)
  refine ⟨x, cl.cls, Exa.start ev hx, Fld.start (by rw [← fld_at ev]; exact hc), Fld.start (by rw [← fld_at ev]; exact ex), Arv.start hf A q e (len_nn hm) (by rw [len_nat hm, by8_len]) (he x cl ex A.1)⟩
end Jvm.OwnW
namespace Jvm.OwnW
open Sem ClassFile Op Lib Bundle Jvm.Stand Jvm.Free Jvm.LawKit Jvm.RoadKit
theorem ushr1_nn (x : Int32) : 0 ≤ (XT.ushr x 1).toInt := by
  have q : (XT.ushr x 1).toInt = _ := c_iushr x 1 1 (by decide) (by decide)
  rw [q]
  exact Int.ediv_nonneg (Int.emod_nonneg _ (by decide)) (by decide)
theorem i32_eq {x : Int32} (k : Int32) (q : x.toInt = k.toInt) : x = k := Int32.toInt_inj.mp q
theorem rem4 (x : Int32) : XT.ushr x 1 % 4 = 0 ∨ XT.ushr x 1 % 4 = 1 ∨ XT.ushr x 1 % 4 = 2 ∨ XT.ushr x 1 % 4 = 3 := by
  have b := (c_irem (XT.ushr x 1) 4 4 (by decide)).1 (ushr1_nn x)
  rcases (by omega : (XT.ushr x 1).toInt % 4 = 0 ∨ (XT.ushr x 1).toInt % 4 = 1 ∨ (XT.ushr x 1).toInt % 4 = 2 ∨ (XT.ushr x 1).toInt % 4 = 3) with q | q | q | q
  · exact Or.inl (i32_eq 0 (b.trans q))
  · exact Or.inr (Or.inl (i32_eq 1 (b.trans q)))
  · exact Or.inr (Or.inr (Or.inl (i32_eq 2 (b.trans q))))
  · exact Or.inr (Or.inr (Or.inr (i32_eq 3 (b.trans q))))
theorem rem5 (x : Int32) : XT.ushr x 1 % 5 = 0 ∨ XT.ushr x 1 % 5 = 1 ∨ XT.ushr x 1 % 5 = 2 ∨ XT.ushr x 1 % 5 = 3 ∨ XT.ushr x 1 % 5 = 4 := by
  have b := (c_irem (XT.ushr x 1) 5 5 (by decide)).1 (ushr1_nn x)
  rcases (by omega : (XT.ushr x 1).toInt % 5 = 0 ∨ (XT.ushr x 1).toInt % 5 = 1 ∨ (XT.ushr x 1).toInt % 5 = 2 ∨ (XT.ushr x 1).toInt % 5 = 3 ∨ (XT.ushr x 1).toInt % 5 = 4) with q | q | q | q | q
  · exact Or.inl (i32_eq 0 (b.trans q))
  · exact Or.inr (Or.inl (i32_eq 1 (b.trans q)))
  · exact Or.inr (Or.inr (Or.inl (i32_eq 2 (b.trans q))))
  · exact Or.inr (Or.inr (Or.inr (Or.inl (i32_eq 3 (b.trans q)))))
  · exact Or.inr (Or.inr (Or.inr (Or.inr (i32_eq 4 (b.trans q)))))
end Jvm.OwnW
namespace Jvm.OwnW
open Sem ClassFile Op Lib Bundle Jvm.Stand Jvm.Free Jvm.LawKit Jvm.RoadKit
theorem url_len {us fs : List Int32} : (us ++ (35 : Int32) :: fs).length.toInt32 - fs.length.toInt32 - (1 : Int32) = us.length.toInt32 := by
  rw [sub_len (n := (us ++ (35 : Int32) :: fs).length) (k := fs.length) (by simp only [List.length_append, List.length_cons]; omega)]
  rw [show ((us ++ (35 : Int32) :: fs).length - fs.length).toInt32 - (1 : Int32) = ((us ++ (35 : Int32) :: fs).length - fs.length - 1).toInt32 from sub_len (k := 1) (by simp only [List.length_append, List.length_cons]; omega)]
  congr 1
  simp only [List.length_append, List.length_cons]
  omega
end Jvm.OwnW
namespace Jvm.OwnW
open Sem ClassFile Op Lib Bundle Jvm.Stand Jvm.Free Jvm.LawKit Jvm.RoadKit
section Cl
variable {G : Gb} {B : Cx} {M : Mt} {Q : Option Value → Heap → (Addr → Prop) → Prop} {h : Heap} {sf : List Addr} {cells slots pc : Nat} {Ls : Array Slot} {st : List Value}
theorem go_cast0 (K : Kd G B M) {k ix : Nat} (hd : M.P[k]? = some (pc, .checkcast ix, 3)) (g : Go G B M Q h sf cells slots (pc + 3) Ls (.null :: st)) : Go G B M Q h sf cells slots pc Ls (.null :: st) := by
  intro T vm0 k0 locs W
  exact (g T vm0 k0 locs W).pre fun target hr => W.1.checkcastNull K.1 (g := mkF B.m pc Ls (.null :: st)) rfl rfl (K.dec hd) target hr
/-- clone() of an array -/
theorem go_clone (K : Kd G B M) {k ix cap : Nat} {ad : String} {a : Addr} {kA : ClassId} {ty : FieldType} {z : Int32} {vs : List Value} {dv : Value} (hd : M.P[k]? = some (pc, .invokevirtual ix, 3))
    (w1 : Wd G (.methodLink M.own ix ⟨ad, "clone", "()Ljava/lang/Object;"⟩)) (w2 : Wd G (.sameMethod ad "java/lang/Object" "clone" "()Ljava/lang/Object;")) (w3 : Wd G (.native ⟨"java/lang/Object", "clone", "()Ljava/lang/Object;"⟩)) (w4 : Wd G (.instanceMethod ⟨"java/lang/Object", "clone", "()Ljava/lang/Object;"⟩))
    (w5 : Wd G (.selects ad ⟨ad, "clone", "()Ljava/lang/Object;"⟩ ⟨"java/lang/Object", "clone", "()Ljava/lang/Object;"⟩)) (w6 : Wd G (.castable ad "java/lang/Cloneable")) (A : Arv G.Z h a kA ty z vs dv) (E : Exa G.Z h a ad) (hsz : Ls.size = M.maxL)
    (hf : Nat.ble 1 M.R.frames = true) (hlo : Nat.ble ((st.map fun v => v.category).sum + 14) M.R.locals = true) (hcap : z.toNatClampNeg ≤ cap) (hc : Nat.ble (cells + 1) M.R.cells = true) (hl : Nat.ble (slots + cap) M.R.slots = true)
    (g : ∀ (h' : Heap) (b : Addr), b = h.size → G.Z.heap.size ≤ b → Ext h h' → Arv G.Z h' b kA ty z vs dv → Exa G.Z h' b ad → Go G B M Q h' (b :: sf) (cells + 1) (slots + cap) (pc + 3) Ls (.ref b :: st)) : Go G B M Q h sf cells slots pc Ls (.ref a :: st) := by
  intro T vm0 k0 locs W
  obtain ⟨X, eT, hS, hk, hZ, hown, hF, hE, hC, hs⟩ := W
  obtain ⟨cl, A1, q1, S, q3, H, Gf⟩ := A
  have FC : FitC G.Z cl := fitC_of A1 fun i hi v hv => by rw [H i hi] at hv; cases hv; exact Gf i hi
  obtain ⟨T', h', X', e', E', A2, E2, st'⟩ := cloneA X K.1 hZ hown w1 w2 w3 w4 w5 w6 eT A1 E FC (g := mkF B.m pc Ls (.ref a :: st)) rfl (hsz.trans K.2.2.1.symm) rfl (K.dec hd) (Nat.le_of_ble_eq_true hf) (W := (st.map fun v => v.category).sum) (by show 2 * 0 + _ ≤ _; omega) (Nat.le_of_ble_eq_true hlo) (by rw [S]; exact hcap) (Nat.le_of_ble_eq_true hc) (Nat.le_of_ble_eq_true hl)
  refine (g h' h.size rfl hE.1 E' ⟨cloneOf cl, A2, q1, S, q3, H, Gf⟩ E2 T' vm0 k0 locs ⟨X', e', hS, Nat.le_trans hk E'.1, hZ, hown, hF, ⟨Nat.le_trans hE.1 E'.1, fun x c q => E'.2 x c (hE.2 x c q)⟩, hC.trans (CHr.ext E' hC.1), fun x hx => ?_⟩).pre st'
  rcases List.mem_cons.mp hx with rfl | hx
  · exact ⟨Safe.ext E' hC.1 (Safe.new (Nat.le_refl _)), A2.lt⟩
  · exact ⟨Safe.ext E' hC.1 (hs x hx).1, Nat.lt_of_lt_of_le (hs x hx).2 E'.1⟩
/-- a char[] of n chars below 256, whichever -/
def Cz (G : Gb) (h : Heap) (a : Addr) (kA : ClassId) (n : Nat) : Prop := ∃ xs : List Int32, xs.length = n ∧ (∀ c ∈ xs, ¬ c < 0 ∧ ¬ (255 : Int32) < c) ∧ Arv G.Z h a kA .char n.toInt32 (xs.map Value.int) (.int 0)
theorem Cz.ext {h' : Heap} {a : Addr} {kA : ClassId} {n : Nat} (C : Cz G h a kA n) (E : Ext h h') : Cz G h' a kA n := by
  obtain ⟨xs, l, r, A⟩ := C
  exact ⟨xs, l, r, A.ext E⟩
theorem go_castoreZ (K : Kd G B M) {k n : Nat} {a : Addr} {kA : ClassId} {j x : Int32} (hd : M.P[k]? = some (pc, .castore, 1)) (A : Cz G h a kA n) (hj : ¬ j < 0 ∧ j < n.toInt32) (hn : n < 2 ^ 31) (ha : G.Z.heap.size ≤ a) (hx : ¬ x < 0 ∧ ¬ (255 : Int32) < x)
    (g : ∀ h' : Heap, Wr h h' a j.toNatClampNeg (.int (nar .char x)) → Cz G h' a kA n → Go G B M Q h' sf cells slots (pc + 1) Ls st) : Go G B M Q h sf cells slots pc Ls (.int x :: .int j :: .ref a :: st) := by
  obtain ⟨xs, l, r, A⟩ := A
  have hjn : j.toNatClampNeg < n := by
    have h1 := Int32.lt_iff_toInt_lt.mp hj.2
    have h2 : ¬ j.toInt < 0 := fun q => hj.1 (Int32.lt_iff_toInt_lt.mpr q)
    rw [len_toInt hn] at h1
    simp only [Int32.toNatClampNeg]
    omega
  refine go_castore K hd A hj rfl (by rw [List.length_map, l]; exact hjn) ha fun h' W A' => g h' W ⟨xs.set j.toNatClampNeg x, by rw [List.length_set, l], fun c hc => ?_, ?_⟩
  · rcases List.mem_or_eq_of_mem_set hc with hc | rfl
    · exact r c hc
    · exact hx
  · rw [nar_id hx] at A'
    rw [List.map_set]
    exact A'
end Cl
end Jvm.OwnW
namespace Jvm.OwnW
theorem len8 {xs : List Int32} (q : xs.length = 8) : ∃ x0 x1 x2 x3 x4 x5 x6 x7, xs = [x0, x1, x2, x3, x4, x5, x6, x7] := by
  match xs, q with
  | [x0, x1, x2, x3, x4, x5, x6, x7], _ => exact ⟨x0, x1, x2, x3, x4, x5, x6, x7, rfl⟩
/-- the role that a label names -/
def lbl (W D P : List Int32) (b0 b1 b2 : Addr) (cs : List Int32) : Value := if cs = W then .ref b0 else if cs = D then .ref b1 else if cs = P then .ref b2 else .null
theorem lbl0 {W D P cs : List Int32} {b0 b1 b2 : Addr} (q : cs = W) : lbl W D P b0 b1 b2 cs = .ref b0 := if_pos q
theorem lbl1 {W D P cs : List Int32} {b0 b1 b2 : Addr} (n : ¬ cs = W) (q : cs = D) : lbl W D P b0 b1 b2 cs = .ref b1 := (if_neg n).trans (if_pos q)
theorem lbl2 {W D P cs : List Int32} {b0 b1 b2 : Addr} (n : ¬ cs = W) (n1 : ¬ cs = D) (q : cs = P) : lbl W D P b0 b1 b2 cs = .ref b2 := (if_neg n).trans ((if_neg n1).trans (if_pos q))
theorem lbl3 {W D P cs : List Int32} {b0 b1 b2 : Addr} (n : ¬ cs = W) (n1 : ¬ cs = D) (n2 : ¬ cs = P) : lbl W D P b0 b1 b2 cs = .null := (if_neg n).trans ((if_neg n1).trans (if_neg n2))
end Jvm.OwnW
namespace Jvm.OwnW
open Sem ClassFile Op Lib Bundle Jvm.Stand Jvm.Free Jvm.LawKit Jvm.RoadKit
theorem mod_in {x : Int32} {n : Nat} (h1 : 1 ≤ n) (h6 : n ≤ 6) : ¬ (x &&& 2147483647) % n.toInt32 < 0 ∧ (x &&& 2147483647) % n.toInt32 < (8 : Nat).toInt32 := by
  have a := (c_and x 2147483647 (by decide)).1
  have e : n.toInt32.toInt = n := len_toInt (by omega)
  have b := (c_irem (x &&& 2147483647) n.toInt32 n e).1 a
  have e8 : ((8 : Nat).toInt32).toInt = 8 := by decide
  have e0 : (0 : Int32).toInt = 0 := by decide
  simp only [Int32.lt_iff_toInt_lt, b, e8, e0]
  have p1 := Int.emod_nonneg (x &&& 2147483647).toInt (show (n : Int) ≠ 0 by omega)
  have p2 := Int.emod_lt_of_pos (x &&& 2147483647).toInt (show (0 : Int) < n by omega)
  omega
theorem eqv_r {Z : State} {args : Array Value} {X F : Term} {b : Addr} (hF : F.eval args Z none [] Z = some (.ref b)) (h : (Cond.eq X F).value args Z none Z [] = some true) : X.eval args Z none [] Z = some (.ref b) := by
  simp only [Cond.value, hF] at h
  cases hx : X.eval args Z none [] Z with
  | none => simp [hx] at h
  | some x => cases x <;> simp [hx] at h ⊢ <;> exact h
theorem arr3_start {G : Gb} {args : Array Value} {t : Term} {a : Addr} {ty : FieldType} {v0 v1 v2 : Value} (hf : Fit G.Z) (ev : t.eval args G.Z none [] G.Z = some (.ref a)) (hA : (Cond.arrayOf t ty).value args G.Z none G.Z [] = some true) (hl : (Term.length t).eval args G.Z none [] G.Z = some (.int 3))
    (e0 : (Term.elem t (.int 0)).eval args G.Z none [] G.Z = some v0) (e1 : (Term.elem t (.int 1)).eval args G.Z none [] G.Z = some v1) (e2 : (Term.elem t (.int 2)).eval args G.Z none [] G.Z = some v2) : ∃ k, Arv G.Z G.Z.heap a k ty (3 : Int32) [v0, v1, v2] .null := by
  obtain ⟨cl, A⟩ := Arr.start ev hA
  have ha : G.Z.arrayAt? a = some cl := Arr.fin (Vm.Alike.refl _) A
  have q : cl.slots.size < 2 ^ 31 := Decidable.byContradiction fun nq => by simp [Term.eval, ev, ha, nq] at hl
  have e : cl.slots.size.toInt32 = 3 := Value.int.inj (Option.some.inj ((len_f ev ha q).symm.trans hl))
  exact ⟨cl.cls, Arv.start hf A q e (by decide) rfl ⟨(elem_in e0 ev (Term.int_eval 0) A.1).2, (elem_in e1 ev (Term.int_eval 1) A.1).2, (elem_in e2 ev (Term.int_eval 2) A.1).2, trivial⟩⟩
end Jvm.OwnW
namespace Jvm.OwnW
open Sem ClassFile Op Lib Bundle Jvm.Stand Jvm.Free Jvm.LawKit Jvm.RoadKit
section Gr
variable {G : Gb} {B : Cx} {M : Mt} {Q : Option Value → Heap → (Addr → Prop) → Prop} {h h1 : Heap} {sf : List Addr} {cells slots pc : Nat} {Ls : Array Slot} {st : List Value} {a t : Addr} {kb : ClassId} {cs ds : List Int32} {m : Nat}
/-- 'newarray', the array's class known by its name too -/
theorem go_newarrayE (K : Kd G B M) {k cap : Nat} {aty : ArrayType} {n : Int32} {ad : String} (hd : M.P[k]? = some (pc, .newarray aty, 2)) (w : Wd G (.arrayClass (newarray.typeOf aty))) (had : "[" ++ (newarray.typeOf aty).toString = ad) (hn : ¬ n < 0) (hcap : n.toNatClampNeg ≤ cap) (hb : Nat.ble (cap * 8) 536870912 = true) (hc : Nat.ble (cells + 1) M.R.cells = true) (hl : Nat.ble (slots + cap) M.R.slots = true)
    (g : ∀ (h' : Heap) (a : Addr) (kA : ClassId), a = h.size → G.Z.heap.size ≤ a → Ext h h' → Arv G.Z h' a kA (newarray.typeOf aty) n [] (defaultValue (newarray.typeOf aty)) → Exa G.Z h' a ad → Go G B M Q h' (a :: sf) (cells + 1) (slots + cap) (pc + 2) Ls (.ref a :: st)) : Go G B M Q h sf cells slots pc Ls (.int n :: st) := by
  intro T vm0 k0 locs W
  obtain ⟨X, eT, hS, hk, hZ, hown, hF, hE, hC, hs⟩ := W
  obtain ⟨T', h', cA, X', e', E', A', E2, st'⟩ := newPE X K.1 hZ w eT (g := mkF B.m pc Ls (.int n :: st)) rfl (K.dec hd) rfl hn hcap (Nat.le_of_ble_eq_true hb) (Nat.le_of_ble_eq_true hc) (Nat.le_of_ble_eq_true hl) had
  refine (g h' h.size cA rfl hE.1 E' (Arv.new A' hn) E2 T' vm0 k0 locs ⟨X', e', hS, Nat.le_trans hk E'.1, hZ, hown, hF, ⟨Nat.le_trans hE.1 E'.1, fun x c q => E'.2 x c (hE.2 x c q)⟩, hC.trans (CHr.ext E' hC.1), fun x hx => ?_⟩).pre st'
  rcases List.mem_cons.mp hx with rfl | hx
  · exact ⟨Safe.ext E' hC.1 (Safe.new (Nat.le_refl _)), A'.lt⟩
  · exact ⟨Safe.ext E' hC.1 (hs x hx).1, Nat.lt_of_lt_of_le (hs x hx).2 E'.1⟩
/-- a builder whose array is a byte[] by its class's name -/
def Sx (G : Gb) (h : Heap) (a t : Addr) (kb : ClassId) (cs : List Int32) (m : Nat) : Prop := Sb G h a t kb cs m ∧ Exa G.Z h t "[B"
theorem Sx.ext (S : Sx G h a t kb cs m) (E : Ext h h1) : Sx G h1 a t kb cs m := ⟨S.1.ext E, Exa.ext E S.2⟩
theorem Sx.exa (S : Sx G h a t kb cs m) : Exa G.Z h a "java/lang/StringBuilder" := S.1.1
end Gr
/-- the bytes behind the grown array's first part -/
theorem grow_list {cs : List Int32} (q : cs.length ≤ 16) : (List.replicate 34 (Value.int 0)).take 0 ++ (by8 cs ++ List.replicate (16 - cs.length) (Value.int 0)) ++ (List.replicate 34 (Value.int 0)).drop (0 + 16) = by8 cs ++ List.replicate (34 - cs.length) (Value.int 0) := by
  rw [List.take_zero, List.nil_append, List.append_assoc, List.drop_replicate, List.replicate_append_replicate]
  congr 2
  omega
end Jvm.OwnW
namespace Jvm.OwnW
theorem i32_anti {x y : Int32} (p : ¬ x < y) (q : ¬ y < x) : x = y := by
  rw [Int32.lt_iff_toInt_lt] at p q
  exact Int32.toInt_inj.mp (by omega)
theorem gt_len {n k : Nat} (hn : n < 2 ^ 31) (q : k < n) : 0 < n.toInt32 - k.toInt32 := by
  rw [sub_len (Nat.le_of_lt q)]
  exact len_lt (i := 0) (by omega) (by omega)
theorem hm34 {m : Nat} (q : m = 16 ∨ m = 34) : m ≤ 34 := by omega
end Jvm.OwnW
namespace Jvm.OwnW
open Sem ClassFile Op Lib Bundle Jvm.Stand Jvm.Free Jvm.LawKit Jvm.RoadKit
section Ne
variable {G : Gb} {B : Cx} {M : Mt} {Q : Option Value → Heap → (Addr → Prop) → Prop} {h : Heap} {sf : List Addr} {cells slots pc : Nat} {Ls : Array Slot} {st : List Value}
theorem mvM {Z s : State} {a0 args : Array Value} {own host : String} {y : MethodName} {index : Nat} (hZ : Z.Warmed39 s.vm) (w : (Cond.methodLinkNest own index y host).before a0 Z = true) : (Cond.methodLinkNest own index y host).before args s = true := (Cond.methodLinkNest_wide hZ w :)
/-- invokestatic of a nest-mate's method -/
theorem go_staticM (K : Kd G B M) {k ix : Nat} {y : MethodName} {host : String} {bytes : ByteArray} {maxL : Nat} {ret : Option FieldType} {rm : Room} {argsL rest : List Value} {ps : List FieldType} {rt : Option FieldType} {sf' : List Addr} {Qc : Option Value → Heap → (Addr → Prop) → Prop} (hd : M.P[k]? = some (pc, .invokestatic ix, 3))
    (w1 : Wd G (.methodLinkNest M.own ix y host)) (w2 : Wd G (.static y)) (w3 : Wd G (.initialized y.cls)) (w4 : Wd G (.code y bytes maxL ret)) (hy : y.cls ≠ "java/lang/invoke/MethodHandle" ∧ y.cls ≠ "java/lang/invoke/VarHandle") (pd : parseMethodDescriptor y.desc = some ⟨ps, rt⟩)
    (C : Ctr G [] y bytes maxL ret rm argsL.toArray h sf' Qc) (hst : st = argsL.reverse ++ rest) (hlen : argsL.length = ps.length) (hsz : Ls.size = M.maxL) (hsub : ∀ x ∈ sf', x ∈ sf) (hrm : rok M.R rest maxL rm cells slots = true)
    (g : ∀ (v : Option Value) (h' : Heap) (Sf : Addr → Prop), h.size ≤ h'.size → Qc v h' Sf → Go G B M Q h' sf (cells + rm.cells) (slots + rm.slots) (pc + 3) Ls (v.toList ++ rest)) : Go G B M Q h sf cells slots pc Ls st := by
  intro T vm0 k0 locs W
  obtain ⟨r1, r2, r3, r4⟩ := rok_ok hrm
  obtain ⟨X, eT, hS, hk, hZ, hown, hF, hE, hC, hs⟩ := id W
  subst hst
  exact call_on W (callSNS X K.1 hown (mvM hZ w1) (mv hZ w2) (mv hZ w3) (mv hZ w4) hy (backG (W := (rest.map fun v => v.category).sum) C hZ w4 w3 r1 r2 K.2.2.2.2.2.2 hC.1 hE (fun x hx => hs x (hsub x hx))) (g := mkF B.m pc Ls (argsL.reverse ++ rest)) rfl (hsz.trans K.2.2.1.symm) (argsL := argsL) (rest := rest) (lenOf pd hlen) rfl (by show 2 * 0 + _ ≤ _; omega) (K.dec hd) (fun vm₁ _ => ⟨rfl, eT, r3, r4⟩)) (fun v h' Sf z q => ⟨[], (fun _ u => nomatch u), g v h' Sf z q⟩)
end Ne
/-- what CType.declaring gives -/
def dec (xs ds : List Int32) : List Int32 := if ds = [] then xs else xs ++ (32 : Int32) :: ds
end Jvm.OwnW
namespace Jvm.OwnW
theorem go_mono {G : Gb} {B : Cx} {M : Mt} {Q : Option Value → Heap → (Addr → Prop) → Prop} {h : Heap} {sf : List Addr} {cells slots cells' slots' pc : Nat} {Ls : Array Slot} {st : List Value} (g : Go G B M Q h sf cells' slots' pc Ls st) (hc : cells ≤ cells') (hn : slots ≤ slots') : Go G B M Q h sf cells slots pc Ls st := by
  intro T vm0 k0 locs W
  obtain ⟨X, r⟩ := W
  exact g T vm0 k0 locs ⟨X.mono hc hn, r⟩
/-- the int on the stack's top, said otherwise -/
theorem go_top {G : Gb} {B : Cx} {M : Mt} {Q : Option Value → Heap → (Addr → Prop) → Prop} {h : Heap} {sf : List Addr} {cells slots pc : Nat} {Ls : Array Slot} {st : List Value} {x y : Int32} (e : x = y) (g : Go G B M Q h sf cells slots pc Ls (.int y :: st)) : Go G B M Q h sf cells slots pc Ls (.int x :: st) := by
  rw [e]; exact g
end Jvm.OwnW
@@BLOCK:LamKit.lean.txt@@
namespace Jvm.OwnW
open Sem ClassFile Op Lib Bundle Jvm.Stand Jvm.Free Jvm.LawKit Jvm.RoadKit Jvm.Lambda
section Lm
variable {G : Gb} {B : Cx} {M : Mt} {Q : Option Value → Heap → (Addr → Prop) → Prop} {h h1 : Heap} {sf : List Addr} {cells slots pc : Nat} {Ls : Array Slot} {st : List Value}
/-- as ctr_of; the walk is told its method's name -/
theorem ctr_ofL (M : Mt) {ws : List Jvm.Cond} {y : MethodName} {bytes : ByteArray} {as' : Array Value} (ho : M.own = y.cls) (hnm : M.nm = y.name) (pf : plainFor y = true) (hP : ∀ q ∈ M.P, decode bytes q.1 = .ok q.2) (hEL : EW G.Z G.a0 G.EL) {Ls : Array Slot} (ef : ∀ m, entryFrame m as' M.maxL = mkF m 0 Ls [])
    (H : ∀ B : Cx, Kd G B M → Ext G.Z.heap h → B.s.methodNamed? y = some B.m → Go G B M Q h sf 0 0 0 Ls []) : Ctr G ws y bytes M.maxL M.ret M.R as' h sf Q := by
  refine MetFree.of_bodySF pf hisR ?_
  intro p e s m args below meth c s₁ Bd hml hP' hK
  obtain ⟨rfl, hZ, hh, hCH, hE, hs⟩ := hP'
  have hK : Kd G ((p, e, s, m), (args, below, meth, c)) M := ⟨Bd.exec, fun q hq => by show decode c.code q.1 = _; rw [Bd.bytes]; exact hP q hq, hml, Bd.returns, Bd.notSynchronized, (name_of_methodNamed Bd.named Bd.method).1.trans hnm.symm, hEL⟩
  have X0 : Stand p G.l e M.R s m args below meth c s₁ [] 0 0 := Stand.of_body Bd
  have X1 : Stand p G.l e M.R (s.setVm s.vm) m args below meth c s₁ [] 0 0 := X0
  have e0 : s₁.heap = h := by rw [← hh, Bd.state]; rfl
  have hown : s.vm.findClass M.own = some m.cls := by rw [ho]; exact findClass_of_methodNamed Bd.named
  have hb : CHr G.Z G.EL s.vm s.heap s.vm h := by rw [hh]; exact CHr.refl hCH
  obtain ⟨t, v, L, k1, k2, k3, k4, k5, k6, k7, k8⟩ := H ((p, e, s, m), (args, below, meth, c)) hK hE Bd.named s₁ s.vm 0 [] ⟨X1, e0, (State.WarmedH.refl s).since 0, Nat.zero_le _, hZ, hown, Fr.nil _, hE, hb, hs⟩
  refine ⟨t, .returned v, ?_, k2, k3, v, L, rfl, ⟨k4, k5, k6⟩, k7, k8⟩
  rw [ef m]
  exact k1
/-- a function object of the shape σ, made in the class called 'host', holding vals -/
def Lam (G : Gb) (h : Heap) (a : Addr) (host : String) (σ : Lambda.Shape) (vals : List Value) : Prop :=
  ∃ cK : ClassId, LamKit.Made G.Z host σ cK ∧ h[a]? = some { cls := cK, slots := vals.toArray, vm := .none }
theorem go_lambda (K : Kd G B M) {k ix n fi : Nat} {y : MethodName} {σ : Lambda.Shape} {vals rest : List Value} (hd : M.P[k]? = some (pc, .invokedynamic ix, 5)) (hB : B.s.methodNamed? y = some B.m)
    (w : Wd G (.lambdaSite y pc ix σ)) (wO : Wd G (.instantiable "java/lang/Object" 0)) (hcap : σ.captured ≠ []) (hok : LamKit.capOK σ y.cls fi 0 = true) (hst : st = vals.reverse ++ rest) (hlen : vals.length = σ.captured.length) (hn : vals.length = n)
    (hfit : ∀ (i : Nat) t v, σ.captured[i]? = some t → vals[i]? = some v → narrow t v = v ∧ fits t v = true) (hsz : Ls.size = M.maxL)
    (hw : Nat.ble ((st.map fun v => v.category).sum + 3072) M.R.locals = true) (hc : Nat.ble (cells + 1) M.R.cells = true) (hl : Nat.ble (slots + n) M.R.slots = true)
    (g : ∀ (h' : Heap) (a : Addr), a = h.size → G.Z.heap.size ≤ a → Ext h h' → Lam G h' a y.cls σ vals → Go G B M Q h' (a :: sf) (cells + 1) (slots + n) (pc + 5) Ls (.ref a :: rest)) : Go G B M Q h sf cells slots pc Ls st := by
  intro T vm0 k0 locs W
  obtain ⟨X, eT, hS, hk, hZ, hown, hF, hE, hC, hs⟩ := W
  obtain ⟨cK, one, hat⟩ := Cond.lambdaSite_spec w
  obtain ⟨mD, kD, cfD, i0, p0, lk, hmD, hkD, hcfD, hsh, -, hfind, hmade, hcan, hll⟩ := State.lambdaAt?_spec hat
  have e1 := State.methodNamed?_setVm (s := G.Z) hZ.alike y
  have e2 := State.methodNamed?_setVm (s := B.s) hS.1.alike y
  have e3 : (G.Z.setVm vm0).methodNamed? y = (B.s.setVm vm0).methodNamed? y := rfl
  rw [e1, e2, hmD, hB] at e3
  have e4 : mD = B.m := Option.some.inj e3
  subst e4
  obtain ⟨kD', hkD', hnameD⟩ := className_of_methodNamed hmD
  cases hkD.symm.trans hkD'
  rcases hll with ⟨a, cell, -, -, hc0, -⟩ | ⟨rfl, -, -⟩
  · exact absurd hc0 hcap
  obtain ⟨b, nt, desc, site, q1, q2, q3, q4⟩ := shapeOf?_site hsh
  obtain ⟨kc, f, hkc, hkind, hty, -⟩ := LamKit.made_cap hok hkD hnameD hmade (LamKit.noFields wO (State.WarmedH.refl G.Z))
  obtain ⟨k1, hk1, hk1e⟩ := hZ.alike.2.2 _ _ hkD
  obtain ⟨kc1, hkc1, hkc1e⟩ := hZ.alike.2.2 _ _ hkc
  have t1 : kc1.instanceTypes = σ.captured.toArray := by rw [hkc1e]; exact hty
  have t2 : kc1.kind = .ordinary := by rw [hkc1e]; exact hkind
  have hz : ((kc1.instanceTypes.toList.zip vals).map fun (t, v) => narrow t v) = vals := by rw [t1]; exact LamKit.zip_narrow _ _ hlen fun i t v a b => (hfit i t v a b).1
  have hww : B.e.platform.lambdaLinkWords = 3072 := by rw [X.admits.platform]
  have hw' := Nat.le_of_ble_eq_true hw
  have q := X.lambdaMakes K.1 (g := mkF B.m pc Ls st) rfl (hsz.trans K.2.2.1.symm) (K.dec hd) (vals := vals) (rest := rest) (k := k1) (kc := kc1) hk1 (by rw [hk1e]; exact hfind) (by rw [hk1e]; exact hcfD) q1 q2 (parseLong_of_parse q3) (by rw [q4]; exact hlen) hst hkc1
    (by rw [hww]; show 2 * 0 + (st.map fun v => v.category).sum + 3072 ≤ _; omega) (Nat.le_of_ble_eq_true hc) (by rw [hz, hn]; exact Nat.le_of_ble_eq_true hl)
    (fun i v hv => by
      rw [hz] at hv
      have hv' : vals[i]? = some v := by simpa using hv
      have hi : i < σ.captured.length := by rw [← hlen]; exact (List.getElem?_eq_some_iff.mp hv').1
      have := (hfit i _ v (List.getElem?_eq_getElem hi) hv').2
      have hkc2 : (B.s.setVm vm0).vm.classes[cK]? = some kc1 := hkc1
      simp only [State.fitsSlot, State.slotType?]
      rw [hkc2]
      simp [t2, t1, List.getElem?_eq_getElem hi, this])
  rw [hz] at q
  obtain ⟨X', st'⟩ := q
  have hzn : vals.toArray.size = n := by rw [List.size_toArray]; exact hn
  rw [hzn] at X'
  subst eT
  have hN : (T.heap.push ({ cls := cK, slots := vals.toArray, vm := .none } : Cell))[T.heap.size]? = some { cls := cK, slots := vals.toArray, vm := .none } := by simp
  have E' : Ext T.heap (T.heap.push ({ cls := cK, slots := vals.toArray, vm := .none } : Cell)) := ⟨by simp, fun x c q => by
    have hlt := (Array.getElem?_eq_some_iff.mp q).1
    exact (Array.getElem?_push_lt hlt).trans ((Array.getElem?_eq_getElem hlt).symm.trans q)⟩
  refine (g _ T.heap.size rfl hE.1 E' ⟨cK, ⟨_, kD, hkD, hnameD, hmade, hcan⟩, hN⟩ (T.pushCell { cls := cK, slots := vals.toArray, vm := .none }) vm0 k0 locs ⟨X', rfl, hS, Nat.le_trans hk E'.1, hZ, hown, hF, ⟨Nat.le_trans hE.1 E'.1, fun x c q => E'.2 x c (hE.2 x c q)⟩, hC.trans (CHr.ext E' hC.1), fun x hx => ?_⟩).pre st'
  rcases List.mem_cons.mp hx with rfl | hx
  · exact ⟨Safe.ext E' hC.1 (Safe.new (Nat.le_refl _)), (Array.getElem?_eq_some_iff.mp hN).1⟩
  · exact ⟨Safe.ext E' hC.1 (hs x hx).1, Nat.lt_of_lt_of_le (hs x hx).2 E'.1⟩
theorem Lam.ext {a : Addr} {host : String} {σ : Lambda.Shape} {vals : List Value} (L : Lam G h a host σ vals) (E : Ext h h1) : Lam G h1 a host σ vals := by
  obtain ⟨cK, m, q⟩ := L
  exact ⟨cK, m, E.2 _ _ q⟩
theorem Lam.keep {a : Addr} {host : String} {σ : Lambda.Shape} {vals : List Value} {ws : List Addr} (L : Lam G h a host σ vals) (K : Keep h h1 ws) (n : a ∉ ws) : Lam G h1 a host σ vals := by
  obtain ⟨cK, m, q⟩ := L
  exact ⟨cK, m, K.2.1 _ _ q n⟩
theorem Lam.lt {a : Addr} {host : String} {σ : Lambda.Shape} {vals : List Value} (L : Lam G h a host σ vals) : a < h.size := by
  obtain ⟨cK, m, q⟩ := L
  exact (Array.getElem?_eq_some_iff.mp q).1
/-! ### steps -/
theorem go_anewarray (K : Kd G B M) {k ix cap : Nat} {C ad : String} {n : Int32} (hd : M.P[k]? = some (pc, .anewarray ix, 3)) (w1 : Wd G (.classLink M.own ix C)) (w2 : Wd G (.arrayOver (.object C))) (had : "[" ++ (FieldType.object C).toString = ad) (hn : ¬ n < 0) (hcap : n.toNatClampNeg ≤ cap) (hb : Nat.ble (cap * 8) 536870912 = true) (hc : Nat.ble (cells + 1) M.R.cells = true) (hl : Nat.ble (slots + cap) M.R.slots = true)
    (g : ∀ (h' : Heap) (a : Addr) (kA : ClassId), a = h.size → G.Z.heap.size ≤ a → Ext h h' → Arv G.Z h' a kA (.object C) n [] .null → Exa G.Z h' a ad → Ovr G.Z kA C → Go G B M Q h' (a :: sf) (cells + 1) (slots + cap) (pc + 3) Ls (.ref a :: st)) : Go G B M Q h sf cells slots pc Ls (.int n :: st) := by
  intro T vm0 k0 locs W
  obtain ⟨X, eT, hS, hk, hZ, hown, hF, hE, hC, hs⟩ := W
  obtain ⟨T', h', cA, X', e', E', A', E2, O, st'⟩ := newRE X K.1 hZ hown w1 w2 eT (g := mkF B.m pc Ls (.int n :: st)) rfl (K.dec hd) rfl hn hcap (Nat.le_of_ble_eq_true hb) (Nat.le_of_ble_eq_true hc) (Nat.le_of_ble_eq_true hl) had
  refine (g h' h.size cA rfl hE.1 E' (Arv.new A' hn) E2 O T' vm0 k0 locs ⟨X', e', hS, Nat.le_trans hk E'.1, hZ, hown, hF, ⟨Nat.le_trans hE.1 E'.1, fun x c q => E'.2 x c (hE.2 x c q)⟩, hC.trans (CHr.ext E' hC.1), fun x hx => ?_⟩).pre st'
  rcases List.mem_cons.mp hx with rfl | hx
  · exact ⟨Safe.ext E' hC.1 (Safe.new (Nat.le_refl _)), A'.lt⟩
  · exact ⟨Safe.ext E' hC.1 (hs x hx).1, Nat.lt_of_lt_of_le (hs x hx).2 E'.1⟩
theorem go_aastore (K : Kd G B M) {k i : Nat} {a b : Addr} {kA : ClassId} {C : String} {z j : Int32} {vs : List Value} {dv : Value} (hd : M.P[k]? = some (pc, .aastore, 1)) (A : Arv G.Z h a kA (.object C) z vs dv) (O : Ovr G.Z kA C) (I : Ins G.Z h b C true) (hj : ¬ j < 0 ∧ j < z) (hi : j.toNatClampNeg = i) (hl : i < vs.length) (ha : G.Z.heap.size ≤ a)
    (g : ∀ h' : Heap, Wr h h' a j.toNatClampNeg (.ref b) → Arv G.Z h' a kA (.object C) z (vs.set i (.ref b)) dv → Go G B M Q h' sf cells slots (pc + 1) Ls st) : Go G B M Q h sf cells slots pc Ls (.ref b :: .int j :: .ref a :: st) := by
  obtain ⟨c, A1, q1, S, q3, H, Gf⟩ := A
  exact go_wr K ha (Or.inr fun vm0 hal => Safe.arr hal A1 (fun q => nomatch q)) (fun T vm0 locs X eT hZ hown => stR X K.1 hZ eT A1 (inb_of S hj) rfl (Sto.ofV A1 q1 O I) (g := mkF B.m pc Ls (.ref b :: .int j :: .ref a :: st)) rfl rfl (K.dec hd)) fun h' W => g h' W (Arv.set A1 q1 S q3 H Gf rfl W i hi hl)
/-- invokespecial of a constructor over an entry that is resolved -/
theorem go_specialR (K : Kd G B M) {k ix : Nat} {y : MethodName} {bytes : ByteArray} {maxL : Nat} {rm : Room} {a : Addr} {argsL rest : List Value} {ps : List FieldType} {rt : Option FieldType} {sf' : List Addr} {Qc : Option Value → Heap → (Addr → Prop) → Prop} (hd : M.P[k]? = some (pc, .invokespecial ix, 3)) (hy1 : y.name = "<init>")
    (w1 : Wd G (.methodRef M.own ix y)) (w2 : Wd G (.instanceMethod y)) (w3 : Wd G (.initialized y.cls)) (w4 : Wd G (.code y bytes maxL none)) (hy : y.cls ≠ "java/lang/invoke/MethodHandle" ∧ y.cls ≠ "java/lang/invoke/VarHandle") (pd : parseMethodDescriptor y.desc = some ⟨ps, rt⟩)
    (C : Ctr G [] y bytes maxL none rm (.ref a :: argsL).toArray h sf' Qc) (hst : st = argsL.reverse ++ .ref a :: rest) (hlen : argsL.length = ps.length) (hsz : Ls.size = M.maxL) (hsub : ∀ x ∈ sf', x ∈ sf) (hrm : rok M.R rest maxL rm cells slots = true)
    (g : ∀ (v : Option Value) (h' : Heap) (Sf : Addr → Prop), h.size ≤ h'.size → Qc v h' Sf → Go G B M Q h' sf (cells + rm.cells) (slots + rm.slots) (pc + 3) Ls (v.toList ++ rest)) : Go G B M Q h sf cells slots pc Ls st := by
  intro T vm0 k0 locs W
  obtain ⟨r1, r2, r3, r4⟩ := rok_ok hrm
  obtain ⟨X, eT, hS, hk, hZ, hown, hF, hE, hC, hs⟩ := id W
  subst hst
  have hK := backG (R := M.R) (p := B.p) (e := B.e) (below := B.bl) (s := B.s) (args := B.as) (len := 3) (W := (rest.map fun v => v.category).sum) C hZ w4 w3 r1 r2 K.2.2.2.2.2.2 hC.1 hE (fun x hx => hs x (hsub x hx))
  refine call_on W ?_ (fun v h' Sf z q => ⟨[], (fun _ u => nomatch u), g v h' Sf z q⟩)
  have hW : G.Z.Warmed39 T.vm := wtrans hZ X.warmed
  obtain ⟨mk0, methM0, hn0, -, -, -⟩ := Cond.instanceMethod_spec w2
  have w1' := Cond.methodRef_warmed39 hW hn0 hy w1
  have hcur : (G.Z.setVm T.vm).vm.findClass M.own = some B.m.cls := by
    show T.vm.findClass M.own = some B.m.cls
    rw [X.warmed.alike.findClass]; exact hown
  obtain ⟨mk, c', hf, hready, hfc, hnr⟩ := Cond.methodRef_named B.e (cur := B.m.cls) hcur w1'
  have v2 : (Jvm.Cond.instanceMethod y).before B.as (G.Z.setVm T.vm) = true := mv (s := G.Z.setVm T.vm) hW w2
  have v4 : (Jvm.Cond.code y bytes maxL none).before B.as (G.Z.setVm T.vm) = true := mv (s := G.Z.setVm T.vm) hW w4
  obtain ⟨mk', methM, hnamed, hmethM, hstM, habM⟩ := Cond.instanceMethod_spec v2
  obtain ⟨methM', cM, hmethM', -, -, -, -, -, -, hsigM⟩ := Cond.code_spec hnamed v4
  cases hmethM.symm.trans hmethM'
  cases hf.symm.trans (State.methodFound?_of_named hnamed hy)
  obtain ⟨kO, hkO, hnameO⟩ := className_of_methodNamed hnamed
  obtain ⟨hnm, hdesc⟩ := name_of_methodNamed hnamed hmethM
  have hcl : c' = mk.cls := Option.some.inj (hfc.symm.trans (findClass_of_methodNamed hnamed))
  subst hcl
  have hfound : lookupSpecial T.vm mk.cls "<init>" methM.desc = .method mk := by
    have := lookupSpecial_of_named hnamed hmethM hstM
    rw [hy1, ← hdesc] at this
    exact this
  have hnT : T.methodNamed? y = some mk := hnamed
  obtain ⟨v, A, X', hS', hgr, hpost, hsteps⟩ := hK B.m B.mt B.c ⟨T, locs, cells, slots⟩ { mkF B.m pc Ls (argsL.reverse ++ .ref a :: rest) with stack := rest } (.invokespecial ix) mk (.ref a :: argsL).toArray X rfl (hsz.trans K.2.2.1.symm) (K.dec hd) (by show 2 * 0 + (rest.map fun v => v.category).sum ≤ _; omega) hnT ⟨rfl, eT, r3, r4⟩
  refine ⟨v, T.vm, A, X.warmed, X', hS', hgr, hpost, Steps.trans ?_ hsteps⟩
  have hd' := K.dec hd
  jvm_step X.here [K.1, hd', invokespecial.wp_init (e := B.e) (s := T) (k := kO) (meth := methM) (m := mk) (a := a) (args := argsL) (rest := rest) (f := mkF B.m pc Ls (argsL.reverse ++ .ref a :: rest)) X.here.top hnr hready hkO hmethM (hnm.trans hy1) hstM habM hfound (lenOf pd hlen _ hsigM) rfl]
  intro acts
  rw [doInvoke_state]
  exact Steps.refl _
/-- invokevirtual of a method that a superclass of the entry's class declares -/
theorem go_virtUp (K : Kd G B M) {k ix : Nat} {x y : MethodName} {bytes : ByteArray} {maxL : Nat} {ret : Option FieldType} {rm : Room} {C owner : String} {a : Addr} {argsL rest : List Value} {ps : List FieldType} {rt : Option FieldType} {sf' : List Addr} {Qc : Option Value → Heap → (Addr → Prop) → Prop} (hd : M.P[k]? = some (pc, .invokevirtual ix, 3))
    (w1 : Wd G (.methodLink M.own ix x)) (w2 : Wd G (.sameMethod x.cls owner x.name x.desc)) (w2' : Wd G (.declares ⟨owner, x.name, x.desc⟩)) (ho : owner ≠ "java/lang/invoke/MethodHandle" ∧ owner ≠ "java/lang/invoke/VarHandle") (w3 : Wd G (.selects C x y)) (w4 : Wd G (.instanceMethod y)) (w5 : Wd G (.initialized y.cls)) (w6 : Wd G (.code y bytes maxL ret)) (pd : parseMethodDescriptor x.desc = some ⟨ps, rt⟩) (E : Exa G.Z h a C)
    (Ct : Ctr G [] y bytes maxL ret rm (.ref a :: argsL).toArray h sf' Qc) (hst : st = argsL.reverse ++ .ref a :: rest) (hlen : argsL.length = ps.length) (hsz : Ls.size = M.maxL) (hsub : ∀ x ∈ sf', x ∈ sf) (hrm : rok M.R rest maxL rm cells slots = true)
    (g : ∀ (v : Option Value) (h' : Heap) (Sf : Addr → Prop), h.size ≤ h'.size → Qc v h' Sf → Go G B M Q h' sf (cells + rm.cells) (slots + rm.slots) (pc + 3) Ls (v.toList ++ rest)) : Go G B M Q h sf cells slots pc Ls st := by
  intro T vm0 k0 locs W
  obtain ⟨r1, r2, r3, r4⟩ := rok_ok hrm
  obtain ⟨X, eT, hS, hk, hZ, hown, hF, hE, hC, hs⟩ := id W
  obtain ⟨cB, kB, i1, i2, i3⟩ := isOf (s := B.s.setVm vm0) hZ eT E
  subst hst
  exact call_on W (X.virtualBackUpS K.1 hown (mv hZ w1) (mv hZ w2) (mv hZ w2') ho (mv hZ w3) (mv hZ w4) (backG (W := (rest.map fun v => v.category).sum) Ct hZ w6 w5 r1 r2 K.2.2.2.2.2.2 hC.1 hE (fun x hx => hs x (hsub x hx))) i1 i3 (g := mkF B.m pc Ls (argsL.reverse ++ .ref a :: rest)) rfl (hsz.trans K.2.2.1.symm) (Steps.refl _) (argsL := argsL) (rest := rest) (lenOf pd hlen) rfl (by show 2 * 0 + _ ≤ _; omega) (K.dec hd) (fun vm₁ _ => ⟨rfl, eT, r3, r4⟩)) (fun v h' Sf z q => ⟨[], (fun _ u => nomatch u), g v h' Sf z q⟩)
/-- a private method is the one that its own class selects -/
theorem selP {y : MethodName} {n : Nat} (wp : Wd G (.privateMethod y)) (wi : Wd G (.instanceMethod y)) (wn : Wd G (.instantiable y.cls n)) (hy : y.cls ≠ "java/lang/invoke/MethodHandle" ∧ y.cls ≠ "java/lang/invoke/VarHandle") : Wd G (.selects y.cls y y) := by
  obtain ⟨c, k, q1, q2, -, q4, -, -⟩ := Cond.instantiable_spec wn
  exact selects_self_of_private q1 q2 (Bool.or_eq_false_iff.mp q4).1 (Cond.privateMethod_at wp) wi hy
theorem sameM2 {x y z : MethodName} {C : String} (wd : Wd G (.declares y)) (ws : Wd G (.selects C x z)) (hc : y.cls = z.cls) (hy : y.cls ≠ "java/lang/invoke/MethodHandle" ∧ y.cls ≠ "java/lang/invoke/VarHandle") : Wd G (.sameMethod y.cls y.cls y.name y.desc) := by
  obtain ⟨r0, r, hn, -⟩ := Cond.declares_spec wd
  obtain ⟨c2, r2, m2, q1, q2, q3, q4, kP, hkP, hkPi⟩ := Cond.selects_spec ws
  have e1 := findClass_of_methodNamed hn
  have e2 := findClass_of_methodNamed q3
  rw [← hc] at e2
  have e3 : m2.cls = r0.cls := Option.some.inj (e2.symm.trans e1)
  have e4 := State.methodFound?_of_named hn hy
  have e5 : G.Z.methodNamed? ⟨y.cls, y.name, y.desc⟩ = some r0 := hn
  rw [e3] at hkP
  show (Jvm.Cond.sameMethod y.cls y.cls y.name y.desc).before G.a0 G.Z = true
  simp [Cond.before, Cond.holds, Cond.value, e1, e4, e5, hkP, hkPi]
theorem nfO2 {C : String} {x y z : MethodName} {s : State} (w : Wd G (.selects C x z)) (hc : y.cls = z.cls) : ∀ vm0 : Vm, G.Z.Warmed39 vm0 → NotFace (s.setVm vm0) y := fun vm0 hZ r0 h0 => by
  obtain ⟨c2, r2, m2, q1, q2, q3, q4, kP, hkP, hkPi⟩ := Cond.selects_spec (mv (s := s.setVm vm0) (args := #[]) hZ w)
  have e1 := findClass_of_methodNamed h0
  have e2 := findClass_of_methodNamed q3
  rw [hc] at e1
  have e3 : m2.cls = r0.cls := Option.some.inj (e2.symm.trans e1)
  exact ⟨kP, by rw [← e3]; exact hkP, hkPi⟩
/-! ### facts -/
/-- x is no String and no String's array -/
def Ap (G : Gb) (h : Heap) (x : Addr) : Prop := ∀ (s t : Addr) (kb : ClassId) (z : Int32) (vs : List Value), (Exa G.Z h s "java/lang/String" → s ≠ x) ∧ (Arv G.Z h t kb .byte z vs (.int 0) → t ≠ x)
theorem Ap.of_exa {x : Addr} {C : String} {n : Nat} (E : Exa G.Z h x C) (hC : C ≠ "java/lang/String") (wi : Wd G (.instantiable C n)) : Ap G h x := fun s t kb z vs => ⟨fun F => (Exa.ne E F hC).symm, fun A => (Exa.neArv E A wi).symm⟩
theorem Ap.of_arv {x : Addr} {k : ClassId} {ty : FieldType} {z : Int32} {vs : List Value} {dv : Value} (A : Arv G.Z h x k ty z vs dv) (ht : ty ≠ .byte) (ws : Wd G (.instantiable "java/lang/String" 4)) : Ap G h x := fun s t kb z' vs' => ⟨fun F => Exa.neArv F A ws, fun B => (Arv.ty_ne A B ht).symm⟩
theorem Str.keepAp {b : Addr} {cs : List Int32} {ws : List Addr} (S : Str G h b cs) (K : Keep h h1 ws) (q : ∀ x ∈ ws, Ap G h x) : Str G h1 b cs := by
  obtain ⟨t, kb, e1, e2, e3, e4⟩ := S
  have n1 : b ∉ ws := fun m => (q b m b t kb cs.length.toInt32 (by8 cs)).1 e1 rfl
  have n2 : t ∉ ws := fun m => (q t m b t kb cs.length.toInt32 (by8 cs)).2 e4 rfl
  exact ⟨t, kb, e1.keep K, e2.keep K n1, e3.keep K n1, e4.keep K n2⟩
/-- a Layout la over the list li, its prefix the String pr -/
def Ly (G : Gb) (h : Heap) (la li pr : Addr) (ps : List Int32) : Prop := Exa G.Z h la "com/example/foyer/foyer/Layout" ∧ Fld G.Z h la "com/example/foyer/foyer/Layout" "declared" "Ljava/util/List;" (.ref li) ∧ Fld G.Z h la "com/example/foyer/foyer/Layout" "prefix" "Ljava/lang/String;" (.ref pr) ∧ Str G h pr ps
theorem Ly.ext {la li pr : Addr} {ps : List Int32} (Y : Ly G h la li pr ps) (E : Ext h h1) : Ly G h1 la li pr ps := by
  obtain ⟨a, b, c, d⟩ := Y
  exact ⟨Exa.ext E a, Fld.ext E b, Fld.ext E c, d.ext E⟩
theorem Ly.exa {la li pr : Addr} {ps : List Int32} (Y : Ly G h la li pr ps) : Exa G.Z h la "com/example/foyer/foyer/Layout" := Y.1
theorem Ly.keep {la li pr : Addr} {ps : List Int32} {ws : List Addr} (Y : Ly G h la li pr ps) (K : Keep h h1 ws) (n : la ∉ ws) (q : ∀ x ∈ ws, Ap G h x) : Ly G h1 la li pr ps := by
  obtain ⟨a, b, c, d⟩ := Y
  exact ⟨a.keep K, b.keep K n, c.keep K n, d.keepAp K q⟩
/-- a RegisterArray -/
def Ra (G : Gb) (h : Heap) (r : Addr) (b f n : Int32) (ini : Value) : Prop := Exa G.Z h r "com/example/foyer/foyer/Layout$RegisterArray" ∧ Fld G.Z h r "com/example/foyer/foyer/Layout$RegisterArray" "base" "I" (.int b) ∧ Fld G.Z h r "com/example/foyer/foyer/Layout$RegisterArray" "first" "I" (.int f) ∧ Fld G.Z h r "com/example/foyer/foyer/Layout$RegisterArray" "length" "I" (.int n) ∧ Fld G.Z h r "com/example/foyer/foyer/Layout$RegisterArray" "initial" "Ljava/util/function/IntUnaryOperator;" ini
theorem Ra.ext {r : Addr} {b f n : Int32} {ini : Value} (R : Ra G h r b f n ini) (E : Ext h h1) : Ra G h1 r b f n ini := by
  obtain ⟨a, b, c, d, e⟩ := R
  exact ⟨Exa.ext E a, Fld.ext E b, Fld.ext E c, Fld.ext E d, Fld.ext E e⟩
theorem Ra.exa {r : Addr} {b f n : Int32} {ini : Value} (R : Ra G h r b f n ini) : Exa G.Z h r "com/example/foyer/foyer/Layout$RegisterArray" := R.1
theorem Ra.keep {r : Addr} {b f n : Int32} {ini : Value} {ws : List Addr} (R : Ra G h r b f n ini) (K : Keep h h1 ws) (q : r ∉ ws) : Ra G h1 r b f n ini := by
  obtain ⟨a, b, c, d, e⟩ := R
  exact ⟨a.keep K, b.keep K q, c.keep K q, d.keep K q, e.keep K q⟩
/-- an empty list over the array ed -/
def Al0 (G : Gb) (h : Heap) (li ed : Addr) : Prop := Exa G.Z h li "java/util/ArrayList" ∧ (∃ mc : Int32, Fld G.Z h li "java/util/AbstractList" "modCount" "I" (.int mc)) ∧ Fld G.Z h li "java/util/ArrayList" "elementData" "[Ljava/lang/Object;" (.ref ed) ∧ Fld G.Z h li "java/util/ArrayList" "size" "I" (.int 0) ∧ G.Z.heap.size ≤ li
theorem Al0.ext {li ed : Addr} (L : Al0 G h li ed) (E : Ext h h1) : Al0 G h1 li ed := by
  obtain ⟨a, ⟨mc, b⟩, c, d, e⟩ := L
  exact ⟨Exa.ext E a, ⟨mc, Fld.ext E b⟩, Fld.ext E c, Fld.ext E d, e⟩
theorem Al0.exa {li ed : Addr} (L : Al0 G h li ed) : Exa G.Z h li "java/util/ArrayList" := L.1
theorem Al0.keep {li ed : Addr} {ws : List Addr} (L : Al0 G h li ed) (K : Keep h h1 ws) (n : li ∉ ws) : Al0 G h1 li ed := by
  obtain ⟨a, ⟨mc, b⟩, c, d, e⟩ := L
  exact ⟨a.keep K, ⟨mc, b.keep K n⟩, c.keep K n, d.keep K n, e⟩
/-- a list of k RegisterArrays in an array t of ten, the last one r -/
def Alk (G : Gb) (h : Heap) (li t r : Addr) (kA : ClassId) (k : Nat) (b f n : Int32) (ini : Value) : Prop := Exa G.Z h li "java/util/ArrayList" ∧ (∃ mc : Int32, Fld G.Z h li "java/util/AbstractList" "modCount" "I" (.int mc)) ∧ Fld G.Z h li "java/util/ArrayList" "elementData" "[Ljava/lang/Object;" (.ref t) ∧ Fld G.Z h li "java/util/ArrayList" "size" "I" (.int k.toInt32) ∧
  Exa G.Z h t "[Ljava/lang/Object;" ∧ Ovr G.Z kA "java/lang/Object" ∧ (1 ≤ k ∧ k ≤ 10) ∧ (G.Z.heap.size ≤ li ∧ G.Z.heap.size ≤ t) ∧ (∃ vs : List Value, vs.length = 10 ∧ vs.getD (k - 1) .null = .ref r ∧ Arv G.Z h t kA (.object "java/lang/Object") (10 : Nat).toInt32 vs .null) ∧ Ra G h r b f n ini
variable {li t r : Addr} {kA : ClassId} {k : Nat} {b f n : Int32} {ini : Value}
theorem Alk.ext (L : Alk G h li t r kA k b f n ini) (E : Ext h h1) : Alk G h1 li t r kA k b f n ini := by
  obtain ⟨a, ⟨mc, b⟩, c, d, e, o, kk, ge, ⟨vs, l1, l2, A⟩, R⟩ := L
  exact ⟨Exa.ext E a, ⟨mc, Fld.ext E b⟩, Fld.ext E c, Fld.ext E d, Exa.ext E e, o, kk, ge, ⟨vs, l1, l2, A.ext E⟩, R.ext E⟩
theorem Alk.exa (L : Alk G h li t r kA k b f n ini) : Exa G.Z h li "java/util/ArrayList" := L.1
theorem Alk.exaT (L : Alk G h li t r kA k b f n ini) : Exa G.Z h t "[Ljava/lang/Object;" := L.2.2.2.2.1
theorem Alk.ra (L : Alk G h li t r kA k b f n ini) : Ra G h r b f n ini := L.2.2.2.2.2.2.2.2.2
theorem Alk.exaR (L : Alk G h li t r kA k b f n ini) : Exa G.Z h r "com/example/foyer/foyer/Layout$RegisterArray" := L.ra.1
theorem Alk.ge (L : Alk G h li t r kA k b f n ini) : G.Z.heap.size ≤ t := L.2.2.2.2.2.2.2.1.2
theorem Alk.keep {ws : List Addr} (L : Alk G h li t r kA k b f n ini) (K : Keep h h1 ws) (n1 : li ∉ ws) (n2 : t ∉ ws) (n3 : r ∉ ws) : Alk G h1 li t r kA k b f n ini := by
  obtain ⟨a, ⟨mc, b⟩, c, d, e, o, kk, ge, ⟨vs, l1, l2, A⟩, R⟩ := L
  exact ⟨a.keep K, ⟨mc, b.keep K n1⟩, c.keep K n1, d.keep K n1, e.keep K, o, kk, ge, ⟨vs, l1, l2, A.keep K n2⟩, R.keep K n3⟩
theorem Alk.apT (L : Alk G h li t r kA k b f n ini) (ws : Wd G (.instantiable "java/lang/String" 4)) : Ap G h t := by
  obtain ⟨a, ⟨mc, b⟩, c, d, e, o, kk, ge, ⟨vs, l1, l2, A⟩, R⟩ := L
  exact Ap.of_arv A (fun q => nomatch q) ws
theorem set_last {vs : List Value} {k : Nat} {x : Value} (hl : vs.length = 10) (hk : k < 10) : (vs.set k x).length = 10 ∧ (vs.set k x).getD (k + 1 - 1) .null = x := ⟨by rw [List.length_set]; exact hl, by
  rw [Nat.add_sub_cancel, List.getD_eq_getElem?_getD, List.getElem?_set_self (by omega)]; rfl⟩
theorem cap1 {u : Int32} : ∀ (i : Nat) (t : FieldType) (v : Value), ([FieldType.int] : List FieldType)[i]? = some t → ([Value.int u] : List Value)[i]? = some v → narrow t v = v ∧ fits t v = true := fun i t v h1 h2 => by
  cases i with
  | zero => cases h1; cases h2; exact ⟨rfl, rfl⟩
  | succ i => cases h1
theorem arr0_start {G : Gb} {args : Array Value} {t : Term} {a : Addr} {ty : FieldType} (hf : Fit G.Z) (ev : t.eval args G.Z none [] G.Z = some (.ref a)) (hA : (Cond.arrayOf t ty).value args G.Z none G.Z [] = some true) (hl : (Term.length t).eval args G.Z none [] G.Z = some (.int 0)) : ∃ k, Arv G.Z G.Z.heap a k ty (0 : Int32) [] .null := by
  obtain ⟨cl, A⟩ := Arr.start ev hA
  have ha : G.Z.arrayAt? a = some cl := Arr.fin (Vm.Alike.refl _) A
  have q : cl.slots.size < 2 ^ 31 := Decidable.byContradiction fun nq => by simp [Term.eval, ev, ha, nq] at hl
  have e : cl.slots.size.toInt32 = 0 := Value.int.inj (Option.some.inj ((len_f ev ha q).symm.trans hl))
  exact ⟨cl.cls, Arv.start hf A q e (by decide) rfl trivial⟩
theorem and3p (x : Int32) : (x &&& 3) + 1 + 1 ≠ 0 := by rcases and3 x with q | q | q | q <;> rw [q] <;> decide
theorem and7 (x : Int32) : x &&& 7 = 0 ∨ x &&& 7 = 1 ∨ x &&& 7 = 2 ∨ x &&& 7 = 3 ∨ x &&& 7 = 4 ∨ x &&& 7 = 5 ∨ x &&& 7 = 6 ∨ x &&& 7 = 7 := by
  have q := c_and x 7 (by decide)
  have e3 : (7 : Int32).toInt = 7 := by decide
  rw [e3] at q
  have h2 : (x &&& 7).toInt = 0 ∨ (x &&& 7).toInt = 1 ∨ (x &&& 7).toInt = 2 ∨ (x &&& 7).toInt = 3 ∨ (x &&& 7).toInt = 4 ∨ (x &&& 7).toInt = 5 ∨ (x &&& 7).toInt = 6 ∨ (x &&& 7).toInt = 7 := by omega
  rcases h2 with u | u | u | u | u | u | u | u
  · exact Or.inl (Int32.toInt_inj.mp (u.trans (by decide)))
  · exact Or.inr (Or.inl (Int32.toInt_inj.mp (u.trans (by decide))))
  · exact Or.inr (Or.inr (Or.inl (Int32.toInt_inj.mp (u.trans (by decide)))))
  · exact Or.inr (Or.inr (Or.inr (Or.inl (Int32.toInt_inj.mp (u.trans (by decide))))))
  · exact Or.inr (Or.inr (Or.inr (Or.inr (Or.inl (Int32.toInt_inj.mp (u.trans (by decide)))))))
  · exact Or.inr (Or.inr (Or.inr (Or.inr (Or.inr (Or.inl (Int32.toInt_inj.mp (u.trans (by decide))))))))
  · exact Or.inr (Or.inr (Or.inr (Or.inr (Or.inr (Or.inr (Or.inl (Int32.toInt_inj.mp (u.trans (by decide)))))))))
  · exact Or.inr (Or.inr (Or.inr (Or.inr (Or.inr (Or.inr (Or.inr (Int32.toInt_inj.mp (u.trans (by decide)))))))))
theorem and7p (x : Int32) : 1 + (x &&& 7) ≠ 0 ∧ 1 + (x &&& 7) + 1 ≠ 0 := by rcases and7 x with q | q | q | q | q | q | q | q <;> rw [q] <;> decide
/-- 1 + (x & 0x7fffffff) % n, n from 1 to 8 -/
theorem pid {x a : Int32} : ¬ 1 + (x &&& 2147483647) % (1 + (a &&& 7)) < 1 := by
  have hx := (c_and x 2147483647 (by decide)).1
  obtain ⟨n, hn, hn1, hn8⟩ : ∃ n : Int, (1 + (a &&& 7)).toInt = n ∧ 1 ≤ n ∧ n ≤ 8 := by
    rcases and7 a with q | q | q | q | q | q | q | q <;> rw [q] <;> exact ⟨_, rfl, by decide, by decide⟩
  have b := (c_irem (x &&& 2147483647) (1 + (a &&& 7)) n hn).1 hx
  have p1 := Int.emod_nonneg (x &&& 2147483647).toInt (show n ≠ 0 by omega)
  have p2 := Int.emod_lt_of_pos (x &&& 2147483647).toInt (show (0 : Int) < n by omega)
  have c := c_iadd 1 ((x &&& 2147483647) % (1 + (a &&& 7)))
  have e1 : (1 : Int32).toInt = 1 := by decide
  have r1 := rng32 (1 + (x &&& 2147483647) % (1 + (a &&& 7)))
  rw [Int32.lt_iff_toInt_lt, e1]
  rw [e1, b] at c
  omega
end Lm
end Jvm.OwnW
namespace Jvm.OwnW
open Sem ClassFile Op Lib Bundle Jvm.Stand Jvm.Free Jvm.LawKit Jvm.RoadKit Jvm.Lambda Jvm.LamKit
/-- a class of the rule's making is so under tables in which Strings were interned, too -/
theorem isMade39 {s : State} {vm' : Vm} (hW : s.Warmed39 vm') {d c : ClassId} {σ : Lambda.Shape} (h : isMade { classPath := fun _ => none } s.vm d σ c = true) : isMade { classPath := fun _ => none } vm' d σ c = true := by
  have hA := hW.alike
  simp only [isMade, Option.bind_eq_bind, Option.pure_def, Option.getD_eq_iff, Option.bind_eq_some_iff, Bool.false_eq_true, and_false, or_false] at h ⊢
  obtain ⟨dk, h2, k, h3, file, h4, cf, h5, object, ho, iface, hi, ok, h6, lay, h7, methods, h8, t, ht, tk, htk, h⟩ := h
  obtain ⟨dk', h2', e2⟩ := hA.2.2 _ _ h2
  obtain ⟨k', h3', e3, -, hres, -⟩ := hW.2.2.2 _ _ h3
  obtain ⟨ok', h6', e6⟩ := hA.2.2 _ _ h6
  obtain ⟨tk', htk', e7⟩ := hA.2.2 _ _ htk
  have n2 : dk'.name = dk.name := by rw [e2]
  have n6 : ok'.instanceTypes = ok.instanceTypes := by rw [e6]
  have n7 : tk'.isInterface = tk.isInterface := by rw [e7]; rfl
  refine ⟨dk', h2', k', h3', file, by rw [e3]; exact h4, cf, by rw [n2]; exact h5, object, by rw [hA.findClass]; exact ho, iface, by rw [hA.findClass]; exact hi, ok', h6', lay, by rw [n6]; exact h7, methods, h8, t, by rw [hA.findClass]; exact ht, tk', htk', ?_⟩
  rw [n7, methodIn_ask_alike hA, methodIn_ask_alike hA]
  cases hg : ((methodIn t σ.implName σ.implDesc.toString tk.isInterface none).ask { classPath := fun _ => none } s.vm).1 with
  | error x => simp [hg] at h
  | ok target =>
    cases hf : ((methodIn iface σ.name σ.sam.toString true none).ask { classPath := fun _ => none } s.vm).1 with
    | error x => simp [hg, hf] at h
    | ok found =>
      simp only [hg, hf, Option.some.injEq, Bool.and_eq_true] at h ⊢
      obtain ⟨⟨h0, b13⟩, b14⟩ := h
      have q1 : k'.name = k.name ∧ k'.kind = k.kind ∧ k'.accessFlags = k.accessFlags ∧ k'.super = k.super ∧ k'.interfaces = k.interfaces ∧ k'.init = k.init ∧ k'.loader = k.loader ∧ k'.hidden = k.hidden ∧ k'.linked = k.linked ∧ k'.callSites = k.callSites ∧ k'.invokers = k.invokers ∧ k'.methods = k.methods ∧ k'.fields = k.fields ∧ k'.instanceTypes = k.instanceTypes ∧ k'.staticTypes = k.staticTypes := by
        rw [e3]; exact ⟨rfl, rfl, rfl, rfl, rfl, rfl, rfl, rfl, rfl, rfl, rfl, rfl, rfl, rfl, rfl⟩
      obtain ⟨a1, a2, a3, a4, a5, a6, a7, a8, a9, a10, a11, a12, a13, a14, a15⟩ := q1
      rw [a1, a2, a3, a4, a5, a6, a7, a8, a9, a10, a11, a12, a13, a14, a15, n2, n6, resolvedOf_alike hA, hA.selectMethod]
      refine ⟨⟨h0, ?_⟩, b14⟩
      rw [List.all_eq_true] at b13 ⊢
      intro y hy
      have u := b13 y hy
      obtain ⟨x, i⟩ := y
      cases x with
      | none => rfl
      | some r =>
        simp only [Option.isNone_some, Bool.false_or, decide_eq_true_eq] at u ⊢
        rcases hres i with v | ⟨v, -⟩
        · rw [v]; exact u
        · rw [u] at v; cases v
theorem made39 {Z U : State} (hW : Z.Warmed39 U.vm) {host : String} {σ : Lambda.Shape} {cK : ClassId} (h : LamKit.Made Z host σ cK) : LamKit.Made U host σ cK := by
  obtain ⟨d, dk, h1, h2, h3, h4⟩ := h
  obtain ⟨dk', h1', e⟩ := hW.alike.2.2 _ _ h1
  refine ⟨d, dk', h1', by rw [e]; exact h2, isMade39 hW h3, ?_⟩
  have hA := hW.alike
  simp only [State.lambdaCallable, hA.findClass, hA.assignable, hA.superclasses, hA.declaredIn] at h4 ⊢
  exact h4
/-- the body of (u, x) -> u -/
theorem lam_target (l : Launch) {y : MethodName} {bytes : ByteArray} (hp : plainName y.cls = true) (t0 : decode bytes 0 = .ok (.iload_n 0, 1)) (t1 : decode bytes 1 = .ok (.ireturn, 1)) (u x : Int32) :
    Met l y [Jvm.Cond.code y bytes 2 (some .int)] { frames := 0, cells := 0, slots := 0, locals := 0 } (fun args _ => args = #[.int u, .int x]) (fun _ st o t => o = .returned (some (.int u)) ∧ t.heap = st.heap) 0 0 (fun _ => False) := by
  refine MetFree.of_bodyS (code := bytes) (maxLocals := 2) (ret := some .int) hp (hisOf (List.mem_singleton.mpr rfl)) ?_
  intro p e s m args below meth c s₁ Bd hml hP _
  obtain rfl : args = #[.int u, .int x] := hP
  have X := Stand.of_body Bd
  obtain ⟨fs, hr, hrun, hended, hW, hsame⟩ := X.leave (v := some (.int u)) (fun h => by rw [Bd.returns] at h; cases h)
  refine ⟨s₁.setFrames fs, _, ?_, hrun, hended, ⟨rfl, by show s₁.heap = s.heap; rw [Bd.state]; rfl⟩, [], ⟨⟨_, rfl⟩, hW, hsame⟩, fun q hq => nomatch hq⟩
  show Steps p.tables e below (s₁.setTop (mkF m 0 #[iv u, iv x] [])) _
  refine XS.iloadN X.here Bd.exec rfl (hb Bd.bytes t0) rfl ?_
  exact X.ireturnOut Bd.exec Bd.returns rfl (Or.inl rfl) (hb Bd.bytes t1) hr
section Lc
variable {G : Gb} {B : Cx} {M : Mt} {Q : Option Value → Heap → (Addr → Prop) → Prop} {h : Heap} {sf : List Addr} {cells slots pc : Nat} {Ls : Array Slot} {st : List Value}
/-- applyAsInt on a function object that holds u, its target (u, x) -> u -/
theorem go_lamcall (K : Kd G B M) {k ix cnt : Nat} {xi y : MethodName} {bytes fcode : ByteArray} {σ : Lambda.Shape} {host : String} {a : Addr} {u x : Int32} {rest : List Value} (hd : M.P[k]? = some (pc, .invokeinterface ix cnt, 5))
    (w1 : Wd G (.methodLink M.own ix xi)) (w2 : Wd G (.declares xi)) (w3 : Wd G (.interfaceMethod xi.cls xi.cls xi.name xi.desc)) (hfa : ((Jvm.Cond.interfaceMethod xi.cls xi.cls xi.name xi.desc).onTables && (Jvm.Cond.interfaceMethod xi.cls xi.cls xi.name xi.desc).keepsFace) = true)
    (w4 : Wd G (.code y bytes 2 (some .int))) (w5 : Wd G (.static y)) (w6 : Wd G (.initialized y.cls)) (wO : Wd G (.instantiable "java/lang/Object" 0))
    (hxi : xi.cls = σ.iface ∧ xi.name = σ.name ∧ xi.desc = σ.sam.toString) (hy : y.cls = σ.implClass ∧ y.name = σ.implName ∧ y.desc = σ.implDesc.toString)
    (hpoly : (xi.cls ≠ "java/lang/invoke/MethodHandle" ∧ xi.cls ≠ "java/lang/invoke/VarHandle") ∧ y.cls ≠ "java/lang/invoke/MethodHandle" ∧ y.cls ≠ "java/lang/invoke/VarHandle") (pdx : parseMethodDescriptor xi.desc = some ⟨[.int], some .int⟩) (pdy : parseMethodDescriptor y.desc = some ⟨[.int, .int], some .int⟩)
    (hp : plainName y.cls = true) (t0 : decode bytes 0 = .ok (.iload_n 0, 1)) (t1 : decode bytes 1 = .ok (.ireturn, 1)) (fwd : fwdOK σ host fcode 2 (some .int) 23 19 = true) (cap : capOK σ host 15 0 = true)
    (f0 : decode fcode 0 = .ok (.aload_n 0, 1)) (f1 : decode fcode 1 = .ok (.getfield 15, 3)) (f4 : decode fcode 4 = .ok (.iload_n 1, 1)) (f5 : decode fcode 5 = .ok (.invokestatic 23, 3)) (f8 : decode fcode 8 = .ok (.ireturn, 1))
    (L : Lam G h a host σ [.int u]) (hst : st = .int x :: .ref a :: rest) (hsz : Ls.size = M.maxL) (hf : Nat.ble 2 M.R.frames = true) (hlo : Nat.ble ((rest.map fun v => v.category).sum + 26) M.R.locals = true) (hc : Nat.ble cells M.R.cells = true) (hl : Nat.ble slots M.R.slots = true)
    (g : Go G B M Q h sf cells slots (pc + 5) Ls (.int u :: rest)) : Go G B M Q h sf cells slots pc Ls st := by
  intro T vm0 k0 locs W
  obtain ⟨X, eT, hS, hk, hZ, hown, hF, hE, hC, hs⟩ := W
  subst hst
  obtain ⟨cK, hmd0, hcell⟩ := L
  have hmd : LamKit.Made (B.s.setVm vm0) host σ cK := made39 (U := B.s.setVm vm0) hZ hmd0
  have hcT : T.heap[a]? = some { cls := cK, slots := [Value.int u].toArray, vm := .none } := by rw [eT]; exact hcell
  have hcodeT : (Jvm.Cond.code y bytes 2 (some .int)).before B.as (B.s.setVm vm0) = true := mv hZ w4
  have hO : (Jvm.Cond.instantiable "java/lang/Object" 0).before B.as (B.s.setVm vm0) = true := mv hZ wO
  have hlo' := Nat.le_of_ble_eq_true hlo
  obtain ⟨v, st0, t, T', L', X', hL, e1, e2, hq, stp⟩ := callLamS X K.1 (own := M.own) (host := host) (index := ix) (count := cnt) (xi := xi) (y := y) (σ := σ) (lam_target G.l hp t0 t1 u x) (fun _ _ _ _ h => h) rfl rfl
    (fun w hw' a' U hU => by rw [List.mem_singleton.mp hw']; exact word_at hU (Or.inl (by first | rfl | simp [Cond.onTables, Cond.keeps, Cond.steady])) hcodeT) (List.mem_singleton.mpr rfl)
    hown (mv hZ w1) (mv hZ w2) (mv hZ w3 hfa) hcodeT (mv hZ w5) (mv hZ w6) hxi hy hpoly hmd ⟨_, hcT, rfl, rfl⟩ fwd f5 f8
    (g := mkF B.m pc Ls (.int x :: .ref a :: rest)) rfl (hsz.trans K.2.2.1.symm) (argsL := [.int x]) (argsT := [.int u, .int x]) (rest := rest) (L0 := #[.val (.ref a), iv x])
    (fun sig h => by cases pdx.symm.trans h; rfl) (fun sig h => by cases pdy.symm.trans h; rfl)
    rfl (K.dec hd) (fun _ => rfl) rfl
    (fun U ck bl target hU hck hh hW k => XS.aloadN hU K.1 rfl (hb hck f0) rfl rfl (getCap K.1 hU hW hmd cap hO (by rw [hh]; exact hcT) rfl (v := .int u) rfl rfl rfl (hb hck f1) (XS.iloadN hU K.1 rfl (hb hck f4) rfl k)))
    (fun st w t h => by cases h.1; exact Or.inl ⟨.int, _, rfl, Or.inl rfl, rfl, rfl, rfl⟩) (Nat.le_of_ble_eq_true hf) (by show 2 * 0 + (rest.map fun v => v.category).sum + (2 + 11) + ((2 + 11) + 0) ≤ _; omega) (Nat.le_of_ble_eq_true hc) (Nat.le_of_ble_eq_true hl) (fun _ _ _ => rfl)
  obtain ⟨q1, q2⟩ := hq
  cases q1
  have X'' := Stand.forget (extra := L') X' (fun q hq => (hL q hq).elim)
  exact (g T' vm0 k0 locs ⟨X'', by rw [e1, q2, e2, eT], hS, hk, hZ, hown, hF, hE, hC, hs⟩).pre stp
end Lc
theorem st_get {xs : List Int32} {j : Nat} (hj : j < xs.length) : (xs.map Value.int).getD j (.int 0) = .int (xs.getD j 0) := by
  rw [get_map hj]
  congr 1
  rw [List.getD_eq_getElem?_getD, List.getElem?_eq_getElem hj]
  rfl
theorem rst_get {xs : List Int32} {k n i : Nat} (hk : k + n ≤ xs.length) (hi : i < n) : (((xs.drop k).take n).map Value.int).getD i (.int 0) = .int (xs.getD (k + i) 0) := by
  have hl : i < ((xs.drop k).take n).length := by rw [List.length_take, List.length_drop]; omega
  rw [st_get hl]
  congr 1
  rw [List.getD_eq_getElem?_getD, List.getD_eq_getElem?_getD, List.getElem?_take_of_lt hi, List.getElem?_drop]
theorem off_k {x : Int32} {m : Nat} (h1 : 1 ≤ m) (h2 : m ≤ 7) : ∃ k : Nat, k + 1 ≤ m ∧ (x &&& 2147483647) % m.toInt32 = k.toInt32 := by
  have a := (c_and x 2147483647 (by decide)).1
  have e : m.toInt32.toInt = m := len_toInt (by omega)
  have b := (c_irem (x &&& 2147483647) m.toInt32 m e).1 a
  have p1 := Int.emod_nonneg (x &&& 2147483647).toInt (show (m : Int) ≠ 0 by omega)
  have p2 := Int.emod_lt_of_pos (x &&& 2147483647).toInt (show (0 : Int) < m by omega)
  refine ⟨((x &&& 2147483647).toInt % m).toNat, by omega, Int32.toInt_inj.mp ?_⟩
  rw [b, len_toInt (by omega)]
  omega
theorem rem5m (x : Int32) : (x &&& 2147483647) % 5 = 0 ∨ (x &&& 2147483647) % 5 = 1 ∨ (x &&& 2147483647) % 5 = 2 ∨ (x &&& 2147483647) % 5 = 3 ∨ (x &&& 2147483647) % 5 = 4 := by
  obtain ⟨k, hk, ek⟩ : ∃ k : Nat, k + 1 ≤ 5 ∧ (x &&& 2147483647) % (5 : Int32) = k.toInt32 := off_k (m := 5) (by decide) (by decide)
  rw [ek]
  rcases (by omega : k = 0 ∨ k = 1 ∨ k = 2 ∨ k = 3 ∨ k = 4) with rfl | rfl | rfl | rfl | rfl <;> decide
end Jvm.OwnW

namespace Jvm.Pilot.@@N@@
open Jvm Jvm.ClassFile Sem Op Lib Jvm.Free Jvm.Stand Jvm.LawKit Jvm.RoadKit Bundle Jvm.OwnW Jvm.Pilot.@@N@@.Jvm.D
abbrev els : List (String × Nat) := consts_1
theorem pd_0 : parseMethodDescriptor "()B" = some ⟨[], (some .byte)⟩ := by decide +kernel
theorem pd_1 : parseMethodDescriptor "(II)V" = some ⟨[.int, .int], none⟩ := by decide +kernel
theorem pd_2 : parseMethodDescriptor "(II)I" = some ⟨[.int, .int], (some .int)⟩ := by decide +kernel
theorem pd_3 : parseMethodDescriptor "([BII)[B" = some ⟨[(.array .byte), .int, .int], (some (.array .byte))⟩ := by decide +kernel
theorem pd_4 : parseMethodDescriptor "(Ljava/lang/String;)V" = some ⟨[(.object "java/lang/String")], none⟩ := by decide +kernel
theorem pd_5 : parseMethodDescriptor "([BIB)V" = some ⟨[(.array .byte), .int, .byte], none⟩ := by decide +kernel
theorem pd_6 : parseMethodDescriptor "()I" = some ⟨[], (some .int)⟩ := by decide +kernel
theorem pd_7 : parseMethodDescriptor "(I)V" = some ⟨[.int], none⟩ := by decide +kernel
theorem pd_8 : parseMethodDescriptor "(ILjava/lang/String;)V" = some ⟨[.int, (.object "java/lang/String")], none⟩ := by decide +kernel
theorem pd_9 : parseMethodDescriptor "(Ljava/lang/String;)Ljava/lang/AbstractStringBuilder;" = some ⟨[(.object "java/lang/String")], (some (.object "java/lang/AbstractStringBuilder"))⟩ := by decide +kernel
theorem pd_10 : parseMethodDescriptor "()[B" = some ⟨[], (some (.array .byte))⟩ := by decide +kernel
theorem pd_11 : parseMethodDescriptor "()Z" = some ⟨[], (some .boolean)⟩ := by decide +kernel
theorem pd_12 : parseMethodDescriptor "(Ljava/lang/AbstractStringBuilder;Ljava/lang/Void;)V" = some ⟨[(.object "java/lang/AbstractStringBuilder"), (.object "java/lang/Void")], none⟩ := by decide +kernel
theorem pd_13 : parseMethodDescriptor "(Ljava/lang/StringBuilder;)V" = some ⟨[(.object "java/lang/StringBuilder")], none⟩ := by decide +kernel
theorem pd_14 : parseMethodDescriptor "()V" = some ⟨[], none⟩ := by decide +kernel
theorem pd_15 : parseMethodDescriptor "(IILjava/util/function/BiFunction;)I" = some ⟨[.int, .int, (.object "java/util/function/BiFunction")], (some .int)⟩ := by decide +kernel
theorem pd_16 : parseMethodDescriptor "(I)Ljava/lang/Object;" = some ⟨[.int], (some (.object "java/lang/Object"))⟩ := by decide +kernel
theorem pd_17 : parseMethodDescriptor "(I)[Ljava/lang/Object;" = some ⟨[.int], (some (.array (.object "java/lang/Object")))⟩ := by decide +kernel
theorem pd_18 : parseMethodDescriptor "()[Ljava/lang/Object;" = some ⟨[], (some (.array (.object "java/lang/Object")))⟩ := by decide +kernel
theorem pd_19 : parseMethodDescriptor "(Ljava/lang/Object;[Ljava/lang/Object;I)V" = some ⟨[(.object "java/lang/Object"), (.array (.object "java/lang/Object")), .int], none⟩ := by decide +kernel
theorem pd_20 : parseMethodDescriptor "(Ljava/lang/String;)Ljava/lang/StringBuilder;" = some ⟨[(.object "java/lang/String")], (some (.object "java/lang/StringBuilder"))⟩ := by decide +kernel
theorem pd_21 : parseMethodDescriptor "()Ljava/lang/String;" = some ⟨[], (some (.object "java/lang/String"))⟩ := by decide +kernel
theorem pd_22 : parseMethodDescriptor "(Ljava/lang/String;IIILjava/util/function/IntUnaryOperator;Z)V" = some ⟨[(.object "java/lang/String"), .int, .int, .int, (.object "java/util/function/IntUnaryOperator"), .boolean], none⟩ := by decide +kernel
theorem pd_23 : parseMethodDescriptor "(Ljava/lang/Object;)Z" = some ⟨[(.object "java/lang/Object")], (some .boolean)⟩ := by decide +kernel
theorem pd_24 : parseMethodDescriptor "(Ljava/lang/String;IILjava/util/function/IntUnaryOperator;Z)Lcom/example/foyer/foyer/Layout$RegisterArray;" = some ⟨[(.object "java/lang/String"), .int, .int, (.object "java/util/function/IntUnaryOperator"), .boolean], (some (.object "com/example/foyer/foyer/Layout$RegisterArray"))⟩ := by decide +kernel
theorem pd_25 : parseMethodDescriptor "(Ljava/util/List;Ljava/lang/String;)V" = some ⟨[(.object "java/util/List"), (.object "java/lang/String")], none⟩ := by decide +kernel
theorem pd_26 : parseMethodDescriptor "(Ljava/lang/String;IILjava/util/function/IntUnaryOperator;)Lcom/example/foyer/foyer/Layout$RegisterArray;" = some ⟨[(.object "java/lang/String"), .int, .int, (.object "java/util/function/IntUnaryOperator")], (some (.object "com/example/foyer/foyer/Layout$RegisterArray"))⟩ := by decide +kernel
theorem pd_27 : parseMethodDescriptor "(Ljava/util/ArrayList;)V" = some ⟨[(.object "java/util/ArrayList")], none⟩ := by decide +kernel
theorem pd_28 : parseMethodDescriptor "()Ljava/util/Iterator;" = some ⟨[], (some (.object "java/util/Iterator"))⟩ := by decide +kernel
theorem pd_29 : parseMethodDescriptor "()Ljava/lang/Object;" = some ⟨[], (some (.object "java/lang/Object"))⟩ := by decide +kernel
theorem pd_30 : parseMethodDescriptor "(I)I" = some ⟨[.int], (some .int)⟩ := by decide +kernel
theorem pd_31 : parseMethodDescriptor "()[I" = some ⟨[], (some (.array .int))⟩ := by decide +kernel
theorem pd_32 : parseMethodDescriptor "(Ljava/lang/String;III)Lcom/example/foyer/foyer/Layout$RegisterArray;" = some ⟨[(.object "java/lang/String"), .int, .int, .int], (some (.object "com/example/foyer/foyer/Layout$RegisterArray"))⟩ := by decide +kernel
theorem pd_33 : parseMethodDescriptor "(Lcom/example/foyer/foyer/Layout;)V" = some ⟨[(.object "com/example/foyer/foyer/Layout")], none⟩ := by decide +kernel
theorem pd_34 : parseMethodDescriptor "([II)V" = some ⟨[(.array .int), .int], none⟩ := by decide +kernel
theorem pd_35 : parseMethodDescriptor "([IIIIIII)Z" = some ⟨[(.array .int), .int, .int, .int, .int, .int, .int], (some .boolean)⟩ := by decide +kernel
theorem pn_0 : plainName "java/lang/String" = true := by first | (simp [plainName, overriddenIn]; done) | decide +kernel
def P_cod : List (Nat × Instr × Nat) := [(0, .getstatic 38, 3), (3, .ifCond .eq 10, 3), (6, .aload_n 0, 1), (7, .getfield 15, 3), (10, .goto 4, 3), (13, .iconst 1, 1), (14, .ireturn, 1)]
theorem L_cod : ∀ q ∈ P_cod, decode jdk_42_method_152_code q.1 = .ok q.2 := by decide +kernel
def M_cod : Mt := (("java/lang/String", "coder", ({ frames := 0, cells := 0, slots := 0, locals := 0 } : Room)), P_cod, 1, (some .byte))
set_option maxRecDepth 65536 in
set_option maxHeartbeats 40000000 in
theorem c_cod {G : Gb} (H : Gl tables_1 els G) {h : Heap} {a : Addr} {cs : List Int32} (S1 : Str G h a cs) :
    Ctr G [] (⟨"java/lang/String", "coder", "()B"⟩ : MethodName) jdk_42_method_152_code 1 (some .byte) ({ frames := 0, cells := 0, slots := 0, locals := 0 } : Room) #[.ref a] h [] (fun v h' Sf => v = some (.int 0) ∧ h = h') := by
  refine ctr_of M_cod rfl rfl (plainFor_of_name pn_0) L_cod H.el (Ls := #[.val (.ref a)]) (fun m => ef_ok (by show argsToLocals _ 1 = _; first | (simp [argsToLocals, Value.category]; done) | rfl)) ?_
  intro B K hE
  obtain ⟨cz, hcs, hcz⟩ := H.cs
  obtain ⟨t1, k2, e3, e4, e5, e6⟩ := id S1
  refine go_getstatic K (k := 0) rfl (host := "") (Or.inl (H.w 111 rfl)) Via.refl hcs ?_
  refine go_ifeq K (k := 1) rfl (pc' := 13) (by decide) (fun q => absurd q hcz) (fun _ => ?_)
  refine go_run K 2 1 (pc' := 7) (st' := [(.ref a)]) rfl ?_
  refine go_getfield K (k := 3) rfl (host := "") (Or.inl (H.w 112 rfl)) Via.refl e4 ?_
  refine go_run K 4 1 (pc' := 14) (st' := [(.int (0 : Int32))]) rfl ?_
  refine go_ireturn K (k := 6) rfl rfl (by decide) rfl rfl rfl ?_
  intro Sf hSf
  exact ⟨rfl, rfl⟩
def P_len : List (Nat × Instr × Nat) := [(0, .aload_n 0, 1), (1, .getfield 9, 3), (4, .arraylength, 1), (5, .aload_n 0, 1), (6, .invokevirtual 335, 3), (9, .ishr, 1), (10, .ireturn, 1)]
theorem L_len : ∀ q ∈ P_len, decode jdk_42_method_54_code q.1 = .ok q.2 := by decide +kernel
def M_len : Mt := (("java/lang/String", "length", ({ frames := 1, cells := 0, slots := 0, locals := 13 } : Room)), P_len, 1, (some .int))
set_option maxRecDepth 65536 in
set_option maxHeartbeats 40000000 in
theorem c_len {G : Gb} (H : Gl tables_1 els G) {h : Heap} {a : Addr} {cs : List Int32} (S1 : Str G h a cs) :
    Ctr G [] (⟨"java/lang/String", "length", "()I"⟩ : MethodName) jdk_42_method_54_code 1 (some .int) ({ frames := 1, cells := 0, slots := 0, locals := 13 } : Room) #[.ref a] h [] (fun v h' Sf => v = some (.int cs.length.toInt32) ∧ h = h') := by
  refine ctr_of M_len rfl rfl (plainFor_of_name pn_0) L_len H.el (Ls := #[.val (.ref a)]) (fun m => ef_ok (by show argsToLocals _ 1 = _; first | (simp [argsToLocals, Value.category]; done) | rfl)) ?_
  intro B K hE
  obtain ⟨t1, k2, e3, e4, e5, e6⟩ := id S1
  refine go_run K 0 1 (pc' := 1) (st' := [(.ref a)]) rfl ?_
  refine go_getfield K (k := 1) rfl (host := "") (Or.inl (H.w 105 rfl)) Via.refl e5 ?_
  refine go_arraylength K (k := 2) rfl e6 ?_
  refine go_run K 3 1 (pc' := 6) (st' := [(.ref a), (.int cs.length.toInt32)]) rfl ?_
  refine go_virt0 K (k := 4) rfl (H.w 106 rfl) (H.w 109 rfl) (H.w 108 rfl) (H.w 35 rfl) (H.w 110 rfl) (by decide) pd_0 S1.exa (c_cod H S1) (argsL := []) (rest := [(.int cs.length.toInt32)]) rfl rfl rfl sub0 rfl ?_
  rintro _ _ _ - ⟨rfl, rfl⟩
  show Go G B M_len _ h [] 0 0 9 #[.val (.ref a)] [(.int (0 : Int32)), (.int cs.length.toInt32)]
  refine go_run K 5 1 (pc' := 10) (st' := [(.int (cs.length.toInt32 >>> ((0 : Int32) &&& 31)))]) rfl ?_
  rw [shr0]
  refine go_ireturn K (k := 6) rfl rfl (by decide) rfl rfl rfl ?_
  intro Sf hSf
  exact ⟨rfl, rfl⟩
theorem pf_1 : plainFor (⟨"java/lang/Math", "min", "(II)I"⟩ : MethodName) = true := by decide +kernel
def P_min : List (Nat × Instr × Nat) := [(0, .iload_n 0, 1), (1, .iload_n 1, 1), (2, .if_icmp .gt 7, 3), (5, .iload_n 0, 1), (6, .goto 4, 3), (9, .iload_n 1, 1), (10, .ireturn, 1)]
theorem L_min : ∀ q ∈ P_min, decode jdk_29_method_69_code q.1 = .ok q.2 := by decide +kernel
def M_min : Mt := (("java/lang/Math", "min", ({ frames := 0, cells := 0, slots := 0, locals := 0 } : Room)), P_min, 2, (some .int))
set_option maxRecDepth 65536 in
set_option maxHeartbeats 40000000 in
theorem c_min {G : Gb} (H : Gl tables_1 els G) {h : Heap} {x y : Int32} :
    Ctr G [] (⟨"java/lang/Math", "min", "(II)I"⟩ : MethodName) jdk_29_method_69_code 2 (some .int) ({ frames := 0, cells := 0, slots := 0, locals := 0 } : Room) #[.int x, .int y] h [] (fun v h' Sf => ∃ r : Int32, v = some (.int r) ∧ h = h' ∧ ((r = x ∧ ¬ y < x) ∨ (r = y ∧ y < x))) := by
  refine ctr_of M_min rfl rfl pf_1 L_min H.el (Ls := #[.val (.int x), .val (.int y)]) (fun m => ef_ok (by show argsToLocals _ 2 = _; first | (simp [argsToLocals, Value.category]; done) | rfl)) ?_
  intro B K hE
  refine go_run K 0 2 (pc' := 2) (st' := [(.int y), (.int x)]) rfl ?_
  refine go_icmpgt K (k := 2) rfl (pc' := 9) (by decide) (fun q1 => ?_) (fun q2 => ?_)
  · refine go_run K 5 1 (pc' := 10) (st' := [(.int y)]) rfl ?_
    refine go_ireturn K (k := 6) rfl rfl (by decide) rfl rfl rfl ?_
    intro Sf hSf
    exact ⟨y, rfl, rfl, Or.inr ⟨rfl, q1⟩⟩
  · refine go_run K 3 2 (pc' := 10) (st' := [(.int x)]) rfl ?_
    refine go_ireturn K (k := 6) rfl rfl (by decide) rfl rfl rfl ?_
    intro Sf hSf
    exact ⟨x, rfl, rfl, Or.inl ⟨rfl, q2⟩⟩
theorem pn_2 : plainName "java/util/Arrays" = true := by first | (simp [plainName, overriddenIn]; done) | decide +kernel
def P_ckl : List (Nat × Instr × Nat) := [(0, .iload_n 1, 1), (1, .iload_n 0, 1), (2, .if_icmp .ge 35, 3), (5, .new 43, 3), (8, .dup, 1), (9, .new 45, 3), (12, .dup, 1), (13, .invokespecial 47, 3), (16, .iload_n 0, 1), (17, .invokevirtual 54, 3), (20, .ldc_w 337, 3), (23, .invokevirtual 50, 3), (26, .iload_n 1, 1), (27, .invokevirtual 54, 3), (30, .invokevirtual 61, 3), (33, .invokespecial 65, 3), (36, .athrow, 1), (37, .return_, 1)]
theorem L_ckl : ∀ q ∈ P_ckl, decode jdk_65_method_131_code q.1 = .ok q.2 := by decide +kernel
def M_ckl : Mt := (("java/util/Arrays", "checkLength", ({ frames := 0, cells := 0, slots := 0, locals := 0 } : Room)), P_ckl, 2, none)
set_option maxRecDepth 65536 in
set_option maxHeartbeats 40000000 in
theorem c_ckl {G : Gb} (H : Gl tables_1 els G) {h : Heap} {x y : Int32} (hle : ¬ y < x) :
    Ctr G [] (⟨"java/util/Arrays", "checkLength", "(II)V"⟩ : MethodName) jdk_65_method_131_code 2 none ({ frames := 0, cells := 0, slots := 0, locals := 0 } : Room) #[.int x, .int y] h [] (fun v h' Sf => v = none ∧ h = h') := by
  refine ctr_of M_ckl rfl rfl (plainFor_of_name pn_2) L_ckl H.el (Ls := #[.val (.int x), .val (.int y)]) (fun m => ef_ok (by show argsToLocals _ 2 = _; first | (simp [argsToLocals, Value.category]; done) | rfl)) ?_
  intro B K hE
  refine go_run K 0 2 (pc' := 2) (st' := [(.int x), (.int y)]) rfl ?_
  refine go_icmpge K (k := 2) rfl (pc' := 37) (by decide) (fun _ => ?_) (fun q => absurd q hle)
  refine go_return K (k := 17) rfl rfl rfl rfl ?_
  intro Sf hSf
  exact ⟨rfl, rfl⟩
def P_crb : List (Nat × Instr × Nat) := [(0, .iload_n 1, 1), (1, .iload_n 2, 1), (2, .invokestatic 343, 3), (5, .iload_n 2, 1), (6, .iload_n 1, 1), (7, .isub, 1), (8, .istore_n 3, 1), (9, .iload_n 3, 1), (10, .newarray .byte, 2), (12, .astore 4, 2), (14, .aload_n 0, 1), (15, .iload_n 1, 1), (16, .aload 4, 2), (18, .iconst 0, 1), (19, .aload_n 0, 1), (20, .arraylength, 1), (21, .iload_n 1, 1), (22, .isub, 1), (23, .iload_n 3, 1), (24, .invokestatic 304, 3), (27, .invokestatic 150, 3), (30, .aload 4, 2), (32, .areturn, 1)]
theorem L_crb : ∀ q ∈ P_crb, decode jdk_65_method_133_code q.1 = .ok q.2 := by decide +kernel
def M_crb : Mt := (("java/util/Arrays", "copyOfRangeByte", ({ frames := 1, cells := 1, slots := 16, locals := 18 } : Room)), P_crb, 5, (some (.array .byte)))
set_option maxRecDepth 65536 in
set_option maxHeartbeats 40000000 in
theorem c_crb {G : Gb} (H : Gl tables_1 els G) {h : Heap} {t : Addr} {kt : ClassId} {m i j : Nat} {vs : List Value} (hij : i ≤ j) (hjm : j ≤ m) (hm : m < 2 ^ 31) (hv : vs.length = m) (hcap : j - i ≤ 16) (A1 : Arv G.Z h t kt .byte m.toInt32 vs (.int 0)) :
    Ctr G [] (⟨"java/util/Arrays", "copyOfRangeByte", "([BII)[B"⟩ : MethodName) jdk_65_method_133_code 5 (some (.array .byte)) ({ frames := 1, cells := 1, slots := 16, locals := 18 } : Room) #[.ref t, .int i.toInt32, .int j.toInt32] h [] (fun v h' Sf => ∃ (u : Addr) (ku : ClassId), v = some (.ref u) ∧ Ext h h' ∧ Arv G.Z h' u ku .byte (j - i).toInt32 ((vs.drop i).take (j - i)) (.int 0) ∧ G.Z.heap.size ≤ u ∧ h.size ≤ u ∧ Sf u) := by
  refine ctr_of M_crb rfl rfl (plainFor_of_name pn_2) L_crb H.el (Ls := #[.val (.ref t), .val (.int i.toInt32), .val (.int j.toInt32), .unset, .unset]) (fun m => ef_ok (by show argsToLocals _ 5 = _; first | (simp [argsToLocals, Value.category]; done) | rfl)) ?_
  intro B K hE
  refine go_run K 0 2 (pc' := 2) (st' := [(.int j.toInt32), (.int i.toInt32)]) rfl ?_
  refine go_static K (k := 2) rfl (H.w 179 rfl) (H.w 180 rfl) (H.w 174 rfl) (H.w 181 rfl) (by decide) pd_1 (c_ckl (x := i.toInt32) (y := j.toInt32) H (len_nlt (by omega) hij)) (argsL := [(.int i.toInt32), (.int j.toInt32)]) (rest := []) rfl rfl rfl sub0 rfl ?_
  rintro _ _ _ - ⟨rfl, rfl⟩
  show Go G B M_crb _ h [] 0 0 5 #[.val (.ref t), .val (.int i.toInt32), .val (.int j.toInt32), .unset, .unset] []
  refine go_run K 3 4 (pc' := 9) (Ls' := #[.val (.ref t), .val (.int i.toInt32), .val (.int j.toInt32), .val (.int (j.toInt32 - i.toInt32)), .unset]) (st' := []) rfl ?_
  refine go_run K 7 1 (pc' := 10) (st' := [(.int (j.toInt32 - i.toInt32))]) rfl ?_
  rw [sub_len hij]
  refine go_newarray K (k := 8) rfl (H.w 37 rfl) (len_nn (by omega)) (cap := 16) (by rw [len_nat (by omega)]; exact hcap) rfl rfl rfl ?_
  intro h2 a1 k3 e4 g5 E6 A7
  have A7' : Arv G.Z h2 a1 k3 .byte (j - i).toInt32 (List.replicate (j - i) (.int 0)) (.int 0) := Arv.pad A7 (pad_rep [] _ _)
  refine go_run K 9 1 (pc' := 14) (Ls' := #[.val (.ref t), .val (.int i.toInt32), .val (.int j.toInt32), .val (.int (j - i).toInt32), .val (.ref a1)]) (st' := []) rfl ?_
  refine go_run K 10 5 (pc' := 20) (st' := [(.ref t), (.int (0 : Int32)), (.ref a1), (.int i.toInt32), (.ref t)]) rfl ?_
  have c8 := (A1.ext E6)
  refine go_arraylength K (k := 15) rfl c8 ?_
  refine go_run K 16 3 (pc' := 24) (st' := [(.int (j - i).toInt32), (.int (m.toInt32 - i.toInt32)), (.int (0 : Int32)), (.ref a1), (.int i.toInt32), (.ref t)]) rfl ?_
  rw [sub_len (show i ≤ m by omega)]
  refine go_static K (k := 19) rfl (H.w 182 rfl) (H.w 183 rfl) (H.w 184 rfl) (H.w 185 rfl) (by decide) pd_2 (c_min (x := (m - i).toInt32) (y := (j - i).toInt32) H) (argsL := [(.int (m - i).toInt32), (.int (j - i).toInt32)]) (rest := [(.int (0 : Int32)), (.ref a1), (.int i.toInt32), (.ref t)]) rfl rfl rfl sub0 rfl ?_
  rintro _ _ _ - ⟨r9, rfl, rfl, q10⟩
  show Go G B M_crb _ h2 (a1 :: []) 1 16 27 #[.val (.ref t), .val (.int i.toInt32), .val (.int j.toInt32), .val (.int (j - i).toInt32), .val (.ref a1)] [(.int r9), (.int (0 : Int32)), (.ref a1), (.int i.toInt32), (.ref t)]
  have hr : r9 = (j - i).toInt32 := by
    rcases q10 with ⟨u1, u2⟩ | ⟨u1, -⟩
    · rw [u1]; exact len_ge (by omega) (by omega) (by omega) u2
    · exact u1
  rw [hr]
  refine go_arraycopy K (k := 20) rfl (H.w 186 rfl) (H.w 139 rfl) (H.w 137 rfl) (H.w 138 rfl) c8 A7' rfl (len_nn (by omega)) (by decide) (len_nn (by omega)) (by rw [len_nat (by omega), len_nat (by omega), len_nat (by omega)]; omega) (by rw [len_nat (by omega)]; exact Nat.le_of_eq (Nat.zero_add _)) (us := ((vs.drop i).take (j - i))) (by rw [len_nat (by omega), len_nat (by omega)]; exact (map_range (by omega)).symm) (by rw [len_nat (by omega), List.length_replicate]; exact Nat.le_of_eq (Nat.zero_add _)) g5 (Or.inl (List.mem_cons_self ..)) rfl rfl rfl ?_
  intro h11 K12 A13
  refine go_run K 21 1 (pc' := 32) (st' := [(.ref a1)]) rfl ?_
  have X14 : Ext h h11 := (Ext.keepN E6 K12 (allS (Nat.le_trans (Nat.le_refl _) (Nat.le_of_eq e4.symm)) all0))
  refine go_areturn K (k := 22) rfl rfl rfl rfl rfl rfl rfl ?_
  intro Sf hSf
  refine ⟨a1, k3, rfl, X14, ?_, g5, Nat.le_of_eq e4.symm, hSf _ (List.mem_cons_self ..)⟩
  have u := A13
  rw [show (0 : Int32).toNatClampNeg = 0 from rfl, len_nat (by omega), List.take_zero, List.nil_append, Nat.zero_add, show List.drop (j - i) (List.replicate (j - i) (Value.int 0)) = [] from List.drop_of_length_le (by rw [List.length_replicate]; exact Nat.le_refl _), List.append_nil] at u
  exact u
def P_cor : List (Nat × Instr × Nat) := [(0, .iload_n 1, 1), (1, .ifCond .ne 9, 3), (4, .iload_n 2, 1), (5, .aload_n 0, 1), (6, .arraylength, 1), (7, .if_icmp .eq 10, 3), (10, .aload_n 0, 1), (11, .iload_n 1, 1), (12, .iload_n 2, 1), (13, .invokestatic 339, 3), (16, .areturn, 1), (17, .aload_n 0, 1), (18, .invokevirtual 310, 3), (21, .checkcast 311, 3), (24, .areturn, 1)]
theorem L_cor : ∀ q ∈ P_cor, decode jdk_65_method_132_code q.1 = .ok q.2 := by decide +kernel
def M_cor : Mt := (("java/util/Arrays", "copyOfRange", ({ frames := 2, cells := 1, slots := 16, locals := 34 } : Room)), P_cor, 3, (some (.array .byte)))
set_option maxRecDepth 65536 in
set_option maxHeartbeats 40000000 in
theorem c_cor {G : Gb} (H : Gl tables_1 els G) {h : Heap} {t : Addr} {kt : ClassId} {m i j : Nat} {vs : List Value} (hne : ¬ (i = 0 ∧ j = m)) (hij : i ≤ j) (hjm : j ≤ m) (hm : m < 2 ^ 31) (hv : vs.length = m) (hcap : j - i ≤ 16) (A1 : Arv G.Z h t kt .byte m.toInt32 vs (.int 0)) :
    Ctr G [] (⟨"java/util/Arrays", "copyOfRange", "([BII)[B"⟩ : MethodName) jdk_65_method_132_code 3 (some (.array .byte)) ({ frames := 2, cells := 1, slots := 16, locals := 34 } : Room) #[.ref t, .int i.toInt32, .int j.toInt32] h [] (fun v h' Sf => ∃ (u : Addr) (ku : ClassId), v = some (.ref u) ∧ Ext h h' ∧ Arv G.Z h' u ku .byte (j - i).toInt32 ((vs.drop i).take (j - i)) (.int 0) ∧ G.Z.heap.size ≤ u ∧ h.size ≤ u ∧ Sf u) := by
  refine ctr_of M_cor rfl rfl (plainFor_of_name pn_2) L_cor H.el (Ls := #[.val (.ref t), .val (.int i.toInt32), .val (.int j.toInt32)]) (fun m => ef_ok (by show argsToLocals _ 3 = _; first | (simp [argsToLocals, Value.category]; done) | rfl)) ?_
  intro B K hE
  refine go_run K 0 1 (pc' := 1) (st' := [(.int i.toInt32)]) rfl ?_
  refine go_ifne K (k := 1) rfl (pc' := 10) (by decide) (fun q1 => ?_) (fun q2 => ?_)
  · refine go_run K 6 3 (pc' := 13) (st' := [(.int j.toInt32), (.int i.toInt32), (.ref t)]) rfl ?_
    refine go_staticN K (k := 9) rfl (H.w 176 rfl) (H.w 177 rfl) (H.w 174 rfl) (H.w 178 rfl) (by decide) pd_3 (c_crb (i := i) (j := j) (m := m) H hij hjm hm hv hcap A1) (argsL := [(.ref t), (.int i.toInt32), (.int j.toInt32)]) (rest := []) rfl rfl rfl sub0 rfl ?_
    rintro _ h3 Sf11 - ⟨u4, k5, rfl, E6, A7, g8, f9, s10⟩
    refine ⟨[u4], allS s10 all0, ?_⟩
    show Go G B M_cor _ h3 (u4 :: []) 1 16 16 #[.val (.ref t), .val (.int i.toInt32), .val (.int j.toInt32)] [(.ref u4)]
    refine go_areturn K (k := 10) rfl rfl rfl rfl rfl rfl rfl ?_
    intro Sf hSf
    exact ⟨_, _, rfl, E6, A7, g8, f9, hSf _ (List.mem_cons_self ..)⟩
  · refine go_run K 2 2 (pc' := 6) (st' := [(.ref t), (.int j.toInt32)]) rfl ?_
    refine go_arraylength K (k := 4) rfl A1 ?_
    refine go_icmpeq K (k := 5) rfl (pc' := 17) (by decide) (fun q => absurd q (fun e => hne ⟨len_zero (by omega) q2, len_inj (by omega) (by omega) e⟩)) (fun _ => ?_)
    refine go_run K 6 3 (pc' := 13) (st' := [(.int j.toInt32), (.int i.toInt32), (.ref t)]) rfl ?_
    refine go_staticN K (k := 9) rfl (H.w 176 rfl) (H.w 177 rfl) (H.w 174 rfl) (H.w 178 rfl) (by decide) pd_3 (c_crb (i := i) (j := j) (m := m) H hij hjm hm hv hcap A1) (argsL := [(.ref t), (.int i.toInt32), (.int j.toInt32)]) (rest := []) rfl rfl rfl sub0 rfl ?_
    rintro _ h12 Sf20 - ⟨u13, k14, rfl, E15, A16, g17, f18, s19⟩
    refine ⟨[u13], allS s19 all0, ?_⟩
    show Go G B M_cor _ h12 (u13 :: []) 1 16 16 #[.val (.ref t), .val (.int i.toInt32), .val (.int j.toInt32)] [(.ref u13)]
    refine go_areturn K (k := 10) rfl rfl rfl rfl rfl rfl rfl ?_
    intro Sf hSf
    exact ⟨_, _, rfl, E15, A16, g17, f18, hSf _ (List.mem_cons_self ..)⟩
def P_gby : List (Nat × Instr × Nat) := [(0, .aload_n 0, 1), (1, .invokevirtual 335, 3), (4, .iload_n 3, 1), (5, .if_icmp .ne 23, 3), (8, .aload_n 0, 1), (9, .getfield 9, 3), (12, .iconst 0, 1), (13, .aload_n 1, 1), (14, .iload_n 2, 1), (15, .iload_n 3, 1), (16, .ishl, 1), (17, .aload_n 0, 1), (18, .getfield 9, 3), (21, .arraylength, 1), (22, .invokestatic 212, 3), (25, .goto 18, 3), (28, .aload_n 0, 1), (29, .getfield 9, 3), (32, .iconst 0, 1), (33, .aload_n 1, 1), (34, .iload_n 2, 1), (35, .aload_n 0, 1), (36, .getfield 9, 3), (39, .arraylength, 1), (40, .invokestatic 106, 3), (43, .return_, 1)]
theorem L_gby : ∀ q ∈ P_gby, decode jdk_42_method_147_code q.1 = .ok q.2 := by decide +kernel
def M_gby : Mt := (("java/lang/String", "getBytes", ({ frames := 1, cells := 0, slots := 0, locals := 18 } : Room)), P_gby, 4, none)
set_option maxRecDepth 65536 in
set_option maxHeartbeats 40000000 in
theorem c_gby {G : Gb} (H : Gl tables_1 els G) {h : Heap} {s t : Addr} {kt : ClassId} {ds : List Int32} {m i : Nat} {vd : List Value} (l1 : Lat ds) (S1 : Str G h s ds) (A1 : Arv G.Z h t kt .byte m.toInt32 vd (.int 0)) (hm : m < 2 ^ 31) (hv : vd.length = m) (hi : i + ds.length ≤ m) (g0 : G.Z.heap.size ≤ t) :
    Ctr G [] (⟨"java/lang/String", "getBytes", "([BIB)V"⟩ : MethodName) jdk_42_method_147_code 4 none ({ frames := 1, cells := 0, slots := 0, locals := 18 } : Room) #[.ref s, .ref t, .int i.toInt32, .int 0] h [t] (fun v h' Sf => v = none ∧ Keep h h' [t] ∧ Arv G.Z h' t kt .byte m.toInt32 (vd.take i ++ by8 ds ++ vd.drop (i + ds.length)) (.int 0)) := by
  refine ctr_of M_gby rfl rfl (plainFor_of_name pn_0) L_gby H.el (Ls := #[.val (.ref s), .val (.ref t), .val (.int i.toInt32), .val (.int (0 : Int32))]) (fun m => ef_ok (by show argsToLocals _ 4 = _; first | (simp [argsToLocals, Value.category]; done) | rfl)) ?_
  intro B K hE
  obtain ⟨t1, k2, e3, e4, e5, e6⟩ := id S1
  have hld := lat_lt l1
  refine go_run K 0 1 (pc' := 1) (st' := [(.ref s)]) rfl ?_
  refine go_virt0 K (k := 1) rfl (H.w 106 rfl) (H.w 109 rfl) (H.w 108 rfl) (H.w 35 rfl) (H.w 110 rfl) (by decide) pd_0 S1.exa (c_cod H S1) (argsL := []) (rest := []) rfl rfl rfl sub0 rfl ?_
  rintro _ _ _ - ⟨rfl, rfl⟩
  show Go G B M_gby _ h (t :: []) 0 0 4 #[.val (.ref s), .val (.ref t), .val (.int i.toInt32), .val (.int (0 : Int32))] [(.int (0 : Int32))]
  refine go_run K 2 1 (pc' := 5) (st' := [(.int (0 : Int32)), (.int (0 : Int32))]) rfl ?_
  refine go_icmpne K (k := 3) rfl (pc' := 28) (by decide) (fun q => absurd rfl q) (fun _ => ?_)
  refine go_run K 4 1 (pc' := 9) (st' := [(.ref s)]) rfl ?_
  refine go_getfield K (k := 5) rfl (host := "") (Or.inl (H.w 105 rfl)) Via.refl e5 ?_
  refine go_run K 6 6 (pc' := 18) (st' := [(.ref s), (.int (i.toInt32 <<< ((0 : Int32) &&& 31))), (.ref t), (.int (0 : Int32)), (.ref t1)]) rfl ?_
  rw [shl0]
  refine go_getfield K (k := 12) rfl (host := "") (Or.inl (H.w 105 rfl)) Via.refl e5 ?_
  refine go_arraylength K (k := 13) rfl e6 ?_
  refine go_arraycopy K (k := 14) rfl (H.w 136 rfl) (H.w 139 rfl) (H.w 137 rfl) (H.w 138 rfl) e6 A1 rfl (by decide) (len_nn (by omega)) (len_nn hld) (by rw [len_nat hld]; exact Nat.le_of_eq (Nat.zero_add _)) (by rw [len_nat (by omega), len_nat hld, len_nat hm]; omega) (us := (by8 ds)) (by rw [len_nat hld, show (0 : Int32).toNatClampNeg = 0 from rfl, map_range (by rw [by8_len]; omega), List.drop_zero, List.take_of_length_le (by rw [by8_len]; exact Nat.le_refl _)]) (by rw [len_nat (by omega), len_nat hld]; omega) g0 (Or.inl (List.mem_cons_self ..)) rfl rfl rfl ?_
  intro h7 K8 A9
  refine go_run K 15 1 (pc' := 43) (st' := []) rfl ?_
  refine go_return K (k := 25) rfl rfl rfl rfl ?_
  intro Sf hSf
  refine ⟨rfl, ((Keep.refl _ [t]).trans K8 (allS (Or.inl (List.mem_cons_self ..)) all0)), ?_⟩
  have u := A9
  rw [len_nat (by omega), len_nat hld] at u
  exact u
theorem pn_3 : plainName "java/lang/AbstractStringBuilder" = true := by first | (simp [plainName, overriddenIn]; done) | decide +kernel
def P_inf : List (Nat × Instr × Nat) := [(0, .getstatic 18, 3), (3, .ifCond .eq 18, 3), (6, .aload_n 0, 1), (7, .getfield 22, 3), (10, .aload_n 1, 1), (11, .invokevirtual 40, 3), (14, .if_icmp .eq 7, 3), (17, .aload_n 0, 1), (18, .invokevirtual 195, 3), (21, .return_, 1)]
theorem L_inf : ∀ q ∈ P_inf, decode jdk_68_method_71_code q.1 = .ok q.2 := by decide +kernel
def M_inf : Mt := (("java/lang/AbstractStringBuilder", "inflateIfNeededFor", ({ frames := 1, cells := 0, slots := 0, locals := 13 } : Room)), P_inf, 2, none)
set_option maxRecDepth 65536 in
set_option maxHeartbeats 40000000 in
theorem c_inf {G : Gb} (H : Gl tables_1 els G) {h : Heap} {a s : Addr} {ds : List Int32} (F0 : Fld G.Z h a "java/lang/AbstractStringBuilder" "coder" "B" (.int 0)) (S1 : Str G h s ds) :
    Ctr G [] (⟨"java/lang/AbstractStringBuilder", "inflateIfNeededFor", "(Ljava/lang/String;)V"⟩ : MethodName) jdk_68_method_71_code 2 none ({ frames := 1, cells := 0, slots := 0, locals := 13 } : Room) #[.ref a, .ref s] h [] (fun v h' Sf => v = none ∧ h = h') := by
  refine ctr_of M_inf rfl rfl (plainFor_of_name pn_3) L_inf H.el (Ls := #[.val (.ref a), .val (.ref s)]) (fun m => ef_ok (by show argsToLocals _ 2 = _; first | (simp [argsToLocals, Value.category]; done) | rfl)) ?_
  intro B K hE
  obtain ⟨cz, hcs, hcz⟩ := H.cs
  refine go_getstatic K (k := 0) rfl (host := "") (Or.inl (H.w 85 rfl)) Via.refl hcs ?_
  refine go_ifeq K (k := 1) rfl (pc' := 21) (by decide) (fun q => absurd q hcz) (fun _ => ?_)
  refine go_run K 2 1 (pc' := 7) (st' := [(.ref a)]) rfl ?_
  refine go_getfield K (k := 3) rfl (host := "") (Or.inl (H.w 88 rfl)) Via.refl F0 ?_
  refine go_run K 4 1 (pc' := 11) (st' := [(.ref s), (.int (0 : Int32))]) rfl ?_
  refine go_virt0 K (k := 5) rfl (H.w 130 rfl) (H.w 109 rfl) (H.w 108 rfl) (H.w 35 rfl) (H.w 110 rfl) (by decide) pd_0 S1.exa (c_cod H S1) (argsL := []) (rest := [(.int (0 : Int32))]) rfl rfl rfl sub0 rfl ?_
  rintro _ _ _ - ⟨rfl, rfl⟩
  show Go G B M_inf _ h [] 0 0 14 #[.val (.ref a), .val (.ref s)] [(.int (0 : Int32)), (.int (0 : Int32))]
  refine go_icmpeq K (k := 6) rfl (pc' := 21) (by decide) (fun _ => ?_) (fun q => absurd rfl q)
  refine go_return K (k := 9) rfl rfl rfl rfl ?_
  intro Sf hSf
  exact ⟨rfl, rfl⟩
def P_ecap : List (Nat × Instr × Nat) := [(0, .aload_n 0, 1), (1, .getfield 15, 3), (4, .arraylength, 1), (5, .aload_n 0, 1), (6, .getfield 22, 3), (9, .ishr, 1), (10, .istore_n 2, 1), (11, .iload_n 1, 1), (12, .iload_n 2, 1), (13, .isub, 1), (14, .ifCond .le 24, 3), (17, .aload_n 0, 1), (18, .aload_n 0, 1), (19, .getfield 15, 3), (22, .aload_n 0, 1), (23, .iload_n 1, 1), (24, .invokevirtual 104, 3), (27, .aload_n 0, 1), (28, .getfield 22, 3), (31, .ishl, 1), (32, .invokestatic 108, 3), (35, .putfield 15, 3), (38, .return_, 1)]
theorem L_ecap : ∀ q ∈ P_ecap, decode jdk_68_method_9_code q.1 = .ok q.2 := by decide +kernel
def M_ecap : Mt := (("java/lang/AbstractStringBuilder", "ensureCapacityInternal", ({ frames := 0, cells := 0, slots := 0, locals := 0 } : Room)), P_ecap, 3, none)
set_option maxRecDepth 65536 in
set_option maxHeartbeats 40000000 in
theorem c_ecap {G : Gb} (H : Gl tables_1 els G) {h : Heap} {a t : Addr} {kt : ClassId} {cs : List Int32} {m : Nat} {n : Nat} (hn : n ≤ m) (hm : m < 2 ^ 31) (B1 : Sb G h a t kt cs m) :
    Ctr G [] (⟨"java/lang/AbstractStringBuilder", "ensureCapacityInternal", "(I)V"⟩ : MethodName) jdk_68_method_9_code 3 none ({ frames := 0, cells := 0, slots := 0, locals := 0 } : Room) #[.ref a, .int n.toInt32] h [] (fun v h' Sf => v = none ∧ h = h') := by
  refine ctr_of M_ecap rfl rfl (plainFor_of_name pn_3) L_ecap H.el (Ls := #[.val (.ref a), .val (.int n.toInt32), .unset]) (fun m => ef_ok (by show argsToLocals _ 3 = _; first | (simp [argsToLocals, Value.category]; done) | rfl)) ?_
  intro B K hE
  obtain ⟨e1, e2, e3, e4, e5, e6, e7⟩ := id B1
  refine go_run K 0 1 (pc' := 1) (st' := [(.ref a)]) rfl ?_
  refine go_getfield K (k := 1) rfl (host := "") (Or.inl (H.w 86 rfl)) Via.refl e2 ?_
  refine go_arraylength K (k := 2) rfl e5 ?_
  refine go_run K 3 1 (pc' := 6) (st' := [(.ref a), (.int m.toInt32)]) rfl ?_
  refine go_getfield K (k := 4) rfl (host := "") (Or.inl (H.w 88 rfl)) Via.refl e3 ?_
  refine go_run K 5 2 (pc' := 11) (Ls' := #[.val (.ref a), .val (.int n.toInt32), .val (.int (m.toInt32 >>> ((0 : Int32) &&& 31)))]) (st' := []) rfl ?_
  refine go_run K 7 3 (pc' := 14) (st' := [(.int (n.toInt32 - (m.toInt32 >>> ((0 : Int32) &&& 31))))]) rfl ?_
  rw [shr0]
  refine go_ifle K (k := 10) rfl (pc' := 38) (by decide) (fun _ => ?_) (fun q => absurd q (le_len hm hn))
  refine go_return K (k := 22) rfl rfl rfl rfl ?_
  intro Sf hSf
  exact ⟨rfl, rfl⟩
def P_psa : List (Nat × Instr × Nat) := [(0, .aload_n 0, 1), (1, .aload_n 2, 1), (2, .invokevirtual 397, 3), (5, .aload_n 2, 1), (6, .aload_n 0, 1), (7, .getfield 15, 3), (10, .iload_n 1, 1), (11, .aload_n 0, 1), (12, .getfield 22, 3), (15, .invokevirtual 399, 3), (18, .return_, 1)]
theorem L_psa : ∀ q ∈ P_psa, decode jdk_68_method_73_code q.1 = .ok q.2 := by decide +kernel
def M_psa : Mt := (("java/lang/AbstractStringBuilder", "putStringAt", ({ frames := 2, cells := 0, slots := 0, locals := 33 } : Room)), P_psa, 3, none)
set_option maxRecDepth 65536 in
set_option maxHeartbeats 40000000 in
theorem c_psa {G : Gb} (H : Gl tables_1 els G) {h : Heap} {a t : Addr} {kt : ClassId} {cs : List Int32} {m : Nat} {s : Addr} {ds : List Int32} (l1 : Lat ds) (hsum : cs.length + ds.length ≤ m) (B1 : Sb G h a t kt cs m) (S1 : Str G h s ds) (g0 : G.Z.heap.size ≤ t) :
    Ctr G [] (⟨"java/lang/AbstractStringBuilder", "putStringAt", "(ILjava/lang/String;)V"⟩ : MethodName) jdk_68_method_73_code 3 none ({ frames := 2, cells := 0, slots := 0, locals := 33 } : Room) #[.ref a, .int cs.length.toInt32, .ref s] h [t] (fun v h' Sf => v = none ∧ Keep h h' [t] ∧ Arv G.Z h' t kt .byte m.toInt32 (by8 (cs ++ ds) ++ List.replicate (m - (cs ++ ds).length) (.int 0)) (.int 0)) := by
  refine ctr_of M_psa rfl rfl (plainFor_of_name pn_3) L_psa H.el (Ls := #[.val (.ref a), .val (.int cs.length.toInt32), .val (.ref s)]) (fun m => ef_ok (by show argsToLocals _ 3 = _; first | (simp [argsToLocals, Value.category]; done) | rfl)) ?_
  intro B K hE
  obtain ⟨e1, e2, e3, e4, e5, e6, e7⟩ := id B1
  refine go_run K 0 2 (pc' := 2) (st' := [(.ref s), (.ref a)]) rfl ?_
  refine go_virt0 K (k := 2) rfl (H.w 125 rfl) (H.w 128 rfl) (H.w 126 rfl) (H.w 82 rfl) (H.w 129 rfl) (by decide) pd_4 e1 (c_inf H e3 S1) (argsL := [(.ref s)]) (rest := []) rfl rfl rfl sub0 rfl ?_
  rintro _ _ _ - ⟨rfl, rfl⟩
  show Go G B M_psa _ h (t :: []) 0 0 5 #[.val (.ref a), .val (.int cs.length.toInt32), .val (.ref s)] []
  refine go_run K 3 2 (pc' := 7) (st' := [(.ref a), (.ref s)]) rfl ?_
  refine go_getfield K (k := 5) rfl (host := "") (Or.inl (H.w 86 rfl)) Via.refl e2 ?_
  refine go_run K 6 2 (pc' := 12) (st' := [(.ref a), (.int cs.length.toInt32), (.ref t), (.ref s)]) rfl ?_
  refine go_getfield K (k := 8) rfl (host := "") (Or.inl (H.w 88 rfl)) Via.refl e3 ?_
  refine go_virt0 K (k := 9) rfl (H.w 131 rfl) (H.w 134 rfl) (H.w 133 rfl) (H.w 35 rfl) (H.w 135 rfl) (by decide) pd_5 S1.exa (c_gby (i := cs.length) (m := m) H l1 S1 e5 e7 (by rw [List.length_append, by8_len, List.length_replicate]; omega) hsum g0) (argsL := [(.ref t), (.int cs.length.toInt32), (.int (0 : Int32))]) (rest := []) rfl rfl rfl (subS (List.mem_cons_self ..) sub0) rfl ?_
  rintro _ h8 _ - ⟨rfl, K9, A10⟩
  show Go G B M_psa _ h8 (t :: []) 0 0 18 #[.val (.ref a), .val (.int cs.length.toInt32), .val (.ref s)] []
  refine go_return K (k := 10) rfl rfl rfl rfl ?_
  intro Sf hSf
  refine ⟨rfl, ((Keep.refl _ [t]).trans K9 (allS (Or.inl (List.mem_cons_self ..)) all0)), ?_⟩
  have u := A10
  rw [sb_put hsum] at u
  exact u
def P_aap : List (Nat × Instr × Nat) := [(0, .aload_n 1, 1), (1, .ifnonnull 8, 3), (4, .aload_n 0, 1), (5, .invokevirtual 204, 3), (8, .areturn, 1), (9, .aload_n 1, 1), (10, .invokevirtual 32, 3), (13, .istore_n 2, 1), (14, .aload_n 0, 1), (15, .aload_n 0, 1), (16, .getfield 79, 3), (19, .iload_n 2, 1), (20, .iadd, 1), (21, .invokevirtual 100, 3), (24, .aload_n 0, 1), (25, .aload_n 0, 1), (26, .getfield 79, 3), (29, .aload_n 1, 1), (30, .invokevirtual 208, 3), (33, .aload_n 0, 1), (34, .dup, 1), (35, .getfield 79, 3), (38, .iload_n 2, 1), (39, .iadd, 1), (40, .putfield 79, 3), (43, .aload_n 0, 1), (44, .areturn, 1)]
theorem L_aap : ∀ q ∈ P_aap, decode jdk_68_method_22_code q.1 = .ok q.2 := by decide +kernel
def M_aap : Mt := (("java/lang/AbstractStringBuilder", "append", ({ frames := 3, cells := 0, slots := 0, locals := 47 } : Room)), P_aap, 3, (some (.object "java/lang/AbstractStringBuilder")))
set_option maxRecDepth 65536 in
set_option maxHeartbeats 40000000 in
theorem c_aap {G : Gb} (H : Gl tables_1 els G) {h : Heap} {a t : Addr} {kt : ClassId} {cs : List Int32} {m : Nat} {s : Addr} {ds : List Int32} (l1 : Lat ds) (hsum : cs.length + ds.length ≤ m) (B1 : Sb G h a t kt cs m) (S1 : Str G h s ds) (ga : G.Z.heap.size ≤ a) (g0 : G.Z.heap.size ≤ t) :
    Ctr G [] (⟨"java/lang/AbstractStringBuilder", "append", "(Ljava/lang/String;)Ljava/lang/AbstractStringBuilder;"⟩ : MethodName) jdk_68_method_22_code 3 (some (.object "java/lang/AbstractStringBuilder")) ({ frames := 3, cells := 0, slots := 0, locals := 47 } : Room) #[.ref a, .ref s] h [t] (fun v h' Sf => v = some (.ref a) ∧ Keep h h' [a, t] ∧ Sb G h' a t kt (cs ++ ds) m) := by
  refine ctr_of M_aap rfl rfl (plainFor_of_name pn_3) L_aap H.el (Ls := #[.val (.ref a), .val (.ref s), .unset]) (fun m => ef_ok (by show argsToLocals _ 3 = _; first | (simp [argsToLocals, Value.category]; done) | rfl)) ?_
  intro B K hE
  obtain ⟨e1, e2, e3, e4, e5, e6, e7⟩ := id B1
  refine go_run K 0 1 (pc' := 1) (st' := [(.ref s)]) rfl ?_
  refine go_ifnonY K (k := 1) rfl (pc' := 9) (by decide) ?_
  refine go_run K 5 1 (pc' := 10) (st' := [(.ref s)]) rfl ?_
  refine go_virt0 K (k := 6) rfl (H.w 100 rfl) (H.w 103 rfl) (H.w 102 rfl) (H.w 35 rfl) (H.w 104 rfl) (by decide) pd_6 S1.exa (c_len H S1) (argsL := []) (rest := []) rfl rfl rfl sub0 rfl ?_
  rintro _ _ _ - ⟨rfl, rfl⟩
  show Go G B M_aap _ h (t :: []) 0 0 13 #[.val (.ref a), .val (.ref s), .unset] [(.int (ds).length.toInt32)]
  show Go G B M_aap _ h (t :: []) 0 0 13 #[.val (.ref a), .val (.ref s), .unset] [(.int ds.length.toInt32)]
  refine go_run K 7 1 (pc' := 14) (Ls' := #[.val (.ref a), .val (.ref s), .val (.int ds.length.toInt32)]) (st' := []) rfl ?_
  refine go_run K 8 2 (pc' := 16) (st' := [(.ref a), (.ref a)]) rfl ?_
  refine go_getfield K (k := 10) rfl (host := "") (Or.inl (H.w 113 rfl)) Via.refl e4 ?_
  refine go_run K 11 2 (pc' := 21) (st' := [(.int (cs.length.toInt32 + ds.length.toInt32)), (.ref a)]) rfl ?_
  rw [add_len]
  refine go_virt0 K (k := 13) rfl (H.w 115 rfl) (H.w 118 rfl) (H.w 116 rfl) (H.w 82 rfl) (H.w 119 rfl) (by decide) pd_7 e1 (c_ecap (n := (cs.length + ds.length)) H hsum e7 B1) (argsL := [(.int (cs.length + ds.length).toInt32)]) (rest := []) rfl rfl rfl sub0 rfl ?_
  rintro _ _ _ - ⟨rfl, rfl⟩
  show Go G B M_aap _ h (t :: []) 0 0 24 #[.val (.ref a), .val (.ref s), .val (.int ds.length.toInt32)] []
  refine go_run K 14 2 (pc' := 26) (st' := [(.ref a), (.ref a)]) rfl ?_
  refine go_getfield K (k := 16) rfl (host := "") (Or.inl (H.w 113 rfl)) Via.refl e4 ?_
  refine go_run K 17 1 (pc' := 30) (st' := [(.ref s), (.int cs.length.toInt32), (.ref a)]) rfl ?_
  refine go_virt0 K (k := 18) rfl (H.w 120 rfl) (H.w 123 rfl) (H.w 121 rfl) (H.w 82 rfl) (H.w 124 rfl) (by decide) pd_8 e1 (c_psa H l1 hsum B1 S1 g0) (argsL := [(.int cs.length.toInt32), (.ref s)]) (rest := []) rfl rfl rfl (subS (List.mem_cons_self ..) sub0) rfl ?_
  rintro _ h8 _ - ⟨rfl, K9, A10⟩
  show Go G B M_aap _ h8 (t :: []) 0 0 33 #[.val (.ref a), .val (.ref s), .val (.int ds.length.toInt32)] []
  refine go_run K 19 2 (pc' := 35) (st' := [(.ref a), (.ref a)]) rfl ?_
  have c11 := (e4.keep K9 (ninS (Exa.neArv e1 e5 (H.w 73 rfl)) nin0))
  refine go_getfield K (k := 21) rfl (host := "") (Or.inl (H.w 113 rfl)) Via.refl c11 ?_
  refine go_run K 22 2 (pc' := 40) (st' := [(.int (cs.length.toInt32 + ds.length.toInt32)), (.ref a)]) rfl ?_
  rw [add_len]
  have c12 := (e1.keep K9)
  refine go_putfield K (k := 24) rfl (host := "") (Or.inl (H.w 113 rfl)) Via.refl c11 c12 (Or.inl (H.w 114 rfl)) (H.w 73 rfl) (ty := .int) (by decide) rfl rfl ga (Or.inr (by decide)) ?_
  intro h13 W14
  have c15 := (e2.keep K9 (ninS (Exa.neArv e1 e5 (H.w 73 rfl)) nin0))
  have c16 := (e3.keep K9 (ninS (Exa.neArv e1 e5 (H.w 73 rfl)) nin0))
  have F17 : Exa G.Z h13 a "java/lang/StringBuilder" := Exa.wr W14 c12
  have F18 : Fld G.Z h13 a "java/lang/AbstractStringBuilder" "value" "[B" (.ref t) := Fld.other W14 c15 (Or.inr (slot_ne (Or.inl (H.w 87 rfl)) (Or.inl (H.w 114 rfl)) (by decide) (t := (.array .byte)) (t' := .int) (by decide) (by decide)))
  have F19 : Fld G.Z h13 a "java/lang/AbstractStringBuilder" "coder" "B" (.int (0 : Int32)) := Fld.other W14 c16 (Or.inr (slot_ne (Or.inl (H.w 89 rfl)) (Or.inl (H.w 114 rfl)) (by decide) (t := .byte) (t' := .int) (by decide) (by decide)))
  have F20 : Fld G.Z h13 a "java/lang/AbstractStringBuilder" "count" "I" (.int (cs.length + ds.length).toInt32) := Fld.same W14 c11
  refine go_run K 25 1 (pc' := 44) (st' := [(.ref a)]) rfl ?_
  have c21 := (Arv.other A10 W14 (Exa.neArv c12 A10 (H.w 73 rfl)).symm)
  refine go_areturn K (k := 26) rfl rfl rfl rfl rfl rfl rfl ?_
  intro Sf hSf
  refine ⟨rfl, (((Keep.refl _ [a, t]).trans K9 (allS (Or.inl (List.mem_cons_of_mem _ (List.mem_cons_self ..))) all0)).wr W14 (Or.inl (List.mem_cons_self ..))), F17, F18, F19, ?_, c21, ?_, e7⟩
  · rw [List.length_append]; exact F20
  · rw [List.length_append]; exact hsum
theorem pn_4 : plainName "java/lang/StringBuilder" = true := by first | (simp [plainName, overriddenIn]; done) | decide +kernel
def P_sap : List (Nat × Instr × Nat) := [(0, .aload_n 0, 1), (1, .aload_n 1, 1), (2, .invokespecial 29, 3), (5, .pop, 1), (6, .aload_n 0, 1), (7, .areturn, 1)]
theorem L_sap : ∀ q ∈ P_sap, decode jdk_67_method_7_code q.1 = .ok q.2 := by decide +kernel
def M_sap : Mt := (("java/lang/StringBuilder", "append", ({ frames := 4, cells := 0, slots := 0, locals := 61 } : Room)), P_sap, 2, (some (.object "java/lang/StringBuilder")))
set_option maxRecDepth 65536 in
set_option maxHeartbeats 40000000 in
theorem c_sap {G : Gb} (H : Gl tables_1 els G) {h : Heap} {a t : Addr} {kt : ClassId} {cs : List Int32} {m : Nat} {s : Addr} {ds : List Int32} (l1 : Lat ds) (hsum : cs.length + ds.length ≤ m) (B1 : Sb G h a t kt cs m) (S1 : Str G h s ds) (ga : G.Z.heap.size ≤ a) (g0 : G.Z.heap.size ≤ t) :
    Ctr G [] (⟨"java/lang/StringBuilder", "append", "(Ljava/lang/String;)Ljava/lang/StringBuilder;"⟩ : MethodName) jdk_67_method_7_code 2 (some (.object "java/lang/StringBuilder")) ({ frames := 4, cells := 0, slots := 0, locals := 61 } : Room) #[.ref a, .ref s] h [t] (fun v h' Sf => v = some (.ref a) ∧ Keep h h' [a, t] ∧ Sb G h' a t kt (cs ++ ds) m) := by
  refine ctr_of M_sap rfl rfl (plainFor_of_name pn_4) L_sap H.el (Ls := #[.val (.ref a), .val (.ref s)]) (fun m => ef_ok (by show argsToLocals _ 2 = _; first | (simp [argsToLocals, Value.category]; done) | rfl)) ?_
  intro B K hE
  refine go_run K 0 2 (pc' := 2) (st' := [(.ref s), (.ref a)]) rfl ?_
  refine go_super K (k := 2) rfl (H.w 95 rfl) (sameM (H.w 98 rfl) (H.w 118 rfl) rfl (by decide)) (H.w 96 rfl) (H.w 97 rfl) (H.w 82 rfl) (H.w 99 rfl) (by decide) pd_9 B1.exa (c_aap H l1 hsum B1 S1 ga g0) (argsL := [(.ref s)]) (rest := []) rfl rfl rfl (subS (List.mem_cons_self ..) sub0) rfl ?_
  rintro _ h1 _ - ⟨rfl, K2, B3⟩
  show Go G B M_sap _ h1 (t :: []) 0 0 5 #[.val (.ref a), .val (.ref s)] [(.ref a)]
  refine go_run K 3 2 (pc' := 7) (st' := [(.ref a)]) rfl ?_
  refine go_areturn K (k := 5) rfl rfl rfl rfl rfl rfl rfl ?_
  intro Sf hSf
  exact ⟨rfl, ((Keep.refl _ [a, t]).trans K2 (allS (Or.inl (List.mem_cons_self ..)) (allS (Or.inl (List.mem_cons_of_mem _ (List.mem_cons_self ..))) all0))), B3⟩
def P_asi : List (Nat × Instr × Nat) := [(0, .aload_n 0, 1), (1, .invokespecial 3, 3), (4, .getstatic 18, 3), (7, .ifCond .eq 18, 3), (10, .aload_n 0, 1), (11, .iload_n 1, 1), (12, .newarray .byte, 2), (14, .putfield 15, 3), (17, .aload_n 0, 1), (18, .iconst 0, 1), (19, .putfield 22, 3), (22, .goto 16, 3), (25, .aload_n 0, 1), (26, .iload_n 1, 1), (27, .invokestatic 26, 3), (30, .putfield 15, 3), (33, .aload_n 0, 1), (34, .iconst 1, 1), (35, .putfield 22, 3), (38, .return_, 1)]
theorem L_asi : ∀ q ∈ P_asi, decode jdk_68_method_2_code q.1 = .ok q.2 := by decide +kernel
def M_asi : Mt := (("java/lang/AbstractStringBuilder", "<init>", ({ frames := 1, cells := 1, slots := 16, locals := 12 } : Room)), P_asi, 2, none)
set_option maxRecDepth 65536 in
set_option maxHeartbeats 40000000 in
theorem c_asi {G : Gb} (H : Gl tables_1 els G) {h : Heap} {a : Addr} (E0 : Exa G.Z h a "java/lang/StringBuilder") (V0 : Fld G.Z h a "java/lang/AbstractStringBuilder" "value" "[B" .null) (C0 : Fld G.Z h a "java/lang/AbstractStringBuilder" "coder" "B" (.int 0)) (N0 : Fld G.Z h a "java/lang/AbstractStringBuilder" "count" "I" (.int 0)) (g0 : G.Z.heap.size ≤ a) :
    Ctr G [] (⟨"java/lang/AbstractStringBuilder", "<init>", "(I)V"⟩ : MethodName) jdk_68_method_2_code 2 none ({ frames := 1, cells := 1, slots := 16, locals := 12 } : Room) #[.ref a, .int 16] h [] (fun v h' Sf => v = none ∧ Keep h h' [a] ∧ ∃ (t : Addr) (kt : ClassId), Sb G h' a t kt [] 16 ∧ G.Z.heap.size ≤ t ∧ h.size ≤ t ∧ Sf t) := by
  refine ctr_of M_asi rfl rfl (plainFor_of_name pn_3) L_asi H.el (Ls := #[.val (.ref a), .val (.int (16 : Int32))]) (fun m => ef_ok (by show argsToLocals _ 2 = _; first | (simp [argsToLocals, Value.category]; done) | rfl)) ?_
  intro B K hE
  obtain ⟨cz, hcs, hcz⟩ := H.cs
  refine go_run K 0 1 (pc' := 1) (st' := [(.ref a)]) rfl ?_
  refine go_init0 K (k := 1) rfl (H.w 84 rfl) (H.w 27 rfl) (H.w 28 rfl) rfl rfl rfl ?_
  refine go_getstatic K (k := 2) rfl (host := "") (Or.inl (H.w 85 rfl)) Via.refl hcs ?_
  refine go_ifeq K (k := 3) rfl (pc' := 25) (by decide) (fun q => absurd q hcz) (fun _ => ?_)
  refine go_run K 4 2 (pc' := 12) (st' := [(.int (16 : Int32)), (.ref a)]) rfl ?_
  refine go_newarray K (k := 6) rfl (H.w 37 rfl) (by decide) (cap := 16) (by decide) rfl rfl rfl ?_
  intro h2 a1 k3 e4 g5 E6 A7
  have A7' : Arv G.Z h2 a1 k3 .byte (16 : Nat).toInt32 (by8 [] ++ List.replicate (16 - ([] : List Int32).length) (.int 0)) (.int 0) := Arv.pad A7 (pad_rep [] _ 16)
  have c8 := (V0.ext E6)
  have c9 := (E0.ext E6)
  refine go_putfield K (k := 7) rfl (host := "") (Or.inl (H.w 86 rfl)) Via.refl c8 c9 (Or.inl (H.w 87 rfl)) (H.w 73 rfl) (ty := (.array .byte)) (by decide) rfl rfl g0 (Or.inr (by decide)) ?_
  intro h10 W11
  have c12 := (C0.ext E6)
  have c13 := (N0.ext E6)
  have F14 : Exa G.Z h10 a "java/lang/StringBuilder" := Exa.wr W11 c9
  have F15 : Fld G.Z h10 a "java/lang/AbstractStringBuilder" "value" "[B" (.ref a1) := Fld.same W11 c8
  have F16 : Fld G.Z h10 a "java/lang/AbstractStringBuilder" "coder" "B" (.int (0 : Int32)) := Fld.other W11 c12 (Or.inr (slot_ne (Or.inl (H.w 89 rfl)) (Or.inl (H.w 87 rfl)) (by decide) (t := .byte) (t' := (.array .byte)) (by decide) (by decide)))
  have F17 : Fld G.Z h10 a "java/lang/AbstractStringBuilder" "count" "I" (.int (0 : Int32)) := Fld.other W11 c13 (Or.inr (slot_ne (Or.inl (H.w 114 rfl)) (Or.inl (H.w 87 rfl)) (by decide) (t := .int) (t' := (.array .byte)) (by decide) (by decide)))
  refine go_run K 8 2 (pc' := 19) (st' := [(.int (0 : Int32)), (.ref a)]) rfl ?_
  refine go_putfield K (k := 10) rfl (host := "") (Or.inl (H.w 88 rfl)) Via.refl F16 F14 (Or.inl (H.w 89 rfl)) (H.w 73 rfl) (ty := .byte) (by decide) rfl rfl g0 (Or.inr (by decide)) ?_
  intro h18 W19
  have F20 : Exa G.Z h18 a "java/lang/StringBuilder" := Exa.wr W19 F14
  have F21 : Fld G.Z h18 a "java/lang/AbstractStringBuilder" "value" "[B" (.ref a1) := Fld.other W19 F15 (Or.inr (slot_ne (Or.inl (H.w 87 rfl)) (Or.inl (H.w 89 rfl)) (by decide) (t := (.array .byte)) (t' := .byte) (by decide) (by decide)))
  have F22 : Fld G.Z h18 a "java/lang/AbstractStringBuilder" "coder" "B" (.int (0 : Int32)) := Fld.same W19 F16
  have F23 : Fld G.Z h18 a "java/lang/AbstractStringBuilder" "count" "I" (.int (0 : Int32)) := Fld.other W19 F17 (Or.inr (slot_ne (Or.inl (H.w 114 rfl)) (Or.inl (H.w 89 rfl)) (by decide) (t := .int) (t' := .byte) (by decide) (by decide)))
  refine go_run K 11 1 (pc' := 38) (st' := []) rfl ?_
  have c24 := (Arv.other (Arv.other A7' W11 (Exa.neArv c9 A7' (H.w 73 rfl)).symm) W19 (Exa.neArv F14 (Arv.other A7' W11 (Exa.neArv c9 A7' (H.w 73 rfl)).symm) (H.w 73 rfl)).symm)
  refine go_return K (k := 19) rfl rfl rfl rfl ?_
  intro Sf hSf
  exact ⟨rfl, ((((Keep.refl _ [a]).ext E6).wr W11 (Or.inl (List.mem_cons_self ..))).wr W19 (Or.inl (List.mem_cons_self ..))), _, _, ⟨F20, F21, F22, F23, c24, by decide, by decide⟩, g5, Nat.le_of_eq e4.symm, hSf _ (List.mem_cons_self ..)⟩
def P_sbi : List (Nat × Instr × Nat) := [(0, .aload_n 0, 1), (1, .bipush 16, 2), (3, .invokespecial 1, 3), (6, .return_, 1)]
theorem L_sbi : ∀ q ∈ P_sbi, decode jdk_67_method_1_code q.1 = .ok q.2 := by decide +kernel
def M_sbi : Mt := (("java/lang/StringBuilder", "<init>", ({ frames := 2, cells := 1, slots := 16, locals := 25 } : Room)), P_sbi, 1, none)
set_option maxRecDepth 65536 in
set_option maxHeartbeats 40000000 in
theorem c_sbi {G : Gb} (H : Gl tables_1 els G) {h : Heap} {a : Addr} (E0 : Exa G.Z h a "java/lang/StringBuilder") (V0 : Fld G.Z h a "java/lang/AbstractStringBuilder" "value" "[B" .null) (C0 : Fld G.Z h a "java/lang/AbstractStringBuilder" "coder" "B" (.int 0)) (N0 : Fld G.Z h a "java/lang/AbstractStringBuilder" "count" "I" (.int 0)) (g0 : G.Z.heap.size ≤ a) :
    Ctr G [] (⟨"java/lang/StringBuilder", "<init>", "()V"⟩ : MethodName) jdk_67_method_1_code 1 none ({ frames := 2, cells := 1, slots := 16, locals := 25 } : Room) #[.ref a] h [] (fun v h' Sf => v = none ∧ Keep h h' [a] ∧ ∃ (t : Addr) (kt : ClassId), Sb G h' a t kt [] 16 ∧ G.Z.heap.size ≤ t ∧ h.size ≤ t ∧ Sf t) := by
  refine ctr_of M_sbi rfl rfl (plainFor_of_name pn_4) L_sbi H.el (Ls := #[.val (.ref a)]) (fun m => ef_ok (by show argsToLocals _ 1 = _; first | (simp [argsToLocals, Value.category]; done) | rfl)) ?_
  intro B K hE
  refine go_run K 0 2 (pc' := 3) (st' := [(.int (16 : Int32)), (.ref a)]) rfl ?_
  refine go_specialN K (k := 2) rfl rfl (H.w 78 rfl) (H.w 79 rfl) (H.w 82 rfl) (H.w 83 rfl) (by decide) pd_7 (c_asi H E0 V0 C0 N0 g0) (argsL := [(.int (16 : Int32))]) (rest := []) rfl rfl rfl sub0 rfl ?_
  rintro _ h1 Sf9 - ⟨rfl, K2, t3, k4, B5, g6, f7, s8⟩
  refine ⟨[t3], allS s8 all0, ?_⟩
  show Go G B M_sbi _ h1 (t3 :: []) 1 16 6 #[.val (.ref a)] []
  refine go_return K (k := 3) rfl rfl rfl rfl ?_
  intro Sf hSf
  exact ⟨rfl, ((Keep.refl _ [a]).trans K2 (allS (Or.inl (List.mem_cons_self ..)) all0)), _, _, B5, g6, f7, hSf _ (List.mem_cons_self ..)⟩
def P_gval : List (Nat × Instr × Nat) := [(0, .aload_n 0, 1), (1, .getfield 15, 3), (4, .areturn, 1)]
theorem L_gval : ∀ q ∈ P_gval, decode jdk_68_method_64_code q.1 = .ok q.2 := by decide +kernel
def M_gval : Mt := (("java/lang/AbstractStringBuilder", "getValue", ({ frames := 0, cells := 0, slots := 0, locals := 0 } : Room)), P_gval, 1, (some (.array .byte)))
set_option maxRecDepth 65536 in
set_option maxHeartbeats 40000000 in
theorem c_gval {G : Gb} (H : Gl tables_1 els G) {h : Heap} {a t : Addr} {kt : ClassId} {cs : List Int32} {m : Nat} (B1 : Sb G h a t kt cs m) :
    Ctr G [] (⟨"java/lang/AbstractStringBuilder", "getValue", "()[B"⟩ : MethodName) jdk_68_method_64_code 1 (some (.array .byte)) ({ frames := 0, cells := 0, slots := 0, locals := 0 } : Room) #[.ref a] h [] (fun v h' Sf => v = some (.ref t) ∧ h = h') := by
  refine ctr_of M_gval rfl rfl (plainFor_of_name pn_3) L_gval H.el (Ls := #[.val (.ref a)]) (fun m => ef_ok (by show argsToLocals _ 1 = _; first | (simp [argsToLocals, Value.category]; done) | rfl)) ?_
  intro B K hE
  obtain ⟨e1, e2, e3, e4, e5, e6, e7⟩ := id B1
  refine go_run K 0 1 (pc' := 1) (st' := [(.ref a)]) rfl ?_
  refine go_getfield K (k := 1) rfl (host := "") (Or.inl (H.w 86 rfl)) Via.refl e2 ?_
  refine go_areturn K (k := 2) rfl rfl rfl rfl rfl rfl rfl ?_
  intro Sf hSf
  exact ⟨rfl, rfl⟩
def P_alen : List (Nat × Instr × Nat) := [(0, .aload_n 0, 1), (1, .getfield 79, 3), (4, .ireturn, 1)]
theorem L_alen : ∀ q ∈ P_alen, decode jdk_68_method_6_code q.1 = .ok q.2 := by decide +kernel
def M_alen : Mt := (("java/lang/AbstractStringBuilder", "length", ({ frames := 0, cells := 0, slots := 0, locals := 0 } : Room)), P_alen, 1, (some .int))
set_option maxRecDepth 65536 in
set_option maxHeartbeats 40000000 in
theorem c_alen {G : Gb} (H : Gl tables_1 els G) {h : Heap} {a t : Addr} {kt : ClassId} {cs : List Int32} {m : Nat} (B1 : Sb G h a t kt cs m) :
    Ctr G [] (⟨"java/lang/AbstractStringBuilder", "length", "()I"⟩ : MethodName) jdk_68_method_6_code 1 (some .int) ({ frames := 0, cells := 0, slots := 0, locals := 0 } : Room) #[.ref a] h [] (fun v h' Sf => v = some (.int cs.length.toInt32) ∧ h = h') := by
  refine ctr_of M_alen rfl rfl (plainFor_of_name pn_3) L_alen H.el (Ls := #[.val (.ref a)]) (fun m => ef_ok (by show argsToLocals _ 1 = _; first | (simp [argsToLocals, Value.category]; done) | rfl)) ?_
  intro B K hE
  obtain ⟨e1, e2, e3, e4, e5, e6, e7⟩ := id B1
  refine go_run K 0 1 (pc' := 1) (st' := [(.ref a)]) rfl ?_
  refine go_getfield K (k := 1) rfl (host := "") (Or.inl (H.w 113 rfl)) Via.refl e4 ?_
  refine go_ireturn K (k := 2) rfl rfl (by decide) rfl rfl rfl ?_
  intro Sf hSf
  exact ⟨rfl, rfl⟩
def P_slen : List (Nat × Instr × Nat) := [(0, .aload_n 0, 1), (1, .invokespecial 343, 3), (4, .ireturn, 1)]
theorem L_slen : ∀ q ∈ P_slen, decode jdk_67_method_93_code q.1 = .ok q.2 := by decide +kernel
def M_slen : Mt := (("java/lang/StringBuilder", "length", ({ frames := 1, cells := 0, slots := 0, locals := 12 } : Room)), P_slen, 1, (some .int))
set_option maxRecDepth 65536 in
set_option maxHeartbeats 40000000 in
theorem c_slen {G : Gb} (H : Gl tables_1 els G) {h : Heap} {a t : Addr} {kt : ClassId} {cs : List Int32} {m : Nat} (B1 : Sb G h a t kt cs m) :
    Ctr G [] (⟨"java/lang/StringBuilder", "length", "()I"⟩ : MethodName) jdk_67_method_93_code 1 (some .int) ({ frames := 1, cells := 0, slots := 0, locals := 12 } : Room) #[.ref a] h [] (fun v h' Sf => v = some (.int cs.length.toInt32) ∧ h = h') := by
  refine ctr_of M_slen rfl rfl (plainFor_of_name pn_4) L_slen H.el (Ls := #[.val (.ref a)]) (fun m => ef_ok (by show argsToLocals _ 1 = _; first | (simp [argsToLocals, Value.category]; done) | rfl)) ?_
  intro B K hE
  obtain ⟨e1, e2, e3, e4, e5, e6, e7⟩ := id B1
  refine go_run K 0 1 (pc' := 1) (st' := [(.ref a)]) rfl ?_
  refine go_super K (k := 1) rfl (H.w 165 rfl) (sameM (H.w 160 rfl) (H.w 118 rfl) rfl (by decide)) (H.w 161 rfl) (H.w 97 rfl) (H.w 82 rfl) (H.w 166 rfl) (by decide) pd_6 e1 (c_alen H B1) (argsL := []) (rest := []) rfl rfl rfl sub0 rfl ?_
  rintro _ _ _ - ⟨rfl, rfl⟩
  show Go G B M_slen _ h [] 0 0 4 #[.val (.ref a)] [(.int (cs).length.toInt32)]
  show Go G B M_slen _ h [] 0 0 4 #[.val (.ref a)] [(.int cs.length.toInt32)]
  refine go_ireturn K (k := 2) rfl rfl (by decide) rfl rfl rfl ?_
  intro Sf hSf
  exact ⟨rfl, rfl⟩
def P_isb : List (Nat × Instr × Nat) := [(0, .getstatic 18, 3), (3, .ifCond .eq 14, 3), (6, .aload_n 0, 1), (7, .getfield 22, 3), (10, .ifCond .ne 7, 3), (13, .iconst 1, 1), (14, .goto 4, 3), (17, .iconst 0, 1), (18, .ireturn, 1)]
theorem L_isb : ∀ q ∈ P_isb, decode jdk_68_method_68_code q.1 = .ok q.2 := by decide +kernel
def M_isb : Mt := (("java/lang/AbstractStringBuilder", "isLatin1", ({ frames := 0, cells := 0, slots := 0, locals := 0 } : Room)), P_isb, 1, (some .boolean))
set_option maxRecDepth 65536 in
set_option maxHeartbeats 40000000 in
theorem c_isb {G : Gb} (H : Gl tables_1 els G) {h : Heap} {a t : Addr} {kt : ClassId} {cs : List Int32} {m : Nat} (B1 : Sb G h a t kt cs m) :
    Ctr G [] (⟨"java/lang/AbstractStringBuilder", "isLatin1", "()Z"⟩ : MethodName) jdk_68_method_68_code 1 (some .boolean) ({ frames := 0, cells := 0, slots := 0, locals := 0 } : Room) #[.ref a] h [] (fun v h' Sf => v = some (.int 1) ∧ h = h') := by
  refine ctr_of M_isb rfl rfl (plainFor_of_name pn_3) L_isb H.el (Ls := #[.val (.ref a)]) (fun m => ef_ok (by show argsToLocals _ 1 = _; first | (simp [argsToLocals, Value.category]; done) | rfl)) ?_
  intro B K hE
  obtain ⟨e1, e2, e3, e4, e5, e6, e7⟩ := id B1
  obtain ⟨cz, hcs, hcz⟩ := H.cs
  refine go_getstatic K (k := 0) rfl (host := "") (Or.inl (H.w 85 rfl)) Via.refl hcs ?_
  refine go_ifeq K (k := 1) rfl (pc' := 17) (by decide) (fun q => absurd q hcz) (fun _ => ?_)
  refine go_run K 2 1 (pc' := 7) (st' := [(.ref a)]) rfl ?_
  refine go_getfield K (k := 3) rfl (host := "") (Or.inl (H.w 88 rfl)) Via.refl e3 ?_
  refine go_ifne K (k := 4) rfl (pc' := 17) (by decide) (fun q => absurd rfl q) (fun _ => ?_)
  refine go_run K 5 2 (pc' := 18) (st' := [(.int (1 : Int32))]) rfl ?_
  refine go_ireturn K (k := 8) rfl rfl (by decide) rfl rfl rfl ?_
  intro Sf hSf
  exact ⟨rfl, rfl⟩
def P_sia : List (Nat × Instr × Nat) := [(0, .aload_n 0, 1), (1, .invokespecial 1, 3), (4, .aload_n 1, 1), (5, .invokevirtual 552, 3), (8, .astore_n 3, 1), (9, .aload_n 1, 1), (10, .invokevirtual 549, 3), (13, .istore 4, 2), (15, .aload_n 1, 1), (16, .invokevirtual 1047, 3), (19, .ifCond .eq 22, 3), (22, .aload_n 0, 1), (23, .iconst 0, 1), (24, .putfield 15, 3), (27, .aload_n 0, 1), (28, .aload_n 3, 1), (29, .iconst 0, 1), (30, .iload 4, 2), (32, .invokestatic 54, 3), (35, .putfield 9, 3), (38, .goto 59, 3), (41, .getstatic 38, 3), (44, .ifCond .eq 35, 3), (47, .aload_n 1, 1), (48, .getfield 1048, 3), (51, .ifCond .eq 28, 3), (54, .aload_n 0, 1), (55, .aload_n 3, 1), (56, .iconst 0, 1), (57, .iload 4, 2), (59, .invokestatic 1051, 3), (62, .putfield 9, 3), (65, .aload_n 0, 1), (66, .aload_n 0, 1), (67, .getfield 9, 3), (70, .iload 4, 2), (72, .invokestatic 47, 3), (75, .putfield 15, 3), (78, .return_, 1), (79, .aload_n 0, 1), (80, .iconst 1, 1), (81, .putfield 15, 3), (84, .aload_n 0, 1), (85, .aload_n 3, 1), (86, .iconst 0, 1), (87, .iload 4, 2), (89, .iconst 1, 1), (90, .ishl, 1), (91, .invokestatic 54, 3), (94, .putfield 9, 3), (97, .return_, 1)]
theorem L_sia : ∀ q ∈ P_sia, decode jdk_42_method_150_code q.1 = .ok q.2 := by decide +kernel
def M_sia : Mt := (("java/lang/String", "<init>", ({ frames := 3, cells := 1, slots := 16, locals := 49 } : Room)), P_sia, 5, none)
set_option maxRecDepth 65536 in
set_option maxHeartbeats 40000000 in
theorem c_sia {G : Gb} (H : Gl tables_1 els G) {h : Heap} {a t s : Addr} {kt : ClassId} {cs : List Int32} {m : Nat} (hlt : cs.length < m) (hcap : cs.length - 0 ≤ 16) (B1 : Sb G h a t kt cs m) (E0 : Exa G.Z h s "java/lang/String") (V0 : Fld G.Z h s "java/lang/String" "value" "[B" .null) (C0 : Fld G.Z h s "java/lang/String" "coder" "B" (.int 0)) (g0 : G.Z.heap.size ≤ s) :
    Ctr G [] (⟨"java/lang/String", "<init>", "(Ljava/lang/AbstractStringBuilder;Ljava/lang/Void;)V"⟩ : MethodName) jdk_42_method_150_code 5 none ({ frames := 3, cells := 1, slots := 16, locals := 49 } : Room) #[.ref s, .ref a, .null] h [s] (fun v h' Sf => v = none ∧ Keep h h' [s] ∧ Str G h' s cs) := by
  refine ctr_of M_sia rfl rfl (plainFor_of_name pn_0) L_sia H.el (Ls := #[.val (.ref s), .val (.ref a), .val .null, .unset, .unset]) (fun m => ef_ok (by show argsToLocals _ 5 = _; first | (simp [argsToLocals, Value.category]; done) | rfl)) ?_
  intro B K hE
  obtain ⟨e1, e2, e3, e4, e5, e6, e7⟩ := id B1
  refine go_run K 0 1 (pc' := 1) (st' := [(.ref s)]) rfl ?_
  refine go_init0 K (k := 1) rfl (H.w 153 rfl) (H.w 27 rfl) (H.w 28 rfl) rfl rfl rfl ?_
  refine go_run K 2 1 (pc' := 5) (st' := [(.ref a)]) rfl ?_
  refine go_virt0 K (k := 3) rfl (H.w 154 rfl) (H.w 157 rfl) (H.w 156 rfl) (H.w 82 rfl) (H.w 158 rfl) (by decide) pd_10 e1 (c_gval H B1) (argsL := []) (rest := []) rfl rfl rfl sub0 rfl ?_
  rintro _ _ _ - ⟨rfl, rfl⟩
  show Go G B M_sia _ h (s :: []) 0 0 8 #[.val (.ref s), .val (.ref a), .val .null, .unset, .unset] [(.ref t)]
  refine go_run K 4 1 (pc' := 9) (Ls' := #[.val (.ref s), .val (.ref a), .val .null, .val (.ref t), .unset]) (st' := []) rfl ?_
  refine go_run K 5 1 (pc' := 10) (st' := [(.ref a)]) rfl ?_
  refine go_virtual K (k := 6) rfl (H.w 159 rfl) (H.w 160 rfl) (H.w 162 rfl) (H.w 163 rfl) (H.w 74 rfl) (H.w 164 rfl) (by decide) pd_6 e1 (nfO (H.w 118 rfl) rfl) (c_slen H B1) (argsL := []) (rest := []) rfl rfl rfl sub0 rfl ?_
  rintro _ _ _ - ⟨rfl, rfl⟩
  show Go G B M_sia _ h (s :: []) 0 0 13 #[.val (.ref s), .val (.ref a), .val .null, .val (.ref t), .unset] [(.int (cs).length.toInt32)]
  show Go G B M_sia _ h (s :: []) 0 0 13 #[.val (.ref s), .val (.ref a), .val .null, .val (.ref t), .unset] [(.int cs.length.toInt32)]
  refine go_run K 7 1 (pc' := 15) (Ls' := #[.val (.ref s), .val (.ref a), .val .null, .val (.ref t), .val (.int cs.length.toInt32)]) (st' := []) rfl ?_
  refine go_run K 8 1 (pc' := 16) (st' := [(.ref a)]) rfl ?_
  refine go_virt0 K (k := 9) rfl (H.w 167 rfl) (H.w 170 rfl) (H.w 169 rfl) (H.w 82 rfl) (H.w 171 rfl) (by decide) pd_11 e1 (c_isb H B1) (argsL := []) (rest := []) rfl rfl rfl sub0 rfl ?_
  rintro _ _ _ - ⟨rfl, rfl⟩
  show Go G B M_sia _ h (s :: []) 0 0 19 #[.val (.ref s), .val (.ref a), .val .null, .val (.ref t), .val (.int cs.length.toInt32)] [(.int (1 : Int32))]
  refine go_ifeq K (k := 10) rfl (pc' := 41) (by decide) (fun q => absurd q (by decide)) (fun _ => ?_)
  refine go_run K 11 2 (pc' := 24) (st' := [(.int (0 : Int32)), (.ref s)]) rfl ?_
  refine go_putfield K (k := 13) rfl (host := "") (Or.inl (H.w 112 rfl)) Via.refl C0 E0 (Or.inr ⟨(H.w 39 rfl), rfl, rfl⟩) (H.w 36 rfl) (ty := .byte) (by decide) rfl rfl g0 (Or.inl (List.mem_cons_self ..)) ?_
  intro h8 W9
  have F10 : Exa G.Z h8 s "java/lang/String" := Exa.wr W9 E0
  have F11 : Fld G.Z h8 s "java/lang/String" "value" "[B" .null := Fld.other W9 V0 (Or.inr (slot_ne (Or.inr (H.w 38 rfl)) (Or.inr (H.w 39 rfl)) (by decide) (t := (.array .byte)) (t' := .byte) (by decide) (by decide)))
  have F12 : Fld G.Z h8 s "java/lang/String" "coder" "B" (.int (0 : Int32)) := Fld.same W9 C0
  refine go_run K 14 4 (pc' := 32) (st' := [(.int cs.length.toInt32), (.int (0 : Int32)), (.ref t), (.ref s)]) rfl ?_
  have c13 := (Arv.other e5 W9 (Exa.neArv E0 e5 (H.w 36 rfl)).symm)
  refine go_staticN K (k := 18) rfl (H.w 172 rfl) (H.w 173 rfl) (H.w 174 rfl) (H.w 175 rfl) (by decide) pd_3 (c_cor (i := 0) (j := cs.length) (m := m) H (fun e => by omega) (Nat.zero_le _) e6 e7 (by rw [List.length_append, by8_len, List.length_replicate]; omega) hcap c13) (argsL := [(.ref t), (.int (0 : Int32)), (.int cs.length.toInt32)]) (rest := [(.ref s)]) rfl rfl rfl sub0 rfl ?_
  rintro _ h14 Sf22 - ⟨u15, k16, rfl, E17, A18, g19, f20, s21⟩
  refine ⟨[u15], allS s21 all0, ?_⟩
  show Go G B M_sia _ h14 (u15 :: (s :: [])) 1 16 35 #[.val (.ref s), .val (.ref a), .val .null, .val (.ref t), .val (.int cs.length.toInt32)] [(.ref u15), (.ref s)]
  have c23 := (F11.ext E17)
  have c24 := (F10.ext E17)
  refine go_putfield K (k := 19) rfl (host := "") (Or.inl (H.w 105 rfl)) Via.refl c23 c24 (Or.inr ⟨(H.w 38 rfl), rfl, rfl⟩) (H.w 36 rfl) (ty := (.array .byte)) (by decide) rfl rfl g0 (Or.inl (List.mem_cons_of_mem _ (List.mem_cons_self ..))) ?_
  intro h25 W26
  have c27 := (F12.ext E17)
  have F28 : Exa G.Z h25 s "java/lang/String" := Exa.wr W26 c24
  have F29 : Fld G.Z h25 s "java/lang/String" "value" "[B" (.ref u15) := Fld.same W26 c23
  have F30 : Fld G.Z h25 s "java/lang/String" "coder" "B" (.int (0 : Int32)) := Fld.other W26 c27 (Or.inr (slot_ne (Or.inr (H.w 39 rfl)) (Or.inr (H.w 38 rfl)) (by decide) (t := .byte) (t' := (.array .byte)) (by decide) (by decide)))
  refine go_run K 20 1 (pc' := 97) (st' := []) rfl ?_
  have c31 := (Arv.other A18 W26 (Exa.neArv c24 A18 (H.w 36 rfl)).symm)
  refine go_return K (k := 50) rfl rfl rfl rfl ?_
  intro Sf hSf
  refine ⟨rfl, ((((Keep.refl _ [s]).wr W9 (Or.inl (List.mem_cons_self ..))).ext E17).wr W26 (Or.inl (List.mem_cons_self ..))), u15, k16, F28, F30, F29, ?_⟩
  have u := c31
  rw [Nat.sub_zero, List.drop_zero, List.take_append_of_le_length (by rw [by8_len]; exact Nat.le_refl _), List.take_of_length_le (by rw [by8_len]; exact Nat.le_refl _)] at u
  exact u
def P_sis : List (Nat × Instr × Nat) := [(0, .aload_n 0, 1), (1, .aload_n 1, 1), (2, .aconst_null, 1), (3, .invokespecial 489, 3), (6, .return_, 1)]
theorem L_sis : ∀ q ∈ P_sis, decode jdk_42_method_53_code q.1 = .ok q.2 := by decide +kernel
def M_sis : Mt := (("java/lang/String", "<init>", ({ frames := 4, cells := 1, slots := 16, locals := 65 } : Room)), P_sis, 2, none)
set_option maxRecDepth 65536 in
set_option maxHeartbeats 40000000 in
theorem c_sis {G : Gb} (H : Gl tables_1 els G) {h : Heap} {a t s : Addr} {kt : ClassId} {cs : List Int32} {m : Nat} (hlt : cs.length < m) (hcap : cs.length - 0 ≤ 16) (B1 : Sb G h a t kt cs m) (E0 : Exa G.Z h s "java/lang/String") (V0 : Fld G.Z h s "java/lang/String" "value" "[B" .null) (C0 : Fld G.Z h s "java/lang/String" "coder" "B" (.int 0)) (g0 : G.Z.heap.size ≤ s) :
    Ctr G [] (⟨"java/lang/String", "<init>", "(Ljava/lang/StringBuilder;)V"⟩ : MethodName) jdk_42_method_53_code 2 none ({ frames := 4, cells := 1, slots := 16, locals := 65 } : Room) #[.ref s, .ref a] h [s] (fun v h' Sf => v = none ∧ Keep h h' [s] ∧ Str G h' s cs) := by
  refine ctr_of M_sis rfl rfl (plainFor_of_name pn_0) L_sis H.el (Ls := #[.val (.ref s), .val (.ref a)]) (fun m => ef_ok (by show argsToLocals _ 2 = _; first | (simp [argsToLocals, Value.category]; done) | rfl)) ?_
  intro B K hE
  refine go_run K 0 3 (pc' := 3) (st' := [.null, (.ref a), (.ref s)]) rfl ?_
  refine go_special K (k := 3) rfl rfl (H.w 150 rfl) (H.w 151 rfl) (H.w 35 rfl) (H.w 152 rfl) (by decide) pd_12 (c_sia H hlt hcap B1 E0 V0 C0 g0) (argsL := [(.ref a), .null]) (rest := []) rfl rfl rfl (subS (List.mem_cons_self ..) sub0) rfl ?_
  rintro _ h1 _ - ⟨rfl, K2, S3⟩
  show Go G B M_sis _ h1 (s :: []) 1 16 6 #[.val (.ref s), .val (.ref a)] []
  refine go_return K (k := 4) rfl rfl rfl rfl ?_
  intro Sf hSf
  exact ⟨rfl, ((Keep.refl _ [s]).trans K2 (allS (Or.inl (List.mem_cons_self ..)) all0)), S3⟩
def P_sbs : List (Nat × Instr × Nat) := [(0, .new 18, 3), (3, .dup, 1), (4, .aload_n 0, 1), (5, .invokespecial 137, 3), (8, .areturn, 1)]
theorem L_sbs : ∀ q ∈ P_sbs, decode jdk_67_method_42_code q.1 = .ok q.2 := by decide +kernel
def M_sbs : Mt := (("java/lang/StringBuilder", "toString", ({ frames := 5, cells := 2, slots := 20, locals := 79 } : Room)), P_sbs, 1, (some (.object "java/lang/String")))
set_option maxRecDepth 65536 in
set_option maxHeartbeats 40000000 in
theorem c_sbs {G : Gb} (H : Gl tables_1 els G) {h : Heap} {a t : Addr} {kt : ClassId} {cs : List Int32} {m : Nat} (hlt : cs.length < m) (hcap : cs.length - 0 ≤ 16) (B1 : Sb G h a t kt cs m) :
    Ctr G [] (⟨"java/lang/StringBuilder", "toString", "()Ljava/lang/String;"⟩ : MethodName) jdk_67_method_42_code 1 (some (.object "java/lang/String")) ({ frames := 5, cells := 2, slots := 20, locals := 79 } : Room) #[.ref a] h [] (fun v h' Sf => ∃ s : Addr, v = some (.ref s) ∧ Ext h h' ∧ Str G h' s cs ∧ G.Z.heap.size ≤ s) := by
  refine ctr_of M_sbs rfl rfl (plainFor_of_name pn_4) L_sbs H.el (Ls := #[.val (.ref a)]) (fun m => ef_ok (by show argsToLocals _ 1 = _; first | (simp [argsToLocals, Value.category]; done) | rfl)) ?_
  intro B K hE
  refine go_new K (k := 0) rfl (H.w 145 rfl) (H.w 36 rfl) (H.w 35 rfl) rfl rfl ?_
  intro h2 a1 e3 g4 E5 A6 D7
  have F8 : Fld G.Z h2 a1 "java/lang/String" "value" "[B" .null := D7 (Or.inr (H.w 38 rfl)) (ty := (.array .byte)) (by decide)
  have F9 : Fld G.Z h2 a1 "java/lang/String" "coder" "B" (.int (0 : Int32)) := D7 (Or.inr (H.w 39 rfl)) (ty := .byte) (by decide)
  refine go_run K 1 2 (pc' := 5) (st' := [(.ref a), (.ref a1), (.ref a1)]) rfl ?_
  have c10 := (B1.ext E5)
  refine go_special K (k := 3) rfl rfl (H.w 146 rfl) (H.w 147 rfl) (H.w 35 rfl) (H.w 149 rfl) (by decide) pd_13 (c_sis H hlt hcap c10 A6 F8 F9 g4) (argsL := [(.ref a)]) (rest := [(.ref a1)]) rfl rfl rfl (subS (List.mem_cons_self ..) sub0) rfl ?_
  rintro _ h11 _ - ⟨rfl, K12, S13⟩
  show Go G B M_sbs _ h11 (a1 :: []) 2 20 8 #[.val (.ref a)] [(.ref a1)]
  have X14 : Ext h h11 := (Ext.keepN E5 K12 (allS (Nat.le_trans (Nat.le_refl _) (Nat.le_of_eq e3.symm)) all0))
  refine go_areturn K (k := 4) rfl rfl rfl rfl rfl rfl rfl ?_
  intro Sf hSf
  exact ⟨_, rfl, X14, S13, g4⟩
theorem pn_5 : plainName "java/util/AbstractCollection" = true := by first | (simp [plainName, overriddenIn]; done) | decide +kernel
def P_abc : List (Nat × Instr × Nat) := [(0, .aload_n 0, 1), (1, .invokespecial 1, 3), (4, .return_, 1)]
theorem L_abc : ∀ q ∈ P_abc, decode jdk_22_method_1_code q.1 = .ok q.2 := by decide +kernel
def M_abc : Mt := (("java/util/AbstractCollection", "<init>", ({ frames := 1, cells := 0, slots := 0, locals := 12 } : Room)), P_abc, 1, none)
set_option maxRecDepth 65536 in
set_option maxHeartbeats 40000000 in
theorem c_abc {G : Gb} (H : Gl tables_1 els G) {h : Heap} {a : Addr} :
    Ctr G [] (⟨"java/util/AbstractCollection", "<init>", "()V"⟩ : MethodName) jdk_22_method_1_code 1 none ({ frames := 1, cells := 0, slots := 0, locals := 12 } : Room) #[.ref a] h [] (fun v h' Sf => v = none ∧ h = h') := by
  refine ctr_of M_abc rfl rfl (plainFor_of_name pn_5) L_abc H.el (Ls := #[.val (.ref a)]) (fun m => ef_ok (by show argsToLocals _ 1 = _; first | (simp [argsToLocals, Value.category]; done) | rfl)) ?_
  intro B K hE
  refine go_run K 0 1 (pc' := 1) (st' := [(.ref a)]) rfl ?_
  refine go_init0 K (k := 1) rfl (H.w 26 rfl) (H.w 27 rfl) (H.w 28 rfl) rfl rfl rfl ?_
  refine go_return K (k := 2) rfl rfl rfl rfl ?_
  intro Sf hSf
  exact ⟨rfl, rfl⟩
theorem pn_6 : plainName "java/util/AbstractList" = true := by first | (simp [plainName, overriddenIn]; done) | decide +kernel
def P_abl : List (Nat × Instr × Nat) := [(0, .aload_n 0, 1), (1, .invokespecial 1, 3), (4, .aload_n 0, 1), (5, .iconst 0, 1), (6, .putfield 7, 3), (9, .return_, 1)]
theorem L_abl : ∀ q ∈ P_abl, decode jdk_39_method_1_code q.1 = .ok q.2 := by decide +kernel
def M_abl : Mt := (("java/util/AbstractList", "<init>", ({ frames := 2, cells := 0, slots := 0, locals := 24 } : Room)), P_abl, 1, none)
set_option maxRecDepth 65536 in
set_option maxHeartbeats 40000000 in
theorem c_abl {G : Gb} (H : Gl tables_1 els G) {h : Heap} {a : Addr} (E0 : Exa G.Z h a "java/util/ArrayList") (f00 : Fld G.Z h a "java/util/AbstractList" "modCount" "I" (.int (0 : Int32))) (f10 : Fld G.Z h a "java/util/ArrayList" "elementData" "[Ljava/lang/Object;" .null) (f20 : Fld G.Z h a "java/util/ArrayList" "size" "I" (.int (0 : Int32))) (g0 : G.Z.heap.size ≤ a) :
    Ctr G [] (⟨"java/util/AbstractList", "<init>", "()V"⟩ : MethodName) jdk_39_method_1_code 1 none ({ frames := 2, cells := 0, slots := 0, locals := 24 } : Room) #[.ref a] h [] (fun v h' Sf => v = none ∧ Keep h h' [a] ∧ Exa G.Z h' a "java/util/ArrayList" ∧ Fld G.Z h' a "java/util/AbstractList" "modCount" "I" (.int (0 : Int32)) ∧ Fld G.Z h' a "java/util/ArrayList" "elementData" "[Ljava/lang/Object;" .null ∧ Fld G.Z h' a "java/util/ArrayList" "size" "I" (.int (0 : Int32))) := by
  refine ctr_of M_abl rfl rfl (plainFor_of_name pn_6) L_abl H.el (Ls := #[.val (.ref a)]) (fun m => ef_ok (by show argsToLocals _ 1 = _; first | (simp [argsToLocals, Value.category]; done) | rfl)) ?_
  intro B K hE
  refine go_run K 0 1 (pc' := 1) (st' := [(.ref a)]) rfl ?_
  refine go_special K (k := 1) rfl rfl (H.w 20 rfl) (H.w 21 rfl) (H.w 24 rfl) (H.w 25 rfl) (by decide) pd_14 (c_abc (a := a) H) (argsL := []) (rest := []) rfl rfl rfl sub0 rfl ?_
  rintro _ _ _ - ⟨rfl, rfl⟩
  show Go G B M_abl _ h [] 0 0 4 #[.val (.ref a)] []
  refine go_run K 2 2 (pc' := 6) (st' := [(.int (0 : Int32)), (.ref a)]) rfl ?_
  refine go_putfield K (k := 4) rfl (host := "") (Or.inl (H.w 29 rfl)) Via.refl f00 E0 (Or.inl (H.w 30 rfl)) (H.w 9 rfl) (ty := .int) (by decide) rfl rfl g0 (Or.inr (by decide)) ?_
  intro h1 W2
  have F3 : Exa G.Z h1 a "java/util/ArrayList" := Exa.wr W2 E0
  have F4 : Fld G.Z h1 a "java/util/AbstractList" "modCount" "I" (.int (0 : Int32)) := Fld.same W2 f00
  have F5 : Fld G.Z h1 a "java/util/ArrayList" "elementData" "[Ljava/lang/Object;" .null := Fld.other W2 f10 (Or.inr (slot_ne (Or.inl (H.w 33 rfl)) (Or.inl (H.w 30 rfl)) (by decide) (t := (.array (.object "java/lang/Object"))) (t' := .int) (by decide) (by decide)))
  have F6 : Fld G.Z h1 a "java/util/ArrayList" "size" "I" (.int (0 : Int32)) := Fld.other W2 f20 (Or.inr (slot_ne (Or.inl (H.w 201 rfl)) (Or.inl (H.w 30 rfl)) (by decide) (t := .int) (t' := .int) (by decide) (by decide)))
  refine go_return K (k := 5) rfl rfl rfl rfl ?_
  intro Sf hSf
  exact ⟨rfl, ((Keep.refl _ [a]).wr W2 (Or.inl (List.mem_cons_self ..))), F3, F4, F5, F6⟩
theorem pn_7 : plainName "java/util/ArrayList" = true := by first | (simp [plainName, overriddenIn]; done) | decide +kernel
def P_ali : List (Nat × Instr × Nat) := [(0, .aload_n 0, 1), (1, .invokespecial 1, 3), (4, .aload_n 0, 1), (5, .getstatic 39, 3), (8, .putfield 9, 3), (11, .return_, 1)]
theorem L_ali : ∀ q ∈ P_ali, decode jdk_38_method_2_code q.1 = .ok q.2 := by decide +kernel
def M_ali : Mt := (("java/util/ArrayList", "<init>", ({ frames := 3, cells := 0, slots := 0, locals := 36 } : Room)), P_ali, 1, none)
set_option maxRecDepth 65536 in
set_option maxHeartbeats 40000000 in
theorem c_ali {G : Gb} (H : Gl tables_1 els G) {h : Heap} {ed : Addr} (sE : Sta G.Z G.Z.heap "java/util/ArrayList" "DEFAULTCAPACITY_EMPTY_ELEMENTDATA" "[Ljava/lang/Object;" (.ref ed)) {a : Addr} (E0 : Exa G.Z h a "java/util/ArrayList") (f00 : Fld G.Z h a "java/util/AbstractList" "modCount" "I" (.int (0 : Int32))) (f10 : Fld G.Z h a "java/util/ArrayList" "elementData" "[Ljava/lang/Object;" .null) (f20 : Fld G.Z h a "java/util/ArrayList" "size" "I" (.int (0 : Int32))) (g0 : G.Z.heap.size ≤ a) :
    Ctr G [] (⟨"java/util/ArrayList", "<init>", "()V"⟩ : MethodName) jdk_38_method_2_code 1 none ({ frames := 3, cells := 0, slots := 0, locals := 36 } : Room) #[.ref a] h [] (fun v h' Sf => v = none ∧ Keep h h' [a] ∧ Al0 G h' a ed) := by
  refine ctr_of M_ali rfl rfl (plainFor_of_name pn_7) L_ali H.el (Ls := #[.val (.ref a)]) (fun m => ef_ok (by show argsToLocals _ 1 = _; first | (simp [argsToLocals, Value.category]; done) | rfl)) ?_
  intro B K hE
  refine go_run K 0 1 (pc' := 1) (st' := [(.ref a)]) rfl ?_
  refine go_special K (k := 1) rfl rfl (H.w 14 rfl) (H.w 15 rfl) (H.w 18 rfl) (H.w 19 rfl) (by decide) pd_14 (c_abl H E0 f00 f10 f20 g0) (argsL := []) (rest := []) rfl rfl rfl sub0 rfl ?_
  rintro _ h1 _ - ⟨rfl, K2, E3, F4, F5, F6⟩
  show Go G B M_ali _ h1 [] 0 0 4 #[.val (.ref a)] []
  refine go_run K 2 1 (pc' := 5) (st' := [(.ref a)]) rfl ?_
  refine go_getstatic K (k := 3) rfl (host := "") (Or.inl (H.w 31 rfl)) Via.refl sE ?_
  refine go_putfield K (k := 4) rfl (host := "") (Or.inl (H.w 32 rfl)) Via.refl F5 E3 (Or.inl (H.w 33 rfl)) (H.w 9 rfl) (ty := (.array (.object "java/lang/Object"))) (by decide) rfl rfl g0 (Or.inr (by decide)) ?_
  intro h7 W8
  have F9 : Exa G.Z h7 a "java/util/ArrayList" := Exa.wr W8 E3
  have F10 : Fld G.Z h7 a "java/util/AbstractList" "modCount" "I" (.int (0 : Int32)) := Fld.other W8 F4 (Or.inr (slot_ne (Or.inl (H.w 30 rfl)) (Or.inl (H.w 33 rfl)) (by decide) (t := .int) (t' := (.array (.object "java/lang/Object"))) (by decide) (by decide)))
  have F11 : Fld G.Z h7 a "java/util/ArrayList" "elementData" "[Ljava/lang/Object;" (.ref ed) := Fld.same W8 F5
  have F12 : Fld G.Z h7 a "java/util/ArrayList" "size" "I" (.int (0 : Int32)) := Fld.other W8 F6 (Or.inr (slot_ne (Or.inl (H.w 201 rfl)) (Or.inl (H.w 33 rfl)) (by decide) (t := .int) (t' := (.array (.object "java/lang/Object"))) (by decide) (by decide)))
  refine go_return K (k := 5) rfl rfl rfl rfl ?_
  intro Sf hSf
  exact ⟨rfl, (((Keep.refl _ [a]).trans K2 (allS (Or.inl (List.mem_cons_self ..)) all0)).wr W8 (Or.inl (List.mem_cons_self ..))), F9, ⟨_, F10⟩, F11, F12, g0⟩
def P_ise : List (Nat × Instr × Nat) := [(0, .aload_n 0, 1), (1, .getfield 48, 3), (4, .ifCond .ne 7, 3), (7, .iconst 1, 1), (8, .goto 4, 3), (11, .iconst 0, 1), (12, .ireturn, 1)]
theorem L_ise : ∀ q ∈ P_ise, decode jdk_38_method_9_code q.1 = .ok q.2 := by decide +kernel
def M_ise : Mt := (("java/util/ArrayList", "isEmpty", ({ frames := 0, cells := 0, slots := 0, locals := 0 } : Room)), P_ise, 1, (some .boolean))
set_option maxRecDepth 65536 in
set_option maxHeartbeats 40000000 in
theorem c_ise0 {G : Gb} (H : Gl tables_1 els G) {h : Heap} {li : Addr} (F0 : Fld G.Z h li "java/util/ArrayList" "size" "I" (.int (0 : Int32))) :
    Ctr G [] (⟨"java/util/ArrayList", "isEmpty", "()Z"⟩ : MethodName) jdk_38_method_9_code 1 (some .boolean) ({ frames := 0, cells := 0, slots := 0, locals := 0 } : Room) #[.ref li] h [] (fun v h' Sf => v = some (.int 1) ∧ h = h') := by
  refine ctr_of M_ise rfl rfl (plainFor_of_name pn_7) L_ise H.el (Ls := #[.val (.ref li)]) (fun m => ef_ok (by show argsToLocals _ 1 = _; first | (simp [argsToLocals, Value.category]; done) | rfl)) ?_
  intro B K hE
  refine go_run K 0 1 (pc' := 1) (st' := [(.ref li)]) rfl ?_
  refine go_getfield K (k := 1) rfl (host := "") (Or.inl (H.w 200 rfl)) Via.refl F0 ?_
  refine go_ifne K (k := 2) rfl (pc' := 11) (by decide) (fun q => absurd rfl q) (fun _ => ?_)
  refine go_run K 3 2 (pc' := 12) (st' := [(.int (1 : Int32))]) rfl ?_
  refine go_ireturn K (k := 6) rfl rfl (by decide) rfl rfl rfl ?_
  intro Sf hSf
  exact ⟨rfl, rfl⟩
set_option maxRecDepth 65536 in
set_option maxHeartbeats 40000000 in
theorem c_iseK {G : Gb} (H : Gl tables_1 els G) {h : Heap} {li : Addr} {k : Nat} (k1 : 1 ≤ k) (k2 : k ≤ 10) (F0 : Fld G.Z h li "java/util/ArrayList" "size" "I" (.int k.toInt32)) :
    Ctr G [] (⟨"java/util/ArrayList", "isEmpty", "()Z"⟩ : MethodName) jdk_38_method_9_code 1 (some .boolean) ({ frames := 0, cells := 0, slots := 0, locals := 0 } : Room) #[.ref li] h [] (fun v h' Sf => v = some (.int 0) ∧ h = h') := by
  refine ctr_of M_ise rfl rfl (plainFor_of_name pn_7) L_ise H.el (Ls := #[.val (.ref li)]) (fun m => ef_ok (by show argsToLocals _ 1 = _; first | (simp [argsToLocals, Value.category]; done) | rfl)) ?_
  intro B K hE
  refine go_run K 0 1 (pc' := 1) (st' := [(.ref li)]) rfl ?_
  refine go_getfield K (k := 1) rfl (host := "") (Or.inl (H.w 200 rfl)) Via.refl F0 ?_
  refine go_ifne K (k := 2) rfl (pc' := 11) (by decide) (fun _ => ?_) (fun q => absurd q (fun e => absurd (len_zero (by omega) e) (by omega)))
  refine go_run K 5 1 (pc' := 12) (st' := [(.int (0 : Int32))]) rfl ?_
  refine go_ireturn K (k := 6) rfl rfl (by decide) rfl rfl rfl ?_
  intro Sf hSf
  exact ⟨rfl, rfl⟩
theorem pf_8 : plainFor (⟨"java/lang/Math", "max", "(II)I"⟩ : MethodName) = true := by decide +kernel
def P_max : List (Nat × Instr × Nat) := [(0, .iload_n 0, 1), (1, .iload_n 1, 1), (2, .if_icmp .lt 7, 3), (5, .iload_n 0, 1), (6, .goto 4, 3), (9, .iload_n 1, 1), (10, .ireturn, 1)]
theorem L_max : ∀ q ∈ P_max, decode jdk_29_method_65_code q.1 = .ok q.2 := by decide +kernel
def M_max : Mt := (("java/lang/Math", "max", ({ frames := 0, cells := 0, slots := 0, locals := 0 } : Room)), P_max, 2, (some .int))
set_option maxRecDepth 65536 in
set_option maxHeartbeats 40000000 in
theorem c_max {G : Gb} (H : Gl tables_1 els G) {h : Heap} {x y : Int32} :
    Ctr G [] (⟨"java/lang/Math", "max", "(II)I"⟩ : MethodName) jdk_29_method_65_code 2 (some .int) ({ frames := 0, cells := 0, slots := 0, locals := 0 } : Room) #[.int x, .int y] h [] (fun v h' Sf => ∃ r : Int32, v = some (.int r) ∧ h = h' ∧ ((r = x ∧ ¬ x < y) ∨ (r = y ∧ x < y))) := by
  refine ctr_of M_max rfl rfl pf_8 L_max H.el (Ls := #[.val (.int x), .val (.int y)]) (fun m => ef_ok (by show argsToLocals _ 2 = _; first | (simp [argsToLocals, Value.category]; done) | rfl)) ?_
  intro B K hE
  refine go_run K 0 2 (pc' := 2) (st' := [(.int y), (.int x)]) rfl ?_
  refine go_icmplt K (k := 2) rfl (pc' := 9) (by decide) (fun q1 => ?_) (fun q2 => ?_)
  · refine go_run K 5 1 (pc' := 10) (st' := [(.int y)]) rfl ?_
    refine go_ireturn K (k := 6) rfl rfl (by decide) rfl rfl rfl ?_
    intro Sf hSf
    exact ⟨y, rfl, rfl, Or.inr ⟨rfl, q1⟩⟩
  · refine go_run K 3 2 (pc' := 10) (st' := [(.int x)]) rfl ?_
    refine go_ireturn K (k := 6) rfl rfl (by decide) rfl rfl rfl ?_
    intro Sf hSf
    exact ⟨x, rfl, rfl, Or.inl ⟨rfl, q2⟩⟩
def P_als : List (Nat × Instr × Nat) := [(0, .aload_n 0, 1), (1, .getfield 48, 3), (4, .ireturn, 1)]
theorem L_als : ∀ q ∈ P_als, decode jdk_38_method_8_code q.1 = .ok q.2 := by decide +kernel
def M_als : Mt := (("java/util/ArrayList", "size", ({ frames := 0, cells := 0, slots := 0, locals := 0 } : Room)), P_als, 1, (some .int))
set_option maxRecDepth 65536 in
set_option maxHeartbeats 40000000 in
theorem c_als {G : Gb} (H : Gl tables_1 els G) {h : Heap} {a : Addr} {r : Int32} (F0 : Fld G.Z h a "java/util/ArrayList" "size" "I" (.int r)) :
    Ctr G [] (⟨"java/util/ArrayList", "size", "()I"⟩ : MethodName) jdk_38_method_8_code 1 (some .int) ({ frames := 0, cells := 0, slots := 0, locals := 0 } : Room) #[.ref a] h [] (fun v h' Sf => v = some (.int r) ∧ h = h') := by
  refine ctr_of M_als rfl rfl (plainFor_of_name pn_7) L_als H.el (Ls := #[.val (.ref a)]) (fun m => ef_ok (by show argsToLocals _ 1 = _; first | (simp [argsToLocals, Value.category]; done) | rfl)) ?_
  intro B K hE
  refine go_run K 0 1 (pc' := 1) (st' := [(.ref a)]) rfl ?_
  refine go_getfield K (k := 1) rfl (host := "") (Or.inl (H.w 200 rfl)) Via.refl F0 ?_
  refine go_ireturn K (k := 2) rfl rfl (by decide) rfl rfl rfl ?_
  intro Sf hSf
  exact ⟨rfl, rfl⟩
theorem pn_9 : plainName "jdk/internal/util/Preconditions" = true := by first | (simp [plainName, overriddenIn]; done) | decide +kernel
def P_pci : List (Nat × Instr × Nat) := [(0, .iload_n 0, 1), (1, .ifCond .lt 8, 3), (4, .iload_n 0, 1), (5, .iload_n 1, 1), (6, .if_icmp .lt 10, 3), (9, .aload_n 2, 1), (10, .iload_n 0, 1), (11, .iload_n 1, 1), (12, .invokestatic 95, 3), (15, .athrow, 1), (16, .iload_n 0, 1), (17, .ireturn, 1)]
theorem L_pci : ∀ q ∈ P_pci, decode jdk_41_method_11_code q.1 = .ok q.2 := by decide +kernel
def M_pci : Mt := (("jdk/internal/util/Preconditions", "checkIndex", ({ frames := 0, cells := 0, slots := 0, locals := 0 } : Room)), P_pci, 3, (some .int))
set_option maxRecDepth 65536 in
set_option maxHeartbeats 40000000 in
theorem c_pci {G : Gb} (H : Gl tables_1 els G) {h : Heap} {x n : Int32} {f : Addr} (h1 : ¬ x < 0) (h2 : x < n) :
    Ctr G [] (⟨"jdk/internal/util/Preconditions", "checkIndex", "(IILjava/util/function/BiFunction;)I"⟩ : MethodName) jdk_41_method_11_code 3 (some .int) ({ frames := 0, cells := 0, slots := 0, locals := 0 } : Room) #[.int x, .int n, .ref f] h [] (fun v h' Sf => v = some (.int x) ∧ h = h') := by
  refine ctr_of M_pci rfl rfl (plainFor_of_name pn_9) L_pci H.el (Ls := #[.val (.int x), .val (.int n), .val (.ref f)]) (fun m => ef_ok (by show argsToLocals _ 3 = _; first | (simp [argsToLocals, Value.category]; done) | rfl)) ?_
  intro B K hE
  refine go_run K 0 1 (pc' := 1) (st' := [(.int x)]) rfl ?_
  refine go_iflt K (k := 1) rfl (pc' := 9) (by decide) (fun q => absurd q h1) (fun _ => ?_)
  refine go_run K 2 2 (pc' := 6) (st' := [(.int n), (.int x)]) rfl ?_
  refine go_icmplt K (k := 4) rfl (pc' := 16) (by decide) (fun _ => ?_) (fun q => absurd h2 q)
  refine go_run K 10 1 (pc' := 17) (st' := [(.int x)]) rfl ?_
  refine go_ireturn K (k := 11) rfl rfl (by decide) rfl rfl rfl ?_
  intro Sf hSf
  exact ⟨rfl, rfl⟩
set_option maxRecDepth 65536 in
set_option maxHeartbeats 40000000 in
theorem c_pciN {G : Gb} (H : Gl tables_1 els G) {h : Heap} {x n : Int32} (h1 : ¬ x < 0) (h2 : x < n) :
    Ctr G [] (⟨"jdk/internal/util/Preconditions", "checkIndex", "(IILjava/util/function/BiFunction;)I"⟩ : MethodName) jdk_41_method_11_code 3 (some .int) ({ frames := 0, cells := 0, slots := 0, locals := 0 } : Room) #[.int x, .int n, .null] h [] (fun v h' Sf => v = some (.int x) ∧ h = h') := by
  refine ctr_of M_pci rfl rfl (plainFor_of_name pn_9) L_pci H.el (Ls := #[.val (.int x), .val (.int n), .val .null]) (fun m => ef_ok (by show argsToLocals _ 3 = _; first | (simp [argsToLocals, Value.category]; done) | rfl)) ?_
  intro B K hE
  refine go_run K 0 1 (pc' := 1) (st' := [(.int x)]) rfl ?_
  refine go_iflt K (k := 1) rfl (pc' := 9) (by decide) (fun q => absurd q h1) (fun _ => ?_)
  refine go_run K 2 2 (pc' := 6) (st' := [(.int n), (.int x)]) rfl ?_
  refine go_icmplt K (k := 4) rfl (pc' := 16) (by decide) (fun _ => ?_) (fun q => absurd h2 q)
  refine go_run K 10 1 (pc' := 17) (st' := [(.int x)]) rfl ?_
  refine go_ireturn K (k := 11) rfl rfl (by decide) rfl rfl rfl ?_
  intro Sf hSf
  exact ⟨rfl, rfl⟩
theorem pn_10 : plainName "java/util/Objects" = true := by first | (simp [plainName, overriddenIn]; done) | decide +kernel
def P_ock : List (Nat × Instr × Nat) := [(0, .iload_n 0, 1), (1, .iload_n 1, 1), (2, .aconst_null, 1), (3, .invokestatic 105, 3), (6, .ireturn, 1)]
theorem L_ock : ∀ q ∈ P_ock, decode jdk_31_method_17_code q.1 = .ok q.2 := by decide +kernel
def M_ock : Mt := (("java/util/Objects", "checkIndex", ({ frames := 1, cells := 0, slots := 0, locals := 14 } : Room)), P_ock, 2, (some .int))
set_option maxRecDepth 65536 in
set_option maxHeartbeats 40000000 in
theorem c_ock {G : Gb} (H : Gl tables_1 els G) {h : Heap} {x m : Int32} (h1 : ¬ x < 0) (h2 : x < m) :
    Ctr G [] (⟨"java/util/Objects", "checkIndex", "(II)I"⟩ : MethodName) jdk_31_method_17_code 2 (some .int) ({ frames := 1, cells := 0, slots := 0, locals := 14 } : Room) #[.int x, .int m] h [] (fun v h' Sf => v = some (.int x) ∧ h = h') := by
  refine ctr_of M_ock rfl rfl (plainFor_of_name pn_10) L_ock H.el (Ls := #[.val (.int x), .val (.int m)]) (fun m => ef_ok (by show argsToLocals _ 2 = _; first | (simp [argsToLocals, Value.category]; done) | rfl)) ?_
  intro B K hE
  refine go_run K 0 3 (pc' := 3) (st' := [.null, (.int m), (.int x)]) rfl ?_
  refine go_static K (k := 3) rfl (H.w 281 rfl) (H.w 282 rfl) (H.w 283 rfl) (H.w 284 rfl) (by decide) pd_15 (c_pciN (x := x) (n := m) H h1 h2) (argsL := [(.int x), (.int m), .null]) (rest := []) rfl rfl rfl sub0 rfl ?_
  rintro _ _ _ - ⟨rfl, rfl⟩
  show Go G B M_ock _ h [] 0 0 6 #[.val (.int x), .val (.int m)] [(.int x)]
  refine go_ireturn K (k := 4) rfl rfl (by decide) rfl rfl rfl ?_
  intro Sf hSf
  exact ⟨rfl, rfl⟩
def P_ald : List (Nat × Instr × Nat) := [(0, .aload_n 0, 1), (1, .getfield 9, 3), (4, .iload_n 1, 1), (5, .aaload, 1), (6, .areturn, 1)]
theorem L_ald : ∀ q ∈ P_ald, decode jdk_38_method_18_code q.1 = .ok q.2 := by decide +kernel
def M_ald : Mt := (("java/util/ArrayList", "elementData", ({ frames := 0, cells := 0, slots := 0, locals := 0 } : Room)), P_ald, 2, (some (.object "java/lang/Object")))
set_option maxRecDepth 65536 in
set_option maxHeartbeats 40000000 in
theorem c_ald {G : Gb} (H : Gl tables_1 els G) {h : Heap} {li t r : Addr} {kA : ClassId} {z i : Int32} {vs : List Value} (F0 : Fld G.Z h li "java/util/ArrayList" "elementData" "[Ljava/lang/Object;" (.ref t)) (A0 : Arv G.Z h t kA (.object "java/lang/Object") z vs .null) (hj : ¬ i < 0 ∧ i < z) (hv : vs.getD i.toNatClampNeg .null = .ref r) :
    Ctr G [] (⟨"java/util/ArrayList", "elementData", "(I)Ljava/lang/Object;"⟩ : MethodName) jdk_38_method_18_code 2 (some (.object "java/lang/Object")) ({ frames := 0, cells := 0, slots := 0, locals := 0 } : Room) #[.ref li, .int i] h [] (fun v h' Sf => v = some (.ref r) ∧ h = h') := by
  refine ctr_of M_ald rfl rfl (plainFor_of_name pn_7) L_ald H.el (Ls := #[.val (.ref li), .val (.int i)]) (fun m => ef_ok (by show argsToLocals _ 2 = _; first | (simp [argsToLocals, Value.category]; done) | rfl)) ?_
  intro B K hE
  refine go_run K 0 1 (pc' := 1) (st' := [(.ref li)]) rfl ?_
  refine go_getfield K (k := 1) rfl (host := "") (Or.inl (H.w 32 rfl)) Via.refl F0 ?_
  refine go_run K 2 1 (pc' := 5) (st' := [(.int i), (.ref t)]) rfl ?_
  refine go_aaload K (k := 3) rfl A0 rfl hj (v := .ref r) hv ?_
  refine go_areturn K (k := 4) rfl rfl rfl rfl rfl rfl rfl ?_
  intro Sf hSf
  exact ⟨rfl, rfl⟩
def P_alg : List (Nat × Instr × Nat) := [(0, .iload_n 1, 1), (1, .aload_n 0, 1), (2, .getfield 48, 3), (5, .invokestatic 118, 3), (8, .pop, 1), (9, .aload_n 0, 1), (10, .iload_n 1, 1), (11, .invokevirtual 123, 3), (14, .areturn, 1)]
theorem L_alg : ∀ q ∈ P_alg, decode jdk_38_method_20_code q.1 = .ok q.2 := by decide +kernel
def M_alg : Mt := (("java/util/ArrayList", "get", ({ frames := 2, cells := 0, slots := 0, locals := 27 } : Room)), P_alg, 2, (some (.object "java/lang/Object")))
set_option maxRecDepth 65536 in
set_option maxHeartbeats 40000000 in
theorem c_alg {G : Gb} (H : Gl tables_1 els G) {h : Heap} {li t r : Addr} {kA : ClassId} {z i : Int32} {vs : List Value} (F0 : Fld G.Z h li "java/util/ArrayList" "elementData" "[Ljava/lang/Object;" (.ref t)) (A0 : Arv G.Z h t kA (.object "java/lang/Object") z vs .null) (hj : ¬ i < 0 ∧ i < z) (hv : vs.getD i.toNatClampNeg .null = .ref r) {m : Int32} (Fs0 : Fld G.Z h li "java/util/ArrayList" "size" "I" (.int m)) (hm : i < m) (E0 : Exa G.Z h li "java/util/ArrayList") :
    Ctr G [] (⟨"java/util/ArrayList", "get", "(I)Ljava/lang/Object;"⟩ : MethodName) jdk_38_method_20_code 2 (some (.object "java/lang/Object")) ({ frames := 2, cells := 0, slots := 0, locals := 27 } : Room) #[.ref li, .int i] h [] (fun v h' Sf => v = some (.ref r) ∧ h = h') := by
  refine ctr_of M_alg rfl rfl (plainFor_of_name pn_7) L_alg H.el (Ls := #[.val (.ref li), .val (.int i)]) (fun m => ef_ok (by show argsToLocals _ 2 = _; first | (simp [argsToLocals, Value.category]; done) | rfl)) ?_
  intro B K hE
  refine go_run K 0 2 (pc' := 2) (st' := [(.ref li), (.int i)]) rfl ?_
  refine go_getfield K (k := 2) rfl (host := "") (Or.inl (H.w 200 rfl)) Via.refl Fs0 ?_
  refine go_static K (k := 3) rfl (H.w 277 rfl) (H.w 278 rfl) (H.w 279 rfl) (H.w 280 rfl) (by decide) pd_2 (c_ock (x := i) (m := m) H hj.1 hm) (argsL := [(.int i), (.int m)]) (rest := []) rfl rfl rfl sub0 rfl ?_
  rintro _ _ _ - ⟨rfl, rfl⟩
  show Go G B M_alg _ h [] 0 0 8 #[.val (.ref li), .val (.int i)] [(.int i)]
  refine go_run K 4 3 (pc' := 11) (st' := [(.int i), (.ref li)]) rfl ?_
  refine go_virt0 K (k := 7) rfl (H.w 285 rfl) (H.w 288 rfl) (H.w 287 rfl) (H.w 10 rfl) (H.w 289 rfl) (by decide) pd_16 E0 (c_ald (r := r) H F0 A0 hj hv) (argsL := [(.int i)]) (rest := []) rfl rfl rfl sub0 rfl ?_
  rintro _ _ _ - ⟨rfl, rfl⟩
  show Go G B M_alg _ h [] 0 0 14 #[.val (.ref li), .val (.int i)] [(.ref r)]
  refine go_areturn K (k := 8) rfl rfl rfl rfl rfl rfl rfl ?_
  intro Sf hSf
  exact ⟨rfl, rfl⟩
def P_gri : List (Nat × Instr × Nat) := [(0, .aload_n 0, 1), (1, .getfield 9, 3), (4, .arraylength, 1), (5, .istore_n 2, 1), (6, .iload_n 2, 1), (7, .ifCond .gt 13, 3), (10, .aload_n 0, 1), (11, .getfield 9, 3), (14, .getstatic 39, 3), (17, .if_acmp .eq 28, 3), (20, .iload_n 2, 1), (21, .iload_n 1, 1), (22, .iload_n 2, 1), (23, .isub, 1), (24, .iload_n 2, 1), (25, .iconst 1, 1), (26, .ishr, 1), (27, .invokestatic 73, 3), (30, .istore_n 3, 1), (31, .aload_n 0, 1), (32, .aload_n 0, 1), (33, .getfield 9, 3), (36, .iload_n 3, 1), (37, .invokestatic 66, 3), (40, .dup_x1, 1), (41, .putfield 9, 3), (44, .areturn, 1), (45, .aload_n 0, 1), (46, .bipush 10, 2), (48, .iload_n 1, 1), (49, .invokestatic 79, 3), (52, .anewarray 7, 3), (55, .dup_x1, 1), (56, .putfield 9, 3), (59, .areturn, 1)]
theorem L_gri : ∀ q ∈ P_gri, decode jdk_38_method_6_code q.1 = .ok q.2 := by decide +kernel
def M_gri : Mt := (("java/util/ArrayList", "grow", ({ frames := 1, cells := 1, slots := 10, locals := 14 } : Room)), P_gri, 4, (some (.array (.object "java/lang/Object"))))
set_option maxRecDepth 65536 in
set_option maxHeartbeats 40000000 in
theorem c_gri {G : Gb} (H : Gl tables_1 els G) {h : Heap} {li : Addr} {ed : Addr} {ke : ClassId} (sE : Sta G.Z G.Z.heap "java/util/ArrayList" "DEFAULTCAPACITY_EMPTY_ELEMENTDATA" "[Ljava/lang/Object;" (.ref ed)) (aE : Arv G.Z G.Z.heap ed ke (.object "java/lang/Object") (0 : Int32) [] .null) (L0 : Al0 G h li ed) :
    Ctr G [] (⟨"java/util/ArrayList", "grow", "(I)[Ljava/lang/Object;"⟩ : MethodName) jdk_38_method_6_code 4 (some (.array (.object "java/lang/Object"))) ({ frames := 1, cells := 1, slots := 10, locals := 14 } : Room) #[.ref li, .int 1] h [] (fun v h' Sf => ∃ (t : Addr) (kA : ClassId), v = some (.ref t) ∧ Keep h h' [li] ∧ Exa G.Z h' li "java/util/ArrayList" ∧ (∃ mc : Int32, Fld G.Z h' li "java/util/AbstractList" "modCount" "I" (.int mc)) ∧ Fld G.Z h' li "java/util/ArrayList" "elementData" "[Ljava/lang/Object;" (.ref t) ∧ Fld G.Z h' li "java/util/ArrayList" "size" "I" (.int 0) ∧ Arv G.Z h' t kA (.object "java/lang/Object") (10 : Nat).toInt32 (List.replicate 10 .null) .null ∧ Exa G.Z h' t "[Ljava/lang/Object;" ∧ Ovr G.Z kA "java/lang/Object" ∧ G.Z.heap.size ≤ t ∧ h.size ≤ t) := by
  refine ctr_of M_gri rfl rfl (plainFor_of_name pn_7) L_gri H.el (Ls := #[.val (.ref li), .val (.int (1 : Int32)), .unset, .unset]) (fun m => ef_ok (by show argsToLocals _ 4 = _; first | (simp [argsToLocals, Value.category]; done) | rfl)) ?_
  intro B K hE
  obtain ⟨e1, ⟨mc2, f3⟩, f4, f5, g6⟩ := id L0
  refine go_run K 0 1 (pc' := 1) (st' := [(.ref li)]) rfl ?_
  refine go_getfield K (k := 1) rfl (host := "") (Or.inl (H.w 32 rfl)) Via.refl f4 ?_
  refine go_arraylength K (k := 2) rfl (aE.ext hE) ?_
  refine go_run K 3 1 (pc' := 6) (Ls' := #[.val (.ref li), .val (.int (1 : Int32)), .val (.int (0 : Int32)), .unset]) (st' := []) rfl ?_
  refine go_run K 4 1 (pc' := 7) (st' := [(.int (0 : Int32))]) rfl ?_
  refine go_ifgt K (k := 5) rfl (pc' := 20) (by decide) (fun q => absurd q (by decide)) (fun _ => ?_)
  refine go_run K 6 1 (pc' := 11) (st' := [(.ref li)]) rfl ?_
  refine go_getfield K (k := 7) rfl (host := "") (Or.inl (H.w 32 rfl)) Via.refl f4 ?_
  refine go_getstatic K (k := 8) rfl (host := "") (Or.inl (H.w 31 rfl)) Via.refl sE ?_
  refine go_acmp K (k := 9) rfl rfl rfl (same := true) (decide_eq_true rfl) (pc' := 45) (by decide) rfl ?_
  refine go_run K 27 3 (pc' := 49) (st' := [(.int (1 : Int32)), (.int (10 : Int32)), (.ref li)]) rfl ?_
  refine go_static K (k := 30) rfl (H.w 243 rfl) (H.w 244 rfl) (H.w 184 rfl) (H.w 245 rfl) (by decide) pd_2 (c_max (x := (10 : Int32)) (y := (1 : Int32)) H) (argsL := [(.int (10 : Int32)), (.int (1 : Int32))]) (rest := [(.ref li)]) rfl rfl rfl sub0 rfl ?_
  rintro _ _ _ - ⟨r7, rfl, rfl, q8⟩
  show Go G B M_gri _ h [] 0 0 52 #[.val (.ref li), .val (.int (1 : Int32)), .val (.int (0 : Int32)), .unset] [(.int r7), (.ref li)]
  have hr : r7 = 10 := by
    rcases q8 with ⟨u1, -⟩ | ⟨-, u2⟩
    · exact u1
    · exact absurd u2 (by decide)
  rw [hr]
  refine go_anewarray K (k := 31) rfl (H.w 246 rfl) (H.w 247 rfl) (ad := "[Ljava/lang/Object;") (by first | rfl | decide) (by decide) (cap := 10) (by decide) rfl rfl rfl ?_
  intro h10 a9 k11 e12 g13 E14 A15 X16 O17
  have A15' : Arv G.Z h10 a9 k11 (.object "java/lang/Object") (10 : Nat).toInt32 (List.replicate 10 .null) .null := Arv.pad A15 (pad_rep [] _ 10)
  refine go_run K 32 1 (pc' := 56) (st' := [(.ref a9), (.ref li), (.ref a9)]) rfl ?_
  have c18 := (f4.ext E14)
  have c19 := (e1.ext E14)
  refine go_putfield K (k := 33) rfl (host := "") (Or.inl (H.w 32 rfl)) Via.refl c18 c19 (Or.inl (H.w 33 rfl)) (H.w 9 rfl) (ty := (.array (.object "java/lang/Object"))) (by decide) rfl rfl g6 (Or.inr (by decide)) ?_
  intro h20 W21
  have c22 := (f3.ext E14)
  have c23 := (f5.ext E14)
  have F24 : Exa G.Z h20 li "java/util/ArrayList" := Exa.wr W21 c19
  have F25 : Fld G.Z h20 li "java/util/AbstractList" "modCount" "I" (.int mc2) := Fld.other W21 c22 (Or.inr (slot_ne (Or.inl (H.w 30 rfl)) (Or.inl (H.w 33 rfl)) (by decide) (t := .int) (t' := (.array (.object "java/lang/Object"))) (by decide) (by decide)))
  have F26 : Fld G.Z h20 li "java/util/ArrayList" "elementData" "[Ljava/lang/Object;" (.ref a9) := Fld.same W21 c18
  have F27 : Fld G.Z h20 li "java/util/ArrayList" "size" "I" (.int (0 : Int32)) := Fld.other W21 c23 (Or.inr (slot_ne (Or.inl (H.w 201 rfl)) (Or.inl (H.w 33 rfl)) (by decide) (t := .int) (t' := (.array (.object "java/lang/Object"))) (by decide) (by decide)))
  have c28 := (Arv.other A15' W21 (Exa.neArv c19 A15' (H.w 9 rfl)).symm)
  have c29 := (Exa.wr W21 X16)
  refine go_areturn K (k := 34) rfl rfl rfl rfl rfl rfl rfl ?_
  intro Sf hSf
  exact ⟨a9, k11, rfl, (((Keep.refl _ [li]).ext E14).wr W21 (Or.inl (List.mem_cons_self ..))), F24, ⟨_, F25⟩, F26, F27, c28, c29, O17, g13, Nat.le_trans (Nat.le_refl _) (Nat.le_of_eq e12.symm)⟩
def P_gr0 : List (Nat × Instr × Nat) := [(0, .aload_n 0, 1), (1, .aload_n 0, 1), (2, .getfield 48, 3), (5, .iconst 1, 1), (6, .iadd, 1), (7, .invokevirtual 69, 3), (10, .areturn, 1)]
theorem L_gr0 : ∀ q ∈ P_gr0, decode jdk_38_method_7_code q.1 = .ok q.2 := by decide +kernel
def M_gr0 : Mt := (("java/util/ArrayList", "grow", ({ frames := 2, cells := 1, slots := 10, locals := 29 } : Room)), P_gr0, 1, (some (.array (.object "java/lang/Object"))))
set_option maxRecDepth 65536 in
set_option maxHeartbeats 40000000 in
theorem c_gr0 {G : Gb} (H : Gl tables_1 els G) {h : Heap} {li : Addr} {ed : Addr} {ke : ClassId} (sE : Sta G.Z G.Z.heap "java/util/ArrayList" "DEFAULTCAPACITY_EMPTY_ELEMENTDATA" "[Ljava/lang/Object;" (.ref ed)) (aE : Arv G.Z G.Z.heap ed ke (.object "java/lang/Object") (0 : Int32) [] .null) (L0 : Al0 G h li ed) :
    Ctr G [] (⟨"java/util/ArrayList", "grow", "()[Ljava/lang/Object;"⟩ : MethodName) jdk_38_method_7_code 1 (some (.array (.object "java/lang/Object"))) ({ frames := 2, cells := 1, slots := 10, locals := 29 } : Room) #[.ref li] h [] (fun v h' Sf => ∃ (t : Addr) (kA : ClassId), v = some (.ref t) ∧ Keep h h' [li] ∧ Exa G.Z h' li "java/util/ArrayList" ∧ (∃ mc : Int32, Fld G.Z h' li "java/util/AbstractList" "modCount" "I" (.int mc)) ∧ Fld G.Z h' li "java/util/ArrayList" "elementData" "[Ljava/lang/Object;" (.ref t) ∧ Fld G.Z h' li "java/util/ArrayList" "size" "I" (.int 0) ∧ Arv G.Z h' t kA (.object "java/lang/Object") (10 : Nat).toInt32 (List.replicate 10 .null) .null ∧ Exa G.Z h' t "[Ljava/lang/Object;" ∧ Ovr G.Z kA "java/lang/Object" ∧ G.Z.heap.size ≤ t ∧ h.size ≤ t) := by
  refine ctr_of M_gr0 rfl rfl (plainFor_of_name pn_7) L_gr0 H.el (Ls := #[.val (.ref li)]) (fun m => ef_ok (by show argsToLocals _ 1 = _; first | (simp [argsToLocals, Value.category]; done) | rfl)) ?_
  intro B K hE
  obtain ⟨e1, ⟨mc2, f3⟩, f4, f5, g6⟩ := id L0
  refine go_run K 0 2 (pc' := 2) (st' := [(.ref li), (.ref li)]) rfl ?_
  refine go_getfield K (k := 2) rfl (host := "") (Or.inl (H.w 200 rfl)) Via.refl f5 ?_
  refine go_run K 3 2 (pc' := 7) (st' := [(.int (1 : Int32)), (.ref li)]) rfl ?_
  refine go_virt0 K (k := 5) rfl (H.w 238 rfl) (H.w 241 rfl) (H.w 239 rfl) (H.w 10 rfl) (H.w 242 rfl) (by decide) pd_17 e1 (c_gri H sE aE L0) (argsL := [(.int (1 : Int32))]) (rest := []) rfl rfl rfl sub0 rfl ?_
  rintro _ h7 _ - ⟨t8, k9, rfl, K10, e11, ⟨mc12, f13⟩, f14, f15, A16, e17, o18, g19, f20⟩
  show Go G B M_gr0 _ h7 [] 1 10 10 #[.val (.ref li)] [(.ref t8)]
  refine go_areturn K (k := 6) rfl rfl rfl rfl rfl rfl rfl ?_
  intro Sf hSf
  exact ⟨t8, k9, rfl, ((Keep.refl _ [li]).trans K10 (allS (Or.inl (List.mem_cons_self ..)) all0)), e11, ⟨_, f13⟩, f14, f15, A16, e17, o18, g19, f20⟩
def P_ad3 : List (Nat × Instr × Nat) := [(0, .iload_n 3, 1), (1, .aload_n 2, 1), (2, .arraylength, 1), (3, .if_icmp .ne 8, 3), (6, .aload_n 0, 1), (7, .invokevirtual 129, 3), (10, .astore_n 2, 1), (11, .aload_n 2, 1), (12, .iload_n 3, 1), (13, .aload_n 1, 1), (14, .aastore, 1), (15, .aload_n 0, 1), (16, .iload_n 3, 1), (17, .iconst 1, 1), (18, .iadd, 1), (19, .putfield 48, 3), (22, .return_, 1)]
theorem L_ad3 : ∀ q ∈ P_ad3, decode jdk_38_method_24_code q.1 = .ok q.2 := by decide +kernel
def M_ad3 : Mt := (("java/util/ArrayList", "add", ({ frames := 3, cells := 1, slots := 10, locals := 41 } : Room)), P_ad3, 4, none)
set_option maxRecDepth 65536 in
set_option maxHeartbeats 40000000 in
theorem c_ad30 {G : Gb} (H : Gl tables_1 els G) {h : Heap} {li : Addr} {ed : Addr} {ke : ClassId} (sE : Sta G.Z G.Z.heap "java/util/ArrayList" "DEFAULTCAPACITY_EMPTY_ELEMENTDATA" "[Ljava/lang/Object;" (.ref ed)) (aE : Arv G.Z G.Z.heap ed ke (.object "java/lang/Object") (0 : Int32) [] .null) (L0 : Al0 G h li ed) {x : Addr} {bx fx nx : Int32} {ix : Value} (R0 : Ra G h x bx fx nx ix) :
    Ctr G [] (⟨"java/util/ArrayList", "add", "(Ljava/lang/Object;[Ljava/lang/Object;I)V"⟩ : MethodName) jdk_38_method_24_code 4 none ({ frames := 3, cells := 1, slots := 10, locals := 41 } : Room) #[.ref li, .ref x, .ref ed, .int 0] h [] (fun v h' Sf => ∃ (t : Addr) (kA : ClassId), v = none ∧ Keep h h' [li] ∧ h.size ≤ t ∧ Alk G h' li t x kA 1 bx fx nx ix) := by
  refine ctr_of M_ad3 rfl rfl (plainFor_of_name pn_7) L_ad3 H.el (Ls := #[.val (.ref li), .val (.ref x), .val (.ref ed), .val (.int (0 : Int32))]) (fun m => ef_ok (by show argsToLocals _ 4 = _; first | (simp [argsToLocals, Value.category]; done) | rfl)) ?_
  intro B K hE
  obtain ⟨e1, ⟨mc2, f3⟩, f4, f5, g6⟩ := id L0
  refine go_run K 0 2 (pc' := 2) (st' := [(.ref ed), (.int (0 : Int32))]) rfl ?_
  refine go_arraylength K (k := 2) rfl (aE.ext hE) ?_
  refine go_icmpne K (k := 3) rfl (pc' := 11) (by decide) (fun q => absurd rfl q) (fun _ => ?_)
  refine go_run K 4 1 (pc' := 7) (st' := [(.ref li)]) rfl ?_
  refine go_virt0 K (k := 5) rfl (H.w 233 rfl) (H.w 236 rfl) (H.w 234 rfl) (H.w 10 rfl) (H.w 237 rfl) (by decide) pd_18 e1 (c_gr0 H sE aE L0) (argsL := []) (rest := []) rfl rfl rfl sub0 rfl ?_
  rintro _ h7 _ - ⟨t8, k9, rfl, K10, e11, ⟨mc12, f13⟩, f14, f15, A16, e17, o18, g19, f20⟩
  show Go G B M_ad3 _ h7 [] 1 10 10 #[.val (.ref li), .val (.ref x), .val (.ref ed), .val (.int (0 : Int32))] [(.ref t8)]
  refine go_run K 6 1 (pc' := 11) (Ls' := #[.val (.ref li), .val (.ref x), .val (.ref t8), .val (.int (0 : Int32))]) (st' := []) rfl ?_
  refine go_run K 7 3 (pc' := 14) (st' := [(.ref x), (.int (0 : Int32)), (.ref t8)]) rfl ?_
  have c21 := ((Ra.exa R0).keep K10)
  refine go_aastore K (k := 10) rfl A16 o18 (Ins.of_exa c21 (H.w 248 rfl)) (by decide) (i := 0) rfl (by decide) g19 ?_
  intro h22 W23 A24
  refine go_run K 11 4 (pc' := 19) (st' := [(.int (1 : Int32)), (.ref li)]) rfl ?_
  have c25 := (Fld.other W23 f15 (Or.inl (Exa.ne e11 e17 (by decide))))
  have c26 := (Exa.wr W23 e11)
  refine go_putfield K (k := 15) rfl (host := "") (Or.inl (H.w 200 rfl)) Via.refl c25 c26 (Or.inl (H.w 201 rfl)) (H.w 9 rfl) (ty := .int) (by decide) rfl rfl g6 (Or.inr (by decide)) ?_
  intro h27 W28
  have c29 := (Fld.other W23 f13 (Or.inl (Exa.ne e11 e17 (by decide))))
  have c30 := (Fld.other W23 f14 (Or.inl (Exa.ne e11 e17 (by decide))))
  have F31 : Exa G.Z h27 li "java/util/ArrayList" := Exa.wr W28 c26
  have F32 : Fld G.Z h27 li "java/util/AbstractList" "modCount" "I" (.int mc12) := Fld.other W28 c29 (Or.inr (slot_ne (Or.inl (H.w 30 rfl)) (Or.inl (H.w 201 rfl)) (by decide) (t := .int) (t' := .int) (by decide) (by decide)))
  have F33 : Fld G.Z h27 li "java/util/ArrayList" "elementData" "[Ljava/lang/Object;" (.ref t8) := Fld.other W28 c30 (Or.inr (slot_ne (Or.inl (H.w 33 rfl)) (Or.inl (H.w 201 rfl)) (by decide) (t := (.array (.object "java/lang/Object"))) (t' := .int) (by decide) (by decide)))
  have F34 : Fld G.Z h27 li "java/util/ArrayList" "size" "I" (.int (1 : Int32)) := Fld.same W28 c25
  have c35 := (Exa.wr W28 (Exa.wr W23 e17))
  have c36 := (Arv.other A24 W28 (Exa.neArv c26 A24 (H.w 9 rfl)).symm)
  have c37 := (Ra.keep (Ra.keep (Ra.keep R0 K10 (ninS (Exa.ne (Ra.exa R0) e1 (by decide)) nin0)) (Keep.of_wr W23) (ninS (Exa.ne c21 e17 (by decide)) nin0)) (Keep.of_wr W28) (ninS (Exa.ne (Exa.wr W23 c21) c26 (by decide)) nin0))
  refine go_return K (k := 16) rfl rfl rfl rfl ?_
  intro Sf hSf
  exact ⟨t8, k9, rfl, ((((Keep.refl _ [li]).trans K10 (allS (Or.inl (List.mem_cons_self ..)) all0)).wr W23 (Or.inr (f20))).wr W28 (Or.inl (List.mem_cons_self ..))), f20, ⟨F31, ⟨_, F32⟩, F33, F34, c35, o18, ⟨by omega, by omega⟩, ⟨g6, g19⟩, ⟨_, (set_last (k := 0) (by simp) (by decide)).1, (set_last (k := 0) (by simp) (by decide)).2, c36⟩, c37⟩⟩
def P_ad1 : List (Nat × Instr × Nat) := [(0, .aload_n 0, 1), (1, .dup, 1), (2, .getfield 63, 3), (5, .iconst 1, 1), (6, .iadd, 1), (7, .putfield 63, 3), (10, .aload_n 0, 1), (11, .aload_n 1, 1), (12, .aload_n 0, 1), (13, .getfield 9, 3), (16, .aload_n 0, 1), (17, .getfield 48, 3), (20, .invokevirtual 131, 3), (23, .iconst 1, 1), (24, .ireturn, 1)]
theorem L_ad1 : ∀ q ∈ P_ad1, decode jdk_38_method_25_code q.1 = .ok q.2 := by decide +kernel
def M_ad1 : Mt := (("java/util/ArrayList", "add", ({ frames := 4, cells := 1, slots := 10, locals := 56 } : Room)), P_ad1, 2, (some .boolean))
set_option maxRecDepth 65536 in
set_option maxHeartbeats 40000000 in
theorem c_ad10 {G : Gb} (H : Gl tables_1 els G) {h : Heap} {li : Addr} {ed : Addr} {ke : ClassId} (sE : Sta G.Z G.Z.heap "java/util/ArrayList" "DEFAULTCAPACITY_EMPTY_ELEMENTDATA" "[Ljava/lang/Object;" (.ref ed)) (aE : Arv G.Z G.Z.heap ed ke (.object "java/lang/Object") (0 : Int32) [] .null) (L0 : Al0 G h li ed) {x : Addr} {bx fx nx : Int32} {ix : Value} (R0 : Ra G h x bx fx nx ix) :
    Ctr G [] (⟨"java/util/ArrayList", "add", "(Ljava/lang/Object;)Z"⟩ : MethodName) jdk_38_method_25_code 2 (some .boolean) ({ frames := 4, cells := 1, slots := 10, locals := 56 } : Room) #[.ref li, .ref x] h [] (fun v h' Sf => ∃ (t : Addr) (kA : ClassId), v = some (.int 1) ∧ Keep h h' [li] ∧ h.size ≤ t ∧ Alk G h' li t x kA 1 bx fx nx ix) := by
  refine ctr_of M_ad1 rfl rfl (plainFor_of_name pn_7) L_ad1 H.el (Ls := #[.val (.ref li), .val (.ref x)]) (fun m => ef_ok (by show argsToLocals _ 2 = _; first | (simp [argsToLocals, Value.category]; done) | rfl)) ?_
  intro B K hE
  obtain ⟨e1, ⟨mc2, f3⟩, f4, f5, g6⟩ := id L0
  refine go_run K 0 2 (pc' := 2) (st' := [(.ref li), (.ref li)]) rfl ?_
  refine go_getfield K (k := 2) rfl (host := "") (Or.inl (H.w 226 rfl)) (Via.of (H.w 227 rfl)) f3 ?_
  refine go_run K 3 2 (pc' := 7) (st' := [(.int (mc2 + (1 : Int32))), (.ref li)]) rfl ?_
  refine go_putfield K (k := 5) rfl (host := "") (Or.inl (H.w 226 rfl)) (Via.of (H.w 227 rfl)) f3 e1 (Or.inl (H.w 30 rfl)) (H.w 9 rfl) (ty := .int) (by decide) rfl rfl g6 (Or.inr (by decide)) ?_
  intro h7 W8
  have F9 : Exa G.Z h7 li "java/util/ArrayList" := Exa.wr W8 e1
  have F10 : Fld G.Z h7 li "java/util/AbstractList" "modCount" "I" (.int (mc2 + (1 : Int32))) := Fld.same W8 f3
  have F11 : Fld G.Z h7 li "java/util/ArrayList" "elementData" "[Ljava/lang/Object;" (.ref ed) := Fld.other W8 f4 (Or.inr (slot_ne (Or.inl (H.w 33 rfl)) (Or.inl (H.w 30 rfl)) (by decide) (t := (.array (.object "java/lang/Object"))) (t' := .int) (by decide) (by decide)))
  have F12 : Fld G.Z h7 li "java/util/ArrayList" "size" "I" (.int (0 : Int32)) := Fld.other W8 f5 (Or.inr (slot_ne (Or.inl (H.w 201 rfl)) (Or.inl (H.w 30 rfl)) (by decide) (t := .int) (t' := .int) (by decide) (by decide)))
  refine go_run K 6 3 (pc' := 13) (st' := [(.ref li), (.ref x), (.ref li)]) rfl ?_
  refine go_getfield K (k := 9) rfl (host := "") (Or.inl (H.w 32 rfl)) Via.refl F11 ?_
  refine go_run K 10 1 (pc' := 17) (st' := [(.ref li), (.ref ed), (.ref x), (.ref li)]) rfl ?_
  refine go_getfield K (k := 11) rfl (host := "") (Or.inl (H.w 200 rfl)) Via.refl F12 ?_
  have L13 : Al0 G h7 li ed := ⟨F9, ⟨_, F10⟩, F11, F12, g6⟩
  have c14 := (Ra.keep R0 (Keep.of_wr W8) (ninS (Exa.ne (Ra.exa R0) e1 (by decide)) nin0))
  refine go_virt0 K (k := 12) rfl (H.w 228 rfl) (H.w 231 rfl) (H.w 229 rfl) (H.w 10 rfl) (H.w 232 rfl) (by decide) pd_19 F9 (c_ad30 H sE aE L13 c14) (argsL := [(.ref x), (.ref ed), (.int (0 : Int32))]) (rest := []) rfl rfl rfl sub0 rfl ?_
  rintro _ h15 _ - ⟨t16, k17, rfl, K18, f19, L20⟩
  show Go G B M_ad1 _ h15 [] 1 10 23 #[.val (.ref li), .val (.ref x)] []
  refine go_run K 13 1 (pc' := 24) (st' := [(.int (1 : Int32))]) rfl ?_
  refine go_ireturn K (k := 14) rfl rfl (by decide) rfl rfl rfl ?_
  intro Sf hSf
  exact ⟨t16, k17, rfl, (((Keep.refl _ [li]).wr W8 (Or.inl (List.mem_cons_self ..))).trans K18 (allS (Or.inl (List.mem_cons_self ..)) all0)), Nat.le_trans (Nat.le_of_eq (W8).size.symm) f19, L20⟩
theorem pn_11 : plainName "com/example/foyer/foyer/Layout" = true := by first | (simp [plainName, overriddenIn]; done) | decide +kernel
def P_lsz : List (Nat × Instr × Nat) := [(0, .iconst 0, 1), (1, .istore_n 1, 1), (2, .aload_n 0, 1), (3, .getfield 17, 3), (6, .invokeinterface 111 1, 5), (11, .ifCond .ne 37, 3), (14, .aload_n 0, 1), (15, .getfield 17, 3), (18, .aload_n 0, 1), (19, .getfield 17, 3), (22, .invokeinterface 114 1, 5), (27, .iconst 1, 1), (28, .isub, 1), (29, .invokeinterface 115 2, 5), (34, .checkcast 45, 3), (37, .astore_n 2, 1), (38, .aload_n 2, 1), (39, .getfield 79, 3), (42, .aload_n 2, 1), (43, .getfield 75, 3), (46, .iadd, 1), (47, .istore_n 1, 1), (48, .iload_n 1, 1), (49, .ireturn, 1)]
theorem L_lsz : ∀ q ∈ P_lsz, decode prog_33_method_9_code q.1 = .ok q.2 := by decide +kernel
def M_lsz : Mt := (("com/example/foyer/foyer/Layout", "size", ({ frames := 3, cells := 0, slots := 0, locals := 40 } : Room)), P_lsz, 3, (some .int))
set_option maxRecDepth 65536 in
set_option maxHeartbeats 40000000 in
theorem c_lsz0 {G : Gb} (H : Gl tables_1 els G) {h : Heap} {li : Addr} {ed : Addr} (L0 : Al0 G h li ed) {la pr : Addr} {ps : List Int32} (Y0 : Ly G h la li pr ps) :
    Ctr G [] (⟨"com/example/foyer/foyer/Layout", "size", "()I"⟩ : MethodName) prog_33_method_9_code 3 (some .int) ({ frames := 3, cells := 0, slots := 0, locals := 40 } : Room) #[.ref la] h [] (fun v h' Sf => v = some (.int 0) ∧ h = h') := by
  refine ctr_of M_lsz rfl rfl (plainFor_of_name pn_11) L_lsz H.el (Ls := #[.val (.ref la), .unset, .unset]) (fun m => ef_ok (by show argsToLocals _ 3 = _; first | (simp [argsToLocals, Value.category]; done) | rfl)) ?_
  intro B K hE
  obtain ⟨e1, f2, f3, s4⟩ := id Y0
  obtain ⟨e5, ⟨mc6, f7⟩, f8, f9, g10⟩ := id L0
  refine go_run K 0 2 (pc' := 2) (Ls' := #[.val (.ref la), .val (.int (0 : Int32)), .unset]) (st' := []) rfl ?_
  refine go_run K 2 1 (pc' := 3) (st' := [(.ref la)]) rfl ?_
  refine go_getfield K (k := 3) rfl (host := "") (Or.inl (H.w 46 rfl)) Via.refl f2 ?_
  refine go_interface K (k := 4) rfl (H.w 191 rfl) (H.w 192 rfl) (H.w 193 rfl) (H.w 194 rfl) (H.w 195 rfl) (H.w 196 rfl) (H.w 197 rfl) (H.w 198 rfl) (H.w 10 rfl) (H.w 199 rfl) rfl (by decide) pd_11 e5 (c_ise0 H f9) (argsL := []) (rest := []) rfl rfl rfl sub0 rfl ?_
  rintro _ _ _ - ⟨rfl, rfl⟩
  show Go G B M_lsz _ h [] 0 0 11 #[.val (.ref la), .val (.int (0 : Int32)), .unset] [(.int (1 : Int32))]
  refine go_ifne K (k := 5) rfl (pc' := 48) (by decide) (fun _ => ?_) (fun q => absurd q (by decide))
  refine go_run K 22 1 (pc' := 49) (st' := [(.int (0 : Int32))]) rfl ?_
  refine go_ireturn K (k := 23) rfl rfl (by decide) rfl rfl rfl ?_
  intro Sf hSf
  exact ⟨rfl, rfl⟩
set_option maxRecDepth 65536 in
set_option maxHeartbeats 40000000 in
theorem c_lszK {G : Gb} (H : Gl tables_1 els G) {h : Heap} {li t r : Addr} {kA : ClassId} {k : Nat} {b f n : Int32} {ini : Value} (L0 : Alk G h li t r kA k b f n ini) {la pr : Addr} {ps : List Int32} (Y0 : Ly G h la li pr ps) :
    Ctr G [] (⟨"com/example/foyer/foyer/Layout", "size", "()I"⟩ : MethodName) prog_33_method_9_code 3 (some .int) ({ frames := 3, cells := 0, slots := 0, locals := 40 } : Room) #[.ref la] h [] (fun v h' Sf => v = some (.int (b + n)) ∧ h = h') := by
  refine ctr_of M_lsz rfl rfl (plainFor_of_name pn_11) L_lsz H.el (Ls := #[.val (.ref la), .unset, .unset]) (fun m => ef_ok (by show argsToLocals _ 3 = _; first | (simp [argsToLocals, Value.category]; done) | rfl)) ?_
  intro B K hE
  obtain ⟨e1, f2, f3, s4⟩ := id Y0
  obtain ⟨e5, ⟨mc6, f7⟩, f8, f9, e10, o11, ⟨k1, k2⟩, ⟨g12, g13⟩, ⟨vs, l1, l2, A14⟩, R15⟩ := id L0
  refine go_run K 0 2 (pc' := 2) (Ls' := #[.val (.ref la), .val (.int (0 : Int32)), .unset]) (st' := []) rfl ?_
  refine go_run K 2 1 (pc' := 3) (st' := [(.ref la)]) rfl ?_
  refine go_getfield K (k := 3) rfl (host := "") (Or.inl (H.w 46 rfl)) Via.refl f2 ?_
  refine go_interface K (k := 4) rfl (H.w 191 rfl) (H.w 192 rfl) (H.w 193 rfl) (H.w 194 rfl) (H.w 195 rfl) (H.w 196 rfl) (H.w 197 rfl) (H.w 198 rfl) (H.w 10 rfl) (H.w 199 rfl) rfl (by decide) pd_11 e5 (c_iseK H k1 k2 f9) (argsL := []) (rest := []) rfl rfl rfl sub0 rfl ?_
  rintro _ _ _ - ⟨rfl, rfl⟩
  show Go G B M_lsz _ h [] 0 0 11 #[.val (.ref la), .val (.int (0 : Int32)), .unset] [(.int (0 : Int32))]
  refine go_ifne K (k := 5) rfl (pc' := 48) (by decide) (fun q => absurd rfl q) (fun _ => ?_)
  refine go_run K 6 1 (pc' := 15) (st' := [(.ref la)]) rfl ?_
  refine go_getfield K (k := 7) rfl (host := "") (Or.inl (H.w 46 rfl)) Via.refl f2 ?_
  refine go_run K 8 1 (pc' := 19) (st' := [(.ref la), (.ref li)]) rfl ?_
  refine go_getfield K (k := 9) rfl (host := "") (Or.inl (H.w 46 rfl)) Via.refl f2 ?_
  refine go_interface K (k := 10) rfl (H.w 261 rfl) (H.w 262 rfl) (H.w 263 rfl) (H.w 264 rfl) (H.w 265 rfl) (H.w 266 rfl) (H.w 267 rfl) (H.w 198 rfl) (H.w 10 rfl) (H.w 268 rfl) rfl (by decide) pd_6 e5 (c_als H f9) (argsL := []) (rest := [(.ref li)]) rfl rfl rfl sub0 rfl ?_
  rintro _ _ _ - ⟨rfl, rfl⟩
  show Go G B M_lsz _ h [] 0 0 27 #[.val (.ref la), .val (.int (0 : Int32)), .unset] [(.int k.toInt32), (.ref li)]
  refine go_run K 11 2 (pc' := 29) (st' := [(.int (k.toInt32 - (1 : Int32))), (.ref li)]) rfl ?_
  rw [show k.toInt32 - (1 : Int32) = (k - 1).toInt32 from sub_len k1]
  refine go_interface K (k := 13) rfl (H.w 269 rfl) (H.w 270 rfl) (H.w 271 rfl) (H.w 272 rfl) (H.w 273 rfl) (H.w 274 rfl) (H.w 275 rfl) (H.w 198 rfl) (H.w 10 rfl) (H.w 276 rfl) rfl (by decide) pd_16 e5 (c_alg (r := r) H f8 A14 ⟨len_nn (by omega), len_lt (n := 10) (by omega) (by omega)⟩ (by rw [len_nat (by omega)]; exact l2) f9 (len_lt (by omega) (by omega)) e5) (argsL := [(.int (k - 1).toInt32)]) (rest := []) rfl rfl rfl sub0 rfl ?_
  rintro _ _ _ - ⟨rfl, rfl⟩
  show Go G B M_lsz _ h [] 0 0 34 #[.val (.ref la), .val (.int (0 : Int32)), .unset] [(.ref r)]
  obtain ⟨f16, f17, f18, f19, f20⟩ := id R15
  refine go_cast K (k := 14) rfl (H.w 69 rfl) (Ins.self f16) ?_
  refine go_run K 15 1 (pc' := 38) (Ls' := #[.val (.ref la), .val (.int (0 : Int32)), .val (.ref r)]) (st' := []) rfl ?_
  refine go_run K 16 1 (pc' := 39) (st' := [(.ref r)]) rfl ?_
  refine go_getfieldR K (k := 17) rfl (H.w 291 rfl) f17 ?_
  refine go_run K 18 1 (pc' := 43) (st' := [(.ref r), (.int b)]) rfl ?_
  refine go_getfieldR K (k := 19) rfl (H.w 292 rfl) f19 ?_
  refine go_run K 20 2 (pc' := 48) (Ls' := #[.val (.ref la), .val (.int (b + n)), .val (.ref r)]) (st' := []) rfl ?_
  refine go_run K 22 1 (pc' := 49) (st' := [(.int (b + n))]) rfl ?_
  refine go_ireturn K (k := 23) rfl rfl (by decide) rfl rfl rfl ?_
  intro Sf hSf
  exact ⟨rfl, rfl⟩
theorem pn_12 : plainName "com/example/foyer/foyer/Layout$RegisterArray" = true := by first | (simp [plainName, overriddenIn]; done) | decide +kernel
def P_rai : List (Nat × Instr × Nat) := [(0, .aload_n 0, 1), (1, .invokespecial 1, 3), (4, .aload_n 0, 1), (5, .aload_n 1, 1), (6, .putfield 7, 3), (9, .aload_n 0, 1), (10, .iload_n 2, 1), (11, .putfield 13, 3), (14, .aload_n 0, 1), (15, .iload_n 3, 1), (16, .putfield 17, 3), (19, .aload_n 0, 1), (20, .iload 4, 2), (22, .putfield 20, 3), (25, .aload_n 0, 1), (26, .aload 5, 2), (28, .putfield 23, 3), (31, .aload_n 0, 1), (32, .iload 6, 2), (34, .putfield 27, 3), (37, .return_, 1)]
theorem L_rai : ∀ q ∈ P_rai, decode prog_34_method_1_code q.1 = .ok q.2 := by decide +kernel
def M_rai : Mt := (("com/example/foyer/foyer/Layout$RegisterArray", "<init>", ({ frames := 1, cells := 0, slots := 0, locals := 12 } : Room)), P_rai, 7, none)
set_option maxRecDepth 65536 in
set_option maxHeartbeats 40000000 in
theorem c_rai {G : Gb} (H : Gl tables_1 els G) {h : Heap} {a : Addr} {r0 : Addr} {p1 : Int32} {p2 : Int32} {p3 : Int32} {r4 : Addr} {p5 : Int32} (E0 : Exa G.Z h a "com/example/foyer/foyer/Layout$RegisterArray") (f0 : Fld G.Z h a "com/example/foyer/foyer/Layout$RegisterArray" "name" "Ljava/lang/String;" .null) (f1 : Fld G.Z h a "com/example/foyer/foyer/Layout$RegisterArray" "base" "I" (.int (0 : Int32))) (f2 : Fld G.Z h a "com/example/foyer/foyer/Layout$RegisterArray" "first" "I" (.int (0 : Int32))) (f3 : Fld G.Z h a "com/example/foyer/foyer/Layout$RegisterArray" "length" "I" (.int (0 : Int32))) (f4 : Fld G.Z h a "com/example/foyer/foyer/Layout$RegisterArray" "initial" "Ljava/util/function/IntUnaryOperator;" .null) (f5 : Fld G.Z h a "com/example/foyer/foyer/Layout$RegisterArray" "indexed" "Z" (.int (0 : Int32))) (g0 : G.Z.heap.size ≤ a) (b5 : p5 = 0 ∨ p5 = 1) :
    Ctr G [] (⟨"com/example/foyer/foyer/Layout$RegisterArray", "<init>", "(Ljava/lang/String;IIILjava/util/function/IntUnaryOperator;Z)V"⟩ : MethodName) prog_34_method_1_code 7 none ({ frames := 1, cells := 0, slots := 0, locals := 12 } : Room) #[.ref a, .ref r0, .int p1, .int p2, .int p3, .ref r4, .int p5] h [] (fun v h' Sf => v = none ∧ Keep h h' [a] ∧ Exa G.Z h' a "com/example/foyer/foyer/Layout$RegisterArray" ∧ Fld G.Z h' a "com/example/foyer/foyer/Layout$RegisterArray" "name" "Ljava/lang/String;" (.ref r0) ∧ Fld G.Z h' a "com/example/foyer/foyer/Layout$RegisterArray" "base" "I" (.int p1) ∧ Fld G.Z h' a "com/example/foyer/foyer/Layout$RegisterArray" "first" "I" (.int p2) ∧ Fld G.Z h' a "com/example/foyer/foyer/Layout$RegisterArray" "length" "I" (.int p3) ∧ Fld G.Z h' a "com/example/foyer/foyer/Layout$RegisterArray" "initial" "Ljava/util/function/IntUnaryOperator;" (.ref r4) ∧ Fld G.Z h' a "com/example/foyer/foyer/Layout$RegisterArray" "indexed" "Z" (.int p5)) := by
  refine ctr_of M_rai rfl rfl (plainFor_of_name pn_12) L_rai H.el (Ls := #[.val (.ref a), .val (.ref r0), .val (.int p1), .val (.int p2), .val (.int p3), .val (.ref r4), .val (.int p5)]) (fun m => ef_ok (by show argsToLocals _ 7 = _; first | (simp [argsToLocals, Value.category]; done) | rfl)) ?_
  intro B K hE
  refine go_run K 0 1 (pc' := 1) (st' := [(.ref a)]) rfl ?_
  refine go_init0 K (k := 1) rfl (H.w 205 rfl) (H.w 27 rfl) (H.w 28 rfl) rfl rfl rfl ?_
  refine go_run K 2 2 (pc' := 6) (st' := [(.ref r0), (.ref a)]) rfl ?_
  refine go_putfield K (k := 4) rfl (host := "") (Or.inl (H.w 206 rfl)) Via.refl f0 E0 (Or.inr ⟨(H.w 207 rfl), rfl, rfl⟩) (H.w 70 rfl) (ty := (.object "java/lang/String")) (by decide) rfl rfl g0 (Or.inr (by decide)) ?_
  intro h1 W2
  have F3 : Exa G.Z h1 a "com/example/foyer/foyer/Layout$RegisterArray" := Exa.wr W2 E0
  have F4 : Fld G.Z h1 a "com/example/foyer/foyer/Layout$RegisterArray" "name" "Ljava/lang/String;" (.ref r0) := Fld.same W2 f0
  have F5 : Fld G.Z h1 a "com/example/foyer/foyer/Layout$RegisterArray" "base" "I" (.int (0 : Int32)) := Fld.other W2 f1 (Or.inr (slot_ne (Or.inr (H.w 209 rfl)) (Or.inr (H.w 207 rfl)) (by decide) (t := .int) (t' := (.object "java/lang/String")) (by decide) (by decide)))
  have F6 : Fld G.Z h1 a "com/example/foyer/foyer/Layout$RegisterArray" "first" "I" (.int (0 : Int32)) := Fld.other W2 f2 (Or.inr (slot_ne (Or.inr (H.w 211 rfl)) (Or.inr (H.w 207 rfl)) (by decide) (t := .int) (t' := (.object "java/lang/String")) (by decide) (by decide)))
  have F7 : Fld G.Z h1 a "com/example/foyer/foyer/Layout$RegisterArray" "length" "I" (.int (0 : Int32)) := Fld.other W2 f3 (Or.inr (slot_ne (Or.inr (H.w 213 rfl)) (Or.inr (H.w 207 rfl)) (by decide) (t := .int) (t' := (.object "java/lang/String")) (by decide) (by decide)))
  have F8 : Fld G.Z h1 a "com/example/foyer/foyer/Layout$RegisterArray" "initial" "Ljava/util/function/IntUnaryOperator;" .null := Fld.other W2 f4 (Or.inr (slot_ne (Or.inr (H.w 215 rfl)) (Or.inr (H.w 207 rfl)) (by decide) (t := (.object "java/util/function/IntUnaryOperator")) (t' := (.object "java/lang/String")) (by decide) (by decide)))
  have F9 : Fld G.Z h1 a "com/example/foyer/foyer/Layout$RegisterArray" "indexed" "Z" (.int (0 : Int32)) := Fld.other W2 f5 (Or.inr (slot_ne (Or.inr (H.w 217 rfl)) (Or.inr (H.w 207 rfl)) (by decide) (t := .boolean) (t' := (.object "java/lang/String")) (by decide) (by decide)))
  refine go_run K 5 2 (pc' := 11) (st' := [(.int p1), (.ref a)]) rfl ?_
  refine go_putfield K (k := 7) rfl (host := "") (Or.inl (H.w 208 rfl)) Via.refl F5 F3 (Or.inr ⟨(H.w 209 rfl), rfl, rfl⟩) (H.w 70 rfl) (ty := .int) (by decide) rfl rfl g0 (Or.inr (by decide)) ?_
  intro h10 W11
  have F12 : Exa G.Z h10 a "com/example/foyer/foyer/Layout$RegisterArray" := Exa.wr W11 F3
  have F13 : Fld G.Z h10 a "com/example/foyer/foyer/Layout$RegisterArray" "name" "Ljava/lang/String;" (.ref r0) := Fld.other W11 F4 (Or.inr (slot_ne (Or.inr (H.w 207 rfl)) (Or.inr (H.w 209 rfl)) (by decide) (t := (.object "java/lang/String")) (t' := .int) (by decide) (by decide)))
  have F14 : Fld G.Z h10 a "com/example/foyer/foyer/Layout$RegisterArray" "base" "I" (.int p1) := Fld.same W11 F5
  have F15 : Fld G.Z h10 a "com/example/foyer/foyer/Layout$RegisterArray" "first" "I" (.int (0 : Int32)) := Fld.other W11 F6 (Or.inr (slot_ne (Or.inr (H.w 211 rfl)) (Or.inr (H.w 209 rfl)) (by decide) (t := .int) (t' := .int) (by decide) (by decide)))
  have F16 : Fld G.Z h10 a "com/example/foyer/foyer/Layout$RegisterArray" "length" "I" (.int (0 : Int32)) := Fld.other W11 F7 (Or.inr (slot_ne (Or.inr (H.w 213 rfl)) (Or.inr (H.w 209 rfl)) (by decide) (t := .int) (t' := .int) (by decide) (by decide)))
  have F17 : Fld G.Z h10 a "com/example/foyer/foyer/Layout$RegisterArray" "initial" "Ljava/util/function/IntUnaryOperator;" .null := Fld.other W11 F8 (Or.inr (slot_ne (Or.inr (H.w 215 rfl)) (Or.inr (H.w 209 rfl)) (by decide) (t := (.object "java/util/function/IntUnaryOperator")) (t' := .int) (by decide) (by decide)))
  have F18 : Fld G.Z h10 a "com/example/foyer/foyer/Layout$RegisterArray" "indexed" "Z" (.int (0 : Int32)) := Fld.other W11 F9 (Or.inr (slot_ne (Or.inr (H.w 217 rfl)) (Or.inr (H.w 209 rfl)) (by decide) (t := .boolean) (t' := .int) (by decide) (by decide)))
  refine go_run K 8 2 (pc' := 16) (st' := [(.int p2), (.ref a)]) rfl ?_
  refine go_putfield K (k := 10) rfl (host := "") (Or.inl (H.w 210 rfl)) Via.refl F15 F12 (Or.inr ⟨(H.w 211 rfl), rfl, rfl⟩) (H.w 70 rfl) (ty := .int) (by decide) rfl rfl g0 (Or.inr (by decide)) ?_
  intro h19 W20
  have F21 : Exa G.Z h19 a "com/example/foyer/foyer/Layout$RegisterArray" := Exa.wr W20 F12
  have F22 : Fld G.Z h19 a "com/example/foyer/foyer/Layout$RegisterArray" "name" "Ljava/lang/String;" (.ref r0) := Fld.other W20 F13 (Or.inr (slot_ne (Or.inr (H.w 207 rfl)) (Or.inr (H.w 211 rfl)) (by decide) (t := (.object "java/lang/String")) (t' := .int) (by decide) (by decide)))
  have F23 : Fld G.Z h19 a "com/example/foyer/foyer/Layout$RegisterArray" "base" "I" (.int p1) := Fld.other W20 F14 (Or.inr (slot_ne (Or.inr (H.w 209 rfl)) (Or.inr (H.w 211 rfl)) (by decide) (t := .int) (t' := .int) (by decide) (by decide)))
  have F24 : Fld G.Z h19 a "com/example/foyer/foyer/Layout$RegisterArray" "first" "I" (.int p2) := Fld.same W20 F15
  have F25 : Fld G.Z h19 a "com/example/foyer/foyer/Layout$RegisterArray" "length" "I" (.int (0 : Int32)) := Fld.other W20 F16 (Or.inr (slot_ne (Or.inr (H.w 213 rfl)) (Or.inr (H.w 211 rfl)) (by decide) (t := .int) (t' := .int) (by decide) (by decide)))
  have F26 : Fld G.Z h19 a "com/example/foyer/foyer/Layout$RegisterArray" "initial" "Ljava/util/function/IntUnaryOperator;" .null := Fld.other W20 F17 (Or.inr (slot_ne (Or.inr (H.w 215 rfl)) (Or.inr (H.w 211 rfl)) (by decide) (t := (.object "java/util/function/IntUnaryOperator")) (t' := .int) (by decide) (by decide)))
  have F27 : Fld G.Z h19 a "com/example/foyer/foyer/Layout$RegisterArray" "indexed" "Z" (.int (0 : Int32)) := Fld.other W20 F18 (Or.inr (slot_ne (Or.inr (H.w 217 rfl)) (Or.inr (H.w 211 rfl)) (by decide) (t := .boolean) (t' := .int) (by decide) (by decide)))
  refine go_run K 11 2 (pc' := 22) (st' := [(.int p3), (.ref a)]) rfl ?_
  refine go_putfield K (k := 13) rfl (host := "") (Or.inl (H.w 212 rfl)) Via.refl F25 F21 (Or.inr ⟨(H.w 213 rfl), rfl, rfl⟩) (H.w 70 rfl) (ty := .int) (by decide) rfl rfl g0 (Or.inr (by decide)) ?_
  intro h28 W29
  have F30 : Exa G.Z h28 a "com/example/foyer/foyer/Layout$RegisterArray" := Exa.wr W29 F21
  have F31 : Fld G.Z h28 a "com/example/foyer/foyer/Layout$RegisterArray" "name" "Ljava/lang/String;" (.ref r0) := Fld.other W29 F22 (Or.inr (slot_ne (Or.inr (H.w 207 rfl)) (Or.inr (H.w 213 rfl)) (by decide) (t := (.object "java/lang/String")) (t' := .int) (by decide) (by decide)))
  have F32 : Fld G.Z h28 a "com/example/foyer/foyer/Layout$RegisterArray" "base" "I" (.int p1) := Fld.other W29 F23 (Or.inr (slot_ne (Or.inr (H.w 209 rfl)) (Or.inr (H.w 213 rfl)) (by decide) (t := .int) (t' := .int) (by decide) (by decide)))
  have F33 : Fld G.Z h28 a "com/example/foyer/foyer/Layout$RegisterArray" "first" "I" (.int p2) := Fld.other W29 F24 (Or.inr (slot_ne (Or.inr (H.w 211 rfl)) (Or.inr (H.w 213 rfl)) (by decide) (t := .int) (t' := .int) (by decide) (by decide)))
  have F34 : Fld G.Z h28 a "com/example/foyer/foyer/Layout$RegisterArray" "length" "I" (.int p3) := Fld.same W29 F25
  have F35 : Fld G.Z h28 a "com/example/foyer/foyer/Layout$RegisterArray" "initial" "Ljava/util/function/IntUnaryOperator;" .null := Fld.other W29 F26 (Or.inr (slot_ne (Or.inr (H.w 215 rfl)) (Or.inr (H.w 213 rfl)) (by decide) (t := (.object "java/util/function/IntUnaryOperator")) (t' := .int) (by decide) (by decide)))
  have F36 : Fld G.Z h28 a "com/example/foyer/foyer/Layout$RegisterArray" "indexed" "Z" (.int (0 : Int32)) := Fld.other W29 F27 (Or.inr (slot_ne (Or.inr (H.w 217 rfl)) (Or.inr (H.w 213 rfl)) (by decide) (t := .boolean) (t' := .int) (by decide) (by decide)))
  refine go_run K 14 2 (pc' := 28) (st' := [(.ref r4), (.ref a)]) rfl ?_
  refine go_putfield K (k := 16) rfl (host := "") (Or.inl (H.w 214 rfl)) Via.refl F35 F30 (Or.inr ⟨(H.w 215 rfl), rfl, rfl⟩) (H.w 70 rfl) (ty := (.object "java/util/function/IntUnaryOperator")) (by decide) rfl rfl g0 (Or.inr (by decide)) ?_
  intro h37 W38
  have F39 : Exa G.Z h37 a "com/example/foyer/foyer/Layout$RegisterArray" := Exa.wr W38 F30
  have F40 : Fld G.Z h37 a "com/example/foyer/foyer/Layout$RegisterArray" "name" "Ljava/lang/String;" (.ref r0) := Fld.other W38 F31 (Or.inr (slot_ne (Or.inr (H.w 207 rfl)) (Or.inr (H.w 215 rfl)) (by decide) (t := (.object "java/lang/String")) (t' := (.object "java/util/function/IntUnaryOperator")) (by decide) (by decide)))
  have F41 : Fld G.Z h37 a "com/example/foyer/foyer/Layout$RegisterArray" "base" "I" (.int p1) := Fld.other W38 F32 (Or.inr (slot_ne (Or.inr (H.w 209 rfl)) (Or.inr (H.w 215 rfl)) (by decide) (t := .int) (t' := (.object "java/util/function/IntUnaryOperator")) (by decide) (by decide)))
  have F42 : Fld G.Z h37 a "com/example/foyer/foyer/Layout$RegisterArray" "first" "I" (.int p2) := Fld.other W38 F33 (Or.inr (slot_ne (Or.inr (H.w 211 rfl)) (Or.inr (H.w 215 rfl)) (by decide) (t := .int) (t' := (.object "java/util/function/IntUnaryOperator")) (by decide) (by decide)))
  have F43 : Fld G.Z h37 a "com/example/foyer/foyer/Layout$RegisterArray" "length" "I" (.int p3) := Fld.other W38 F34 (Or.inr (slot_ne (Or.inr (H.w 213 rfl)) (Or.inr (H.w 215 rfl)) (by decide) (t := .int) (t' := (.object "java/util/function/IntUnaryOperator")) (by decide) (by decide)))
  have F44 : Fld G.Z h37 a "com/example/foyer/foyer/Layout$RegisterArray" "initial" "Ljava/util/function/IntUnaryOperator;" (.ref r4) := Fld.same W38 F35
  have F45 : Fld G.Z h37 a "com/example/foyer/foyer/Layout$RegisterArray" "indexed" "Z" (.int (0 : Int32)) := Fld.other W38 F36 (Or.inr (slot_ne (Or.inr (H.w 217 rfl)) (Or.inr (H.w 215 rfl)) (by decide) (t := .boolean) (t' := (.object "java/util/function/IntUnaryOperator")) (by decide) (by decide)))
  refine go_run K 17 2 (pc' := 34) (st' := [(.int p5), (.ref a)]) rfl ?_
  refine go_putfield K (k := 19) rfl (host := "") (Or.inl (H.w 216 rfl)) Via.refl F45 F39 (Or.inr ⟨(H.w 217 rfl), rfl, rfl⟩) (H.w 70 rfl) (ty := .boolean) (by decide) (bool_n b5) (bool_f b5) g0 (Or.inr (by decide)) ?_
  intro h46 W47
  have F48 : Exa G.Z h46 a "com/example/foyer/foyer/Layout$RegisterArray" := Exa.wr W47 F39
  have F49 : Fld G.Z h46 a "com/example/foyer/foyer/Layout$RegisterArray" "name" "Ljava/lang/String;" (.ref r0) := Fld.other W47 F40 (Or.inr (slot_ne (Or.inr (H.w 207 rfl)) (Or.inr (H.w 217 rfl)) (by decide) (t := (.object "java/lang/String")) (t' := .boolean) (by decide) (by decide)))
  have F50 : Fld G.Z h46 a "com/example/foyer/foyer/Layout$RegisterArray" "base" "I" (.int p1) := Fld.other W47 F41 (Or.inr (slot_ne (Or.inr (H.w 209 rfl)) (Or.inr (H.w 217 rfl)) (by decide) (t := .int) (t' := .boolean) (by decide) (by decide)))
  have F51 : Fld G.Z h46 a "com/example/foyer/foyer/Layout$RegisterArray" "first" "I" (.int p2) := Fld.other W47 F42 (Or.inr (slot_ne (Or.inr (H.w 211 rfl)) (Or.inr (H.w 217 rfl)) (by decide) (t := .int) (t' := .boolean) (by decide) (by decide)))
  have F52 : Fld G.Z h46 a "com/example/foyer/foyer/Layout$RegisterArray" "length" "I" (.int p3) := Fld.other W47 F43 (Or.inr (slot_ne (Or.inr (H.w 213 rfl)) (Or.inr (H.w 217 rfl)) (by decide) (t := .int) (t' := .boolean) (by decide) (by decide)))
  have F53 : Fld G.Z h46 a "com/example/foyer/foyer/Layout$RegisterArray" "initial" "Ljava/util/function/IntUnaryOperator;" (.ref r4) := Fld.other W47 F44 (Or.inr (slot_ne (Or.inr (H.w 215 rfl)) (Or.inr (H.w 217 rfl)) (by decide) (t := (.object "java/util/function/IntUnaryOperator")) (t' := .boolean) (by decide) (by decide)))
  have F54 : Fld G.Z h46 a "com/example/foyer/foyer/Layout$RegisterArray" "indexed" "Z" (.int p5) := Fld.same W47 F45
  refine go_return K (k := 20) rfl rfl rfl rfl ?_
  intro Sf hSf
  exact ⟨rfl, (((((((Keep.refl _ [a]).wr W2 (Or.inl (List.mem_cons_self ..))).wr W11 (Or.inl (List.mem_cons_self ..))).wr W20 (Or.inl (List.mem_cons_self ..))).wr W29 (Or.inl (List.mem_cons_self ..))).wr W38 (Or.inl (List.mem_cons_self ..))).wr W47 (Or.inl (List.mem_cons_self ..))), F48, F49, F50, F51, F52, F53, F54⟩
def P_dec : List (Nat × Instr × Nat) := [(0, .new 45, 3), (3, .dup, 1), (4, .new 25, 3), (7, .dup, 1), (8, .invokespecial 27, 3), (11, .aload_n 0, 1), (12, .getfield 21, 3), (15, .invokevirtual 28, 3), (18, .aload_n 1, 1), (19, .invokevirtual 28, 3), (22, .invokevirtual 32, 3), (25, .aload_n 0, 1), (26, .invokevirtual 55, 3), (29, .iload_n 2, 1), (30, .iload_n 3, 1), (31, .iload_n 2, 1), (32, .isub, 1), (33, .iconst 1, 1), (34, .iadd, 1), (35, .aload 4, 2), (37, .iload 5, 2), (39, .invokespecial 119, 3), (42, .astore 6, 2), (44, .aload_n 0, 1), (45, .getfield 17, 3), (48, .aload 6, 2), (50, .invokeinterface 122 2, 5), (55, .pop, 1), (56, .aload 6, 2), (58, .areturn, 1)]
theorem L_dec : ∀ q ∈ P_dec, decode prog_33_method_10_code q.1 = .ok q.2 := by decide +kernel
def M_dec : Mt := (("com/example/foyer/foyer/Layout", "declare", ({ frames := 6, cells := 6, slots := 56, locals := 93 } : Room)), P_dec, 7, (some (.object "com/example/foyer/foyer/Layout$RegisterArray")))
set_option maxRecDepth 65536 in
set_option maxHeartbeats 40000000 in
theorem c_dec0 {G : Gb} (H : Gl tables_1 els G) {h : Heap} {li : Addr} {ed : Addr} {ke : ClassId} (sE : Sta G.Z G.Z.heap "java/util/ArrayList" "DEFAULTCAPACITY_EMPTY_ELEMENTDATA" "[Ljava/lang/Object;" (.ref ed)) (aE : Arv G.Z G.Z.heap ed ke (.object "java/lang/Object") (0 : Int32) [] .null) (L0 : Al0 G h li ed) {la pr : Addr} {ps : List Int32} (Y0 : Ly G h la li pr ps) {nm io : Addr} {p q z : Int32} {ns : List Int32} (lp : Lat ps) (ln : Lat ns) (hs : ps.length + ns.length ≤ 15) (hz : z = 0 ∨ z = 1) (N0 : Str G h nm ns) :
    Ctr G [] (⟨"com/example/foyer/foyer/Layout", "declare", "(Ljava/lang/String;IILjava/util/function/IntUnaryOperator;Z)Lcom/example/foyer/foyer/Layout$RegisterArray;"⟩ : MethodName) prog_33_method_10_code 7 (some (.object "com/example/foyer/foyer/Layout$RegisterArray")) ({ frames := 6, cells := 6, slots := 56, locals := 93 } : Room) #[.ref la, .ref nm, .int p, .int q, .ref io, .int z] h [] (fun v h' Sf => ∃ (r t : Addr) (kA : ClassId), v = some (.ref r) ∧ Keep h h' [li] ∧ h.size ≤ t ∧ Alk G h' li t r kA 1 0 p (q - p + 1) (.ref io)) := by
  refine ctr_of M_dec rfl rfl (plainFor_of_name pn_11) L_dec H.el (Ls := #[.val (.ref la), .val (.ref nm), .val (.int p), .val (.int q), .val (.ref io), .val (.int z), .unset]) (fun m => ef_ok (by show argsToLocals _ 7 = _; first | (simp [argsToLocals, Value.category]; done) | rfl)) ?_
  intro B K hE
  obtain ⟨e1, f2, f3, s4⟩ := id Y0
  refine go_new K (k := 0) rfl (H.w 69 rfl) (H.w 70 rfl) (H.w 71 rfl) rfl rfl ?_
  intro h6 a5 e7 g8 E9 A10 D11
  have F12 : Fld G.Z h6 a5 "com/example/foyer/foyer/Layout$RegisterArray" "name" "Ljava/lang/String;" .null := D11 (Or.inr (H.w 207 rfl)) (ty := (.object "java/lang/String")) (by decide)
  have F13 : Fld G.Z h6 a5 "com/example/foyer/foyer/Layout$RegisterArray" "base" "I" (.int (0 : Int32)) := D11 (Or.inr (H.w 209 rfl)) (ty := .int) (by decide)
  have F14 : Fld G.Z h6 a5 "com/example/foyer/foyer/Layout$RegisterArray" "first" "I" (.int (0 : Int32)) := D11 (Or.inr (H.w 211 rfl)) (ty := .int) (by decide)
  have F15 : Fld G.Z h6 a5 "com/example/foyer/foyer/Layout$RegisterArray" "length" "I" (.int (0 : Int32)) := D11 (Or.inr (H.w 213 rfl)) (ty := .int) (by decide)
  have F16 : Fld G.Z h6 a5 "com/example/foyer/foyer/Layout$RegisterArray" "initial" "Ljava/util/function/IntUnaryOperator;" .null := D11 (Or.inr (H.w 215 rfl)) (ty := (.object "java/util/function/IntUnaryOperator")) (by decide)
  have F17 : Fld G.Z h6 a5 "com/example/foyer/foyer/Layout$RegisterArray" "indexed" "Z" (.int (0 : Int32)) := D11 (Or.inr (H.w 217 rfl)) (ty := .boolean) (by decide)
  refine go_run K 1 1 (pc' := 4) (st' := [(.ref a5), (.ref a5)]) rfl ?_
  refine go_new K (k := 2) rfl (H.w 72 rfl) (H.w 73 rfl) (H.w 74 rfl) rfl rfl ?_
  intro h19 a18 e20 g21 E22 A23 D24
  have F25 : Fld G.Z h19 a18 "java/lang/AbstractStringBuilder" "value" "[B" .null := D24 (Or.inl (H.w 87 rfl)) (ty := (.array .byte)) (by decide)
  have F26 : Fld G.Z h19 a18 "java/lang/AbstractStringBuilder" "coder" "B" (.int (0 : Int32)) := D24 (Or.inl (H.w 89 rfl)) (ty := .byte) (by decide)
  have F27 : Fld G.Z h19 a18 "java/lang/AbstractStringBuilder" "count" "I" (.int (0 : Int32)) := D24 (Or.inl (H.w 114 rfl)) (ty := .int) (by decide)
  refine go_run K 3 1 (pc' := 8) (st' := [(.ref a18), (.ref a18), (.ref a5), (.ref a5)]) rfl ?_
  refine go_specialN K (k := 4) rfl rfl (H.w 75 rfl) (H.w 76 rfl) (H.w 74 rfl) (H.w 77 rfl) (by decide) pd_14 (c_sbi H A23 F25 F26 F27 g21) (argsL := []) (rest := [(.ref a18), (.ref a5), (.ref a5)]) rfl rfl rfl sub0 rfl ?_
  rintro _ h28 Sf36 - ⟨rfl, K29, t30, k31, B32, g33, f34, s35⟩
  refine ⟨[t30], allS s35 all0, ?_⟩
  show Go G B M_dec _ h28 (t30 :: (a18 :: (a5 :: []))) 3 26 11 #[.val (.ref la), .val (.ref nm), .val (.int p), .val (.int q), .val (.ref io), .val (.int z), .unset] [(.ref a18), (.ref a5), (.ref a5)]
  refine go_run K 5 1 (pc' := 12) (st' := [(.ref la), (.ref a18), (.ref a5), (.ref a5)]) rfl ?_
  have X37 : Ext h h19 := (Ext.tr E9 E22)
  have X38 : Ext h h28 := (Ext.keepN X37 K29 (allS (Nat.le_trans (E9).1 (Nat.le_of_eq e20.symm)) all0))
  have c39 := (f3.ext X38)
  refine go_getfield K (k := 6) rfl (host := "") (Or.inl (H.w 48 rfl)) Via.refl c39 ?_
  have c40 := (s4.ext X38)
  refine go_virt0 K (k := 7) rfl (H.w 90 rfl) (H.w 93 rfl) (H.w 92 rfl) (H.w 74 rfl) (H.w 94 rfl) (by decide) pd_20 B32.exa (c_sap H lp (by simp only [List.length_nil]; omega) B32 c40 g21 g33) (argsL := [(.ref pr)]) (rest := [(.ref a5), (.ref a5)]) rfl rfl rfl (subS (List.mem_cons_self ..) sub0) rfl ?_
  rintro _ h41 _ - ⟨rfl, K42, B43⟩
  show Go G B M_dec _ h41 (t30 :: (a18 :: (a5 :: []))) 3 26 18 #[.val (.ref la), .val (.ref nm), .val (.int p), .val (.int q), .val (.ref io), .val (.int z), .unset] [(.ref a18), (.ref a5), (.ref a5)]
  refine go_run K 8 1 (pc' := 19) (st' := [(.ref nm), (.ref a18), (.ref a5), (.ref a5)]) rfl ?_
  have X44 : Ext h h41 := (Ext.keepN X38 K42 (allS (Nat.le_trans (E9).1 (Nat.le_of_eq e20.symm)) (allS (Nat.le_trans (X37).1 f34) all0)))
  have c45 := (N0.ext X44)
  refine go_virt0 K (k := 9) rfl (H.w 90 rfl) (H.w 93 rfl) (H.w 92 rfl) (H.w 74 rfl) (H.w 94 rfl) (by decide) pd_20 B43.exa (c_sap H ln (by simp only [List.length_append, List.length_nil]; omega) B43 c45 g21 g33) (argsL := [(.ref nm)]) (rest := [(.ref a5), (.ref a5)]) rfl rfl rfl (subS (List.mem_cons_self ..) sub0) rfl ?_
  rintro _ h46 _ - ⟨rfl, K47, B48⟩
  show Go G B M_dec _ h46 (t30 :: (a18 :: (a5 :: []))) 3 26 22 #[.val (.ref la), .val (.ref nm), .val (.int p), .val (.int q), .val (.ref io), .val (.int z), .unset] [(.ref a18), (.ref a5), (.ref a5)]
  refine go_virt0 K (k := 10) rfl (H.w 140 rfl) (H.w 143 rfl) (H.w 142 rfl) (H.w 74 rfl) (H.w 144 rfl) (by decide) pd_21 B48.exa (c_sbs H (by simp only [List.length_append, List.length_nil]; omega) (by simp only [List.length_append, List.length_nil]; omega) B48) (argsL := []) (rest := [(.ref a5), (.ref a5)]) rfl rfl rfl sub0 rfl ?_
  rintro _ h49 _ - ⟨a50, rfl, E51, S52, g53⟩
  show Go G B M_dec _ h49 (t30 :: (a18 :: (a5 :: []))) 5 46 25 #[.val (.ref la), .val (.ref nm), .val (.int p), .val (.int q), .val (.ref io), .val (.int z), .unset] [(.ref a50), (.ref a5), (.ref a5)]
  refine go_run K 11 1 (pc' := 26) (st' := [(.ref la), (.ref a50), (.ref a5), (.ref a5)]) rfl ?_
  have X54 : Ext h h46 := (Ext.keepN X44 K47 (allS (Nat.le_trans (E9).1 (Nat.le_of_eq e20.symm)) (allS (Nat.le_trans (X37).1 f34) all0)))
  have X55 : Ext h h49 := (Ext.tr X54 E51)
  have c56 := (e1.ext X55)
  have c57 := (Y0.ext X55)
  have c58 := (L0.ext X55)
  refine go_virt0 K (k := 12) rfl (H.w 187 rfl) (selP (H.w 189 rfl) (H.w 188 rfl) (H.w 3 rfl) (by decide)) (H.w 188 rfl) (H.w 4 rfl) (H.w 190 rfl) (by decide) pd_6 c56 (c_lsz0 H c58 c57) (argsL := []) (rest := [(.ref a50), (.ref a5), (.ref a5)]) rfl rfl rfl sub0 rfl ?_
  rintro _ _ _ - ⟨rfl, rfl⟩
  show Go G B M_dec _ h49 (t30 :: (a18 :: (a5 :: []))) 5 46 29 #[.val (.ref la), .val (.ref nm), .val (.int p), .val (.int q), .val (.ref io), .val (.int z), .unset] [(.int (0 : Int32)), (.ref a50), (.ref a5), (.ref a5)]
  refine go_run K 13 8 (pc' := 39) (st' := [(.int z), (.ref io), (.int ((q - p) + (1 : Int32))), (.int p), (.int (0 : Int32)), (.ref a50), (.ref a5), (.ref a5)]) rfl ?_
  have X59 : Ext h6 h28 := (Ext.keepN E22 K29 (allS (Nat.le_trans (Nat.le_refl _) (Nat.le_of_eq e20.symm)) all0))
  have X60 : Ext h6 h41 := (Ext.keepN X59 K42 (allS (Nat.le_trans (Nat.le_refl _) (Nat.le_of_eq e20.symm)) (allS (Nat.le_trans (E22).1 f34) all0)))
  have X61 : Ext h6 h46 := (Ext.keepN X60 K47 (allS (Nat.le_trans (Nat.le_refl _) (Nat.le_of_eq e20.symm)) (allS (Nat.le_trans (E22).1 f34) all0)))
  have X62 : Ext h6 h49 := (Ext.tr X61 E51)
  have c63 := (A10.ext X62)
  have c64 := (F12.ext X62)
  have c65 := (F13.ext X62)
  have c66 := (F14.ext X62)
  have c67 := (F15.ext X62)
  have c68 := (F16.ext X62)
  have c69 := (F17.ext X62)
  refine go_specialR K (k := 21) rfl rfl (H.w 202 rfl) (H.w 203 rfl) (H.w 71 rfl) (H.w 204 rfl) (by decide) pd_22 (c_rai (a := a5) (r0 := a50) (p1 := (0 : Int32)) (p2 := p) (p3 := ((q - p) + (1 : Int32))) (r4 := io) (p5 := z) H c63 c64 c65 c66 c67 c68 c69 g8 hz) (argsL := [(.ref a50), (.int (0 : Int32)), (.int p), (.int ((q - p) + (1 : Int32))), (.ref io), (.int z)]) (rest := [(.ref a5)]) rfl rfl rfl sub0 rfl ?_
  rintro _ h70 _ - ⟨rfl, K71, E72, F73, F74, F75, F76, F77, F78⟩
  show Go G B M_dec _ h70 (t30 :: (a18 :: (a5 :: []))) 5 46 42 #[.val (.ref la), .val (.ref nm), .val (.int p), .val (.int q), .val (.ref io), .val (.int z), .unset] [(.ref a5)]
  refine go_run K 22 1 (pc' := 44) (Ls' := #[.val (.ref la), .val (.ref nm), .val (.int p), .val (.int q), .val (.ref io), .val (.int z), .val (.ref a5)]) (st' := []) rfl ?_
  refine go_run K 23 1 (pc' := 45) (st' := [(.ref la)]) rfl ?_
  have X79 : Ext h h70 := (Ext.keepN X55 K71 (allS (Nat.le_trans (Nat.le_refl _) (Nat.le_of_eq e7.symm)) all0))
  have c80 := (f2.ext X79)
  refine go_getfield K (k := 24) rfl (host := "") (Or.inl (H.w 46 rfl)) Via.refl c80 ?_
  refine go_run K 25 1 (pc' := 50) (st' := [(.ref a5), (.ref li)]) rfl ?_
  have R81 : Ra G h70 a5 (0 : Int32) p (q - p + 1) (.ref io) := ⟨E72, F74, F75, F76, F77⟩
  have c82 := (L0.ext X79)
  have c83 := ((Al0.exa L0).ext X79)
  refine go_interface K (k := 26) rfl (H.w 218 rfl) (H.w 219 rfl) (H.w 220 rfl) (H.w 221 rfl) (H.w 222 rfl) (H.w 223 rfl) (H.w 224 rfl) (H.w 198 rfl) (H.w 10 rfl) (H.w 225 rfl) rfl (by decide) pd_23 c83 (c_ad10 H sE aE c82 R81) (argsL := [(.ref a5)]) (rest := []) rfl rfl rfl sub0 rfl ?_
  rintro _ h84 _ - ⟨t85, k86, rfl, K87, f88, L89⟩
  show Go G B M_dec _ h84 (t30 :: (a18 :: (a5 :: []))) 6 56 55 #[.val (.ref la), .val (.ref nm), .val (.int p), .val (.int q), .val (.ref io), .val (.int z), .val (.ref a5)] [(.int (1 : Int32))]
  refine go_run K 27 2 (pc' := 58) (st' := [(.ref a5)]) rfl ?_
  refine go_areturn K (k := 29) rfl rfl rfl rfl rfl rfl rfl ?_
  intro Sf hSf
  exact ⟨a5, t85, k86, rfl, (((((((((Keep.refl _ [li]).ext E9).ext E22).trans K29 (allS (Or.inr (Nat.le_trans (E9).1 (Nat.le_of_eq e20.symm))) all0)).trans K42 (allS (Or.inr (Nat.le_trans (E9).1 (Nat.le_of_eq e20.symm))) (allS (Or.inr (Nat.le_trans (X37).1 f34)) all0))).trans K47 (allS (Or.inr (Nat.le_trans (E9).1 (Nat.le_of_eq e20.symm))) (allS (Or.inr (Nat.le_trans (X37).1 f34)) all0))).ext E51).trans K71 (allS (Or.inr (Nat.le_trans (Nat.le_refl _) (Nat.le_of_eq e7.symm))) all0)).trans K87 (allS (Or.inl (List.mem_cons_self ..)) all0)), Nat.le_trans (X79).1 f88, L89⟩
def P_ar4 : List (Nat × Instr × Nat) := [(0, .aload_n 0, 1), (1, .aload_n 1, 1), (2, .iload_n 2, 1), (3, .iload_n 3, 1), (4, .aload 4, 2), (6, .iconst 1, 1), (7, .invokevirtual 40, 3), (10, .areturn, 1)]
theorem L_ar4 : ∀ q ∈ P_ar4, decode prog_33_method_6_code q.1 = .ok q.2 := by decide +kernel
def M_ar4 : Mt := (("com/example/foyer/foyer/Layout", "array", ({ frames := 7, cells := 6, slots := 56, locals := 111 } : Room)), P_ar4, 5, (some (.object "com/example/foyer/foyer/Layout$RegisterArray")))
set_option maxRecDepth 65536 in
set_option maxHeartbeats 40000000 in
theorem c_ar40 {G : Gb} (H : Gl tables_1 els G) {h : Heap} {li : Addr} {ed : Addr} {ke : ClassId} (sE : Sta G.Z G.Z.heap "java/util/ArrayList" "DEFAULTCAPACITY_EMPTY_ELEMENTDATA" "[Ljava/lang/Object;" (.ref ed)) (aE : Arv G.Z G.Z.heap ed ke (.object "java/lang/Object") (0 : Int32) [] .null) (L0 : Al0 G h li ed) {la pr : Addr} {ps : List Int32} (Y0 : Ly G h la li pr ps) {nm io : Addr} {p q : Int32} {ns : List Int32} (lp : Lat ps) (ln : Lat ns) (hs : ps.length + ns.length ≤ 15) (N0 : Str G h nm ns) :
    Ctr G [] (⟨"com/example/foyer/foyer/Layout", "array", "(Ljava/lang/String;IILjava/util/function/IntUnaryOperator;)Lcom/example/foyer/foyer/Layout$RegisterArray;"⟩ : MethodName) prog_33_method_6_code 5 (some (.object "com/example/foyer/foyer/Layout$RegisterArray")) ({ frames := 7, cells := 6, slots := 56, locals := 111 } : Room) #[.ref la, .ref nm, .int p, .int q, .ref io] h [] (fun v h' Sf => ∃ (r t : Addr) (kA : ClassId), v = some (.ref r) ∧ Keep h h' [li] ∧ h.size ≤ t ∧ Alk G h' li t r kA 1 0 p (q - p + 1) (.ref io)) := by
  refine ctr_of M_ar4 rfl rfl (plainFor_of_name pn_11) L_ar4 H.el (Ls := #[.val (.ref la), .val (.ref nm), .val (.int p), .val (.int q), .val (.ref io)]) (fun m => ef_ok (by show argsToLocals _ 5 = _; first | (simp [argsToLocals, Value.category]; done) | rfl)) ?_
  intro B K hE
  refine go_run K 0 6 (pc' := 7) (st' := [(.int (1 : Int32)), (.ref io), (.int q), (.int p), (.ref nm), (.ref la)]) rfl ?_
  refine go_virt0 K (k := 6) rfl (H.w 65 rfl) (selP (H.w 67 rfl) (H.w 66 rfl) (H.w 3 rfl) (by decide)) (H.w 66 rfl) (H.w 4 rfl) (H.w 68 rfl) (by decide) pd_24 (Ly.exa Y0) (c_dec0 (p := p) (q := q) (io := io) (z := (1 : Int32)) H sE aE L0 Y0 lp ln hs (by decide) N0) (argsL := [(.ref nm), (.int p), (.int q), (.ref io), (.int (1 : Int32))]) (rest := []) rfl rfl rfl sub0 rfl ?_
  rintro _ h1 _ - ⟨r2, t3, k4, rfl, K5, f6, L7⟩
  show Go G B M_ar4 _ h1 [] 6 56 10 #[.val (.ref la), .val (.ref nm), .val (.int p), .val (.int q), .val (.ref io)] [(.ref r2)]
  refine go_areturn K (k := 7) rfl rfl rfl rfl rfl rfl rfl ?_
  intro Sf hSf
  exact ⟨r2, t3, k4, rfl, ((Keep.refl _ [li]).trans K5 (allS (Or.inl (List.mem_cons_self ..)) all0)), f6, L7⟩
def P_ly2 : List (Nat × Instr × Nat) := [(0, .aload_n 0, 1), (1, .invokespecial 14, 3), (4, .aload_n 0, 1), (5, .aload_n 1, 1), (6, .putfield 17, 3), (9, .aload_n 0, 1), (10, .aload_n 2, 1), (11, .putfield 21, 3), (14, .return_, 1)]
theorem L_ly2 : ∀ q ∈ P_ly2, decode prog_33_method_2_code q.1 = .ok q.2 := by decide +kernel
def M_ly2 : Mt := (("com/example/foyer/foyer/Layout", "<init>", ({ frames := 1, cells := 0, slots := 0, locals := 12 } : Room)), P_ly2, 3, none)
set_option maxRecDepth 65536 in
set_option maxHeartbeats 40000000 in
theorem c_ly2 {G : Gb} (H : Gl tables_1 els G) {h : Heap} {a : Addr} {r0 : Addr} {r1 : Addr} (E0 : Exa G.Z h a "com/example/foyer/foyer/Layout") (f0 : Fld G.Z h a "com/example/foyer/foyer/Layout" "declared" "Ljava/util/List;" .null) (f1 : Fld G.Z h a "com/example/foyer/foyer/Layout" "prefix" "Ljava/lang/String;" .null) (g0 : G.Z.heap.size ≤ a) :
    Ctr G [] (⟨"com/example/foyer/foyer/Layout", "<init>", "(Ljava/util/List;Ljava/lang/String;)V"⟩ : MethodName) prog_33_method_2_code 3 none ({ frames := 1, cells := 0, slots := 0, locals := 12 } : Room) #[.ref a, .ref r0, .ref r1] h [] (fun v h' Sf => v = none ∧ Keep h h' [a] ∧ Exa G.Z h' a "com/example/foyer/foyer/Layout" ∧ Fld G.Z h' a "com/example/foyer/foyer/Layout" "declared" "Ljava/util/List;" (.ref r0) ∧ Fld G.Z h' a "com/example/foyer/foyer/Layout" "prefix" "Ljava/lang/String;" (.ref r1)) := by
  refine ctr_of M_ly2 rfl rfl (plainFor_of_name pn_11) L_ly2 H.el (Ls := #[.val (.ref a), .val (.ref r0), .val (.ref r1)]) (fun m => ef_ok (by show argsToLocals _ 3 = _; first | (simp [argsToLocals, Value.category]; done) | rfl)) ?_
  intro B K hE
  refine go_run K 0 1 (pc' := 1) (st' := [(.ref a)]) rfl ?_
  refine go_init0 K (k := 1) rfl (H.w 45 rfl) (H.w 27 rfl) (H.w 28 rfl) rfl rfl rfl ?_
  refine go_run K 2 2 (pc' := 6) (st' := [(.ref r0), (.ref a)]) rfl ?_
  refine go_putfield K (k := 4) rfl (host := "") (Or.inl (H.w 46 rfl)) Via.refl f0 E0 (Or.inr ⟨(H.w 47 rfl), rfl, rfl⟩) (H.w 3 rfl) (ty := (.object "java/util/List")) (by decide) rfl rfl g0 (Or.inr (by decide)) ?_
  intro h1 W2
  have F3 : Exa G.Z h1 a "com/example/foyer/foyer/Layout" := Exa.wr W2 E0
  have F4 : Fld G.Z h1 a "com/example/foyer/foyer/Layout" "declared" "Ljava/util/List;" (.ref r0) := Fld.same W2 f0
  have F5 : Fld G.Z h1 a "com/example/foyer/foyer/Layout" "prefix" "Ljava/lang/String;" .null := Fld.other W2 f1 (Or.inr (slot_ne (Or.inr (H.w 49 rfl)) (Or.inr (H.w 47 rfl)) (by decide) (t := (.object "java/lang/String")) (t' := (.object "java/util/List")) (by decide) (by decide)))
  refine go_run K 5 2 (pc' := 11) (st' := [(.ref r1), (.ref a)]) rfl ?_
  refine go_putfield K (k := 7) rfl (host := "") (Or.inl (H.w 48 rfl)) Via.refl F5 F3 (Or.inr ⟨(H.w 49 rfl), rfl, rfl⟩) (H.w 3 rfl) (ty := (.object "java/lang/String")) (by decide) rfl rfl g0 (Or.inr (by decide)) ?_
  intro h6 W7
  have F8 : Exa G.Z h6 a "com/example/foyer/foyer/Layout" := Exa.wr W7 F3
  have F9 : Fld G.Z h6 a "com/example/foyer/foyer/Layout" "declared" "Ljava/util/List;" (.ref r0) := Fld.other W7 F4 (Or.inr (slot_ne (Or.inr (H.w 47 rfl)) (Or.inr (H.w 49 rfl)) (by decide) (t := (.object "java/util/List")) (t' := (.object "java/lang/String")) (by decide) (by decide)))
  have F10 : Fld G.Z h6 a "com/example/foyer/foyer/Layout" "prefix" "Ljava/lang/String;" (.ref r1) := Fld.same W7 F5
  refine go_return K (k := 8) rfl rfl rfl rfl ?_
  intro Sf hSf
  exact ⟨rfl, (((Keep.refl _ [a]).wr W2 (Or.inl (List.mem_cons_self ..))).wr W7 (Or.inl (List.mem_cons_self ..))), F8, F9, F10⟩
def P_ly0 : List (Nat × Instr × Nat) := [(0, .aload_n 0, 1), (1, .new 1, 3), (4, .dup, 1), (5, .invokespecial 3, 3), (8, .ldc 7, 2), (10, .invokespecial 9, 3), (13, .return_, 1)]
theorem L_ly0 : ∀ q ∈ P_ly0, decode prog_33_method_1_code q.1 = .ok q.2 := by decide +kernel
def M_ly0 : Mt := (("com/example/foyer/foyer/Layout", "<init>", ({ frames := 4, cells := 3, slots := 7, locals := 50 } : Room)), P_ly0, 1, none)
set_option maxRecDepth 65536 in
set_option maxHeartbeats 40000000 in
theorem c_ly0 {G : Gb} (H : Gl tables_1 els G) {h : Heap} {ed a : Addr} (sE : Sta G.Z G.Z.heap "java/util/ArrayList" "DEFAULTCAPACITY_EMPTY_ELEMENTDATA" "[Ljava/lang/Object;" (.ref ed)) (E0 : Exa G.Z h a "com/example/foyer/foyer/Layout") (f00 : Fld G.Z h a "com/example/foyer/foyer/Layout" "declared" "Ljava/util/List;" .null) (f10 : Fld G.Z h a "com/example/foyer/foyer/Layout" "prefix" "Ljava/lang/String;" .null) (g0 : G.Z.heap.size ≤ a) :
    Ctr G [] (⟨"com/example/foyer/foyer/Layout", "<init>", "()V"⟩ : MethodName) prog_33_method_1_code 1 none ({ frames := 4, cells := 3, slots := 7, locals := 50 } : Room) #[.ref a] h [] (fun v h' Sf => ∃ li pr : Addr, v = none ∧ Keep h h' [a] ∧ Ly G h' a li pr [] ∧ Al0 G h' li ed ∧ h.size ≤ li) := by
  refine ctr_of M_ly0 rfl rfl (plainFor_of_name pn_11) L_ly0 H.el (Ls := #[.val (.ref a)]) (fun m => ef_ok (by show argsToLocals _ 1 = _; first | (simp [argsToLocals, Value.category]; done) | rfl)) ?_
  intro B K hE
  refine go_run K 0 1 (pc' := 1) (st' := [(.ref a)]) rfl ?_
  refine go_new K (k := 1) rfl (H.w 8 rfl) (H.w 9 rfl) (H.w 10 rfl) rfl rfl ?_
  intro h2 a1 e3 g4 E5 A6 D7
  have F8 : Fld G.Z h2 a1 "java/util/AbstractList" "modCount" "I" (.int (0 : Int32)) := D7 (Or.inl (H.w 30 rfl)) (ty := .int) (by decide)
  have F9 : Fld G.Z h2 a1 "java/util/ArrayList" "elementData" "[Ljava/lang/Object;" .null := D7 (Or.inl (H.w 33 rfl)) (ty := (.array (.object "java/lang/Object"))) (by decide)
  have F10 : Fld G.Z h2 a1 "java/util/ArrayList" "size" "I" (.int (0 : Int32)) := D7 (Or.inl (H.w 201 rfl)) (ty := .int) (by decide)
  refine go_run K 2 1 (pc' := 5) (st' := [(.ref a1), (.ref a1), (.ref a)]) rfl ?_
  refine go_special K (k := 3) rfl rfl (H.w 11 rfl) (H.w 12 rfl) (H.w 10 rfl) (H.w 13 rfl) (by decide) pd_14 (c_ali H sE A6 F8 F9 F10 g4) (argsL := []) (rest := [(.ref a1), (.ref a)]) rfl rfl rfl sub0 rfl ?_
  rintro _ h11 _ - ⟨rfl, K12, L13⟩
  show Go G B M_ly0 _ h11 (a1 :: []) 1 3 8 #[.val (.ref a)] [(.ref a1), (.ref a)]
  refine go_ldcT K (k := 4) rfl (H.w 34 rfl) H.ws (H.mem (by decide)) (cs := []) (by decide) (by decide) (n := 0) rfl rfl rfl rfl ?_
  intro h15 a14 E16 S17
  have X18 : Ext h h11 := (Ext.keepN E5 K12 (allS (Nat.le_trans (Nat.le_refl _) (Nat.le_of_eq e3.symm)) all0))
  have X19 : Ext h h15 := (Ext.tr X18 E16)
  have c20 := (E0.ext X19)
  have c21 := (f00.ext X19)
  have c22 := (f10.ext X19)
  refine go_special K (k := 5) rfl rfl (H.w 42 rfl) (H.w 43 rfl) (H.w 4 rfl) (H.w 44 rfl) (by decide) pd_25 (c_ly2 (a := a) (r0 := a1) (r1 := a14) H c20 c21 c22 g0) (argsL := [(.ref a1), (.ref a14)]) (rest := []) rfl rfl rfl sub0 rfl ?_
  rintro _ h23 _ - ⟨rfl, K24, E25, F26, F27⟩
  show Go G B M_ly0 _ h23 (a1 :: []) 3 7 13 #[.val (.ref a)] []
  have c28 := (Str.keepAp S17 K24 (allS (Ap.of_exa c20 (by decide) (H.w 3 rfl)) all0))
  have c29 := (Al0.keep (L13.ext E16) K24 (ninS (Exa.ne ((Al0.exa L13).ext E16) c20 (by decide)) nin0))
  refine go_return K (k := 6) rfl rfl rfl rfl ?_
  intro Sf hSf
  exact ⟨a1, a14, rfl, (((((Keep.refl _ [a]).ext E5).trans K12 (allS (Or.inr (Nat.le_trans (Nat.le_refl _) (Nat.le_of_eq e3.symm))) all0)).ext E16).trans K24 (allS (Or.inl (List.mem_cons_self ..)) all0)), ⟨E25, F26, F27, c28⟩, c29, Nat.le_trans (Nat.le_refl _) (Nat.le_of_eq e3.symm)⟩
abbrev sg_ar : Lambda.Shape := (Lambda.Shape.mk "java/util/function/IntUnaryOperator" "applyAsInt" (MethodDescriptor.mk ([FieldType.int] : List FieldType) (Option.some FieldType.int)) ([FieldType.int] : List FieldType) 6 "com/example/foyer/foyer/Layout" "lambda$array$1" (MethodDescriptor.mk ([FieldType.int, FieldType.int] : List FieldType) (Option.some FieldType.int)) false (MethodDescriptor.mk ([FieldType.int] : List FieldType) (Option.some FieldType.int)))
theorem cap_ar : LamKit.capOK sg_ar "com/example/foyer/foyer/Layout" 15 0 = true := by decide +kernel
def fc_ar : ByteArray := ⟨#[0x2a, 0xb4, 0x00, 0x0f, 0x1b, 0xb8, 0x00, 0x17, 0xac]⟩
theorem fwd_ar : LamKit.fwdOK sg_ar "com/example/foyer/foyer/Layout" fc_ar 2 (some .int) 23 19 = true := by decide +kernel
theorem fa_0 : decode fc_ar 0 = .ok (.aload_n 0, 1) := by decide +kernel
theorem fa_1 : decode fc_ar 1 = .ok (.getfield 15, 3) := by decide +kernel
theorem fa_4 : decode fc_ar 4 = .ok (.iload_n 1, 1) := by decide +kernel
theorem fa_5 : decode fc_ar 5 = .ok (.invokestatic 23, 3) := by decide +kernel
theorem fa_8 : decode fc_ar 8 = .ok (.ireturn, 1) := by decide +kernel
theorem ta_0 : decode prog_33_method_12_code 0 = .ok (.iload_n 0, 1) := by decide +kernel
theorem ta_1 : decode prog_33_method_12_code 1 = .ok (.ireturn, 1) := by decide +kernel
theorem hx_ar : ((⟨"java/util/function/IntUnaryOperator", "applyAsInt", "(I)I"⟩ : MethodName).cls = sg_ar.iface ∧ (⟨"java/util/function/IntUnaryOperator", "applyAsInt", "(I)I"⟩ : MethodName).name = sg_ar.name ∧ (⟨"java/util/function/IntUnaryOperator", "applyAsInt", "(I)I"⟩ : MethodName).desc = sg_ar.sam.toString) := by decide +kernel
theorem hy_ar : ((⟨"com/example/foyer/foyer/Layout", "lambda$array$1", "(II)I"⟩ : MethodName).cls = sg_ar.implClass ∧ (⟨"com/example/foyer/foyer/Layout", "lambda$array$1", "(II)I"⟩ : MethodName).name = sg_ar.implName ∧ (⟨"com/example/foyer/foyer/Layout", "lambda$array$1", "(II)I"⟩ : MethodName).desc = sg_ar.implDesc.toString) := by decide +kernel
def P_ar3 : List (Nat × Instr × Nat) := [(0, .aload_n 0, 1), (1, .aload_n 1, 1), (2, .iload_n 2, 1), (3, .iload_n 3, 1), (4, .iload 4, 2), (6, .invokedynamic 50, 5), (11, .invokevirtual 51, 3), (14, .areturn, 1)]
theorem L_ar3 : ∀ q ∈ P_ar3, decode prog_33_method_5_code q.1 = .ok q.2 := by decide +kernel
def M_ar3 : Mt := (("com/example/foyer/foyer/Layout", "array", ({ frames := 8, cells := 7, slots := 57, locals := 3077 } : Room)), P_ar3, 5, (some (.object "com/example/foyer/foyer/Layout$RegisterArray")))
set_option maxRecDepth 65536 in
set_option maxHeartbeats 40000000 in
theorem c_ar3 {G : Gb} (H : Gl tables_1 els G) {h : Heap} {li : Addr} {ed : Addr} {ke : ClassId} (sE : Sta G.Z G.Z.heap "java/util/ArrayList" "DEFAULTCAPACITY_EMPTY_ELEMENTDATA" "[Ljava/lang/Object;" (.ref ed)) (aE : Arv G.Z G.Z.heap ed ke (.object "java/lang/Object") (0 : Int32) [] .null) (L0 : Al0 G h li ed) {la pr : Addr} {ps : List Int32} (Y0 : Ly G h la li pr ps) {nm : Addr} {p q iv : Int32} {ns : List Int32} (lp : Lat ps) (ln : Lat ns) (hs : ps.length + ns.length ≤ 15) (N0 : Str G h nm ns) :
    Ctr G [] (⟨"com/example/foyer/foyer/Layout", "array", "(Ljava/lang/String;III)Lcom/example/foyer/foyer/Layout$RegisterArray;"⟩ : MethodName) prog_33_method_5_code 5 (some (.object "com/example/foyer/foyer/Layout$RegisterArray")) ({ frames := 8, cells := 7, slots := 57, locals := 3077 } : Room) #[.ref la, .ref nm, .int p, .int q, .int iv] h [] (fun v h' Sf => ∃ (r t io : Addr) (kA : ClassId), v = some (.ref r) ∧ Keep h h' [li] ∧ h.size ≤ t ∧ Alk G h' li t r kA 1 0 p (q - p + 1) (.ref io) ∧ Lam G h' io "com/example/foyer/foyer/Layout" sg_ar [.int iv]) := by
  refine ctr_ofL M_ar3 rfl rfl (plainFor_of_name pn_11) L_ar3 H.el (Ls := #[.val (.ref la), .val (.ref nm), .val (.int p), .val (.int q), .val (.int iv)]) (fun m => ef_ok (by show argsToLocals _ 5 = _; first | (simp [argsToLocals, Value.category]; done) | rfl)) ?_
  intro B K hE hB
  refine go_run K 0 5 (pc' := 6) (st' := [(.int iv), (.int q), (.int p), (.ref nm), (.ref la)]) rfl ?_
  refine go_lambda K (k := 5) rfl (y := (⟨"com/example/foyer/foyer/Layout", "array", "(Ljava/lang/String;III)Lcom/example/foyer/foyer/Layout$RegisterArray;"⟩ : MethodName)) (fi := 15) (σ := sg_ar) (vals := [(.int iv)]) (rest := [(.int q), (.int p), (.ref nm), (.ref la)]) (n := 1) hB (H.w 56 rfl) (H.w 59 rfl) (by decide) cap_ar rfl rfl rfl cap1 rfl rfl rfl rfl ?_
  intro h2 a1 e3 g4 E5 Lm6
  have c7 := ((Ly.exa Y0).ext E5)
  have c8 := (Y0.ext E5)
  have c9 := (L0.ext E5)
  have c10 := (N0.ext E5)
  refine go_virt0 K (k := 6) rfl (H.w 60 rfl) (H.w 63 rfl) (H.w 62 rfl) (H.w 4 rfl) (H.w 64 rfl) (by decide) pd_26 c7 (c_ar40 (p := p) (q := q) (io := a1) H sE aE c9 c8 lp ln hs c10) (argsL := [(.ref nm), (.int p), (.int q), (.ref a1)]) (rest := []) rfl rfl rfl sub0 rfl ?_
  rintro _ h11 _ - ⟨r12, t13, k14, rfl, K15, f16, L17⟩
  show Go G B M_ar3 _ h11 (a1 :: []) 7 57 14 #[.val (.ref la), .val (.ref nm), .val (.int p), .val (.int q), .val (.int iv)] [(.ref r12)]
  have c18 := (Lam.keep Lm6 K15 (ninS (Nat.ne_of_gt (Nat.lt_of_lt_of_le (Al0.exa L0).lt (Nat.le_of_eq e3.symm))) nin0))
  refine go_areturn K (k := 7) rfl rfl rfl rfl rfl rfl rfl ?_
  intro Sf hSf
  exact ⟨r12, t13, a1, k14, rfl, (((Keep.refl _ [li]).ext E5).trans K15 (allS (Or.inl (List.mem_cons_self ..)) all0)), Nat.le_trans (E5).1 f16, L17, c18⟩
theorem pn_13 : plainName "java/util/ArrayList$Itr" = true := by first | (simp [plainName, overriddenIn]; done) | decide +kernel
def P_iti : List (Nat × Instr × Nat) := [(0, .aload_n 0, 1), (1, .aload_n 1, 1), (2, .putfield 1, 3), (5, .aload_n 0, 1), (6, .invokespecial 7, 3), (9, .aload_n 0, 1), (10, .iconst (-1), 1), (11, .putfield 13, 3), (14, .aload_n 0, 1), (15, .aload_n 0, 1), (16, .getfield 1, 3), (19, .getfield 17, 3), (22, .putfield 22, 3), (25, .return_, 1)]
theorem L_iti : ∀ q ∈ P_iti, decode jdk_49_method_1_code q.1 = .ok q.2 := by decide +kernel
def M_iti : Mt := (("java/util/ArrayList$Itr", "<init>", ({ frames := 1, cells := 0, slots := 0, locals := 12 } : Room)), P_iti, 2, none)
set_option maxRecDepth 65536 in
set_option maxHeartbeats 40000000 in
theorem c_iti {G : Gb} (H : Gl tables_1 els G) {h : Heap} {a li : Addr} {mc : Int32} (E0 : Exa G.Z h a "java/util/ArrayList$Itr") (f00 : Fld G.Z h a "java/util/ArrayList$Itr" "this$0" "Ljava/util/ArrayList;" .null) (f10 : Fld G.Z h a "java/util/ArrayList$Itr" "cursor" "I" (.int (0 : Int32))) (f20 : Fld G.Z h a "java/util/ArrayList$Itr" "lastRet" "I" (.int (0 : Int32))) (f30 : Fld G.Z h a "java/util/ArrayList$Itr" "expectedModCount" "I" (.int (0 : Int32))) (g0 : G.Z.heap.size ≤ a) (X0 : Exa G.Z h li "java/util/ArrayList") (m00 : Fld G.Z h li "java/util/AbstractList" "modCount" "I" (.int mc)) :
    Ctr G [] (⟨"java/util/ArrayList$Itr", "<init>", "(Ljava/util/ArrayList;)V"⟩ : MethodName) jdk_49_method_1_code 2 none ({ frames := 1, cells := 0, slots := 0, locals := 12 } : Room) #[.ref a, .ref li] h [] (fun v h' Sf => v = none ∧ Keep h h' [a] ∧ Exa G.Z h' a "java/util/ArrayList$Itr" ∧ Fld G.Z h' a "java/util/ArrayList$Itr" "this$0" "Ljava/util/ArrayList;" (.ref li) ∧ Fld G.Z h' a "java/util/ArrayList$Itr" "cursor" "I" (.int 0) ∧ Fld G.Z h' a "java/util/ArrayList$Itr" "lastRet" "I" (.int (-1)) ∧ Fld G.Z h' a "java/util/ArrayList$Itr" "expectedModCount" "I" (.int mc)) := by
  refine ctr_of M_iti rfl rfl (plainFor_of_name pn_13) L_iti H.el (Ls := #[.val (.ref a), .val (.ref li)]) (fun m => ef_ok (by show argsToLocals _ 2 = _; first | (simp [argsToLocals, Value.category]; done) | rfl)) ?_
  intro B K hE
  refine go_run K 0 2 (pc' := 2) (st' := [(.ref li), (.ref a)]) rfl ?_
  refine go_putfield K (k := 2) rfl (host := "") (Or.inl (H.w 308 rfl)) Via.refl f00 E0 (Or.inr ⟨(H.w 309 rfl), rfl, rfl⟩) (H.w 302 rfl) (ty := (.object "java/util/ArrayList")) (by decide) rfl rfl g0 (Or.inr (by decide)) ?_
  intro h1 W2
  have F3 : Exa G.Z h1 a "java/util/ArrayList$Itr" := Exa.wr W2 E0
  have F4 : Fld G.Z h1 a "java/util/ArrayList$Itr" "this$0" "Ljava/util/ArrayList;" (.ref li) := Fld.same W2 f00
  have F5 : Fld G.Z h1 a "java/util/ArrayList$Itr" "cursor" "I" (.int (0 : Int32)) := Fld.other W2 f10 (Or.inr (slot_ne (Or.inl (H.w 326 rfl)) (Or.inr (H.w 309 rfl)) (by decide) (t := .int) (t' := (.object "java/util/ArrayList")) (by decide) (by decide)))
  have F6 : Fld G.Z h1 a "java/util/ArrayList$Itr" "lastRet" "I" (.int (0 : Int32)) := Fld.other W2 f20 (Or.inr (slot_ne (Or.inl (H.w 312 rfl)) (Or.inr (H.w 309 rfl)) (by decide) (t := .int) (t' := (.object "java/util/ArrayList")) (by decide) (by decide)))
  have F7 : Fld G.Z h1 a "java/util/ArrayList$Itr" "expectedModCount" "I" (.int (0 : Int32)) := Fld.other W2 f30 (Or.inr (slot_ne (Or.inl (H.w 315 rfl)) (Or.inr (H.w 309 rfl)) (by decide) (t := .int) (t' := (.object "java/util/ArrayList")) (by decide) (by decide)))
  refine go_run K 3 1 (pc' := 6) (st' := [(.ref a)]) rfl ?_
  refine go_init0 K (k := 4) rfl (H.w 310 rfl) (H.w 27 rfl) (H.w 28 rfl) rfl rfl rfl ?_
  refine go_run K 5 2 (pc' := 11) (st' := [(.int (-1 : Int32)), (.ref a)]) rfl ?_
  refine go_putfield K (k := 7) rfl (host := "") (Or.inl (H.w 311 rfl)) Via.refl F6 F3 (Or.inl (H.w 312 rfl)) (H.w 302 rfl) (ty := .int) (by decide) rfl rfl g0 (Or.inr (by decide)) ?_
  intro h8 W9
  have F10 : Exa G.Z h8 a "java/util/ArrayList$Itr" := Exa.wr W9 F3
  have F11 : Fld G.Z h8 a "java/util/ArrayList$Itr" "this$0" "Ljava/util/ArrayList;" (.ref li) := Fld.other W9 F4 (Or.inr (slot_ne (Or.inr (H.w 309 rfl)) (Or.inl (H.w 312 rfl)) (by decide) (t := (.object "java/util/ArrayList")) (t' := .int) (by decide) (by decide)))
  have F12 : Fld G.Z h8 a "java/util/ArrayList$Itr" "cursor" "I" (.int (0 : Int32)) := Fld.other W9 F5 (Or.inr (slot_ne (Or.inl (H.w 326 rfl)) (Or.inl (H.w 312 rfl)) (by decide) (t := .int) (t' := .int) (by decide) (by decide)))
  have F13 : Fld G.Z h8 a "java/util/ArrayList$Itr" "lastRet" "I" (.int (-1 : Int32)) := Fld.same W9 F6
  have F14 : Fld G.Z h8 a "java/util/ArrayList$Itr" "expectedModCount" "I" (.int (0 : Int32)) := Fld.other W9 F7 (Or.inr (slot_ne (Or.inl (H.w 315 rfl)) (Or.inl (H.w 312 rfl)) (by decide) (t := .int) (t' := .int) (by decide) (by decide)))
  refine go_run K 8 2 (pc' := 16) (st' := [(.ref a), (.ref a)]) rfl ?_
  refine go_getfield K (k := 10) rfl (host := "") (Or.inl (H.w 308 rfl)) Via.refl F11 ?_
  have c15 := (Fld.other W9 (Fld.other W2 m00 (Or.inl (Exa.ne X0 E0 (by decide)))) (Or.inl (Exa.ne (Exa.wr W2 X0) F3 (by decide))))
  refine go_getfield K (k := 11) rfl (host := "") (Or.inl (H.w 313 rfl)) (Via.of (H.w 227 rfl)) c15 ?_
  refine go_putfield K (k := 12) rfl (host := "") (Or.inl (H.w 314 rfl)) Via.refl F14 F10 (Or.inl (H.w 315 rfl)) (H.w 302 rfl) (ty := .int) (by decide) rfl rfl g0 (Or.inr (by decide)) ?_
  intro h16 W17
  have F18 : Exa G.Z h16 a "java/util/ArrayList$Itr" := Exa.wr W17 F10
  have F19 : Fld G.Z h16 a "java/util/ArrayList$Itr" "this$0" "Ljava/util/ArrayList;" (.ref li) := Fld.other W17 F11 (Or.inr (slot_ne (Or.inr (H.w 309 rfl)) (Or.inl (H.w 315 rfl)) (by decide) (t := (.object "java/util/ArrayList")) (t' := .int) (by decide) (by decide)))
  have F20 : Fld G.Z h16 a "java/util/ArrayList$Itr" "cursor" "I" (.int (0 : Int32)) := Fld.other W17 F12 (Or.inr (slot_ne (Or.inl (H.w 326 rfl)) (Or.inl (H.w 315 rfl)) (by decide) (t := .int) (t' := .int) (by decide) (by decide)))
  have F21 : Fld G.Z h16 a "java/util/ArrayList$Itr" "lastRet" "I" (.int (-1 : Int32)) := Fld.other W17 F13 (Or.inr (slot_ne (Or.inl (H.w 312 rfl)) (Or.inl (H.w 315 rfl)) (by decide) (t := .int) (t' := .int) (by decide) (by decide)))
  have F22 : Fld G.Z h16 a "java/util/ArrayList$Itr" "expectedModCount" "I" (.int mc) := Fld.same W17 F14
  refine go_return K (k := 13) rfl rfl rfl rfl ?_
  intro Sf hSf
  exact ⟨rfl, ((((Keep.refl _ [a]).wr W2 (Or.inl (List.mem_cons_self ..))).wr W9 (Or.inl (List.mem_cons_self ..))).wr W17 (Or.inl (List.mem_cons_self ..))), F18, F19, F20, F21, F22⟩
def P_itr : List (Nat × Instr × Nat) := [(0, .new 267, 3), (3, .dup, 1), (4, .aload_n 0, 1), (5, .invokespecial 269, 3), (8, .areturn, 1)]
theorem L_itr : ∀ q ∈ P_itr, decode jdk_38_method_55_code q.1 = .ok q.2 := by decide +kernel
def M_itr : Mt := (("java/util/ArrayList", "iterator", ({ frames := 2, cells := 1, slots := 4, locals := 26 } : Room)), P_itr, 1, (some (.object "java/util/Iterator")))
set_option maxRecDepth 65536 in
set_option maxHeartbeats 40000000 in
theorem c_itr {G : Gb} (H : Gl tables_1 els G) {h : Heap} {li : Addr} {mc : Int32} (X0 : Exa G.Z h li "java/util/ArrayList") (m00 : Fld G.Z h li "java/util/AbstractList" "modCount" "I" (.int mc)) :
    Ctr G [] (⟨"java/util/ArrayList", "iterator", "()Ljava/util/Iterator;"⟩ : MethodName) jdk_38_method_55_code 1 (some (.object "java/util/Iterator")) ({ frames := 2, cells := 1, slots := 4, locals := 26 } : Room) #[.ref li] h [] (fun v h' Sf => ∃ a : Addr, v = some (.ref a) ∧ Ext h h' ∧ Exa G.Z h' a "java/util/ArrayList$Itr" ∧ Fld G.Z h' a "java/util/ArrayList$Itr" "this$0" "Ljava/util/ArrayList;" (.ref li) ∧ Fld G.Z h' a "java/util/ArrayList$Itr" "cursor" "I" (.int 0) ∧ Fld G.Z h' a "java/util/ArrayList$Itr" "lastRet" "I" (.int (-1)) ∧ Fld G.Z h' a "java/util/ArrayList$Itr" "expectedModCount" "I" (.int mc) ∧ G.Z.heap.size ≤ a ∧ h.size ≤ a) := by
  refine ctr_of M_itr rfl rfl (plainFor_of_name pn_7) L_itr H.el (Ls := #[.val (.ref li)]) (fun m => ef_ok (by show argsToLocals _ 1 = _; first | (simp [argsToLocals, Value.category]; done) | rfl)) ?_
  intro B K hE
  refine go_new K (k := 0) rfl (H.w 301 rfl) (H.w 302 rfl) (H.w 303 rfl) rfl rfl ?_
  intro h2 a1 e3 g4 E5 A6 D7
  have F8 : Fld G.Z h2 a1 "java/util/ArrayList$Itr" "this$0" "Ljava/util/ArrayList;" .null := D7 (Or.inr (H.w 309 rfl)) (ty := (.object "java/util/ArrayList")) (by decide)
  have F9 : Fld G.Z h2 a1 "java/util/ArrayList$Itr" "lastRet" "I" (.int (0 : Int32)) := D7 (Or.inl (H.w 312 rfl)) (ty := .int) (by decide)
  have F10 : Fld G.Z h2 a1 "java/util/ArrayList$Itr" "expectedModCount" "I" (.int (0 : Int32)) := D7 (Or.inl (H.w 315 rfl)) (ty := .int) (by decide)
  have F11 : Fld G.Z h2 a1 "java/util/ArrayList$Itr" "cursor" "I" (.int (0 : Int32)) := D7 (Or.inl (H.w 326 rfl)) (ty := .int) (by decide)
  refine go_run K 1 2 (pc' := 5) (st' := [(.ref li), (.ref a1), (.ref a1)]) rfl ?_
  have c12 := (X0.ext E5)
  have c13 := (m00.ext E5)
  refine go_special K (k := 3) rfl rfl (H.w 304 rfl) (H.w 305 rfl) (H.w 303 rfl) (H.w 307 rfl) (by decide) pd_27 (c_iti H A6 F8 F11 F9 F10 g4 c12 c13) (argsL := [(.ref li)]) (rest := [(.ref a1)]) rfl rfl rfl sub0 rfl ?_
  rintro _ h14 _ - ⟨rfl, K15, E16, F17, F18, F19, F20⟩
  show Go G B M_itr _ h14 (a1 :: []) 1 4 8 #[.val (.ref li)] [(.ref a1)]
  have X21 : Ext h h14 := (Ext.keepN E5 K15 (allS (Nat.le_trans (Nat.le_refl _) (Nat.le_of_eq e3.symm)) all0))
  refine go_areturn K (k := 4) rfl rfl rfl rfl rfl rfl rfl ?_
  intro Sf hSf
  exact ⟨a1, rfl, X21, E16, F17, F18, F19, F20, g4, Nat.le_trans (Nat.le_refl _) (Nat.le_of_eq e3.symm)⟩
def P_hn : List (Nat × Instr × Nat) := [(0, .aload_n 0, 1), (1, .getfield 25, 3), (4, .aload_n 0, 1), (5, .getfield 1, 3), (8, .getfield 28, 3), (11, .if_icmp .eq 7, 3), (14, .iconst 1, 1), (15, .goto 4, 3), (18, .iconst 0, 1), (19, .ireturn, 1)]
theorem L_hn : ∀ q ∈ P_hn, decode jdk_49_method_2_code q.1 = .ok q.2 := by decide +kernel
def M_hn : Mt := (("java/util/ArrayList$Itr", "hasNext", ({ frames := 0, cells := 0, slots := 0, locals := 0 } : Room)), P_hn, 1, (some .boolean))
set_option maxRecDepth 65536 in
set_option maxHeartbeats 40000000 in
theorem c_hnY {G : Gb} (H : Gl tables_1 els G) {h : Heap} {a li : Addr} {c m : Int32} (hc : ¬ c = m) (f00 : Fld G.Z h a "java/util/ArrayList$Itr" "this$0" "Ljava/util/ArrayList;" (.ref li)) (f10 : Fld G.Z h a "java/util/ArrayList$Itr" "cursor" "I" (.int c)) (s00 : Fld G.Z h li "java/util/ArrayList" "size" "I" (.int m)) :
    Ctr G [] (⟨"java/util/ArrayList$Itr", "hasNext", "()Z"⟩ : MethodName) jdk_49_method_2_code 1 (some .boolean) ({ frames := 0, cells := 0, slots := 0, locals := 0 } : Room) #[.ref a] h [] (fun v h' Sf => v = some (.int 1) ∧ h = h') := by
  refine ctr_of M_hn rfl rfl (plainFor_of_name pn_13) L_hn H.el (Ls := #[.val (.ref a)]) (fun m => ef_ok (by show argsToLocals _ 1 = _; first | (simp [argsToLocals, Value.category]; done) | rfl)) ?_
  intro B K hE
  refine go_run K 0 1 (pc' := 1) (st' := [(.ref a)]) rfl ?_
  refine go_getfield K (k := 1) rfl (host := "") (Or.inl (H.w 325 rfl)) Via.refl f10 ?_
  refine go_run K 2 1 (pc' := 5) (st' := [(.ref a), (.int c)]) rfl ?_
  refine go_getfield K (k := 3) rfl (host := "") (Or.inl (H.w 308 rfl)) Via.refl f00 ?_
  refine go_getfield K (k := 4) rfl (host := "java/util/ArrayList") (Or.inr (H.w 327 rfl)) Via.refl s00 ?_
  refine go_icmpeq K (k := 5) rfl (pc' := 18) (by decide) (fun q => absurd q hc) (fun _ => ?_)
  refine go_run K 6 2 (pc' := 19) (st' := [(.int (1 : Int32))]) rfl ?_
  refine go_ireturn K (k := 9) rfl rfl (by decide) rfl rfl rfl ?_
  intro Sf hSf
  exact ⟨rfl, rfl⟩
set_option maxRecDepth 65536 in
set_option maxHeartbeats 40000000 in
theorem c_hnN {G : Gb} (H : Gl tables_1 els G) {h : Heap} {a li : Addr} {c m : Int32} (hc : c = m) (f00 : Fld G.Z h a "java/util/ArrayList$Itr" "this$0" "Ljava/util/ArrayList;" (.ref li)) (f10 : Fld G.Z h a "java/util/ArrayList$Itr" "cursor" "I" (.int c)) (s00 : Fld G.Z h li "java/util/ArrayList" "size" "I" (.int m)) :
    Ctr G [] (⟨"java/util/ArrayList$Itr", "hasNext", "()Z"⟩ : MethodName) jdk_49_method_2_code 1 (some .boolean) ({ frames := 0, cells := 0, slots := 0, locals := 0 } : Room) #[.ref a] h [] (fun v h' Sf => v = some (.int 0) ∧ h = h') := by
  refine ctr_of M_hn rfl rfl (plainFor_of_name pn_13) L_hn H.el (Ls := #[.val (.ref a)]) (fun m => ef_ok (by show argsToLocals _ 1 = _; first | (simp [argsToLocals, Value.category]; done) | rfl)) ?_
  intro B K hE
  refine go_run K 0 1 (pc' := 1) (st' := [(.ref a)]) rfl ?_
  refine go_getfield K (k := 1) rfl (host := "") (Or.inl (H.w 325 rfl)) Via.refl f10 ?_
  refine go_run K 2 1 (pc' := 5) (st' := [(.ref a), (.int c)]) rfl ?_
  refine go_getfield K (k := 3) rfl (host := "") (Or.inl (H.w 308 rfl)) Via.refl f00 ?_
  refine go_getfield K (k := 4) rfl (host := "java/util/ArrayList") (Or.inr (H.w 327 rfl)) Via.refl s00 ?_
  refine go_icmpeq K (k := 5) rfl (pc' := 18) (by decide) (fun _ => ?_) (fun q => absurd hc q)
  refine go_run K 8 1 (pc' := 19) (st' := [(.int (0 : Int32))]) rfl ?_
  refine go_ireturn K (k := 9) rfl rfl (by decide) rfl rfl rfl ?_
  intro Sf hSf
  exact ⟨rfl, rfl⟩
def P_cfc : List (Nat × Instr × Nat) := [(0, .aload_n 0, 1), (1, .getfield 1, 3), (4, .getfield 17, 3), (7, .aload_n 0, 1), (8, .getfield 22, 3), (11, .if_icmp .eq 11, 3), (14, .new 41, 3), (17, .dup, 1), (18, .invokespecial 43, 3), (21, .athrow, 1), (22, .return_, 1)]
theorem L_cfc : ∀ q ∈ P_cfc, decode jdk_49_method_6_code q.1 = .ok q.2 := by decide +kernel
def M_cfc : Mt := (("java/util/ArrayList$Itr", "checkForComodification", ({ frames := 0, cells := 0, slots := 0, locals := 0 } : Room)), P_cfc, 1, none)
set_option maxRecDepth 65536 in
set_option maxHeartbeats 40000000 in
theorem c_cfc {G : Gb} (H : Gl tables_1 els G) {h : Heap} {a li : Addr} {mc : Int32} (f00 : Fld G.Z h a "java/util/ArrayList$Itr" "this$0" "Ljava/util/ArrayList;" (.ref li)) (f30 : Fld G.Z h a "java/util/ArrayList$Itr" "expectedModCount" "I" (.int mc)) (m00 : Fld G.Z h li "java/util/AbstractList" "modCount" "I" (.int mc)) :
    Ctr G [] (⟨"java/util/ArrayList$Itr", "checkForComodification", "()V"⟩ : MethodName) jdk_49_method_6_code 1 none ({ frames := 0, cells := 0, slots := 0, locals := 0 } : Room) #[.ref a] h [] (fun v h' Sf => v = none ∧ h = h') := by
  refine ctr_of M_cfc rfl rfl (plainFor_of_name pn_13) L_cfc H.el (Ls := #[.val (.ref a)]) (fun m => ef_ok (by show argsToLocals _ 1 = _; first | (simp [argsToLocals, Value.category]; done) | rfl)) ?_
  intro B K hE
  refine go_run K 0 1 (pc' := 1) (st' := [(.ref a)]) rfl ?_
  refine go_getfield K (k := 1) rfl (host := "") (Or.inl (H.w 308 rfl)) Via.refl f00 ?_
  refine go_getfield K (k := 2) rfl (host := "") (Or.inl (H.w 313 rfl)) (Via.of (H.w 227 rfl)) m00 ?_
  refine go_run K 3 1 (pc' := 8) (st' := [(.ref a), (.int mc)]) rfl ?_
  refine go_getfield K (k := 4) rfl (host := "") (Or.inl (H.w 314 rfl)) Via.refl f30 ?_
  refine go_icmpeq K (k := 5) rfl (pc' := 22) (by decide) (fun _ => ?_) (fun q => absurd rfl q)
  refine go_return K (k := 10) rfl rfl rfl rfl ?_
  intro Sf hSf
  exact ⟨rfl, rfl⟩
def P_nx : List (Nat × Instr × Nat) := [(0, .aload_n 0, 1), (1, .invokevirtual 31, 3), (4, .aload_n 0, 1), (5, .getfield 25, 3), (8, .istore_n 1, 1), (9, .iload_n 1, 1), (10, .aload_n 0, 1), (11, .getfield 1, 3), (14, .getfield 28, 3), (17, .if_icmp .lt 11, 3), (20, .new 34, 3), (23, .dup, 1), (24, .invokespecial 36, 3), (27, .athrow, 1), (28, .aload_n 0, 1), (29, .getfield 1, 3), (32, .getfield 37, 3), (35, .astore_n 2, 1), (36, .iload_n 1, 1), (37, .aload_n 2, 1), (38, .arraylength, 1), (39, .if_icmp .lt 11, 3), (42, .new 41, 3), (45, .dup, 1), (46, .invokespecial 43, 3), (49, .athrow, 1), (50, .aload_n 0, 1), (51, .iload_n 1, 1), (52, .iconst 1, 1), (53, .iadd, 1), (54, .putfield 25, 3), (57, .aload_n 2, 1), (58, .aload_n 0, 1), (59, .iload_n 1, 1), (60, .dup_x1, 1), (61, .putfield 13, 3), (64, .aaload, 1), (65, .areturn, 1)]
theorem L_nx : ∀ q ∈ P_nx, decode jdk_49_method_3_code q.1 = .ok q.2 := by decide +kernel
def M_nx : Mt := (("java/util/ArrayList$Itr", "next", ({ frames := 1, cells := 0, slots := 0, locals := 12 } : Room)), P_nx, 3, (some (.object "java/lang/Object")))
set_option maxRecDepth 65536 in
set_option maxHeartbeats 40000000 in
theorem c_nx {G : Gb} (H : Gl tables_1 els G) {h : Heap} {a li t r : Addr} {mc lr : Int32} {kA : ClassId} {vs : List Value} (E0 : Exa G.Z h a "java/util/ArrayList$Itr") (f00 : Fld G.Z h a "java/util/ArrayList$Itr" "this$0" "Ljava/util/ArrayList;" (.ref li)) (f10 : Fld G.Z h a "java/util/ArrayList$Itr" "cursor" "I" (.int 0)) (f20 : Fld G.Z h a "java/util/ArrayList$Itr" "lastRet" "I" (.int lr)) (f30 : Fld G.Z h a "java/util/ArrayList$Itr" "expectedModCount" "I" (.int mc)) (g0 : G.Z.heap.size ≤ a) (X0 : Exa G.Z h li "java/util/ArrayList") (m00 : Fld G.Z h li "java/util/AbstractList" "modCount" "I" (.int mc)) (s00 : Fld G.Z h li "java/util/ArrayList" "size" "I" (.int 1)) (d00 : Fld G.Z h li "java/util/ArrayList" "elementData" "[Ljava/lang/Object;" (.ref t)) (A0 : Arv G.Z h t kA (.object "java/lang/Object") (10 : Nat).toInt32 vs .null) (hv : vs.getD (0 : Int32).toNatClampNeg .null = .ref r) :
    Ctr G [] (⟨"java/util/ArrayList$Itr", "next", "()Ljava/lang/Object;"⟩ : MethodName) jdk_49_method_3_code 3 (some (.object "java/lang/Object")) ({ frames := 1, cells := 0, slots := 0, locals := 12 } : Room) #[.ref a] h [] (fun v h' Sf => v = some (.ref r) ∧ Keep h h' [a] ∧ Exa G.Z h' a "java/util/ArrayList$Itr" ∧ Fld G.Z h' a "java/util/ArrayList$Itr" "this$0" "Ljava/util/ArrayList;" (.ref li) ∧ Fld G.Z h' a "java/util/ArrayList$Itr" "cursor" "I" (.int 1)) := by
  refine ctr_of M_nx rfl rfl (plainFor_of_name pn_13) L_nx H.el (Ls := #[.val (.ref a), .unset, .unset]) (fun m => ef_ok (by show argsToLocals _ 3 = _; first | (simp [argsToLocals, Value.category]; done) | rfl)) ?_
  intro B K hE
  refine go_run K 0 1 (pc' := 1) (st' := [(.ref a)]) rfl ?_
  refine go_virt0 K (k := 1) rfl (H.w 336 rfl) (H.w 339 rfl) (H.w 338 rfl) (H.w 303 rfl) (H.w 340 rfl) (by decide) pd_14 E0 (c_cfc H f00 f30 m00) (argsL := []) (rest := []) rfl rfl rfl sub0 rfl ?_
  rintro _ _ _ - ⟨rfl, rfl⟩
  show Go G B M_nx _ h [] 0 0 4 #[.val (.ref a), .unset, .unset] []
  refine go_run K 2 1 (pc' := 5) (st' := [(.ref a)]) rfl ?_
  refine go_getfield K (k := 3) rfl (host := "") (Or.inl (H.w 325 rfl)) Via.refl f10 ?_
  refine go_run K 4 1 (pc' := 9) (Ls' := #[.val (.ref a), .val (.int (0 : Int32)), .unset]) (st' := []) rfl ?_
  refine go_run K 5 2 (pc' := 11) (st' := [(.ref a), (.int (0 : Int32))]) rfl ?_
  refine go_getfield K (k := 7) rfl (host := "") (Or.inl (H.w 308 rfl)) Via.refl f00 ?_
  refine go_getfield K (k := 8) rfl (host := "java/util/ArrayList") (Or.inr (H.w 327 rfl)) Via.refl s00 ?_
  refine go_icmplt K (k := 9) rfl (pc' := 28) (by decide) (fun _ => ?_) (fun q => absurd (by decide) q)
  refine go_run K 14 1 (pc' := 29) (st' := [(.ref a)]) rfl ?_
  refine go_getfield K (k := 15) rfl (host := "") (Or.inl (H.w 308 rfl)) Via.refl f00 ?_
  refine go_getfield K (k := 16) rfl (host := "") (Or.inl (H.w 341 rfl)) Via.refl d00 ?_
  refine go_run K 17 1 (pc' := 36) (Ls' := #[.val (.ref a), .val (.int (0 : Int32)), .val (.ref t)]) (st' := []) rfl ?_
  refine go_run K 18 2 (pc' := 38) (st' := [(.ref t), (.int (0 : Int32))]) rfl ?_
  refine go_arraylength K (k := 20) rfl A0 ?_
  refine go_icmplt K (k := 21) rfl (pc' := 50) (by decide) (fun _ => ?_) (fun q => absurd (by decide) q)
  refine go_run K 26 4 (pc' := 54) (st' := [(.int (1 : Int32)), (.ref a)]) rfl ?_
  refine go_putfield K (k := 30) rfl (host := "") (Or.inl (H.w 325 rfl)) Via.refl f10 E0 (Or.inl (H.w 326 rfl)) (H.w 302 rfl) (ty := .int) (by decide) rfl rfl g0 (Or.inr (by decide)) ?_
  intro h1 W2
  have F3 : Exa G.Z h1 a "java/util/ArrayList$Itr" := Exa.wr W2 E0
  have F4 : Fld G.Z h1 a "java/util/ArrayList$Itr" "this$0" "Ljava/util/ArrayList;" (.ref li) := Fld.other W2 f00 (Or.inr (slot_ne (Or.inr (H.w 309 rfl)) (Or.inl (H.w 326 rfl)) (by decide) (t := (.object "java/util/ArrayList")) (t' := .int) (by decide) (by decide)))
  have F5 : Fld G.Z h1 a "java/util/ArrayList$Itr" "cursor" "I" (.int (1 : Int32)) := Fld.same W2 f10
  have F6 : Fld G.Z h1 a "java/util/ArrayList$Itr" "lastRet" "I" (.int lr) := Fld.other W2 f20 (Or.inr (slot_ne (Or.inl (H.w 312 rfl)) (Or.inl (H.w 326 rfl)) (by decide) (t := .int) (t' := .int) (by decide) (by decide)))
  have F7 : Fld G.Z h1 a "java/util/ArrayList$Itr" "expectedModCount" "I" (.int mc) := Fld.other W2 f30 (Or.inr (slot_ne (Or.inl (H.w 315 rfl)) (Or.inl (H.w 326 rfl)) (by decide) (t := .int) (t' := .int) (by decide) (by decide)))
  refine go_run K 31 4 (pc' := 61) (st' := [(.int (0 : Int32)), (.ref a), (.int (0 : Int32)), (.ref t)]) rfl ?_
  refine go_putfield K (k := 35) rfl (host := "") (Or.inl (H.w 311 rfl)) Via.refl F6 F3 (Or.inl (H.w 312 rfl)) (H.w 302 rfl) (ty := .int) (by decide) rfl rfl g0 (Or.inr (by decide)) ?_
  intro h8 W9
  have F10 : Exa G.Z h8 a "java/util/ArrayList$Itr" := Exa.wr W9 F3
  have F11 : Fld G.Z h8 a "java/util/ArrayList$Itr" "this$0" "Ljava/util/ArrayList;" (.ref li) := Fld.other W9 F4 (Or.inr (slot_ne (Or.inr (H.w 309 rfl)) (Or.inl (H.w 312 rfl)) (by decide) (t := (.object "java/util/ArrayList")) (t' := .int) (by decide) (by decide)))
  have F12 : Fld G.Z h8 a "java/util/ArrayList$Itr" "cursor" "I" (.int (1 : Int32)) := Fld.other W9 F5 (Or.inr (slot_ne (Or.inl (H.w 326 rfl)) (Or.inl (H.w 312 rfl)) (by decide) (t := .int) (t' := .int) (by decide) (by decide)))
  have F13 : Fld G.Z h8 a "java/util/ArrayList$Itr" "lastRet" "I" (.int (0 : Int32)) := Fld.same W9 F6
  have F14 : Fld G.Z h8 a "java/util/ArrayList$Itr" "expectedModCount" "I" (.int mc) := Fld.other W9 F7 (Or.inr (slot_ne (Or.inl (H.w 315 rfl)) (Or.inl (H.w 312 rfl)) (by decide) (t := .int) (t' := .int) (by decide) (by decide)))
  have c15 := (Arv.other (Arv.other A0 W2 (Exa.neArv E0 A0 (H.w 302 rfl)).symm) W9 (Exa.neArv F3 (Arv.other A0 W2 (Exa.neArv E0 A0 (H.w 302 rfl)).symm) (H.w 302 rfl)).symm)
  refine go_aaload K (k := 36) rfl c15 rfl (by decide) (v := .ref r) hv ?_
  refine go_areturn K (k := 37) rfl rfl rfl rfl rfl rfl rfl ?_
  intro Sf hSf
  exact ⟨rfl, (((Keep.refl _ [a]).wr W2 (Or.inl (List.mem_cons_self ..))).wr W9 (Or.inl (List.mem_cons_self ..))), F10, F11, F12⟩
def P_inv : List (Nat × Instr × Nat) := [(0, .aload_n 0, 1), (1, .invokevirtual 55, 3), (4, .newarray .int, 2), (6, .astore_n 1, 1), (7, .aload_n 0, 1), (8, .getfield 17, 3), (11, .invokeinterface 59 1, 5), (16, .astore_n 2, 1), (17, .aload_n 2, 1), (18, .invokeinterface 65 1, 5), (23, .ifCond .eq 59, 3), (26, .aload_n 2, 1), (27, .invokeinterface 71 1, 5), (32, .checkcast 45, 3), (35, .astore_n 3, 1), (36, .iconst 0, 1), (37, .istore 4, 2), (39, .iload 4, 2), (41, .aload_n 3, 1), (42, .getfield 75, 3), (45, .if_icmp .ge 34, 3), (48, .aload_n 1, 1), (49, .aload_n 3, 1), (50, .getfield 79, 3), (53, .iload 4, 2), (55, .iadd, 1), (56, .aload_n 3, 1), (57, .getfield 82, 3), (60, .aload_n 3, 1), (61, .getfield 86, 3), (64, .iload 4, 2), (66, .iadd, 1), (67, .invokeinterface 89 2, 5), (72, .iastore, 1), (73, .iinc 4 1, 3), (76, .goto (-37), 3), (79, .goto (-62), 3), (82, .aload_n 1, 1), (83, .areturn, 1)]
theorem L_inv : ∀ q ∈ P_inv, decode prog_33_method_7_code q.1 = .ok q.2 := by decide +kernel
def M_inv : Mt := (("com/example/foyer/foyer/Layout", "initialValues", ({ frames := 4, cells := 2, slots := 8, locals := 54 } : Room)), P_inv, 5, (some (.array .int)))
set_option maxRecDepth 65536 in
set_option maxHeartbeats 40000000 in
theorem c_inv0 {G : Gb} (H : Gl tables_1 els G) {h : Heap} {li t r la pr io : Addr} {kA : ClassId} {ps : List Int32} {iv : Int32} (L0 : Alk G h li t r kA 1 (0 : Int32) (0 : Int32) (0 : Int32) (.ref io)) (Y0 : Ly G h la li pr ps) (M0 : Lam G h io "com/example/foyer/foyer/Layout" sg_ar [.int iv]) :
    Ctr G [] (⟨"com/example/foyer/foyer/Layout", "initialValues", "()[I"⟩ : MethodName) prog_33_method_7_code 5 (some (.array .int)) ({ frames := 4, cells := 2, slots := 8, locals := 54 } : Room) #[.ref la] h [] (fun v h' Sf => ∃ (d : Addr) (kd : ClassId), v = some (.ref d) ∧ Ext h h' ∧ Arv G.Z h' d kd .int (0 : Int32) [] (.int 0) ∧ G.Z.heap.size ≤ d ∧ h.size ≤ d) := by
  refine ctr_of M_inv rfl rfl (plainFor_of_name pn_11) L_inv H.el (Ls := #[.val (.ref la), .unset, .unset, .unset, .unset]) (fun m => ef_ok (by show argsToLocals _ 5 = _; first | (simp [argsToLocals, Value.category]; done) | rfl)) ?_
  intro B K hE
  obtain ⟨e1, ⟨mc2, f3⟩, f4, f5, e6, o7, ⟨k1, k2⟩, ⟨g8, g9⟩, ⟨vs, l1, l2, A10⟩, R11⟩ := id L0
  have f5' : Fld G.Z h li "java/util/ArrayList" "size" "I" (.int (1 : Int32)) := f5
  obtain ⟨u12, u13, u14, u15, u16⟩ := id R11
  obtain ⟨y17, y18, y19, y20⟩ := id Y0
  refine go_run K 0 1 (pc' := 1) (st' := [(.ref la)]) rfl ?_
  refine go_virt0 K (k := 1) rfl (H.w 187 rfl) (selP (H.w 189 rfl) (H.w 188 rfl) (H.w 3 rfl) (by decide)) (H.w 188 rfl) (H.w 4 rfl) (H.w 190 rfl) (by decide) pd_6 (Ly.exa Y0) (c_lszK H L0 Y0) (argsL := []) (rest := []) rfl rfl rfl sub0 rfl ?_
  rintro _ _ _ - ⟨rfl, rfl⟩
  show Go G B M_inv _ h [] 0 0 4 #[.val (.ref la), .unset, .unset, .unset, .unset] [(.int ((0 : Int32) + (0 : Int32)))]
  show Go G B M_inv _ h [] 0 0 4 #[.val (.ref la), .unset, .unset, .unset, .unset] [(.int (0 : Int32))]
  refine go_newarray K (k := 2) rfl (H.w 1 rfl) (by decide) (cap := 0) (by decide) rfl rfl rfl ?_
  intro h22 a21 k23 e24 g25 E26 A27
  have A27' : Arv G.Z h22 a21 k23 .int (0 : Int32) [] (.int (0 : Int32)) := Arv.pad A27 (pad_rep [] (.int (0 : Int32)) 0)
  refine go_run K 3 1 (pc' := 7) (Ls' := #[.val (.ref la), .val (.ref a21), .unset, .unset, .unset]) (st' := []) rfl ?_
  refine go_run K 4 1 (pc' := 8) (st' := [(.ref la)]) rfl ?_
  have c28 := (y18.ext E26)
  refine go_getfield K (k := 5) rfl (host := "") (Or.inl (H.w 46 rfl)) Via.refl c28 ?_
  have c29 := (e1.ext E26)
  have c30 := (f3.ext E26)
  refine go_interface K (k := 6) rfl (H.w 293 rfl) (H.w 294 rfl) (H.w 295 rfl) (H.w 296 rfl) (H.w 297 rfl) (H.w 298 rfl) (H.w 299 rfl) (H.w 198 rfl) (H.w 10 rfl) (H.w 300 rfl) rfl (by decide) pd_28 c29 (c_itr H c29 c30) (argsL := []) (rest := []) rfl rfl rfl sub0 rfl ?_
  rintro _ h31 _ - ⟨it32, rfl, E33, e34, F37, F38, F39, F40, g35, f36⟩
  show Go G B M_inv _ h31 (a21 :: []) 2 4 16 #[.val (.ref la), .val (.ref a21), .unset, .unset, .unset] [(.ref it32)]
  refine go_run K 7 1 (pc' := 17) (Ls' := #[.val (.ref la), .val (.ref a21), .val (.ref it32), .unset, .unset]) (st' := []) rfl ?_
  refine go_run K 8 1 (pc' := 18) (st' := [(.ref it32)]) rfl ?_
  have X41 : Ext h h31 := (Ext.tr E26 E33)
  have c42 := (f5'.ext X41)
  refine go_interface K (k := 9) rfl (H.w 316 rfl) (H.w 317 rfl) (H.w 318 rfl) (H.w 319 rfl) (H.w 320 rfl) (H.w 321 rfl) (H.w 322 rfl) (H.w 323 rfl) (H.w 303 rfl) (H.w 324 rfl) rfl (by decide) pd_11 e34 (c_hnY H (by decide) F37 F38 c42) (argsL := []) (rest := []) rfl rfl rfl sub0 rfl ?_
  rintro _ _ _ - ⟨rfl, rfl⟩
  show Go G B M_inv _ h31 (a21 :: []) 2 4 23 #[.val (.ref la), .val (.ref a21), .val (.ref it32), .unset, .unset] [(.int (1 : Int32))]
  refine go_ifeq K (k := 10) rfl (pc' := 82) (by decide) (fun q => absurd q (by decide)) (fun _ => ?_)
  refine go_run K 11 1 (pc' := 27) (st' := [(.ref it32)]) rfl ?_
  have c43 := (c29.ext E33)
  have c44 := (c30.ext E33)
  have c45 := (f4.ext X41)
  have c46 := (A10.ext X41)
  refine go_interface K (k := 12) rfl (H.w 328 rfl) (H.w 329 rfl) (H.w 330 rfl) (H.w 331 rfl) (H.w 332 rfl) (H.w 333 rfl) (H.w 334 rfl) (H.w 323 rfl) (H.w 303 rfl) (H.w 335 rfl) rfl (by decide) pd_29 e34 (c_nx (r := r) H e34 F37 F38 F39 F40 g35 c43 c44 c42 c45 c46 l2) (argsL := []) (rest := []) rfl rfl rfl sub0 rfl ?_
  rintro _ h47 _ - ⟨rfl, K48, e49, F50, F51⟩
  show Go G B M_inv _ h47 (a21 :: []) 2 4 32 #[.val (.ref la), .val (.ref a21), .val (.ref it32), .unset, .unset] [(.ref r)]
  have X52 : Ext h h47 := (Ext.keepN X41 K48 (allS (Nat.le_trans (E26).1 f36) all0))
  have c53 := (u12.ext X52)
  refine go_cast K (k := 13) rfl (H.w 69 rfl) (Ins.self c53) ?_
  refine go_run K 14 1 (pc' := 36) (Ls' := #[.val (.ref la), .val (.ref a21), .val (.ref it32), .val (.ref r), .unset]) (st' := []) rfl ?_
  refine go_run K 15 2 (pc' := 39) (Ls' := #[.val (.ref la), .val (.ref a21), .val (.ref it32), .val (.ref r), .val (.int (0 : Int32))]) (st' := []) rfl ?_
  refine go_run K 17 2 (pc' := 42) (st' := [(.ref r), (.int (0 : Int32))]) rfl ?_
  have c54 := (u15.ext X52)
  refine go_getfieldR K (k := 19) rfl (H.w 292 rfl) c54 ?_
  refine go_icmpge K (k := 20) rfl (pc' := 79) (by decide) (fun _ => ?_) (fun q => absurd q (by decide))
  refine go_run K 36 1 (pc' := 17) (st' := []) rfl ?_
  refine go_run K 8 1 (pc' := 18) (st' := [(.ref it32)]) rfl ?_
  have c55 := (f5'.ext X52)
  refine go_interface K (k := 9) rfl (H.w 316 rfl) (H.w 317 rfl) (H.w 318 rfl) (H.w 319 rfl) (H.w 320 rfl) (H.w 321 rfl) (H.w 322 rfl) (H.w 323 rfl) (H.w 303 rfl) (H.w 324 rfl) rfl (by decide) pd_11 e49 (c_hnN H (by decide) F50 F51 c55) (argsL := []) (rest := []) rfl rfl rfl sub0 rfl ?_
  rintro _ _ _ - ⟨rfl, rfl⟩
  show Go G B M_inv _ h47 (a21 :: []) 2 4 23 #[.val (.ref la), .val (.ref a21), .val (.ref it32), .val (.ref r), .val (.int (0 : Int32))] [(.int (0 : Int32))]
  refine go_ifeq K (k := 10) rfl (pc' := 82) (by decide) (fun _ => ?_) (fun q => absurd (by decide) q)
  refine go_run K 37 1 (pc' := 83) (st' := [(.ref a21)]) rfl ?_
  have X56 : Ext h22 h47 := (Ext.keepN E33 K48 (allS (f36) all0))
  have c57 := (A27'.ext X56)
  refine go_areturn K (k := 38) rfl rfl rfl rfl rfl rfl rfl ?_
  intro Sf hSf
  exact ⟨a21, k23, rfl, X52, c57, g25, Nat.le_trans (Nat.le_refl _) (Nat.le_of_eq e24.symm)⟩
set_option maxRecDepth 65536 in
set_option maxHeartbeats 40000000 in
theorem c_inv1 {G : Gb} (H : Gl tables_1 els G) {h : Heap} {li t r la pr io : Addr} {kA : ClassId} {ps : List Int32} {iv : Int32} (L0 : Alk G h li t r kA 1 (0 : Int32) (0 : Int32) (1 : Int32) (.ref io)) (Y0 : Ly G h la li pr ps) (M0 : Lam G h io "com/example/foyer/foyer/Layout" sg_ar [.int iv]) :
    Ctr G [] (⟨"com/example/foyer/foyer/Layout", "initialValues", "()[I"⟩ : MethodName) prog_33_method_7_code 5 (some (.array .int)) ({ frames := 4, cells := 2, slots := 8, locals := 54 } : Room) #[.ref la] h [] (fun v h' Sf => ∃ (d : Addr) (kd : ClassId), v = some (.ref d) ∧ Ext h h' ∧ Arv G.Z h' d kd .int (1 : Int32) [.int iv] (.int 0) ∧ G.Z.heap.size ≤ d ∧ h.size ≤ d) := by
  refine ctr_of M_inv rfl rfl (plainFor_of_name pn_11) L_inv H.el (Ls := #[.val (.ref la), .unset, .unset, .unset, .unset]) (fun m => ef_ok (by show argsToLocals _ 5 = _; first | (simp [argsToLocals, Value.category]; done) | rfl)) ?_
  intro B K hE
  obtain ⟨e1, ⟨mc2, f3⟩, f4, f5, e6, o7, ⟨k1, k2⟩, ⟨g8, g9⟩, ⟨vs, l1, l2, A10⟩, R11⟩ := id L0
  have f5' : Fld G.Z h li "java/util/ArrayList" "size" "I" (.int (1 : Int32)) := f5
  obtain ⟨u12, u13, u14, u15, u16⟩ := id R11
  obtain ⟨y17, y18, y19, y20⟩ := id Y0
  refine go_run K 0 1 (pc' := 1) (st' := [(.ref la)]) rfl ?_
  refine go_virt0 K (k := 1) rfl (H.w 187 rfl) (selP (H.w 189 rfl) (H.w 188 rfl) (H.w 3 rfl) (by decide)) (H.w 188 rfl) (H.w 4 rfl) (H.w 190 rfl) (by decide) pd_6 (Ly.exa Y0) (c_lszK H L0 Y0) (argsL := []) (rest := []) rfl rfl rfl sub0 rfl ?_
  rintro _ _ _ - ⟨rfl, rfl⟩
  show Go G B M_inv _ h [] 0 0 4 #[.val (.ref la), .unset, .unset, .unset, .unset] [(.int ((0 : Int32) + (1 : Int32)))]
  show Go G B M_inv _ h [] 0 0 4 #[.val (.ref la), .unset, .unset, .unset, .unset] [(.int (1 : Int32))]
  refine go_newarray K (k := 2) rfl (H.w 1 rfl) (by decide) (cap := 1) (by decide) rfl rfl rfl ?_
  intro h22 a21 k23 e24 g25 E26 A27
  have A27' : Arv G.Z h22 a21 k23 .int (1 : Int32) [(.int (0 : Int32))] (.int (0 : Int32)) := Arv.pad A27 (pad_rep [] (.int (0 : Int32)) 1)
  refine go_run K 3 1 (pc' := 7) (Ls' := #[.val (.ref la), .val (.ref a21), .unset, .unset, .unset]) (st' := []) rfl ?_
  refine go_run K 4 1 (pc' := 8) (st' := [(.ref la)]) rfl ?_
  have c28 := (y18.ext E26)
  refine go_getfield K (k := 5) rfl (host := "") (Or.inl (H.w 46 rfl)) Via.refl c28 ?_
  have c29 := (e1.ext E26)
  have c30 := (f3.ext E26)
  refine go_interface K (k := 6) rfl (H.w 293 rfl) (H.w 294 rfl) (H.w 295 rfl) (H.w 296 rfl) (H.w 297 rfl) (H.w 298 rfl) (H.w 299 rfl) (H.w 198 rfl) (H.w 10 rfl) (H.w 300 rfl) rfl (by decide) pd_28 c29 (c_itr H c29 c30) (argsL := []) (rest := []) rfl rfl rfl sub0 rfl ?_
  rintro _ h31 _ - ⟨it32, rfl, E33, e34, F37, F38, F39, F40, g35, f36⟩
  show Go G B M_inv _ h31 (a21 :: []) 2 5 16 #[.val (.ref la), .val (.ref a21), .unset, .unset, .unset] [(.ref it32)]
  refine go_run K 7 1 (pc' := 17) (Ls' := #[.val (.ref la), .val (.ref a21), .val (.ref it32), .unset, .unset]) (st' := []) rfl ?_
  refine go_run K 8 1 (pc' := 18) (st' := [(.ref it32)]) rfl ?_
  have X41 : Ext h h31 := (Ext.tr E26 E33)
  have c42 := (f5'.ext X41)
  refine go_interface K (k := 9) rfl (H.w 316 rfl) (H.w 317 rfl) (H.w 318 rfl) (H.w 319 rfl) (H.w 320 rfl) (H.w 321 rfl) (H.w 322 rfl) (H.w 323 rfl) (H.w 303 rfl) (H.w 324 rfl) rfl (by decide) pd_11 e34 (c_hnY H (by decide) F37 F38 c42) (argsL := []) (rest := []) rfl rfl rfl sub0 rfl ?_
  rintro _ _ _ - ⟨rfl, rfl⟩
  show Go G B M_inv _ h31 (a21 :: []) 2 5 23 #[.val (.ref la), .val (.ref a21), .val (.ref it32), .unset, .unset] [(.int (1 : Int32))]
  refine go_ifeq K (k := 10) rfl (pc' := 82) (by decide) (fun q => absurd q (by decide)) (fun _ => ?_)
  refine go_run K 11 1 (pc' := 27) (st' := [(.ref it32)]) rfl ?_
  have c43 := (c29.ext E33)
  have c44 := (c30.ext E33)
  have c45 := (f4.ext X41)
  have c46 := (A10.ext X41)
  refine go_interface K (k := 12) rfl (H.w 328 rfl) (H.w 329 rfl) (H.w 330 rfl) (H.w 331 rfl) (H.w 332 rfl) (H.w 333 rfl) (H.w 334 rfl) (H.w 323 rfl) (H.w 303 rfl) (H.w 335 rfl) rfl (by decide) pd_29 e34 (c_nx (r := r) H e34 F37 F38 F39 F40 g35 c43 c44 c42 c45 c46 l2) (argsL := []) (rest := []) rfl rfl rfl sub0 rfl ?_
  rintro _ h47 _ - ⟨rfl, K48, e49, F50, F51⟩
  show Go G B M_inv _ h47 (a21 :: []) 2 5 32 #[.val (.ref la), .val (.ref a21), .val (.ref it32), .unset, .unset] [(.ref r)]
  have X52 : Ext h h47 := (Ext.keepN X41 K48 (allS (Nat.le_trans (E26).1 f36) all0))
  have c53 := (u12.ext X52)
  refine go_cast K (k := 13) rfl (H.w 69 rfl) (Ins.self c53) ?_
  refine go_run K 14 1 (pc' := 36) (Ls' := #[.val (.ref la), .val (.ref a21), .val (.ref it32), .val (.ref r), .unset]) (st' := []) rfl ?_
  refine go_run K 15 2 (pc' := 39) (Ls' := #[.val (.ref la), .val (.ref a21), .val (.ref it32), .val (.ref r), .val (.int (0 : Int32))]) (st' := []) rfl ?_
  refine go_run K 17 2 (pc' := 42) (st' := [(.ref r), (.int (0 : Int32))]) rfl ?_
  have c54 := (u15.ext X52)
  refine go_getfieldR K (k := 19) rfl (H.w 292 rfl) c54 ?_
  refine go_icmpge K (k := 20) rfl (pc' := 79) (by decide) (fun q => absurd (by decide) q) (fun _ => ?_)
  refine go_run K 21 2 (pc' := 50) (st' := [(.ref r), (.ref a21)]) rfl ?_
  have c55 := (u13.ext X52)
  refine go_getfieldR K (k := 23) rfl (H.w 291 rfl) c55 ?_
  refine go_run K 24 3 (pc' := 57) (st' := [(.ref r), (.int (0 : Int32)), (.ref a21)]) rfl ?_
  have c56 := (u16.ext X52)
  refine go_getfieldR K (k := 27) rfl (H.w 359 rfl) c56 ?_
  refine go_run K 28 1 (pc' := 61) (st' := [(.ref r), (.ref io), (.int (0 : Int32)), (.ref a21)]) rfl ?_
  have c57 := (u14.ext X52)
  refine go_getfieldR K (k := 29) rfl (H.w 360 rfl) c57 ?_
  refine go_run K 30 2 (pc' := 67) (st' := [(.int (0 : Int32)), (.ref io), (.int (0 : Int32)), (.ref a21)]) rfl ?_
  have c58 := (M0.ext X52)
  refine go_lamcall K (k := 32) rfl (xi := (⟨"java/util/function/IntUnaryOperator", "applyAsInt", "(I)I"⟩ : MethodName)) (y := (⟨"com/example/foyer/foyer/Layout", "lambda$array$1", "(II)I"⟩ : MethodName)) (bytes := prog_33_method_12_code) (fcode := fc_ar) (σ := sg_ar) (host := "com/example/foyer/foyer/Layout") (rest := [(.int (0 : Int32)), (.ref a21)]) (H.w 361 rfl) (H.w 362 rfl) (H.w 363 rfl) rfl (H.w 365 rfl) (H.w 364 rfl) (H.w 4 rfl) (H.w 59 rfl) hx_ar hy_ar (by decide) pd_30 pd_2 pn_11 ta_0 ta_1 fwd_ar cap_ar fa_0 fa_1 fa_4 fa_5 fa_8 c58 rfl rfl rfl rfl rfl rfl ?_
  show Go G B M_inv _ h47 (a21 :: []) 2 5 72 #[.val (.ref la), .val (.ref a21), .val (.ref it32), .val (.ref r), .val (.int (0 : Int32))] [(.int iv), (.int (0 : Int32)), (.ref a21)]
  have X59 : Ext h22 h47 := (Ext.keepN E33 K48 (allS (f36) all0))
  have c60 := (A27'.ext X59)
  refine go_iastore K (k := 33) rfl c60 (i := 0) (by decide) rfl (Nat.le_of_ble_eq_true rfl) g25 ?_
  intro h61 W62 A63
  refine go_run K 34 2 (pc' := 39) (Ls' := #[.val (.ref la), .val (.ref a21), .val (.ref it32), .val (.ref r), .val (.int (1 : Int32))]) (st' := []) rfl ?_
  refine go_run K 17 2 (pc' := 42) (st' := [(.ref r), (.int (1 : Int32))]) rfl ?_
  have X64 : Ext h h61 := (Ext.wrN X52 W62 (Nat.le_trans (Nat.le_refl _) (Nat.le_of_eq e24.symm)))
  have c65 := (u15.ext X64)
  refine go_getfieldR K (k := 19) rfl (H.w 292 rfl) c65 ?_
  refine go_icmpge K (k := 20) rfl (pc' := 79) (by decide) (fun _ => ?_) (fun q => absurd q (by decide))
  refine go_run K 36 1 (pc' := 17) (st' := []) rfl ?_
  refine go_run K 8 1 (pc' := 18) (st' := [(.ref it32)]) rfl ?_
  have c66 := (Fld.other W62 F50 (Or.inl (Exa.neArv e49 c60 (H.w 302 rfl))))
  have c67 := (Fld.other W62 F51 (Or.inl (Exa.neArv e49 c60 (H.w 302 rfl))))
  have c68 := (f5'.ext X64)
  have c69 := (Exa.wr W62 e49)
  refine go_interface K (k := 9) rfl (H.w 316 rfl) (H.w 317 rfl) (H.w 318 rfl) (H.w 319 rfl) (H.w 320 rfl) (H.w 321 rfl) (H.w 322 rfl) (H.w 323 rfl) (H.w 303 rfl) (H.w 324 rfl) rfl (by decide) pd_11 c69 (c_hnN H (by decide) c66 c67 c68) (argsL := []) (rest := []) rfl rfl rfl sub0 rfl ?_
  rintro _ _ _ - ⟨rfl, rfl⟩
  show Go G B M_inv _ h61 (a21 :: []) 2 5 23 #[.val (.ref la), .val (.ref a21), .val (.ref it32), .val (.ref r), .val (.int (1 : Int32))] [(.int (0 : Int32))]
  refine go_ifeq K (k := 10) rfl (pc' := 82) (by decide) (fun _ => ?_) (fun q => absurd (by decide) q)
  refine go_run K 37 1 (pc' := 83) (st' := [(.ref a21)]) rfl ?_
  refine go_areturn K (k := 38) rfl rfl rfl rfl rfl rfl rfl ?_
  intro Sf hSf
  exact ⟨a21, k23, rfl, X64, A63, g25, Nat.le_trans (Nat.le_refl _) (Nat.le_of_eq e24.symm)⟩
set_option maxRecDepth 65536 in
set_option maxHeartbeats 40000000 in
theorem c_inv2 {G : Gb} (H : Gl tables_1 els G) {h : Heap} {li t r la pr io : Addr} {kA : ClassId} {ps : List Int32} {iv : Int32} (L0 : Alk G h li t r kA 1 (0 : Int32) (0 : Int32) (2 : Int32) (.ref io)) (Y0 : Ly G h la li pr ps) (M0 : Lam G h io "com/example/foyer/foyer/Layout" sg_ar [.int iv]) :
    Ctr G [] (⟨"com/example/foyer/foyer/Layout", "initialValues", "()[I"⟩ : MethodName) prog_33_method_7_code 5 (some (.array .int)) ({ frames := 4, cells := 2, slots := 8, locals := 54 } : Room) #[.ref la] h [] (fun v h' Sf => ∃ (d : Addr) (kd : ClassId), v = some (.ref d) ∧ Ext h h' ∧ Arv G.Z h' d kd .int (2 : Int32) [.int iv, .int iv] (.int 0) ∧ G.Z.heap.size ≤ d ∧ h.size ≤ d) := by
  refine ctr_of M_inv rfl rfl (plainFor_of_name pn_11) L_inv H.el (Ls := #[.val (.ref la), .unset, .unset, .unset, .unset]) (fun m => ef_ok (by show argsToLocals _ 5 = _; first | (simp [argsToLocals, Value.category]; done) | rfl)) ?_
  intro B K hE
  obtain ⟨e1, ⟨mc2, f3⟩, f4, f5, e6, o7, ⟨k1, k2⟩, ⟨g8, g9⟩, ⟨vs, l1, l2, A10⟩, R11⟩ := id L0
  have f5' : Fld G.Z h li "java/util/ArrayList" "size" "I" (.int (1 : Int32)) := f5
  obtain ⟨u12, u13, u14, u15, u16⟩ := id R11
  obtain ⟨y17, y18, y19, y20⟩ := id Y0
  refine go_run K 0 1 (pc' := 1) (st' := [(.ref la)]) rfl ?_
  refine go_virt0 K (k := 1) rfl (H.w 187 rfl) (selP (H.w 189 rfl) (H.w 188 rfl) (H.w 3 rfl) (by decide)) (H.w 188 rfl) (H.w 4 rfl) (H.w 190 rfl) (by decide) pd_6 (Ly.exa Y0) (c_lszK H L0 Y0) (argsL := []) (rest := []) rfl rfl rfl sub0 rfl ?_
  rintro _ _ _ - ⟨rfl, rfl⟩
  show Go G B M_inv _ h [] 0 0 4 #[.val (.ref la), .unset, .unset, .unset, .unset] [(.int ((0 : Int32) + (2 : Int32)))]
  show Go G B M_inv _ h [] 0 0 4 #[.val (.ref la), .unset, .unset, .unset, .unset] [(.int (2 : Int32))]
  refine go_newarray K (k := 2) rfl (H.w 1 rfl) (by decide) (cap := 2) (by decide) rfl rfl rfl ?_
  intro h22 a21 k23 e24 g25 E26 A27
  have A27' : Arv G.Z h22 a21 k23 .int (2 : Int32) [(.int (0 : Int32)), (.int (0 : Int32))] (.int (0 : Int32)) := Arv.pad A27 (pad_rep [] (.int (0 : Int32)) 2)
  refine go_run K 3 1 (pc' := 7) (Ls' := #[.val (.ref la), .val (.ref a21), .unset, .unset, .unset]) (st' := []) rfl ?_
  refine go_run K 4 1 (pc' := 8) (st' := [(.ref la)]) rfl ?_
  have c28 := (y18.ext E26)
  refine go_getfield K (k := 5) rfl (host := "") (Or.inl (H.w 46 rfl)) Via.refl c28 ?_
  have c29 := (e1.ext E26)
  have c30 := (f3.ext E26)
  refine go_interface K (k := 6) rfl (H.w 293 rfl) (H.w 294 rfl) (H.w 295 rfl) (H.w 296 rfl) (H.w 297 rfl) (H.w 298 rfl) (H.w 299 rfl) (H.w 198 rfl) (H.w 10 rfl) (H.w 300 rfl) rfl (by decide) pd_28 c29 (c_itr H c29 c30) (argsL := []) (rest := []) rfl rfl rfl sub0 rfl ?_
  rintro _ h31 _ - ⟨it32, rfl, E33, e34, F37, F38, F39, F40, g35, f36⟩
  show Go G B M_inv _ h31 (a21 :: []) 2 6 16 #[.val (.ref la), .val (.ref a21), .unset, .unset, .unset] [(.ref it32)]
  refine go_run K 7 1 (pc' := 17) (Ls' := #[.val (.ref la), .val (.ref a21), .val (.ref it32), .unset, .unset]) (st' := []) rfl ?_
  refine go_run K 8 1 (pc' := 18) (st' := [(.ref it32)]) rfl ?_
  have X41 : Ext h h31 := (Ext.tr E26 E33)
  have c42 := (f5'.ext X41)
  refine go_interface K (k := 9) rfl (H.w 316 rfl) (H.w 317 rfl) (H.w 318 rfl) (H.w 319 rfl) (H.w 320 rfl) (H.w 321 rfl) (H.w 322 rfl) (H.w 323 rfl) (H.w 303 rfl) (H.w 324 rfl) rfl (by decide) pd_11 e34 (c_hnY H (by decide) F37 F38 c42) (argsL := []) (rest := []) rfl rfl rfl sub0 rfl ?_
  rintro _ _ _ - ⟨rfl, rfl⟩
  show Go G B M_inv _ h31 (a21 :: []) 2 6 23 #[.val (.ref la), .val (.ref a21), .val (.ref it32), .unset, .unset] [(.int (1 : Int32))]
  refine go_ifeq K (k := 10) rfl (pc' := 82) (by decide) (fun q => absurd q (by decide)) (fun _ => ?_)
  refine go_run K 11 1 (pc' := 27) (st' := [(.ref it32)]) rfl ?_
  have c43 := (c29.ext E33)
  have c44 := (c30.ext E33)
  have c45 := (f4.ext X41)
  have c46 := (A10.ext X41)
  refine go_interface K (k := 12) rfl (H.w 328 rfl) (H.w 329 rfl) (H.w 330 rfl) (H.w 331 rfl) (H.w 332 rfl) (H.w 333 rfl) (H.w 334 rfl) (H.w 323 rfl) (H.w 303 rfl) (H.w 335 rfl) rfl (by decide) pd_29 e34 (c_nx (r := r) H e34 F37 F38 F39 F40 g35 c43 c44 c42 c45 c46 l2) (argsL := []) (rest := []) rfl rfl rfl sub0 rfl ?_
  rintro _ h47 _ - ⟨rfl, K48, e49, F50, F51⟩
  show Go G B M_inv _ h47 (a21 :: []) 2 6 32 #[.val (.ref la), .val (.ref a21), .val (.ref it32), .unset, .unset] [(.ref r)]
  have X52 : Ext h h47 := (Ext.keepN X41 K48 (allS (Nat.le_trans (E26).1 f36) all0))
  have c53 := (u12.ext X52)
  refine go_cast K (k := 13) rfl (H.w 69 rfl) (Ins.self c53) ?_
  refine go_run K 14 1 (pc' := 36) (Ls' := #[.val (.ref la), .val (.ref a21), .val (.ref it32), .val (.ref r), .unset]) (st' := []) rfl ?_
  refine go_run K 15 2 (pc' := 39) (Ls' := #[.val (.ref la), .val (.ref a21), .val (.ref it32), .val (.ref r), .val (.int (0 : Int32))]) (st' := []) rfl ?_
  refine go_run K 17 2 (pc' := 42) (st' := [(.ref r), (.int (0 : Int32))]) rfl ?_
  have c54 := (u15.ext X52)
  refine go_getfieldR K (k := 19) rfl (H.w 292 rfl) c54 ?_
  refine go_icmpge K (k := 20) rfl (pc' := 79) (by decide) (fun q => absurd (by decide) q) (fun _ => ?_)
  refine go_run K 21 2 (pc' := 50) (st' := [(.ref r), (.ref a21)]) rfl ?_
  have c55 := (u13.ext X52)
  refine go_getfieldR K (k := 23) rfl (H.w 291 rfl) c55 ?_
  refine go_run K 24 3 (pc' := 57) (st' := [(.ref r), (.int (0 : Int32)), (.ref a21)]) rfl ?_
  have c56 := (u16.ext X52)
  refine go_getfieldR K (k := 27) rfl (H.w 359 rfl) c56 ?_
  refine go_run K 28 1 (pc' := 61) (st' := [(.ref r), (.ref io), (.int (0 : Int32)), (.ref a21)]) rfl ?_
  have c57 := (u14.ext X52)
  refine go_getfieldR K (k := 29) rfl (H.w 360 rfl) c57 ?_
  refine go_run K 30 2 (pc' := 67) (st' := [(.int (0 : Int32)), (.ref io), (.int (0 : Int32)), (.ref a21)]) rfl ?_
  have c58 := (M0.ext X52)
  refine go_lamcall K (k := 32) rfl (xi := (⟨"java/util/function/IntUnaryOperator", "applyAsInt", "(I)I"⟩ : MethodName)) (y := (⟨"com/example/foyer/foyer/Layout", "lambda$array$1", "(II)I"⟩ : MethodName)) (bytes := prog_33_method_12_code) (fcode := fc_ar) (σ := sg_ar) (host := "com/example/foyer/foyer/Layout") (rest := [(.int (0 : Int32)), (.ref a21)]) (H.w 361 rfl) (H.w 362 rfl) (H.w 363 rfl) rfl (H.w 365 rfl) (H.w 364 rfl) (H.w 4 rfl) (H.w 59 rfl) hx_ar hy_ar (by decide) pd_30 pd_2 pn_11 ta_0 ta_1 fwd_ar cap_ar fa_0 fa_1 fa_4 fa_5 fa_8 c58 rfl rfl rfl rfl rfl rfl ?_
  show Go G B M_inv _ h47 (a21 :: []) 2 6 72 #[.val (.ref la), .val (.ref a21), .val (.ref it32), .val (.ref r), .val (.int (0 : Int32))] [(.int iv), (.int (0 : Int32)), (.ref a21)]
  have X59 : Ext h22 h47 := (Ext.keepN E33 K48 (allS (f36) all0))
  have c60 := (A27'.ext X59)
  refine go_iastore K (k := 33) rfl c60 (i := 0) (by decide) rfl (Nat.le_of_ble_eq_true rfl) g25 ?_
  intro h61 W62 A63
  refine go_run K 34 2 (pc' := 39) (Ls' := #[.val (.ref la), .val (.ref a21), .val (.ref it32), .val (.ref r), .val (.int (1 : Int32))]) (st' := []) rfl ?_
  refine go_run K 17 2 (pc' := 42) (st' := [(.ref r), (.int (1 : Int32))]) rfl ?_
  have X64 : Ext h h61 := (Ext.wrN X52 W62 (Nat.le_trans (Nat.le_refl _) (Nat.le_of_eq e24.symm)))
  have c65 := (u15.ext X64)
  refine go_getfieldR K (k := 19) rfl (H.w 292 rfl) c65 ?_
  refine go_icmpge K (k := 20) rfl (pc' := 79) (by decide) (fun q => absurd (by decide) q) (fun _ => ?_)
  refine go_run K 21 2 (pc' := 50) (st' := [(.ref r), (.ref a21)]) rfl ?_
  have c66 := (u13.ext X64)
  refine go_getfieldR K (k := 23) rfl (H.w 291 rfl) c66 ?_
  refine go_run K 24 3 (pc' := 57) (st' := [(.ref r), (.int (1 : Int32)), (.ref a21)]) rfl ?_
  have c67 := (u16.ext X64)
  refine go_getfieldR K (k := 27) rfl (H.w 359 rfl) c67 ?_
  refine go_run K 28 1 (pc' := 61) (st' := [(.ref r), (.ref io), (.int (1 : Int32)), (.ref a21)]) rfl ?_
  have c68 := (u14.ext X64)
  refine go_getfieldR K (k := 29) rfl (H.w 360 rfl) c68 ?_
  refine go_run K 30 2 (pc' := 67) (st' := [(.int (1 : Int32)), (.ref io), (.int (1 : Int32)), (.ref a21)]) rfl ?_
  have c69 := (M0.ext X64)
  refine go_lamcall K (k := 32) rfl (xi := (⟨"java/util/function/IntUnaryOperator", "applyAsInt", "(I)I"⟩ : MethodName)) (y := (⟨"com/example/foyer/foyer/Layout", "lambda$array$1", "(II)I"⟩ : MethodName)) (bytes := prog_33_method_12_code) (fcode := fc_ar) (σ := sg_ar) (host := "com/example/foyer/foyer/Layout") (rest := [(.int (1 : Int32)), (.ref a21)]) (H.w 361 rfl) (H.w 362 rfl) (H.w 363 rfl) rfl (H.w 365 rfl) (H.w 364 rfl) (H.w 4 rfl) (H.w 59 rfl) hx_ar hy_ar (by decide) pd_30 pd_2 pn_11 ta_0 ta_1 fwd_ar cap_ar fa_0 fa_1 fa_4 fa_5 fa_8 c69 rfl rfl rfl rfl rfl rfl ?_
  show Go G B M_inv _ h61 (a21 :: []) 2 6 72 #[.val (.ref la), .val (.ref a21), .val (.ref it32), .val (.ref r), .val (.int (1 : Int32))] [(.int iv), (.int (1 : Int32)), (.ref a21)]
  refine go_iastore K (k := 33) rfl A63 (i := 1) (by decide) rfl (Nat.le_of_ble_eq_true rfl) g25 ?_
  intro h70 W71 A72
  refine go_run K 34 2 (pc' := 39) (Ls' := #[.val (.ref la), .val (.ref a21), .val (.ref it32), .val (.ref r), .val (.int (2 : Int32))]) (st' := []) rfl ?_
  refine go_run K 17 2 (pc' := 42) (st' := [(.ref r), (.int (2 : Int32))]) rfl ?_
  have X73 : Ext h h70 := (Ext.wrN X64 W71 (Nat.le_trans (Nat.le_refl _) (Nat.le_of_eq e24.symm)))
  have c74 := (u15.ext X73)
  refine go_getfieldR K (k := 19) rfl (H.w 292 rfl) c74 ?_
  refine go_icmpge K (k := 20) rfl (pc' := 79) (by decide) (fun _ => ?_) (fun q => absurd q (by decide))
  refine go_run K 36 1 (pc' := 17) (st' := []) rfl ?_
  refine go_run K 8 1 (pc' := 18) (st' := [(.ref it32)]) rfl ?_
  have c75 := (Fld.other W71 (Fld.other W62 F50 (Or.inl (Exa.neArv e49 c60 (H.w 302 rfl)))) (Or.inl (Exa.neArv (Exa.wr W62 e49) A63 (H.w 302 rfl))))
  have c76 := (Fld.other W71 (Fld.other W62 F51 (Or.inl (Exa.neArv e49 c60 (H.w 302 rfl)))) (Or.inl (Exa.neArv (Exa.wr W62 e49) A63 (H.w 302 rfl))))
  have c77 := (f5'.ext X73)
  have c78 := (Exa.wr W71 (Exa.wr W62 e49))
  refine go_interface K (k := 9) rfl (H.w 316 rfl) (H.w 317 rfl) (H.w 318 rfl) (H.w 319 rfl) (H.w 320 rfl) (H.w 321 rfl) (H.w 322 rfl) (H.w 323 rfl) (H.w 303 rfl) (H.w 324 rfl) rfl (by decide) pd_11 c78 (c_hnN H (by decide) c75 c76 c77) (argsL := []) (rest := []) rfl rfl rfl sub0 rfl ?_
  rintro _ _ _ - ⟨rfl, rfl⟩
  show Go G B M_inv _ h70 (a21 :: []) 2 6 23 #[.val (.ref la), .val (.ref a21), .val (.ref it32), .val (.ref r), .val (.int (2 : Int32))] [(.int (0 : Int32))]
  refine go_ifeq K (k := 10) rfl (pc' := 82) (by decide) (fun _ => ?_) (fun q => absurd (by decide) q)
  refine go_run K 37 1 (pc' := 83) (st' := [(.ref a21)]) rfl ?_
  refine go_areturn K (k := 38) rfl rfl rfl rfl rfl rfl rfl ?_
  intro Sf hSf
  exact ⟨a21, k23, rfl, X73, A72, g25, Nat.le_trans (Nat.le_refl _) (Nat.le_of_eq e24.symm)⟩
set_option maxRecDepth 65536 in
set_option maxHeartbeats 40000000 in
theorem c_inv3 {G : Gb} (H : Gl tables_1 els G) {h : Heap} {li t r la pr io : Addr} {kA : ClassId} {ps : List Int32} {iv : Int32} (L0 : Alk G h li t r kA 1 (0 : Int32) (0 : Int32) (3 : Int32) (.ref io)) (Y0 : Ly G h la li pr ps) (M0 : Lam G h io "com/example/foyer/foyer/Layout" sg_ar [.int iv]) :
    Ctr G [] (⟨"com/example/foyer/foyer/Layout", "initialValues", "()[I"⟩ : MethodName) prog_33_method_7_code 5 (some (.array .int)) ({ frames := 4, cells := 2, slots := 8, locals := 54 } : Room) #[.ref la] h [] (fun v h' Sf => ∃ (d : Addr) (kd : ClassId), v = some (.ref d) ∧ Ext h h' ∧ Arv G.Z h' d kd .int (3 : Int32) [.int iv, .int iv, .int iv] (.int 0) ∧ G.Z.heap.size ≤ d ∧ h.size ≤ d) := by
  refine ctr_of M_inv rfl rfl (plainFor_of_name pn_11) L_inv H.el (Ls := #[.val (.ref la), .unset, .unset, .unset, .unset]) (fun m => ef_ok (by show argsToLocals _ 5 = _; first | (simp [argsToLocals, Value.category]; done) | rfl)) ?_
  intro B K hE
  obtain ⟨e1, ⟨mc2, f3⟩, f4, f5, e6, o7, ⟨k1, k2⟩, ⟨g8, g9⟩, ⟨vs, l1, l2, A10⟩, R11⟩ := id L0
  have f5' : Fld G.Z h li "java/util/ArrayList" "size" "I" (.int (1 : Int32)) := f5
  obtain ⟨u12, u13, u14, u15, u16⟩ := id R11
  obtain ⟨y17, y18, y19, y20⟩ := id Y0
  refine go_run K 0 1 (pc' := 1) (st' := [(.ref la)]) rfl ?_
  refine go_virt0 K (k := 1) rfl (H.w 187 rfl) (selP (H.w 189 rfl) (H.w 188 rfl) (H.w 3 rfl) (by decide)) (H.w 188 rfl) (H.w 4 rfl) (H.w 190 rfl) (by decide) pd_6 (Ly.exa Y0) (c_lszK H L0 Y0) (argsL := []) (rest := []) rfl rfl rfl sub0 rfl ?_
  rintro _ _ _ - ⟨rfl, rfl⟩
  show Go G B M_inv _ h [] 0 0 4 #[.val (.ref la), .unset, .unset, .unset, .unset] [(.int ((0 : Int32) + (3 : Int32)))]
  show Go G B M_inv _ h [] 0 0 4 #[.val (.ref la), .unset, .unset, .unset, .unset] [(.int (3 : Int32))]
  refine go_newarray K (k := 2) rfl (H.w 1 rfl) (by decide) (cap := 3) (by decide) rfl rfl rfl ?_
  intro h22 a21 k23 e24 g25 E26 A27
  have A27' : Arv G.Z h22 a21 k23 .int (3 : Int32) [(.int (0 : Int32)), (.int (0 : Int32)), (.int (0 : Int32))] (.int (0 : Int32)) := Arv.pad A27 (pad_rep [] (.int (0 : Int32)) 3)
  refine go_run K 3 1 (pc' := 7) (Ls' := #[.val (.ref la), .val (.ref a21), .unset, .unset, .unset]) (st' := []) rfl ?_
  refine go_run K 4 1 (pc' := 8) (st' := [(.ref la)]) rfl ?_
  have c28 := (y18.ext E26)
  refine go_getfield K (k := 5) rfl (host := "") (Or.inl (H.w 46 rfl)) Via.refl c28 ?_
  have c29 := (e1.ext E26)
  have c30 := (f3.ext E26)
  refine go_interface K (k := 6) rfl (H.w 293 rfl) (H.w 294 rfl) (H.w 295 rfl) (H.w 296 rfl) (H.w 297 rfl) (H.w 298 rfl) (H.w 299 rfl) (H.w 198 rfl) (H.w 10 rfl) (H.w 300 rfl) rfl (by decide) pd_28 c29 (c_itr H c29 c30) (argsL := []) (rest := []) rfl rfl rfl sub0 rfl ?_
  rintro _ h31 _ - ⟨it32, rfl, E33, e34, F37, F38, F39, F40, g35, f36⟩
  show Go G B M_inv _ h31 (a21 :: []) 2 7 16 #[.val (.ref la), .val (.ref a21), .unset, .unset, .unset] [(.ref it32)]
  refine go_run K 7 1 (pc' := 17) (Ls' := #[.val (.ref la), .val (.ref a21), .val (.ref it32), .unset, .unset]) (st' := []) rfl ?_
  refine go_run K 8 1 (pc' := 18) (st' := [(.ref it32)]) rfl ?_
  have X41 : Ext h h31 := (Ext.tr E26 E33)
  have c42 := (f5'.ext X41)
  refine go_interface K (k := 9) rfl (H.w 316 rfl) (H.w 317 rfl) (H.w 318 rfl) (H.w 319 rfl) (H.w 320 rfl) (H.w 321 rfl) (H.w 322 rfl) (H.w 323 rfl) (H.w 303 rfl) (H.w 324 rfl) rfl (by decide) pd_11 e34 (c_hnY H (by decide) F37 F38 c42) (argsL := []) (rest := []) rfl rfl rfl sub0 rfl ?_
  rintro _ _ _ - ⟨rfl, rfl⟩
  show Go G B M_inv _ h31 (a21 :: []) 2 7 23 #[.val (.ref la), .val (.ref a21), .val (.ref it32), .unset, .unset] [(.int (1 : Int32))]
  refine go_ifeq K (k := 10) rfl (pc' := 82) (by decide) (fun q => absurd q (by decide)) (fun _ => ?_)
  refine go_run K 11 1 (pc' := 27) (st' := [(.ref it32)]) rfl ?_
  have c43 := (c29.ext E33)
  have c44 := (c30.ext E33)
  have c45 := (f4.ext X41)
  have c46 := (A10.ext X41)
  refine go_interface K (k := 12) rfl (H.w 328 rfl) (H.w 329 rfl) (H.w 330 rfl) (H.w 331 rfl) (H.w 332 rfl) (H.w 333 rfl) (H.w 334 rfl) (H.w 323 rfl) (H.w 303 rfl) (H.w 335 rfl) rfl (by decide) pd_29 e34 (c_nx (r := r) H e34 F37 F38 F39 F40 g35 c43 c44 c42 c45 c46 l2) (argsL := []) (rest := []) rfl rfl rfl sub0 rfl ?_
  rintro _ h47 _ - ⟨rfl, K48, e49, F50, F51⟩
  show Go G B M_inv _ h47 (a21 :: []) 2 7 32 #[.val (.ref la), .val (.ref a21), .val (.ref it32), .unset, .unset] [(.ref r)]
  have X52 : Ext h h47 := (Ext.keepN X41 K48 (allS (Nat.le_trans (E26).1 f36) all0))
  have c53 := (u12.ext X52)
  refine go_cast K (k := 13) rfl (H.w 69 rfl) (Ins.self c53) ?_
  refine go_run K 14 1 (pc' := 36) (Ls' := #[.val (.ref la), .val (.ref a21), .val (.ref it32), .val (.ref r), .unset]) (st' := []) rfl ?_
  refine go_run K 15 2 (pc' := 39) (Ls' := #[.val (.ref la), .val (.ref a21), .val (.ref it32), .val (.ref r), .val (.int (0 : Int32))]) (st' := []) rfl ?_
  refine go_run K 17 2 (pc' := 42) (st' := [(.ref r), (.int (0 : Int32))]) rfl ?_
  have c54 := (u15.ext X52)
  refine go_getfieldR K (k := 19) rfl (H.w 292 rfl) c54 ?_
  refine go_icmpge K (k := 20) rfl (pc' := 79) (by decide) (fun q => absurd (by decide) q) (fun _ => ?_)
  refine go_run K 21 2 (pc' := 50) (st' := [(.ref r), (.ref a21)]) rfl ?_
  have c55 := (u13.ext X52)
  refine go_getfieldR K (k := 23) rfl (H.w 291 rfl) c55 ?_
  refine go_run K 24 3 (pc' := 57) (st' := [(.ref r), (.int (0 : Int32)), (.ref a21)]) rfl ?_
  have c56 := (u16.ext X52)
  refine go_getfieldR K (k := 27) rfl (H.w 359 rfl) c56 ?_
  refine go_run K 28 1 (pc' := 61) (st' := [(.ref r), (.ref io), (.int (0 : Int32)), (.ref a21)]) rfl ?_
  have c57 := (u14.ext X52)
  refine go_getfieldR K (k := 29) rfl (H.w 360 rfl) c57 ?_
  refine go_run K 30 2 (pc' := 67) (st' := [(.int (0 : Int32)), (.ref io), (.int (0 : Int32)), (.ref a21)]) rfl ?_
  have c58 := (M0.ext X52)
  refine go_lamcall K (k := 32) rfl (xi := (⟨"java/util/function/IntUnaryOperator", "applyAsInt", "(I)I"⟩ : MethodName)) (y := (⟨"com/example/foyer/foyer/Layout", "lambda$array$1", "(II)I"⟩ : MethodName)) (bytes := prog_33_method_12_code) (fcode := fc_ar) (σ := sg_ar) (host := "com/example/foyer/foyer/Layout") (rest := [(.int (0 : Int32)), (.ref a21)]) (H.w 361 rfl) (H.w 362 rfl) (H.w 363 rfl) rfl (H.w 365 rfl) (H.w 364 rfl) (H.w 4 rfl) (H.w 59 rfl) hx_ar hy_ar (by decide) pd_30 pd_2 pn_11 ta_0 ta_1 fwd_ar cap_ar fa_0 fa_1 fa_4 fa_5 fa_8 c58 rfl rfl rfl rfl rfl rfl ?_
  show Go G B M_inv _ h47 (a21 :: []) 2 7 72 #[.val (.ref la), .val (.ref a21), .val (.ref it32), .val (.ref r), .val (.int (0 : Int32))] [(.int iv), (.int (0 : Int32)), (.ref a21)]
  have X59 : Ext h22 h47 := (Ext.keepN E33 K48 (allS (f36) all0))
  have c60 := (A27'.ext X59)
  refine go_iastore K (k := 33) rfl c60 (i := 0) (by decide) rfl (Nat.le_of_ble_eq_true rfl) g25 ?_
  intro h61 W62 A63
  refine go_run K 34 2 (pc' := 39) (Ls' := #[.val (.ref la), .val (.ref a21), .val (.ref it32), .val (.ref r), .val (.int (1 : Int32))]) (st' := []) rfl ?_
  refine go_run K 17 2 (pc' := 42) (st' := [(.ref r), (.int (1 : Int32))]) rfl ?_
  have X64 : Ext h h61 := (Ext.wrN X52 W62 (Nat.le_trans (Nat.le_refl _) (Nat.le_of_eq e24.symm)))
  have c65 := (u15.ext X64)
  refine go_getfieldR K (k := 19) rfl (H.w 292 rfl) c65 ?_
  refine go_icmpge K (k := 20) rfl (pc' := 79) (by decide) (fun q => absurd (by decide) q) (fun _ => ?_)
  refine go_run K 21 2 (pc' := 50) (st' := [(.ref r), (.ref a21)]) rfl ?_
  have c66 := (u13.ext X64)
  refine go_getfieldR K (k := 23) rfl (H.w 291 rfl) c66 ?_
  refine go_run K 24 3 (pc' := 57) (st' := [(.ref r), (.int (1 : Int32)), (.ref a21)]) rfl ?_
  have c67 := (u16.ext X64)
  refine go_getfieldR K (k := 27) rfl (H.w 359 rfl) c67 ?_
  refine go_run K 28 1 (pc' := 61) (st' := [(.ref r), (.ref io), (.int (1 : Int32)), (.ref a21)]) rfl ?_
  have c68 := (u14.ext X64)
  refine go_getfieldR K (k := 29) rfl (H.w 360 rfl) c68 ?_
  refine go_run K 30 2 (pc' := 67) (st' := [(.int (1 : Int32)), (.ref io), (.int (1 : Int32)), (.ref a21)]) rfl ?_
  have c69 := (M0.ext X64)
  refine go_lamcall K (k := 32) rfl (xi := (⟨"java/util/function/IntUnaryOperator", "applyAsInt", "(I)I"⟩ : MethodName)) (y := (⟨"com/example/foyer/foyer/Layout", "lambda$array$1", "(II)I"⟩ : MethodName)) (bytes := prog_33_method_12_code) (fcode := fc_ar) (σ := sg_ar) (host := "com/example/foyer/foyer/Layout") (rest := [(.int (1 : Int32)), (.ref a21)]) (H.w 361 rfl) (H.w 362 rfl) (H.w 363 rfl) rfl (H.w 365 rfl) (H.w 364 rfl) (H.w 4 rfl) (H.w 59 rfl) hx_ar hy_ar (by decide) pd_30 pd_2 pn_11 ta_0 ta_1 fwd_ar cap_ar fa_0 fa_1 fa_4 fa_5 fa_8 c69 rfl rfl rfl rfl rfl rfl ?_
  show Go G B M_inv _ h61 (a21 :: []) 2 7 72 #[.val (.ref la), .val (.ref a21), .val (.ref it32), .val (.ref r), .val (.int (1 : Int32))] [(.int iv), (.int (1 : Int32)), (.ref a21)]
  refine go_iastore K (k := 33) rfl A63 (i := 1) (by decide) rfl (Nat.le_of_ble_eq_true rfl) g25 ?_
  intro h70 W71 A72
  refine go_run K 34 2 (pc' := 39) (Ls' := #[.val (.ref la), .val (.ref a21), .val (.ref it32), .val (.ref r), .val (.int (2 : Int32))]) (st' := []) rfl ?_
  refine go_run K 17 2 (pc' := 42) (st' := [(.ref r), (.int (2 : Int32))]) rfl ?_
  have X73 : Ext h h70 := (Ext.wrN X64 W71 (Nat.le_trans (Nat.le_refl _) (Nat.le_of_eq e24.symm)))
  have c74 := (u15.ext X73)
  refine go_getfieldR K (k := 19) rfl (H.w 292 rfl) c74 ?_
  refine go_icmpge K (k := 20) rfl (pc' := 79) (by decide) (fun q => absurd (by decide) q) (fun _ => ?_)
  refine go_run K 21 2 (pc' := 50) (st' := [(.ref r), (.ref a21)]) rfl ?_
  have c75 := (u13.ext X73)
  refine go_getfieldR K (k := 23) rfl (H.w 291 rfl) c75 ?_
  refine go_run K 24 3 (pc' := 57) (st' := [(.ref r), (.int (2 : Int32)), (.ref a21)]) rfl ?_
  have c76 := (u16.ext X73)
  refine go_getfieldR K (k := 27) rfl (H.w 359 rfl) c76 ?_
  refine go_run K 28 1 (pc' := 61) (st' := [(.ref r), (.ref io), (.int (2 : Int32)), (.ref a21)]) rfl ?_
  have c77 := (u14.ext X73)
  refine go_getfieldR K (k := 29) rfl (H.w 360 rfl) c77 ?_
  refine go_run K 30 2 (pc' := 67) (st' := [(.int (2 : Int32)), (.ref io), (.int (2 : Int32)), (.ref a21)]) rfl ?_
  have c78 := (M0.ext X73)
  refine go_lamcall K (k := 32) rfl (xi := (⟨"java/util/function/IntUnaryOperator", "applyAsInt", "(I)I"⟩ : MethodName)) (y := (⟨"com/example/foyer/foyer/Layout", "lambda$array$1", "(II)I"⟩ : MethodName)) (bytes := prog_33_method_12_code) (fcode := fc_ar) (σ := sg_ar) (host := "com/example/foyer/foyer/Layout") (rest := [(.int (2 : Int32)), (.ref a21)]) (H.w 361 rfl) (H.w 362 rfl) (H.w 363 rfl) rfl (H.w 365 rfl) (H.w 364 rfl) (H.w 4 rfl) (H.w 59 rfl) hx_ar hy_ar (by decide) pd_30 pd_2 pn_11 ta_0 ta_1 fwd_ar cap_ar fa_0 fa_1 fa_4 fa_5 fa_8 c78 rfl rfl rfl rfl rfl rfl ?_
  show Go G B M_inv _ h70 (a21 :: []) 2 7 72 #[.val (.ref la), .val (.ref a21), .val (.ref it32), .val (.ref r), .val (.int (2 : Int32))] [(.int iv), (.int (2 : Int32)), (.ref a21)]
  refine go_iastore K (k := 33) rfl A72 (i := 2) (by decide) rfl (Nat.le_of_ble_eq_true rfl) g25 ?_
  intro h79 W80 A81
  refine go_run K 34 2 (pc' := 39) (Ls' := #[.val (.ref la), .val (.ref a21), .val (.ref it32), .val (.ref r), .val (.int (3 : Int32))]) (st' := []) rfl ?_
  refine go_run K 17 2 (pc' := 42) (st' := [(.ref r), (.int (3 : Int32))]) rfl ?_
  have X82 : Ext h h79 := (Ext.wrN X73 W80 (Nat.le_trans (Nat.le_refl _) (Nat.le_of_eq e24.symm)))
  have c83 := (u15.ext X82)
  refine go_getfieldR K (k := 19) rfl (H.w 292 rfl) c83 ?_
  refine go_icmpge K (k := 20) rfl (pc' := 79) (by decide) (fun _ => ?_) (fun q => absurd q (by decide))
  refine go_run K 36 1 (pc' := 17) (st' := []) rfl ?_
  refine go_run K 8 1 (pc' := 18) (st' := [(.ref it32)]) rfl ?_
  have c84 := (Fld.other W80 (Fld.other W71 (Fld.other W62 F50 (Or.inl (Exa.neArv e49 c60 (H.w 302 rfl)))) (Or.inl (Exa.neArv (Exa.wr W62 e49) A63 (H.w 302 rfl)))) (Or.inl (Exa.neArv (Exa.wr W71 (Exa.wr W62 e49)) A72 (H.w 302 rfl))))
  have c85 := (Fld.other W80 (Fld.other W71 (Fld.other W62 F51 (Or.inl (Exa.neArv e49 c60 (H.w 302 rfl)))) (Or.inl (Exa.neArv (Exa.wr W62 e49) A63 (H.w 302 rfl)))) (Or.inl (Exa.neArv (Exa.wr W71 (Exa.wr W62 e49)) A72 (H.w 302 rfl))))
  have c86 := (f5'.ext X82)
  have c87 := (Exa.wr W80 (Exa.wr W71 (Exa.wr W62 e49)))
  refine go_interface K (k := 9) rfl (H.w 316 rfl) (H.w 317 rfl) (H.w 318 rfl) (H.w 319 rfl) (H.w 320 rfl) (H.w 321 rfl) (H.w 322 rfl) (H.w 323 rfl) (H.w 303 rfl) (H.w 324 rfl) rfl (by decide) pd_11 c87 (c_hnN H (by decide) c84 c85 c86) (argsL := []) (rest := []) rfl rfl rfl sub0 rfl ?_
  rintro _ _ _ - ⟨rfl, rfl⟩
  show Go G B M_inv _ h79 (a21 :: []) 2 7 23 #[.val (.ref la), .val (.ref a21), .val (.ref it32), .val (.ref r), .val (.int (3 : Int32))] [(.int (0 : Int32))]
  refine go_ifeq K (k := 10) rfl (pc' := 82) (by decide) (fun _ => ?_) (fun q => absurd (by decide) q)
  refine go_run K 37 1 (pc' := 83) (st' := [(.ref a21)]) rfl ?_
  refine go_areturn K (k := 38) rfl rfl rfl rfl rfl rfl rfl ?_
  intro Sf hSf
  exact ⟨a21, k23, rfl, X82, A81, g25, Nat.le_trans (Nat.le_refl _) (Nat.le_of_eq e24.symm)⟩
set_option maxRecDepth 65536 in
set_option maxHeartbeats 40000000 in
theorem c_inv4 {G : Gb} (H : Gl tables_1 els G) {h : Heap} {li t r la pr io : Addr} {kA : ClassId} {ps : List Int32} {iv : Int32} (L0 : Alk G h li t r kA 1 (0 : Int32) (0 : Int32) (4 : Int32) (.ref io)) (Y0 : Ly G h la li pr ps) (M0 : Lam G h io "com/example/foyer/foyer/Layout" sg_ar [.int iv]) :
    Ctr G [] (⟨"com/example/foyer/foyer/Layout", "initialValues", "()[I"⟩ : MethodName) prog_33_method_7_code 5 (some (.array .int)) ({ frames := 4, cells := 2, slots := 8, locals := 54 } : Room) #[.ref la] h [] (fun v h' Sf => ∃ (d : Addr) (kd : ClassId), v = some (.ref d) ∧ Ext h h' ∧ Arv G.Z h' d kd .int (4 : Int32) [.int iv, .int iv, .int iv, .int iv] (.int 0) ∧ G.Z.heap.size ≤ d ∧ h.size ≤ d) := by
  refine ctr_of M_inv rfl rfl (plainFor_of_name pn_11) L_inv H.el (Ls := #[.val (.ref la), .unset, .unset, .unset, .unset]) (fun m => ef_ok (by show argsToLocals _ 5 = _; first | (simp [argsToLocals, Value.category]; done) | rfl)) ?_
  intro B K hE
  obtain ⟨e1, ⟨mc2, f3⟩, f4, f5, e6, o7, ⟨k1, k2⟩, ⟨g8, g9⟩, ⟨vs, l1, l2, A10⟩, R11⟩ := id L0
  have f5' : Fld G.Z h li "java/util/ArrayList" "size" "I" (.int (1 : Int32)) := f5
  obtain ⟨u12, u13, u14, u15, u16⟩ := id R11
  obtain ⟨y17, y18, y19, y20⟩ := id Y0
  refine go_run K 0 1 (pc' := 1) (st' := [(.ref la)]) rfl ?_
  refine go_virt0 K (k := 1) rfl (H.w 187 rfl) (selP (H.w 189 rfl) (H.w 188 rfl) (H.w 3 rfl) (by decide)) (H.w 188 rfl) (H.w 4 rfl) (H.w 190 rfl) (by decide) pd_6 (Ly.exa Y0) (c_lszK H L0 Y0) (argsL := []) (rest := []) rfl rfl rfl sub0 rfl ?_
  rintro _ _ _ - ⟨rfl, rfl⟩
  show Go G B M_inv _ h [] 0 0 4 #[.val (.ref la), .unset, .unset, .unset, .unset] [(.int ((0 : Int32) + (4 : Int32)))]
  show Go G B M_inv _ h [] 0 0 4 #[.val (.ref la), .unset, .unset, .unset, .unset] [(.int (4 : Int32))]
  refine go_newarray K (k := 2) rfl (H.w 1 rfl) (by decide) (cap := 4) (by decide) rfl rfl rfl ?_
  intro h22 a21 k23 e24 g25 E26 A27
  have A27' : Arv G.Z h22 a21 k23 .int (4 : Int32) [(.int (0 : Int32)), (.int (0 : Int32)), (.int (0 : Int32)), (.int (0 : Int32))] (.int (0 : Int32)) := Arv.pad A27 (pad_rep [] (.int (0 : Int32)) 4)
  refine go_run K 3 1 (pc' := 7) (Ls' := #[.val (.ref la), .val (.ref a21), .unset, .unset, .unset]) (st' := []) rfl ?_
  refine go_run K 4 1 (pc' := 8) (st' := [(.ref la)]) rfl ?_
  have c28 := (y18.ext E26)
  refine go_getfield K (k := 5) rfl (host := "") (Or.inl (H.w 46 rfl)) Via.refl c28 ?_
  have c29 := (e1.ext E26)
  have c30 := (f3.ext E26)
  refine go_interface K (k := 6) rfl (H.w 293 rfl) (H.w 294 rfl) (H.w 295 rfl) (H.w 296 rfl) (H.w 297 rfl) (H.w 298 rfl) (H.w 299 rfl) (H.w 198 rfl) (H.w 10 rfl) (H.w 300 rfl) rfl (by decide) pd_28 c29 (c_itr H c29 c30) (argsL := []) (rest := []) rfl rfl rfl sub0 rfl ?_
  rintro _ h31 _ - ⟨it32, rfl, E33, e34, F37, F38, F39, F40, g35, f36⟩
  show Go G B M_inv _ h31 (a21 :: []) 2 8 16 #[.val (.ref la), .val (.ref a21), .unset, .unset, .unset] [(.ref it32)]
  refine go_run K 7 1 (pc' := 17) (Ls' := #[.val (.ref la), .val (.ref a21), .val (.ref it32), .unset, .unset]) (st' := []) rfl ?_
  refine go_run K 8 1 (pc' := 18) (st' := [(.ref it32)]) rfl ?_
  have X41 : Ext h h31 := (Ext.tr E26 E33)
  have c42 := (f5'.ext X41)
  refine go_interface K (k := 9) rfl (H.w 316 rfl) (H.w 317 rfl) (H.w 318 rfl) (H.w 319 rfl) (H.w 320 rfl) (H.w 321 rfl) (H.w 322 rfl) (H.w 323 rfl) (H.w 303 rfl) (H.w 324 rfl) rfl (by decide) pd_11 e34 (c_hnY H (by decide) F37 F38 c42) (argsL := []) (rest := []) rfl rfl rfl sub0 rfl ?_
  rintro _ _ _ - ⟨rfl, rfl⟩
  show Go G B M_inv _ h31 (a21 :: []) 2 8 23 #[.val (.ref la), .val (.ref a21), .val (.ref it32), .unset, .unset] [(.int (1 : Int32))]
  refine go_ifeq K (k := 10) rfl (pc' := 82) (by decide) (fun q => absurd q (by decide)) (fun _ => ?_)
  refine go_run K 11 1 (pc' := 27) (st' := [(.ref it32)]) rfl ?_
  have c43 := (c29.ext E33)
  have c44 := (c30.ext E33)
  have c45 := (f4.ext X41)
  have c46 := (A10.ext X41)
  refine go_interface K (k := 12) rfl (H.w 328 rfl) (H.w 329 rfl) (H.w 330 rfl) (H.w 331 rfl) (H.w 332 rfl) (H.w 333 rfl) (H.w 334 rfl) (H.w 323 rfl) (H.w 303 rfl) (H.w 335 rfl) rfl (by decide) pd_29 e34 (c_nx (r := r) H e34 F37 F38 F39 F40 g35 c43 c44 c42 c45 c46 l2) (argsL := []) (rest := []) rfl rfl rfl sub0 rfl ?_
  rintro _ h47 _ - ⟨rfl, K48, e49, F50, F51⟩
  show Go G B M_inv _ h47 (a21 :: []) 2 8 32 #[.val (.ref la), .val (.ref a21), .val (.ref it32), .unset, .unset] [(.ref r)]
  have X52 : Ext h h47 := (Ext.keepN X41 K48 (allS (Nat.le_trans (E26).1 f36) all0))
  have c53 := (u12.ext X52)
  refine go_cast K (k := 13) rfl (H.w 69 rfl) (Ins.self c53) ?_
  refine go_run K 14 1 (pc' := 36) (Ls' := #[.val (.ref la), .val (.ref a21), .val (.ref it32), .val (.ref r), .unset]) (st' := []) rfl ?_
  refine go_run K 15 2 (pc' := 39) (Ls' := #[.val (.ref la), .val (.ref a21), .val (.ref it32), .val (.ref r), .val (.int (0 : Int32))]) (st' := []) rfl ?_
  refine go_run K 17 2 (pc' := 42) (st' := [(.ref r), (.int (0 : Int32))]) rfl ?_
  have c54 := (u15.ext X52)
  refine go_getfieldR K (k := 19) rfl (H.w 292 rfl) c54 ?_
  refine go_icmpge K (k := 20) rfl (pc' := 79) (by decide) (fun q => absurd (by decide) q) (fun _ => ?_)
  refine go_run K 21 2 (pc' := 50) (st' := [(.ref r), (.ref a21)]) rfl ?_
  have c55 := (u13.ext X52)
  refine go_getfieldR K (k := 23) rfl (H.w 291 rfl) c55 ?_
  refine go_run K 24 3 (pc' := 57) (st' := [(.ref r), (.int (0 : Int32)), (.ref a21)]) rfl ?_
  have c56 := (u16.ext X52)
  refine go_getfieldR K (k := 27) rfl (H.w 359 rfl) c56 ?_
  refine go_run K 28 1 (pc' := 61) (st' := [(.ref r), (.ref io), (.int (0 : Int32)), (.ref a21)]) rfl ?_
  have c57 := (u14.ext X52)
  refine go_getfieldR K (k := 29) rfl (H.w 360 rfl) c57 ?_
  refine go_run K 30 2 (pc' := 67) (st' := [(.int (0 : Int32)), (.ref io), (.int (0 : Int32)), (.ref a21)]) rfl ?_
  have c58 := (M0.ext X52)
  refine go_lamcall K (k := 32) rfl (xi := (⟨"java/util/function/IntUnaryOperator", "applyAsInt", "(I)I"⟩ : MethodName)) (y := (⟨"com/example/foyer/foyer/Layout", "lambda$array$1", "(II)I"⟩ : MethodName)) (bytes := prog_33_method_12_code) (fcode := fc_ar) (σ := sg_ar) (host := "com/example/foyer/foyer/Layout") (rest := [(.int (0 : Int32)), (.ref a21)]) (H.w 361 rfl) (H.w 362 rfl) (H.w 363 rfl) rfl (H.w 365 rfl) (H.w 364 rfl) (H.w 4 rfl) (H.w 59 rfl) hx_ar hy_ar (by decide) pd_30 pd_2 pn_11 ta_0 ta_1 fwd_ar cap_ar fa_0 fa_1 fa_4 fa_5 fa_8 c58 rfl rfl rfl rfl rfl rfl ?_
  show Go G B M_inv _ h47 (a21 :: []) 2 8 72 #[.val (.ref la), .val (.ref a21), .val (.ref it32), .val (.ref r), .val (.int (0 : Int32))] [(.int iv), (.int (0 : Int32)), (.ref a21)]
  have X59 : Ext h22 h47 := (Ext.keepN E33 K48 (allS (f36) all0))
  have c60 := (A27'.ext X59)
  refine go_iastore K (k := 33) rfl c60 (i := 0) (by decide) rfl (Nat.le_of_ble_eq_true rfl) g25 ?_
  intro h61 W62 A63
  refine go_run K 34 2 (pc' := 39) (Ls' := #[.val (.ref la), .val (.ref a21), .val (.ref it32), .val (.ref r), .val (.int (1 : Int32))]) (st' := []) rfl ?_
  refine go_run K 17 2 (pc' := 42) (st' := [(.ref r), (.int (1 : Int32))]) rfl ?_
  have X64 : Ext h h61 := (Ext.wrN X52 W62 (Nat.le_trans (Nat.le_refl _) (Nat.le_of_eq e24.symm)))
  have c65 := (u15.ext X64)
  refine go_getfieldR K (k := 19) rfl (H.w 292 rfl) c65 ?_
  refine go_icmpge K (k := 20) rfl (pc' := 79) (by decide) (fun q => absurd (by decide) q) (fun _ => ?_)
  refine go_run K 21 2 (pc' := 50) (st' := [(.ref r), (.ref a21)]) rfl ?_
  have c66 := (u13.ext X64)
  refine go_getfieldR K (k := 23) rfl (H.w 291 rfl) c66 ?_
  refine go_run K 24 3 (pc' := 57) (st' := [(.ref r), (.int (1 : Int32)), (.ref a21)]) rfl ?_
  have c67 := (u16.ext X64)
  refine go_getfieldR K (k := 27) rfl (H.w 359 rfl) c67 ?_
  refine go_run K 28 1 (pc' := 61) (st' := [(.ref r), (.ref io), (.int (1 : Int32)), (.ref a21)]) rfl ?_
  have c68 := (u14.ext X64)
  refine go_getfieldR K (k := 29) rfl (H.w 360 rfl) c68 ?_
  refine go_run K 30 2 (pc' := 67) (st' := [(.int (1 : Int32)), (.ref io), (.int (1 : Int32)), (.ref a21)]) rfl ?_
  have c69 := (M0.ext X64)
  refine go_lamcall K (k := 32) rfl (xi := (⟨"java/util/function/IntUnaryOperator", "applyAsInt", "(I)I"⟩ : MethodName)) (y := (⟨"com/example/foyer/foyer/Layout", "lambda$array$1", "(II)I"⟩ : MethodName)) (bytes := prog_33_method_12_code) (fcode := fc_ar) (σ := sg_ar) (host := "com/example/foyer/foyer/Layout") (rest := [(.int (1 : Int32)), (.ref a21)]) (H.w 361 rfl) (H.w 362 rfl) (H.w 363 rfl) rfl (H.w 365 rfl) (H.w 364 rfl) (H.w 4 rfl) (H.w 59 rfl) hx_ar hy_ar (by decide) pd_30 pd_2 pn_11 ta_0 ta_1 fwd_ar cap_ar fa_0 fa_1 fa_4 fa_5 fa_8 c69 rfl rfl rfl rfl rfl rfl ?_
  show Go G B M_inv _ h61 (a21 :: []) 2 8 72 #[.val (.ref la), .val (.ref a21), .val (.ref it32), .val (.ref r), .val (.int (1 : Int32))] [(.int iv), (.int (1 : Int32)), (.ref a21)]
  refine go_iastore K (k := 33) rfl A63 (i := 1) (by decide) rfl (Nat.le_of_ble_eq_true rfl) g25 ?_
  intro h70 W71 A72
  refine go_run K 34 2 (pc' := 39) (Ls' := #[.val (.ref la), .val (.ref a21), .val (.ref it32), .val (.ref r), .val (.int (2 : Int32))]) (st' := []) rfl ?_
  refine go_run K 17 2 (pc' := 42) (st' := [(.ref r), (.int (2 : Int32))]) rfl ?_
  have X73 : Ext h h70 := (Ext.wrN X64 W71 (Nat.le_trans (Nat.le_refl _) (Nat.le_of_eq e24.symm)))
  have c74 := (u15.ext X73)
  refine go_getfieldR K (k := 19) rfl (H.w 292 rfl) c74 ?_
  refine go_icmpge K (k := 20) rfl (pc' := 79) (by decide) (fun q => absurd (by decide) q) (fun _ => ?_)
  refine go_run K 21 2 (pc' := 50) (st' := [(.ref r), (.ref a21)]) rfl ?_
  have c75 := (u13.ext X73)
  refine go_getfieldR K (k := 23) rfl (H.w 291 rfl) c75 ?_
  refine go_run K 24 3 (pc' := 57) (st' := [(.ref r), (.int (2 : Int32)), (.ref a21)]) rfl ?_
  have c76 := (u16.ext X73)
  refine go_getfieldR K (k := 27) rfl (H.w 359 rfl) c76 ?_
  refine go_run K 28 1 (pc' := 61) (st' := [(.ref r), (.ref io), (.int (2 : Int32)), (.ref a21)]) rfl ?_
  have c77 := (u14.ext X73)
  refine go_getfieldR K (k := 29) rfl (H.w 360 rfl) c77 ?_
  refine go_run K 30 2 (pc' := 67) (st' := [(.int (2 : Int32)), (.ref io), (.int (2 : Int32)), (.ref a21)]) rfl ?_
  have c78 := (M0.ext X73)
  refine go_lamcall K (k := 32) rfl (xi := (⟨"java/util/function/IntUnaryOperator", "applyAsInt", "(I)I"⟩ : MethodName)) (y := (⟨"com/example/foyer/foyer/Layout", "lambda$array$1", "(II)I"⟩ : MethodName)) (bytes := prog_33_method_12_code) (fcode := fc_ar) (σ := sg_ar) (host := "com/example/foyer/foyer/Layout") (rest := [(.int (2 : Int32)), (.ref a21)]) (H.w 361 rfl) (H.w 362 rfl) (H.w 363 rfl) rfl (H.w 365 rfl) (H.w 364 rfl) (H.w 4 rfl) (H.w 59 rfl) hx_ar hy_ar (by decide) pd_30 pd_2 pn_11 ta_0 ta_1 fwd_ar cap_ar fa_0 fa_1 fa_4 fa_5 fa_8 c78 rfl rfl rfl rfl rfl rfl ?_
  show Go G B M_inv _ h70 (a21 :: []) 2 8 72 #[.val (.ref la), .val (.ref a21), .val (.ref it32), .val (.ref r), .val (.int (2 : Int32))] [(.int iv), (.int (2 : Int32)), (.ref a21)]
  refine go_iastore K (k := 33) rfl A72 (i := 2) (by decide) rfl (Nat.le_of_ble_eq_true rfl) g25 ?_
  intro h79 W80 A81
  refine go_run K 34 2 (pc' := 39) (Ls' := #[.val (.ref la), .val (.ref a21), .val (.ref it32), .val (.ref r), .val (.int (3 : Int32))]) (st' := []) rfl ?_
  refine go_run K 17 2 (pc' := 42) (st' := [(.ref r), (.int (3 : Int32))]) rfl ?_
  have X82 : Ext h h79 := (Ext.wrN X73 W80 (Nat.le_trans (Nat.le_refl _) (Nat.le_of_eq e24.symm)))
  have c83 := (u15.ext X82)
  refine go_getfieldR K (k := 19) rfl (H.w 292 rfl) c83 ?_
  refine go_icmpge K (k := 20) rfl (pc' := 79) (by decide) (fun q => absurd (by decide) q) (fun _ => ?_)
  refine go_run K 21 2 (pc' := 50) (st' := [(.ref r), (.ref a21)]) rfl ?_
  have c84 := (u13.ext X82)
  refine go_getfieldR K (k := 23) rfl (H.w 291 rfl) c84 ?_
  refine go_run K 24 3 (pc' := 57) (st' := [(.ref r), (.int (3 : Int32)), (.ref a21)]) rfl ?_
  have c85 := (u16.ext X82)
  refine go_getfieldR K (k := 27) rfl (H.w 359 rfl) c85 ?_
  refine go_run K 28 1 (pc' := 61) (st' := [(.ref r), (.ref io), (.int (3 : Int32)), (.ref a21)]) rfl ?_
  have c86 := (u14.ext X82)
  refine go_getfieldR K (k := 29) rfl (H.w 360 rfl) c86 ?_
  refine go_run K 30 2 (pc' := 67) (st' := [(.int (3 : Int32)), (.ref io), (.int (3 : Int32)), (.ref a21)]) rfl ?_
  have c87 := (M0.ext X82)
  refine go_lamcall K (k := 32) rfl (xi := (⟨"java/util/function/IntUnaryOperator", "applyAsInt", "(I)I"⟩ : MethodName)) (y := (⟨"com/example/foyer/foyer/Layout", "lambda$array$1", "(II)I"⟩ : MethodName)) (bytes := prog_33_method_12_code) (fcode := fc_ar) (σ := sg_ar) (host := "com/example/foyer/foyer/Layout") (rest := [(.int (3 : Int32)), (.ref a21)]) (H.w 361 rfl) (H.w 362 rfl) (H.w 363 rfl) rfl (H.w 365 rfl) (H.w 364 rfl) (H.w 4 rfl) (H.w 59 rfl) hx_ar hy_ar (by decide) pd_30 pd_2 pn_11 ta_0 ta_1 fwd_ar cap_ar fa_0 fa_1 fa_4 fa_5 fa_8 c87 rfl rfl rfl rfl rfl rfl ?_
  show Go G B M_inv _ h79 (a21 :: []) 2 8 72 #[.val (.ref la), .val (.ref a21), .val (.ref it32), .val (.ref r), .val (.int (3 : Int32))] [(.int iv), (.int (3 : Int32)), (.ref a21)]
  refine go_iastore K (k := 33) rfl A81 (i := 3) (by decide) rfl (Nat.le_of_ble_eq_true rfl) g25 ?_
  intro h88 W89 A90
  refine go_run K 34 2 (pc' := 39) (Ls' := #[.val (.ref la), .val (.ref a21), .val (.ref it32), .val (.ref r), .val (.int (4 : Int32))]) (st' := []) rfl ?_
  refine go_run K 17 2 (pc' := 42) (st' := [(.ref r), (.int (4 : Int32))]) rfl ?_
  have X91 : Ext h h88 := (Ext.wrN X82 W89 (Nat.le_trans (Nat.le_refl _) (Nat.le_of_eq e24.symm)))
  have c92 := (u15.ext X91)
  refine go_getfieldR K (k := 19) rfl (H.w 292 rfl) c92 ?_
  refine go_icmpge K (k := 20) rfl (pc' := 79) (by decide) (fun _ => ?_) (fun q => absurd q (by decide))
  refine go_run K 36 1 (pc' := 17) (st' := []) rfl ?_
  refine go_run K 8 1 (pc' := 18) (st' := [(.ref it32)]) rfl ?_
  have c93 := (Fld.other W89 (Fld.other W80 (Fld.other W71 (Fld.other W62 F50 (Or.inl (Exa.neArv e49 c60 (H.w 302 rfl)))) (Or.inl (Exa.neArv (Exa.wr W62 e49) A63 (H.w 302 rfl)))) (Or.inl (Exa.neArv (Exa.wr W71 (Exa.wr W62 e49)) A72 (H.w 302 rfl)))) (Or.inl (Exa.neArv (Exa.wr W80 (Exa.wr W71 (Exa.wr W62 e49))) A81 (H.w 302 rfl))))
  have c94 := (Fld.other W89 (Fld.other W80 (Fld.other W71 (Fld.other W62 F51 (Or.inl (Exa.neArv e49 c60 (H.w 302 rfl)))) (Or.inl (Exa.neArv (Exa.wr W62 e49) A63 (H.w 302 rfl)))) (Or.inl (Exa.neArv (Exa.wr W71 (Exa.wr W62 e49)) A72 (H.w 302 rfl)))) (Or.inl (Exa.neArv (Exa.wr W80 (Exa.wr W71 (Exa.wr W62 e49))) A81 (H.w 302 rfl))))
  have c95 := (f5'.ext X91)
  have c96 := (Exa.wr W89 (Exa.wr W80 (Exa.wr W71 (Exa.wr W62 e49))))
  refine go_interface K (k := 9) rfl (H.w 316 rfl) (H.w 317 rfl) (H.w 318 rfl) (H.w 319 rfl) (H.w 320 rfl) (H.w 321 rfl) (H.w 322 rfl) (H.w 323 rfl) (H.w 303 rfl) (H.w 324 rfl) rfl (by decide) pd_11 c96 (c_hnN H (by decide) c93 c94 c95) (argsL := []) (rest := []) rfl rfl rfl sub0 rfl ?_
  rintro _ _ _ - ⟨rfl, rfl⟩
  show Go G B M_inv _ h88 (a21 :: []) 2 8 23 #[.val (.ref la), .val (.ref a21), .val (.ref it32), .val (.ref r), .val (.int (4 : Int32))] [(.int (0 : Int32))]
  refine go_ifeq K (k := 10) rfl (pc' := 82) (by decide) (fun _ => ?_) (fun q => absurd (by decide) q)
  refine go_run K 37 1 (pc' := 83) (st' := [(.ref a21)]) rfl ?_
  refine go_areturn K (k := 38) rfl rfl rfl rfl rfl rfl rfl ?_
  intro Sf hSf
  exact ⟨a21, k23, rfl, X91, A90, g25, Nat.le_trans (Nat.le_refl _) (Nat.le_of_eq e24.symm)⟩
theorem pn_14 : plainName "com/example/foyer/foyer/PlainRegisters" = true := by first | (simp [plainName, overriddenIn]; done) | decide +kernel
def P_pr : List (Nat × Instr × Nat) := [(0, .aload_n 0, 1), (1, .invokespecial 1, 3), (4, .aload_n 0, 1), (5, .aload_n 1, 1), (6, .invokevirtual 7, 3), (9, .putfield 13, 3), (12, .return_, 1)]
theorem L_pr : ∀ q ∈ P_pr, decode prog_45_method_1_code q.1 = .ok q.2 := by decide +kernel
def M_pr : Mt := (("com/example/foyer/foyer/PlainRegisters", "<init>", ({ frames := 5, cells := 2, slots := 8, locals := 71 } : Room)), P_pr, 2, none)
set_option maxRecDepth 65536 in
set_option maxHeartbeats 40000000 in
theorem c_pr0 {G : Gb} (H : Gl tables_1 els G) {h : Heap} {li t r la pr io : Addr} {kA : ClassId} {ps : List Int32} {iv : Int32} (L0 : Alk G h li t r kA 1 (0 : Int32) (0 : Int32) (0 : Int32) (.ref io)) (Y0 : Ly G h la li pr ps) (M0 : Lam G h io "com/example/foyer/foyer/Layout" sg_ar [.int iv]) {a : Addr} (E0 : Exa G.Z h a "com/example/foyer/foyer/PlainRegisters") (f00 : Fld G.Z h a "com/example/foyer/foyer/PlainRegisters" "values" "[I" .null) (g0 : G.Z.heap.size ≤ a) :
    Ctr G [] (⟨"com/example/foyer/foyer/PlainRegisters", "<init>", "(Lcom/example/foyer/foyer/Layout;)V"⟩ : MethodName) prog_45_method_1_code 2 none ({ frames := 5, cells := 2, slots := 8, locals := 71 } : Room) #[.ref a, .ref la] h [] (fun v h' Sf => ∃ (d : Addr) (kd : ClassId), v = none ∧ Keep h h' [a] ∧ Exa G.Z h' a "com/example/foyer/foyer/PlainRegisters" ∧ Fld G.Z h' a "com/example/foyer/foyer/PlainRegisters" "values" "[I" (.ref d) ∧ Arv G.Z h' d kd .int (0 : Int32) [] (.int 0) ∧ G.Z.heap.size ≤ d ∧ h.size ≤ d) := by
  refine ctr_of M_pr rfl rfl (plainFor_of_name pn_14) L_pr H.el (Ls := #[.val (.ref a), .val (.ref la)]) (fun m => ef_ok (by show argsToLocals _ 2 = _; first | (simp [argsToLocals, Value.category]; done) | rfl)) ?_
  intro B K hE
  refine go_run K 0 1 (pc' := 1) (st' := [(.ref a)]) rfl ?_
  refine go_init0 K (k := 1) rfl (H.w 255 rfl) (H.w 27 rfl) (H.w 28 rfl) rfl rfl rfl ?_
  refine go_run K 2 2 (pc' := 6) (st' := [(.ref la), (.ref a)]) rfl ?_
  refine go_virt0 K (k := 4) rfl (H.w 256 rfl) (H.w 259 rfl) (H.w 258 rfl) (H.w 4 rfl) (H.w 260 rfl) (by decide) pd_31 (Ly.exa Y0) (c_inv0 H L0 Y0 M0) (argsL := []) (rest := [(.ref a)]) rfl rfl rfl sub0 rfl ?_
  rintro _ h1 _ - ⟨d2, k3, rfl, E4, A5, g6, f7⟩
  show Go G B M_pr _ h1 [] 2 8 9 #[.val (.ref a), .val (.ref la)] [(.ref d2), (.ref a)]
  have c8 := (f00.ext E4)
  have c9 := (E0.ext E4)
  refine go_putfield K (k := 5) rfl (host := "") (Or.inl (H.w 342 rfl)) Via.refl c8 c9 (Or.inr ⟨(H.w 343 rfl), rfl, rfl⟩) (H.w 250 rfl) (ty := (.array .int)) (by decide) rfl rfl g0 (Or.inr (by decide)) ?_
  intro h10 W11
  have F12 : Exa G.Z h10 a "com/example/foyer/foyer/PlainRegisters" := Exa.wr W11 c9
  have F13 : Fld G.Z h10 a "com/example/foyer/foyer/PlainRegisters" "values" "[I" (.ref d2) := Fld.same W11 c8
  have c14 := (Arv.other A5 W11 (Exa.neArv c9 A5 (H.w 250 rfl)).symm)
  refine go_return K (k := 6) rfl rfl rfl rfl ?_
  intro Sf hSf
  exact ⟨d2, k3, rfl, (((Keep.refl _ [a]).ext E4).wr W11 (Or.inl (List.mem_cons_self ..))), F12, F13, c14, g6, f7⟩
set_option maxRecDepth 65536 in
set_option maxHeartbeats 40000000 in
theorem c_pr1 {G : Gb} (H : Gl tables_1 els G) {h : Heap} {li t r la pr io : Addr} {kA : ClassId} {ps : List Int32} {iv : Int32} (L0 : Alk G h li t r kA 1 (0 : Int32) (0 : Int32) (1 : Int32) (.ref io)) (Y0 : Ly G h la li pr ps) (M0 : Lam G h io "com/example/foyer/foyer/Layout" sg_ar [.int iv]) {a : Addr} (E0 : Exa G.Z h a "com/example/foyer/foyer/PlainRegisters") (f00 : Fld G.Z h a "com/example/foyer/foyer/PlainRegisters" "values" "[I" .null) (g0 : G.Z.heap.size ≤ a) :
    Ctr G [] (⟨"com/example/foyer/foyer/PlainRegisters", "<init>", "(Lcom/example/foyer/foyer/Layout;)V"⟩ : MethodName) prog_45_method_1_code 2 none ({ frames := 5, cells := 2, slots := 8, locals := 71 } : Room) #[.ref a, .ref la] h [] (fun v h' Sf => ∃ (d : Addr) (kd : ClassId), v = none ∧ Keep h h' [a] ∧ Exa G.Z h' a "com/example/foyer/foyer/PlainRegisters" ∧ Fld G.Z h' a "com/example/foyer/foyer/PlainRegisters" "values" "[I" (.ref d) ∧ Arv G.Z h' d kd .int (1 : Int32) [.int iv] (.int 0) ∧ G.Z.heap.size ≤ d ∧ h.size ≤ d) := by
  refine ctr_of M_pr rfl rfl (plainFor_of_name pn_14) L_pr H.el (Ls := #[.val (.ref a), .val (.ref la)]) (fun m => ef_ok (by show argsToLocals _ 2 = _; first | (simp [argsToLocals, Value.category]; done) | rfl)) ?_
  intro B K hE
  refine go_run K 0 1 (pc' := 1) (st' := [(.ref a)]) rfl ?_
  refine go_init0 K (k := 1) rfl (H.w 255 rfl) (H.w 27 rfl) (H.w 28 rfl) rfl rfl rfl ?_
  refine go_run K 2 2 (pc' := 6) (st' := [(.ref la), (.ref a)]) rfl ?_
  refine go_virt0 K (k := 4) rfl (H.w 256 rfl) (H.w 259 rfl) (H.w 258 rfl) (H.w 4 rfl) (H.w 260 rfl) (by decide) pd_31 (Ly.exa Y0) (c_inv1 H L0 Y0 M0) (argsL := []) (rest := [(.ref a)]) rfl rfl rfl sub0 rfl ?_
  rintro _ h1 _ - ⟨d2, k3, rfl, E4, A5, g6, f7⟩
  show Go G B M_pr _ h1 [] 2 8 9 #[.val (.ref a), .val (.ref la)] [(.ref d2), (.ref a)]
  have c8 := (f00.ext E4)
  have c9 := (E0.ext E4)
  refine go_putfield K (k := 5) rfl (host := "") (Or.inl (H.w 342 rfl)) Via.refl c8 c9 (Or.inr ⟨(H.w 343 rfl), rfl, rfl⟩) (H.w 250 rfl) (ty := (.array .int)) (by decide) rfl rfl g0 (Or.inr (by decide)) ?_
  intro h10 W11
  have F12 : Exa G.Z h10 a "com/example/foyer/foyer/PlainRegisters" := Exa.wr W11 c9
  have F13 : Fld G.Z h10 a "com/example/foyer/foyer/PlainRegisters" "values" "[I" (.ref d2) := Fld.same W11 c8
  have c14 := (Arv.other A5 W11 (Exa.neArv c9 A5 (H.w 250 rfl)).symm)
  refine go_return K (k := 6) rfl rfl rfl rfl ?_
  intro Sf hSf
  exact ⟨d2, k3, rfl, (((Keep.refl _ [a]).ext E4).wr W11 (Or.inl (List.mem_cons_self ..))), F12, F13, c14, g6, f7⟩
set_option maxRecDepth 65536 in
set_option maxHeartbeats 40000000 in
theorem c_pr2 {G : Gb} (H : Gl tables_1 els G) {h : Heap} {li t r la pr io : Addr} {kA : ClassId} {ps : List Int32} {iv : Int32} (L0 : Alk G h li t r kA 1 (0 : Int32) (0 : Int32) (2 : Int32) (.ref io)) (Y0 : Ly G h la li pr ps) (M0 : Lam G h io "com/example/foyer/foyer/Layout" sg_ar [.int iv]) {a : Addr} (E0 : Exa G.Z h a "com/example/foyer/foyer/PlainRegisters") (f00 : Fld G.Z h a "com/example/foyer/foyer/PlainRegisters" "values" "[I" .null) (g0 : G.Z.heap.size ≤ a) :
    Ctr G [] (⟨"com/example/foyer/foyer/PlainRegisters", "<init>", "(Lcom/example/foyer/foyer/Layout;)V"⟩ : MethodName) prog_45_method_1_code 2 none ({ frames := 5, cells := 2, slots := 8, locals := 71 } : Room) #[.ref a, .ref la] h [] (fun v h' Sf => ∃ (d : Addr) (kd : ClassId), v = none ∧ Keep h h' [a] ∧ Exa G.Z h' a "com/example/foyer/foyer/PlainRegisters" ∧ Fld G.Z h' a "com/example/foyer/foyer/PlainRegisters" "values" "[I" (.ref d) ∧ Arv G.Z h' d kd .int (2 : Int32) [.int iv, .int iv] (.int 0) ∧ G.Z.heap.size ≤ d ∧ h.size ≤ d) := by
  refine ctr_of M_pr rfl rfl (plainFor_of_name pn_14) L_pr H.el (Ls := #[.val (.ref a), .val (.ref la)]) (fun m => ef_ok (by show argsToLocals _ 2 = _; first | (simp [argsToLocals, Value.category]; done) | rfl)) ?_
  intro B K hE
  refine go_run K 0 1 (pc' := 1) (st' := [(.ref a)]) rfl ?_
  refine go_init0 K (k := 1) rfl (H.w 255 rfl) (H.w 27 rfl) (H.w 28 rfl) rfl rfl rfl ?_
  refine go_run K 2 2 (pc' := 6) (st' := [(.ref la), (.ref a)]) rfl ?_
  refine go_virt0 K (k := 4) rfl (H.w 256 rfl) (H.w 259 rfl) (H.w 258 rfl) (H.w 4 rfl) (H.w 260 rfl) (by decide) pd_31 (Ly.exa Y0) (c_inv2 H L0 Y0 M0) (argsL := []) (rest := [(.ref a)]) rfl rfl rfl sub0 rfl ?_
  rintro _ h1 _ - ⟨d2, k3, rfl, E4, A5, g6, f7⟩
  show Go G B M_pr _ h1 [] 2 8 9 #[.val (.ref a), .val (.ref la)] [(.ref d2), (.ref a)]
  have c8 := (f00.ext E4)
  have c9 := (E0.ext E4)
  refine go_putfield K (k := 5) rfl (host := "") (Or.inl (H.w 342 rfl)) Via.refl c8 c9 (Or.inr ⟨(H.w 343 rfl), rfl, rfl⟩) (H.w 250 rfl) (ty := (.array .int)) (by decide) rfl rfl g0 (Or.inr (by decide)) ?_
  intro h10 W11
  have F12 : Exa G.Z h10 a "com/example/foyer/foyer/PlainRegisters" := Exa.wr W11 c9
  have F13 : Fld G.Z h10 a "com/example/foyer/foyer/PlainRegisters" "values" "[I" (.ref d2) := Fld.same W11 c8
  have c14 := (Arv.other A5 W11 (Exa.neArv c9 A5 (H.w 250 rfl)).symm)
  refine go_return K (k := 6) rfl rfl rfl rfl ?_
  intro Sf hSf
  exact ⟨d2, k3, rfl, (((Keep.refl _ [a]).ext E4).wr W11 (Or.inl (List.mem_cons_self ..))), F12, F13, c14, g6, f7⟩
set_option maxRecDepth 65536 in
set_option maxHeartbeats 40000000 in
theorem c_pr3 {G : Gb} (H : Gl tables_1 els G) {h : Heap} {li t r la pr io : Addr} {kA : ClassId} {ps : List Int32} {iv : Int32} (L0 : Alk G h li t r kA 1 (0 : Int32) (0 : Int32) (3 : Int32) (.ref io)) (Y0 : Ly G h la li pr ps) (M0 : Lam G h io "com/example/foyer/foyer/Layout" sg_ar [.int iv]) {a : Addr} (E0 : Exa G.Z h a "com/example/foyer/foyer/PlainRegisters") (f00 : Fld G.Z h a "com/example/foyer/foyer/PlainRegisters" "values" "[I" .null) (g0 : G.Z.heap.size ≤ a) :
    Ctr G [] (⟨"com/example/foyer/foyer/PlainRegisters", "<init>", "(Lcom/example/foyer/foyer/Layout;)V"⟩ : MethodName) prog_45_method_1_code 2 none ({ frames := 5, cells := 2, slots := 8, locals := 71 } : Room) #[.ref a, .ref la] h [] (fun v h' Sf => ∃ (d : Addr) (kd : ClassId), v = none ∧ Keep h h' [a] ∧ Exa G.Z h' a "com/example/foyer/foyer/PlainRegisters" ∧ Fld G.Z h' a "com/example/foyer/foyer/PlainRegisters" "values" "[I" (.ref d) ∧ Arv G.Z h' d kd .int (3 : Int32) [.int iv, .int iv, .int iv] (.int 0) ∧ G.Z.heap.size ≤ d ∧ h.size ≤ d) := by
  refine ctr_of M_pr rfl rfl (plainFor_of_name pn_14) L_pr H.el (Ls := #[.val (.ref a), .val (.ref la)]) (fun m => ef_ok (by show argsToLocals _ 2 = _; first | (simp [argsToLocals, Value.category]; done) | rfl)) ?_
  intro B K hE
  refine go_run K 0 1 (pc' := 1) (st' := [(.ref a)]) rfl ?_
  refine go_init0 K (k := 1) rfl (H.w 255 rfl) (H.w 27 rfl) (H.w 28 rfl) rfl rfl rfl ?_
  refine go_run K 2 2 (pc' := 6) (st' := [(.ref la), (.ref a)]) rfl ?_
  refine go_virt0 K (k := 4) rfl (H.w 256 rfl) (H.w 259 rfl) (H.w 258 rfl) (H.w 4 rfl) (H.w 260 rfl) (by decide) pd_31 (Ly.exa Y0) (c_inv3 H L0 Y0 M0) (argsL := []) (rest := [(.ref a)]) rfl rfl rfl sub0 rfl ?_
  rintro _ h1 _ - ⟨d2, k3, rfl, E4, A5, g6, f7⟩
  show Go G B M_pr _ h1 [] 2 8 9 #[.val (.ref a), .val (.ref la)] [(.ref d2), (.ref a)]
  have c8 := (f00.ext E4)
  have c9 := (E0.ext E4)
  refine go_putfield K (k := 5) rfl (host := "") (Or.inl (H.w 342 rfl)) Via.refl c8 c9 (Or.inr ⟨(H.w 343 rfl), rfl, rfl⟩) (H.w 250 rfl) (ty := (.array .int)) (by decide) rfl rfl g0 (Or.inr (by decide)) ?_
  intro h10 W11
  have F12 : Exa G.Z h10 a "com/example/foyer/foyer/PlainRegisters" := Exa.wr W11 c9
  have F13 : Fld G.Z h10 a "com/example/foyer/foyer/PlainRegisters" "values" "[I" (.ref d2) := Fld.same W11 c8
  have c14 := (Arv.other A5 W11 (Exa.neArv c9 A5 (H.w 250 rfl)).symm)
  refine go_return K (k := 6) rfl rfl rfl rfl ?_
  intro Sf hSf
  exact ⟨d2, k3, rfl, (((Keep.refl _ [a]).ext E4).wr W11 (Or.inl (List.mem_cons_self ..))), F12, F13, c14, g6, f7⟩
set_option maxRecDepth 65536 in
set_option maxHeartbeats 40000000 in
theorem c_pr4 {G : Gb} (H : Gl tables_1 els G) {h : Heap} {li t r la pr io : Addr} {kA : ClassId} {ps : List Int32} {iv : Int32} (L0 : Alk G h li t r kA 1 (0 : Int32) (0 : Int32) (4 : Int32) (.ref io)) (Y0 : Ly G h la li pr ps) (M0 : Lam G h io "com/example/foyer/foyer/Layout" sg_ar [.int iv]) {a : Addr} (E0 : Exa G.Z h a "com/example/foyer/foyer/PlainRegisters") (f00 : Fld G.Z h a "com/example/foyer/foyer/PlainRegisters" "values" "[I" .null) (g0 : G.Z.heap.size ≤ a) :
    Ctr G [] (⟨"com/example/foyer/foyer/PlainRegisters", "<init>", "(Lcom/example/foyer/foyer/Layout;)V"⟩ : MethodName) prog_45_method_1_code 2 none ({ frames := 5, cells := 2, slots := 8, locals := 71 } : Room) #[.ref a, .ref la] h [] (fun v h' Sf => ∃ (d : Addr) (kd : ClassId), v = none ∧ Keep h h' [a] ∧ Exa G.Z h' a "com/example/foyer/foyer/PlainRegisters" ∧ Fld G.Z h' a "com/example/foyer/foyer/PlainRegisters" "values" "[I" (.ref d) ∧ Arv G.Z h' d kd .int (4 : Int32) [.int iv, .int iv, .int iv, .int iv] (.int 0) ∧ G.Z.heap.size ≤ d ∧ h.size ≤ d) := by
  refine ctr_of M_pr rfl rfl (plainFor_of_name pn_14) L_pr H.el (Ls := #[.val (.ref a), .val (.ref la)]) (fun m => ef_ok (by show argsToLocals _ 2 = _; first | (simp [argsToLocals, Value.category]; done) | rfl)) ?_
  intro B K hE
  refine go_run K 0 1 (pc' := 1) (st' := [(.ref a)]) rfl ?_
  refine go_init0 K (k := 1) rfl (H.w 255 rfl) (H.w 27 rfl) (H.w 28 rfl) rfl rfl rfl ?_
  refine go_run K 2 2 (pc' := 6) (st' := [(.ref la), (.ref a)]) rfl ?_
  refine go_virt0 K (k := 4) rfl (H.w 256 rfl) (H.w 259 rfl) (H.w 258 rfl) (H.w 4 rfl) (H.w 260 rfl) (by decide) pd_31 (Ly.exa Y0) (c_inv4 H L0 Y0 M0) (argsL := []) (rest := [(.ref a)]) rfl rfl rfl sub0 rfl ?_
  rintro _ h1 _ - ⟨d2, k3, rfl, E4, A5, g6, f7⟩
  show Go G B M_pr _ h1 [] 2 8 9 #[.val (.ref a), .val (.ref la)] [(.ref d2), (.ref a)]
  have c8 := (f00.ext E4)
  have c9 := (E0.ext E4)
  refine go_putfield K (k := 5) rfl (host := "") (Or.inl (H.w 342 rfl)) Via.refl c8 c9 (Or.inr ⟨(H.w 343 rfl), rfl, rfl⟩) (H.w 250 rfl) (ty := (.array .int)) (by decide) rfl rfl g0 (Or.inr (by decide)) ?_
  intro h10 W11
  have F12 : Exa G.Z h10 a "com/example/foyer/foyer/PlainRegisters" := Exa.wr W11 c9
  have F13 : Fld G.Z h10 a "com/example/foyer/foyer/PlainRegisters" "values" "[I" (.ref d2) := Fld.same W11 c8
  have c14 := (Arv.other A5 W11 (Exa.neArv c9 A5 (H.w 250 rfl)).symm)
  refine go_return K (k := 6) rfl rfl rfl rfl ?_
  intro Sf hSf
  exact ⟨d2, k3, rfl, (((Keep.refl _ [a]).ext E4).wr W11 (Or.inl (List.mem_cons_self ..))), F12, F13, c14, g6, f7⟩
def P_rst : List (Nat × Instr × Nat) := [(0, .aload_n 1, 1), (1, .iload_n 2, 1), (2, .aload_n 0, 1), (3, .getfield 13, 3), (6, .iconst 0, 1), (7, .aload_n 0, 1), (8, .getfield 13, 3), (11, .arraylength, 1), (12, .invokestatic 19, 3), (15, .return_, 1)]
theorem L_rst : ∀ q ∈ P_rst, decode prog_45_method_4_code q.1 = .ok q.2 := by decide +kernel
def M_rst : Mt := (("com/example/foyer/foyer/PlainRegisters", "restore", ({ frames := 1, cells := 0, slots := 0, locals := 18 } : Room)), P_rst, 3, none)
set_option maxRecDepth 65536 in
set_option maxHeartbeats 40000000 in
theorem c_rst {G : Gb} (H : Gl tables_1 els G) {h : Heap} {a st va : Addr} {kS kV : ClassId} {k n : Nat} {xs ys : List Int32} (hx : xs.length = 6) (hy : ys.length = n) (hk : k + n ≤ 6) (f00 : Fld G.Z h a "com/example/foyer/foyer/PlainRegisters" "values" "[I" (.ref va)) (A0 : Arv G.Z h st kS .int (6 : Nat).toInt32 (xs.map Value.int) (.int 0)) (B0 : Arv G.Z h va kV .int n.toInt32 (ys.map Value.int) (.int 0)) (g0 : G.Z.heap.size ≤ va) :
    Ctr G [] (⟨"com/example/foyer/foyer/PlainRegisters", "restore", "([II)V"⟩ : MethodName) prog_45_method_4_code 3 none ({ frames := 1, cells := 0, slots := 0, locals := 18 } : Room) #[.ref a, .ref st, .int k.toInt32] h [] (fun v h' Sf => v = none ∧ Keep h h' [va] ∧ Arv G.Z h' va kV .int n.toInt32 (((xs.drop k).take n).map Value.int) (.int 0)) := by
  refine ctr_of M_rst rfl rfl (plainFor_of_name pn_14) L_rst H.el (Ls := #[.val (.ref a), .val (.ref st), .val (.int k.toInt32)]) (fun m => ef_ok (by show argsToLocals _ 3 = _; first | (simp [argsToLocals, Value.category]; done) | rfl)) ?_
  intro B K hE
  refine go_run K 0 3 (pc' := 3) (st' := [(.ref a), (.int k.toInt32), (.ref st)]) rfl ?_
  refine go_getfield K (k := 3) rfl (host := "") (Or.inl (H.w 342 rfl)) Via.refl f00 ?_
  refine go_run K 4 2 (pc' := 8) (st' := [(.ref a), (.int (0 : Int32)), (.ref va), (.int k.toInt32), (.ref st)]) rfl ?_
  refine go_getfield K (k := 6) rfl (host := "") (Or.inl (H.w 342 rfl)) Via.refl f00 ?_
  refine go_arraylength K (k := 7) rfl B0 ?_
  refine go_arraycopy K (k := 8) rfl (H.w 349 rfl) (H.w 139 rfl) (H.w 137 rfl) (H.w 138 rfl) A0 B0 rfl (len_nn (by omega)) (by decide) (len_nn (by omega)) (by rw [len_nat (by omega), len_nat (by omega), len_nat (by omega)]; omega) (by rw [len_nat (by omega)]; exact Nat.le_of_eq (Nat.zero_add _)) (us := (((xs.map Value.int).drop k).take n)) (by rw [len_nat (by omega), len_nat (by omega)]; exact (map_range (by rw [List.length_map]; omega)).symm) (by rw [len_nat (by omega), List.length_map]; exact Nat.le_of_eq ((Nat.zero_add _).trans hy.symm)) g0 (Or.inr (by decide)) rfl rfl rfl ?_
  intro h1 K2 A3
  refine go_return K (k := 9) rfl rfl rfl rfl ?_
  intro Sf hSf
  refine ⟨rfl, ((Keep.refl _ [va]).trans K2 (allS (Or.inl (List.mem_cons_self ..)) all0)), ?_⟩
  have u := A3
  rw [show (0 : Int32).toNatClampNeg = 0 from rfl, len_nat (by omega), List.take_zero, List.nil_append, Nat.zero_add, show List.drop n (ys.map Value.int) = [] from List.drop_of_length_le (by rw [List.length_map]; exact Nat.le_of_eq hy), List.append_nil] at u
  rw [List.map_take, List.map_drop]
  exact u
def P_psz : List (Nat × Instr × Nat) := [(0, .aload_n 0, 1), (1, .getfield 13, 3), (4, .arraylength, 1), (5, .ireturn, 1)]
theorem L_psz : ∀ q ∈ P_psz, decode prog_45_method_2_code q.1 = .ok q.2 := by decide +kernel
def M_psz : Mt := (("com/example/foyer/foyer/PlainRegisters", "size", ({ frames := 0, cells := 0, slots := 0, locals := 0 } : Room)), P_psz, 1, (some .int))
set_option maxRecDepth 65536 in
set_option maxHeartbeats 40000000 in
theorem c_psz {G : Gb} (H : Gl tables_1 els G) {h : Heap} {a va : Addr} {kV : ClassId} {z : Int32} {vs : List Value} (f00 : Fld G.Z h a "com/example/foyer/foyer/PlainRegisters" "values" "[I" (.ref va)) (B0 : Arv G.Z h va kV .int z vs (.int 0)) :
    Ctr G [] (⟨"com/example/foyer/foyer/PlainRegisters", "size", "()I"⟩ : MethodName) prog_45_method_2_code 1 (some .int) ({ frames := 0, cells := 0, slots := 0, locals := 0 } : Room) #[.ref a] h [] (fun v h' Sf => v = some (.int z) ∧ h = h') := by
  refine ctr_of M_psz rfl rfl (plainFor_of_name pn_14) L_psz H.el (Ls := #[.val (.ref a)]) (fun m => ef_ok (by show argsToLocals _ 1 = _; first | (simp [argsToLocals, Value.category]; done) | rfl)) ?_
  intro B K hE
  refine go_run K 0 1 (pc' := 1) (st' := [(.ref a)]) rfl ?_
  refine go_getfield K (k := 1) rfl (host := "") (Or.inl (H.w 342 rfl)) Via.refl f00 ?_
  refine go_arraylength K (k := 2) rfl B0 ?_
  refine go_ireturn K (k := 3) rfl rfl (by decide) rfl rfl rfl ?_
  intro Sf hSf
  exact ⟨rfl, rfl⟩
def P_rd : List (Nat × Instr × Nat) := [(0, .aload_n 0, 1), (1, .getfield 13, 3), (4, .iload_n 1, 1), (5, .iaload, 1), (6, .ireturn, 1)]
theorem L_rd : ∀ q ∈ P_rd, decode prog_45_method_5_code q.1 = .ok q.2 := by decide +kernel
def M_rd : Mt := (("com/example/foyer/foyer/PlainRegisters", "read", ({ frames := 0, cells := 0, slots := 0, locals := 0 } : Room)), P_rd, 2, (some .int))
set_option maxRecDepth 65536 in
set_option maxHeartbeats 40000000 in
theorem c_rd {G : Gb} (H : Gl tables_1 els G) {h : Heap} {a va : Addr} {kV : ClassId} {z i y : Int32} {vs : List Value} (f00 : Fld G.Z h a "com/example/foyer/foyer/PlainRegisters" "values" "[I" (.ref va)) (B0 : Arv G.Z h va kV .int z vs (.int 0)) (hj : ¬ i < 0 ∧ i < z) (hv : vs.getD i.toNatClampNeg (.int 0) = .int y) :
    Ctr G [] (⟨"com/example/foyer/foyer/PlainRegisters", "read", "(I)I"⟩ : MethodName) prog_45_method_5_code 2 (some .int) ({ frames := 0, cells := 0, slots := 0, locals := 0 } : Room) #[.ref a, .int i] h [] (fun v h' Sf => v = some (.int y) ∧ h = h') := by
  refine ctr_of M_rd rfl rfl (plainFor_of_name pn_14) L_rd H.el (Ls := #[.val (.ref a), .val (.int i)]) (fun m => ef_ok (by show argsToLocals _ 2 = _; first | (simp [argsToLocals, Value.category]; done) | rfl)) ?_
  intro B K hE
  refine go_run K 0 1 (pc' := 1) (st' := [(.ref a)]) rfl ?_
  refine go_getfield K (k := 1) rfl (host := "") (Or.inl (H.w 342 rfl)) Via.refl f00 ?_
  refine go_run K 2 1 (pc' := 5) (st' := [(.int i), (.ref va)]) rfl ?_
  refine go_iaload K (k := 3) rfl B0 hj (v := .int y) hv ?_
  refine go_ireturn K (k := 4) rfl rfl (by decide) rfl rfl rfl ?_
  intro Sf hSf
  exact ⟨rfl, rfl⟩
theorem pn_15 : plainName "com/example/foyer/foyer/PlainRegistersRestorePinLaw" = true := by first | (simp [plainName, overriddenIn]; done) | decide +kernel
def P_unc : List (Nat × Instr × Nat) := [(0, .aload_n 0, 1), (1, .arraylength, 1), (2, .bipush 6, 2), (4, .if_icmp .ne 52, 3), (7, .aload_n 0, 1), (8, .iconst 0, 1), (9, .iaload, 1), (10, .iload_n 1, 1), (11, .if_icmp .ne 45, 3), (14, .aload_n 0, 1), (15, .iconst 1, 1), (16, .iaload, 1), (17, .iload_n 2, 1), (18, .if_icmp .ne 38, 3), (21, .aload_n 0, 1), (22, .iconst 2, 1), (23, .iaload, 1), (24, .iload_n 3, 1), (25, .if_icmp .ne 31, 3), (28, .aload_n 0, 1), (29, .iconst 3, 1), (30, .iaload, 1), (31, .iload 4, 2), (33, .if_icmp .ne 23, 3), (36, .aload_n 0, 1), (37, .iconst 4, 1), (38, .iaload, 1), (39, .iload 5, 2), (41, .if_icmp .ne 15, 3), (44, .aload_n 0, 1), (45, .iconst 5, 1), (46, .iaload, 1), (47, .iload 6, 2), (49, .if_icmp .ne 7, 3), (52, .iconst 1, 1), (53, .goto 4, 3), (56, .iconst 0, 1), (57, .ireturn, 1)]
theorem L_unc : ∀ q ∈ P_unc, decode method_3_code q.1 = .ok q.2 := by decide +kernel
def M_unc : Mt := (("com/example/foyer/foyer/PlainRegistersRestorePinLaw", "unchanged", ({ frames := 0, cells := 0, slots := 0, locals := 0 } : Room)), P_unc, 7, (some .boolean))
set_option maxRecDepth 65536 in
set_option maxHeartbeats 40000000 in
theorem c_unc {G : Gb} (H : Gl tables_1 els G) {h : Heap} {st : Addr} {kS : ClassId} {s0 s1 s2 s3 s4 s5 : Int32} (A0 : Arv G.Z h st kS .int (6 : Int32) [.int s0, .int s1, .int s2, .int s3, .int s4, .int s5] (.int 0)) :
    Ctr G [] (⟨"com/example/foyer/foyer/PlainRegistersRestorePinLaw", "unchanged", "([IIIIIII)Z"⟩ : MethodName) method_3_code 7 (some .boolean) ({ frames := 0, cells := 0, slots := 0, locals := 0 } : Room) #[.ref st, .int s0, .int s1, .int s2, .int s3, .int s4, .int s5] h [] (fun v h' Sf => v = some (.int 1) ∧ h = h') := by
  refine ctr_of M_unc rfl rfl (plainFor_of_name pn_15) L_unc H.el (Ls := #[.val (.ref st), .val (.int s0), .val (.int s1), .val (.int s2), .val (.int s3), .val (.int s4), .val (.int s5)]) (fun m => ef_ok (by show argsToLocals _ 7 = _; first | (simp [argsToLocals, Value.category]; done) | rfl)) ?_
  intro B K hE
  refine go_run K 0 1 (pc' := 1) (st' := [(.ref st)]) rfl ?_
  refine go_arraylength K (k := 1) rfl A0 ?_
  refine go_run K 2 1 (pc' := 4) (st' := [(.int (6 : Int32)), (.int (6 : Int32))]) rfl ?_
  refine go_icmpne K (k := 3) rfl (pc' := 56) (by decide) (fun q => absurd rfl q) (fun _ => ?_)
  refine go_run K 4 2 (pc' := 9) (st' := [(.int (0 : Int32)), (.ref st)]) rfl ?_
  refine go_iaload K (k := 6) rfl A0 (by decide) (v := .int s0) rfl ?_
  refine go_run K 7 1 (pc' := 11) (st' := [(.int s0), (.int s0)]) rfl ?_
  refine go_icmpne K (k := 8) rfl (pc' := 56) (by decide) (fun q => absurd rfl q) (fun _ => ?_)
  refine go_run K 9 2 (pc' := 16) (st' := [(.int (1 : Int32)), (.ref st)]) rfl ?_
  refine go_iaload K (k := 11) rfl A0 (by decide) (v := .int s1) rfl ?_
  refine go_run K 12 1 (pc' := 18) (st' := [(.int s1), (.int s1)]) rfl ?_
  refine go_icmpne K (k := 13) rfl (pc' := 56) (by decide) (fun q => absurd rfl q) (fun _ => ?_)
  refine go_run K 14 2 (pc' := 23) (st' := [(.int (2 : Int32)), (.ref st)]) rfl ?_
  refine go_iaload K (k := 16) rfl A0 (by decide) (v := .int s2) rfl ?_
  refine go_run K 17 1 (pc' := 25) (st' := [(.int s2), (.int s2)]) rfl ?_
  refine go_icmpne K (k := 18) rfl (pc' := 56) (by decide) (fun q => absurd rfl q) (fun _ => ?_)
  refine go_run K 19 2 (pc' := 30) (st' := [(.int (3 : Int32)), (.ref st)]) rfl ?_
  refine go_iaload K (k := 21) rfl A0 (by decide) (v := .int s3) rfl ?_
  refine go_run K 22 1 (pc' := 33) (st' := [(.int s3), (.int s3)]) rfl ?_
  refine go_icmpne K (k := 23) rfl (pc' := 56) (by decide) (fun q => absurd rfl q) (fun _ => ?_)
  refine go_run K 24 2 (pc' := 38) (st' := [(.int (4 : Int32)), (.ref st)]) rfl ?_
  refine go_iaload K (k := 26) rfl A0 (by decide) (v := .int s4) rfl ?_
  refine go_run K 27 1 (pc' := 41) (st' := [(.int s4), (.int s4)]) rfl ?_
  refine go_icmpne K (k := 28) rfl (pc' := 56) (by decide) (fun q => absurd rfl q) (fun _ => ?_)
  refine go_run K 29 2 (pc' := 46) (st' := [(.int (5 : Int32)), (.ref st)]) rfl ?_
  refine go_iaload K (k := 31) rfl A0 (by decide) (v := .int s5) rfl ?_
  refine go_run K 32 1 (pc' := 49) (st' := [(.int s5), (.int s5)]) rfl ?_
  refine go_icmpne K (k := 33) rfl (pc' := 56) (by decide) (fun q => absurd rfl q) (fun _ => ?_)
  refine go_run K 34 2 (pc' := 57) (st' := [(.int (1 : Int32))]) rfl ?_
  refine go_ireturn K (k := 37) rfl rfl (by decide) rfl rfl rfl ?_
  intro Sf hSf
  exact ⟨rfl, rfl⟩
def P_law : List (Nat × Instr × Nat) := [(0, .iload_n 0, 1), (1, .ldc 7, 2), (3, .iand, 1), (4, .iconst 5, 1), (5, .irem, 1), (6, .istore 9, 2), (8, .iload_n 1, 1), (9, .ldc 7, 2), (11, .iand, 1), (12, .bipush 7, 2), (14, .iload 9, 2), (16, .isub, 1), (17, .irem, 1), (18, .istore 10, 2), (20, .lload_n 3, 1), (21, .l2i, 1), (22, .istore 11, 2), (24, .lload_n 3, 1), (25, .bipush 32, 2), (27, .lushr, 1), (28, .l2i, 1), (29, .istore 12, 2), (31, .lload 5, 2), (33, .l2i, 1), (34, .istore 13, 2), (36, .lload 5, 2), (38, .bipush 32, 2), (40, .lushr, 1), (41, .l2i, 1), (42, .istore 14, 2), (44, .lload 7, 2), (46, .l2i, 1), (47, .istore 15, 2), (49, .lload 7, 2), (51, .bipush 32, 2), (53, .lushr, 1), (54, .l2i, 1), (55, .istore 16, 2), (57, .bipush 6, 2), (59, .newarray .int, 2), (61, .dup, 1), (62, .iconst 0, 1), (63, .iload 11, 2), (65, .iastore, 1), (66, .dup, 1), (67, .iconst 1, 1), (68, .iload 12, 2), (70, .iastore, 1), (71, .dup, 1), (72, .iconst 2, 1), (73, .iload 13, 2), (75, .iastore, 1), (76, .dup, 1), (77, .iconst 3, 1), (78, .iload 14, 2), (80, .iastore, 1), (81, .dup, 1), (82, .iconst 4, 1), (83, .iload 15, 2), (85, .iastore, 1), (86, .dup, 1), (87, .iconst 5, 1), (88, .iload 16, 2), (90, .iastore, 1), (91, .astore 17, 2), (93, .new 8, 3), (96, .dup, 1), (97, .invokespecial 10, 3), (100, .astore 18, 2), (102, .aload 18, 2), (104, .ldc 11, 2), (106, .iconst 0, 1), (107, .iload 9, 2), (109, .iconst 1, 1), (110, .isub, 1), (111, .iload_n 2, 1), (112, .invokevirtual 13, 3), (115, .pop, 1), (116, .new 17, 3), (119, .dup, 1), (120, .aload 18, 2), (122, .invokespecial 19, 3), (125, .astore 19, 2), (127, .aload 19, 2), (129, .aload 17, 2), (131, .iload 10, 2), (133, .invokevirtual 22, 3), (136, .aload 19, 2), (138, .invokevirtual 26, 3), (141, .iload 9, 2), (143, .if_icmp .ne 7, 3), (146, .iconst 1, 1), (147, .goto 4, 3), (150, .iconst 0, 1), (151, .istore 20, 2), (153, .iload 20, 2), (155, .ifCond .eq 27, 3), (158, .aload 17, 2), (160, .iload 11, 2), (162, .iload 12, 2), (164, .iload 13, 2), (166, .iload 14, 2), (168, .iload 15, 2), (170, .iload 16, 2), (172, .invokestatic 30, 3), (175, .ifCond .eq 7, 3), (178, .iconst 1, 1), (179, .goto 4, 3), (182, .iconst 0, 1), (183, .istore 20, 2), (185, .iload 20, 2), (187, .ifCond .eq 26, 3), (190, .iload 9, 2), (192, .ifCond .le 17, 3), (195, .aload 19, 2), (197, .iconst 0, 1), (198, .invokevirtual 36, 3), (201, .aload 17, 2), (203, .iload 10, 2), (205, .iaload, 1), (206, .if_icmp .ne 7, 3), (209, .iconst 1, 1), (210, .goto 4, 3), (213, .iconst 0, 1), (214, .istore 20, 2), (216, .iload 20, 2), (218, .ifCond .eq 29, 3), (221, .iload 9, 2), (223, .iconst 1, 1), (224, .if_icmp .le 19, 3), (227, .aload 19, 2), (229, .iconst 1, 1), (230, .invokevirtual 36, 3), (233, .aload 17, 2), (235, .iload 10, 2), (237, .iconst 1, 1), (238, .iadd, 1), (239, .iaload, 1), (240, .if_icmp .ne 7, 3), (243, .iconst 1, 1), (244, .goto 4, 3), (247, .iconst 0, 1), (248, .istore 20, 2), (250, .iload 20, 2), (252, .ifCond .eq 29, 3), (255, .iload 9, 2), (257, .iconst 2, 1), (258, .if_icmp .le 19, 3), (261, .aload 19, 2), (263, .iconst 2, 1), (264, .invokevirtual 36, 3), (267, .aload 17, 2), (269, .iload 10, 2), (271, .iconst 2, 1), (272, .iadd, 1), (273, .iaload, 1), (274, .if_icmp .ne 7, 3), (277, .iconst 1, 1), (278, .goto 4, 3), (281, .iconst 0, 1), (282, .istore 20, 2), (284, .iload 20, 2), (286, .ifCond .eq 29, 3), (289, .iload 9, 2), (291, .iconst 3, 1), (292, .if_icmp .le 19, 3), (295, .aload 19, 2), (297, .iconst 3, 1), (298, .invokevirtual 36, 3), (301, .aload 17, 2), (303, .iload 10, 2), (305, .iconst 3, 1), (306, .iadd, 1), (307, .iaload, 1), (308, .if_icmp .ne 7, 3), (311, .iconst 1, 1), (312, .goto 4, 3), (315, .iconst 0, 1), (316, .istore 20, 2), (318, .iload 20, 2), (320, .ireturn, 1)]
theorem L_law : ∀ q ∈ P_law, decode code q.1 = .ok q.2 := by decide +kernel
def M_law : Mt := (("com/example/foyer/foyer/PlainRegistersRestorePinLaw", "law", room_1), P_law, 21, (some .boolean))
set_option maxRecDepth 65536 in
set_option maxHeartbeats 40000000 in
theorem law_ok {G : Gb} (H : Gl tables_1 els G) {h : Heap} {p0 p1 p2 : Int32} {p3 p4 p5 : Int64} {ed : Addr} {ke : ClassId} (sE : Sta G.Z G.Z.heap "java/util/ArrayList" "DEFAULTCAPACITY_EMPTY_ELEMENTDATA" "[Ljava/lang/Object;" (.ref ed)) (aE : Arv G.Z G.Z.heap ed ke (.object "java/lang/Object") (0 : Int32) [] .null) :
    Ctr G tables_1 x code maxLocals ret room_1 #[.int p0, .int p1, .int p2, .long p3, .long p4, .long p5] h [] (fun v h' Sf => v = some (.int 1)) := by
  refine ctr_of M_law rfl rfl (plainFor_of_name pn_15) L_law H.el (Ls := #[.val (.int p0), .val (.int p1), .val (.int p2), .val (.long p3), .second, .val (.long p4), .second, .val (.long p5), .second, .unset, .unset, .unset, .unset, .unset, .unset, .unset, .unset, .unset, .unset, .unset, .unset]) (fun m => ef_ok (by show argsToLocals _ 21 = _; first | (simp [argsToLocals, Value.category]; done) | rfl)) ?_
  intro B K hE
  refine go_run K 0 1 (pc' := 1) (st' := [(.int p0)]) rfl ?_
  refine go_ldcI K (k := 1) rfl (H.w 0 rfl) ?_
  refine go_run K 2 2 (pc' := 5) (st' := [(.int (5 : Int32)), (.int (p0 &&& (2147483647 : Int32)))]) rfl ?_
  refine go_irem K (k := 4) rfl (by decide) ?_
  obtain hn | hn | hn | hn | hn := rem5m p0
  · rw [hn]
    refine go_run K 5 1 (pc' := 8) (Ls' := #[.val (.int p0), .val (.int p1), .val (.int p2), .val (.long p3), .second, .val (.long p4), .second, .val (.long p5), .second, .val (.int (0 : Int32)), .unset, .unset, .unset, .unset, .unset, .unset, .unset, .unset, .unset, .unset, .unset]) (st' := []) rfl ?_
    refine go_run K 6 1 (pc' := 9) (st' := [(.int p1)]) rfl ?_
    refine go_ldcI K (k := 7) rfl (H.w 0 rfl) ?_
    refine go_run K 8 4 (pc' := 17) (st' := [(.int (7 : Int32)), (.int (p1 &&& (2147483647 : Int32)))]) rfl ?_
    refine go_irem K (k := 12) rfl (by decide) ?_
    obtain ⟨k, hk, ek⟩ : ∃ k : Nat, k + 1 ≤ 7 ∧ ((p1 &&& (2147483647 : Int32)) % (7 : Int32)) = k.toInt32 := off_k (m := 7) (by decide) (by decide)
    rw [ek]
    refine go_run K 13 1 (pc' := 20) (Ls' := #[.val (.int p0), .val (.int p1), .val (.int p2), .val (.long p3), .second, .val (.long p4), .second, .val (.long p5), .second, .val (.int (0 : Int32)), .val (.int k.toInt32), .unset, .unset, .unset, .unset, .unset, .unset, .unset, .unset, .unset, .unset]) (st' := []) rfl ?_
    refine go_run K 14 3 (pc' := 24) (Ls' := #[.val (.int p0), .val (.int p1), .val (.int p2), .val (.long p3), .second, .val (.long p4), .second, .val (.long p5), .second, .val (.int (0 : Int32)), .val (.int k.toInt32), .val (.int (p3).toInt32), .unset, .unset, .unset, .unset, .unset, .unset, .unset, .unset, .unset]) (st' := []) rfl ?_
    refine go_run K 17 5 (pc' := 31) (Ls' := #[.val (.int p0), .val (.int p1), .val (.int p2), .val (.long p3), .second, .val (.long p4), .second, .val (.long p5), .second, .val (.int (0 : Int32)), .val (.int k.toInt32), .val (.int (p3).toInt32), .val (.int ((XT.ushrL p3 (Int8.ofInt 32).toInt32)).toInt32), .unset, .unset, .unset, .unset, .unset, .unset, .unset, .unset]) (st' := []) rfl ?_
    refine go_run K 22 3 (pc' := 36) (Ls' := #[.val (.int p0), .val (.int p1), .val (.int p2), .val (.long p3), .second, .val (.long p4), .second, .val (.long p5), .second, .val (.int (0 : Int32)), .val (.int k.toInt32), .val (.int (p3).toInt32), .val (.int ((XT.ushrL p3 (Int8.ofInt 32).toInt32)).toInt32), .val (.int (p4).toInt32), .unset, .unset, .unset, .unset, .unset, .unset, .unset]) (st' := []) rfl ?_
    refine go_run K 25 5 (pc' := 44) (Ls' := #[.val (.int p0), .val (.int p1), .val (.int p2), .val (.long p3), .second, .val (.long p4), .second, .val (.long p5), .second, .val (.int (0 : Int32)), .val (.int k.toInt32), .val (.int (p3).toInt32), .val (.int ((XT.ushrL p3 (Int8.ofInt 32).toInt32)).toInt32), .val (.int (p4).toInt32), .val (.int ((XT.ushrL p4 (Int8.ofInt 32).toInt32)).toInt32), .unset, .unset, .unset, .unset, .unset, .unset]) (st' := []) rfl ?_
    refine go_run K 30 3 (pc' := 49) (Ls' := #[.val (.int p0), .val (.int p1), .val (.int p2), .val (.long p3), .second, .val (.long p4), .second, .val (.long p5), .second, .val (.int (0 : Int32)), .val (.int k.toInt32), .val (.int (p3).toInt32), .val (.int ((XT.ushrL p3 (Int8.ofInt 32).toInt32)).toInt32), .val (.int (p4).toInt32), .val (.int ((XT.ushrL p4 (Int8.ofInt 32).toInt32)).toInt32), .val (.int (p5).toInt32), .unset, .unset, .unset, .unset, .unset]) (st' := []) rfl ?_
    refine go_run K 33 5 (pc' := 57) (Ls' := #[.val (.int p0), .val (.int p1), .val (.int p2), .val (.long p3), .second, .val (.long p4), .second, .val (.long p5), .second, .val (.int (0 : Int32)), .val (.int k.toInt32), .val (.int (p3).toInt32), .val (.int ((XT.ushrL p3 (Int8.ofInt 32).toInt32)).toInt32), .val (.int (p4).toInt32), .val (.int ((XT.ushrL p4 (Int8.ofInt 32).toInt32)).toInt32), .val (.int (p5).toInt32), .val (.int ((XT.ushrL p5 (Int8.ofInt 32).toInt32)).toInt32), .unset, .unset, .unset, .unset]) (st' := []) rfl ?_
    refine go_run K 38 1 (pc' := 59) (st' := [(.int (6 : Int32))]) rfl ?_
    refine go_newarray K (k := 39) rfl (H.w 1 rfl) (by decide) (cap := 6) (by decide) rfl rfl rfl ?_
    intro h2 a1 k3 e4 g5 E6 A7
    have A7' : Arv G.Z h2 a1 k3 .int (6 : Int32) [(.int (0 : Int32)), (.int (0 : Int32)), (.int (0 : Int32)), (.int (0 : Int32)), (.int (0 : Int32)), (.int (0 : Int32))] (.int (0 : Int32)) := Arv.pad A7 (pad_rep [] (.int (0 : Int32)) 6)
    refine go_run K 40 3 (pc' := 65) (st' := [(.int (p3).toInt32), (.int (0 : Int32)), (.ref a1), (.ref a1)]) rfl ?_
    refine go_iastore K (k := 43) rfl A7' (i := 0) (by decide) rfl (Nat.le_of_ble_eq_true rfl) g5 ?_
    intro h8 W9 A10
    refine go_run K 44 3 (pc' := 70) (st' := [(.int ((XT.ushrL p3 (Int8.ofInt 32).toInt32)).toInt32), (.int (1 : Int32)), (.ref a1), (.ref a1)]) rfl ?_
    refine go_iastore K (k := 47) rfl A10 (i := 1) (by decide) rfl (Nat.le_of_ble_eq_true rfl) g5 ?_
    intro h11 W12 A13
    refine go_run K 48 3 (pc' := 75) (st' := [(.int (p4).toInt32), (.int (2 : Int32)), (.ref a1), (.ref a1)]) rfl ?_
    refine go_iastore K (k := 51) rfl A13 (i := 2) (by decide) rfl (Nat.le_of_ble_eq_true rfl) g5 ?_
    intro h14 W15 A16
    refine go_run K 52 3 (pc' := 80) (st' := [(.int ((XT.ushrL p4 (Int8.ofInt 32).toInt32)).toInt32), (.int (3 : Int32)), (.ref a1), (.ref a1)]) rfl ?_
    refine go_iastore K (k := 55) rfl A16 (i := 3) (by decide) rfl (Nat.le_of_ble_eq_true rfl) g5 ?_
    intro h17 W18 A19
    refine go_run K 56 3 (pc' := 85) (st' := [(.int (p5).toInt32), (.int (4 : Int32)), (.ref a1), (.ref a1)]) rfl ?_
    refine go_iastore K (k := 59) rfl A19 (i := 4) (by decide) rfl (Nat.le_of_ble_eq_true rfl) g5 ?_
    intro h20 W21 A22
    refine go_run K 60 3 (pc' := 90) (st' := [(.int ((XT.ushrL p5 (Int8.ofInt 32).toInt32)).toInt32), (.int (5 : Int32)), (.ref a1), (.ref a1)]) rfl ?_
    refine go_iastore K (k := 63) rfl A22 (i := 5) (by decide) rfl (Nat.le_of_ble_eq_true rfl) g5 ?_
    intro h23 W24 A25
    refine go_run K 64 1 (pc' := 93) (Ls' := #[.val (.int p0), .val (.int p1), .val (.int p2), .val (.long p3), .second, .val (.long p4), .second, .val (.long p5), .second, .val (.int (0 : Int32)), .val (.int k.toInt32), .val (.int (p3).toInt32), .val (.int ((XT.ushrL p3 (Int8.ofInt 32).toInt32)).toInt32), .val (.int (p4).toInt32), .val (.int ((XT.ushrL p4 (Int8.ofInt 32).toInt32)).toInt32), .val (.int (p5).toInt32), .val (.int ((XT.ushrL p5 (Int8.ofInt 32).toInt32)).toInt32), .val (.ref a1), .unset, .unset, .unset]) (st' := []) rfl ?_
    refine go_new K (k := 65) rfl (H.w 2 rfl) (H.w 3 rfl) (H.w 4 rfl) rfl rfl ?_
    intro h27 a26 e28 g29 E30 A31 D32
    have F33 : Fld G.Z h27 a26 "com/example/foyer/foyer/Layout" "declared" "Ljava/util/List;" .null := D32 (Or.inr (H.w 47 rfl)) (ty := (.object "java/util/List")) (by decide)
    have F34 : Fld G.Z h27 a26 "com/example/foyer/foyer/Layout" "prefix" "Ljava/lang/String;" .null := D32 (Or.inr (H.w 49 rfl)) (ty := (.object "java/lang/String")) (by decide)
    refine go_run K 66 1 (pc' := 97) (st' := [(.ref a26), (.ref a26)]) rfl ?_
    refine go_special K (k := 67) rfl rfl (H.w 5 rfl) (H.w 6 rfl) (H.w 4 rfl) (H.w 7 rfl) (by decide) pd_14 (c_ly0 H sE A31 F33 F34 g29) (argsL := []) (rest := [(.ref a26)]) rfl rfl rfl sub0 rfl ?_
    rintro _ h35 _ - ⟨li36, pr37, rfl, K38, Y39, L40, f41⟩
    show Go G B M_law _ h35 (a26 :: (a1 :: [])) 5 15 100 #[.val (.int p0), .val (.int p1), .val (.int p2), .val (.long p3), .second, .val (.long p4), .second, .val (.long p5), .second, .val (.int (0 : Int32)), .val (.int k.toInt32), .val (.int (p3).toInt32), .val (.int ((XT.ushrL p3 (Int8.ofInt 32).toInt32)).toInt32), .val (.int (p4).toInt32), .val (.int ((XT.ushrL p4 (Int8.ofInt 32).toInt32)).toInt32), .val (.int (p5).toInt32), .val (.int ((XT.ushrL p5 (Int8.ofInt 32).toInt32)).toInt32), .val (.ref a1), .unset, .unset, .unset] [(.ref a26)]
    refine go_run K 68 1 (pc' := 102) (Ls' := #[.val (.int p0), .val (.int p1), .val (.int p2), .val (.long p3), .second, .val (.long p4), .second, .val (.long p5), .second, .val (.int (0 : Int32)), .val (.int k.toInt32), .val (.int (p3).toInt32), .val (.int ((XT.ushrL p3 (Int8.ofInt 32).toInt32)).toInt32), .val (.int (p4).toInt32), .val (.int ((XT.ushrL p4 (Int8.ofInt 32).toInt32)).toInt32), .val (.int (p5).toInt32), .val (.int ((XT.ushrL p5 (Int8.ofInt 32).toInt32)).toInt32), .val (.ref a1), .val (.ref a26), .unset, .unset]) (st' := []) rfl ?_
    refine go_run K 69 1 (pc' := 104) (st' := [(.ref a26)]) rfl ?_
    refine go_ldcT K (k := 70) rfl (H.w 50 rfl) H.ws (H.mem (by decide)) (cs := [(114 : Int32)]) (by decide) (by decide) (n := 4) rfl rfl rfl rfl ?_
    intro h43 a42 E44 S45
    refine go_run K 71 5 (pc' := 112) (st' := [(.int p2), (.int (-1 : Int32)), (.int (0 : Int32)), (.ref a42), (.ref a26)]) rfl ?_
    have c46 := ((Ly.exa Y39).ext E44)
    have c47 := (L40.ext E44)
    have c48 := (Y39.ext E44)
    refine go_virt0 K (k := 76) rfl (H.w 51 rfl) (H.w 54 rfl) (H.w 53 rfl) (H.w 4 rfl) (H.w 55 rfl) (by decide) pd_32 c46 (c_ar3 (p := (0 : Int32)) (q := (-1 : Int32)) (iv := p2) H sE aE c47 c48 lat0 (lat1 (by decide)) (by decide) S45) (argsL := [(.ref a42), (.int (0 : Int32)), (.int (-1 : Int32)), (.int p2)]) (rest := []) rfl rfl rfl sub0 rfl ?_
    rintro _ h49 _ - ⟨r50, t51, io52, k53, rfl, K54, f55, L56, Lm57⟩
    have L58 : Alk G h49 li36 t51 r50 k53 1 (0 : Int32) (0 : Int32) (0 : Int32) (.ref io52) := L56
    show Go G B M_law _ h49 (a26 :: (a1 :: [])) 14 80 115 #[.val (.int p0), .val (.int p1), .val (.int p2), .val (.long p3), .second, .val (.long p4), .second, .val (.long p5), .second, .val (.int (0 : Int32)), .val (.int k.toInt32), .val (.int (p3).toInt32), .val (.int ((XT.ushrL p3 (Int8.ofInt 32).toInt32)).toInt32), .val (.int (p4).toInt32), .val (.int ((XT.ushrL p4 (Int8.ofInt 32).toInt32)).toInt32), .val (.int (p5).toInt32), .val (.int ((XT.ushrL p5 (Int8.ofInt 32).toInt32)).toInt32), .val (.ref a1), .val (.ref a26), .unset, .unset] [(.ref r50)]
    refine go_run K 77 1 (pc' := 116) (st' := []) rfl ?_
    refine go_new K (k := 78) rfl (H.w 249 rfl) (H.w 250 rfl) (H.w 251 rfl) rfl rfl ?_
    intro h60 a59 e61 g62 E63 A64 D65
    have F66 : Fld G.Z h60 a59 "com/example/foyer/foyer/PlainRegisters" "values" "[I" .null := D65 (Or.inr (H.w 343 rfl)) (ty := (.array .int)) (by decide)
    refine go_run K 79 2 (pc' := 122) (st' := [(.ref a26), (.ref a59), (.ref a59)]) rfl ?_
    have c67 := (L58.ext E63)
    have c68 := ((Ly.keep c48 K54 (ninS (Exa.ne c46 ((Al0.exa L40).ext E44) (by decide)) nin0) (allS (Ap.of_exa ((Al0.exa L40).ext E44) (by decide) (H.w 9 rfl)) all0)).ext E63)
    have c69 := (Lm57.ext E63)
    refine go_special K (k := 81) rfl rfl (H.w 252 rfl) (H.w 253 rfl) (H.w 251 rfl) (H.w 254 rfl) (by decide) pd_33 (c_pr0 H c67 c68 c69 A64 F66 g62) (argsL := [(.ref a26)]) (rest := [(.ref a59)]) rfl rfl rfl sub0 rfl ?_
    rintro _ h70 _ - ⟨d71, k72, rfl, K73, e74, F75, A76, g77, f78⟩
    show Go G B M_law _ h70 (a59 :: (a26 :: (a1 :: []))) 17 89 125 #[.val (.int p0), .val (.int p1), .val (.int p2), .val (.long p3), .second, .val (.long p4), .second, .val (.long p5), .second, .val (.int (0 : Int32)), .val (.int k.toInt32), .val (.int (p3).toInt32), .val (.int ((XT.ushrL p3 (Int8.ofInt 32).toInt32)).toInt32), .val (.int (p4).toInt32), .val (.int ((XT.ushrL p4 (Int8.ofInt 32).toInt32)).toInt32), .val (.int (p5).toInt32), .val (.int ((XT.ushrL p5 (Int8.ofInt 32).toInt32)).toInt32), .val (.ref a1), .val (.ref a26), .unset, .unset] [(.ref a59)]
    refine go_run K 82 1 (pc' := 127) (Ls' := #[.val (.int p0), .val (.int p1), .val (.int p2), .val (.long p3), .second, .val (.long p4), .second, .val (.long p5), .second, .val (.int (0 : Int32)), .val (.int k.toInt32), .val (.int (p3).toInt32), .val (.int ((XT.ushrL p3 (Int8.ofInt 32).toInt32)).toInt32), .val (.int (p4).toInt32), .val (.int ((XT.ushrL p4 (Int8.ofInt 32).toInt32)).toInt32), .val (.int (p5).toInt32), .val (.int ((XT.ushrL p5 (Int8.ofInt 32).toInt32)).toInt32), .val (.ref a1), .val (.ref a26), .val (.ref a59), .unset]) (st' := []) rfl ?_
    refine go_run K 83 3 (pc' := 133) (st' := [(.int k.toInt32), (.ref a1), (.ref a59)]) rfl ?_
    have X79 : Ext h23 h35 := (Ext.keepN E30 K38 (allS (Nat.le_trans (Nat.le_refl _) (Nat.le_of_eq e28.symm)) all0))
    have X80 : Ext h23 h43 := (Ext.tr X79 E44)
    have X81 : Ext h23 h49 := (Ext.keepN X80 K54 (allS (Nat.le_trans (E30).1 f41) all0))
    have X82 : Ext h23 h60 := (Ext.tr X81 E63)
    have X83 : Ext h23 h70 := (Ext.keepN X82 K73 (allS (Nat.le_trans (X81).1 (Nat.le_of_eq e61.symm)) all0))
    have c84 := (A25.ext X83)
    refine go_virt0 K (k := 86) rfl (H.w 344 rfl) (H.w 347 rfl) (H.w 346 rfl) (H.w 251 rfl) (H.w 348 rfl) (by decide) pd_34 e74 (c_rst (k := k) (n := 0) (xs := [(p3).toInt32, ((XT.ushrL p3 (Int8.ofInt 32).toInt32)).toInt32, (p4).toInt32, ((XT.ushrL p4 (Int8.ofInt 32).toInt32)).toInt32, (p5).toInt32, ((XT.ushrL p5 (Int8.ofInt 32).toInt32)).toInt32]) (ys := []) H rfl rfl (by omega) F75 c84 A76 g77) (argsL := [(.ref a1), (.int k.toInt32)]) (rest := []) rfl rfl rfl sub0 rfl ?_
    rintro _ h85 _ - ⟨rfl, K86, A87⟩
    show Go G B M_law _ h85 (a59 :: (a26 :: (a1 :: []))) 17 89 136 #[.val (.int p0), .val (.int p1), .val (.int p2), .val (.long p3), .second, .val (.long p4), .second, .val (.long p5), .second, .val (.int (0 : Int32)), .val (.int k.toInt32), .val (.int (p3).toInt32), .val (.int ((XT.ushrL p3 (Int8.ofInt 32).toInt32)).toInt32), .val (.int (p4).toInt32), .val (.int ((XT.ushrL p4 (Int8.ofInt 32).toInt32)).toInt32), .val (.int (p5).toInt32), .val (.int ((XT.ushrL p5 (Int8.ofInt 32).toInt32)).toInt32), .val (.ref a1), .val (.ref a26), .val (.ref a59), .unset] []
    refine go_run K 87 1 (pc' := 138) (st' := [(.ref a59)]) rfl ?_
    have c88 := (e74.keep K86)
    have c89 := (F75.keep K86 (ninS (Exa.neArv e74 A76 (H.w 250 rfl)) nin0))
    refine go_virt0 K (k := 88) rfl (H.w 350 rfl) (H.w 353 rfl) (H.w 352 rfl) (H.w 251 rfl) (H.w 354 rfl) (by decide) pd_6 c88 (c_psz (z := (0 : Int32)) H c89 A87) (argsL := []) (rest := []) rfl rfl rfl sub0 rfl ?_
    rintro _ _ _ - ⟨rfl, rfl⟩
    show Go G B M_law _ h85 (a59 :: (a26 :: (a1 :: []))) 17 89 141 #[.val (.int p0), .val (.int p1), .val (.int p2), .val (.long p3), .second, .val (.long p4), .second, .val (.long p5), .second, .val (.int (0 : Int32)), .val (.int k.toInt32), .val (.int (p3).toInt32), .val (.int ((XT.ushrL p3 (Int8.ofInt 32).toInt32)).toInt32), .val (.int (p4).toInt32), .val (.int ((XT.ushrL p4 (Int8.ofInt 32).toInt32)).toInt32), .val (.int (p5).toInt32), .val (.int ((XT.ushrL p5 (Int8.ofInt 32).toInt32)).toInt32), .val (.ref a1), .val (.ref a26), .val (.ref a59), .unset] [(.int (0 : Int32))]
    refine go_run K 89 1 (pc' := 143) (st' := [(.int (0 : Int32)), (.int (0 : Int32))]) rfl ?_
    refine go_icmpne K (k := 90) rfl (pc' := 150) (by decide) (fun q => absurd rfl q) (fun _ => ?_)
    refine go_run K 91 2 (pc' := 151) (st' := [(.int (1 : Int32))]) rfl ?_
    refine go_run K 94 1 (pc' := 153) (Ls' := #[.val (.int p0), .val (.int p1), .val (.int p2), .val (.long p3), .second, .val (.long p4), .second, .val (.long p5), .second, .val (.int (0 : Int32)), .val (.int k.toInt32), .val (.int (p3).toInt32), .val (.int ((XT.ushrL p3 (Int8.ofInt 32).toInt32)).toInt32), .val (.int (p4).toInt32), .val (.int ((XT.ushrL p4 (Int8.ofInt 32).toInt32)).toInt32), .val (.int (p5).toInt32), .val (.int ((XT.ushrL p5 (Int8.ofInt 32).toInt32)).toInt32), .val (.ref a1), .val (.ref a26), .val (.ref a59), .val (.int (1 : Int32))]) (st' := []) rfl ?_
    refine go_run K 95 1 (pc' := 155) (st' := [(.int (1 : Int32))]) rfl ?_
    refine go_ifeq K (k := 96) rfl (pc' := 182) (by decide) (fun q => absurd q (by decide)) (fun _ => ?_)
    refine go_run K 97 7 (pc' := 172) (st' := [(.int ((XT.ushrL p5 (Int8.ofInt 32).toInt32)).toInt32), (.int (p5).toInt32), (.int ((XT.ushrL p4 (Int8.ofInt 32).toInt32)).toInt32), (.int (p4).toInt32), (.int ((XT.ushrL p3 (Int8.ofInt 32).toInt32)).toInt32), (.int (p3).toInt32), (.ref a1)]) rfl ?_
    have X90 : Ext h23 h85 := (Ext.keepN X83 K86 (allS (Nat.le_trans (X82).1 f78) all0))
    have c91 := (A25.ext X90)
    refine go_static K (k := 104) rfl (H.w 355 rfl) (H.w 356 rfl) (H.w 357 rfl) (H.w 358 rfl) (by decide) pd_35 (c_unc H c91) (argsL := [(.ref a1), (.int (p3).toInt32), (.int ((XT.ushrL p3 (Int8.ofInt 32).toInt32)).toInt32), (.int (p4).toInt32), (.int ((XT.ushrL p4 (Int8.ofInt 32).toInt32)).toInt32), (.int (p5).toInt32), (.int ((XT.ushrL p5 (Int8.ofInt 32).toInt32)).toInt32)]) (rest := []) rfl rfl rfl sub0 rfl ?_
    rintro _ _ _ - ⟨rfl, rfl⟩
    show Go G B M_law _ h85 (a59 :: (a26 :: (a1 :: []))) 17 89 175 #[.val (.int p0), .val (.int p1), .val (.int p2), .val (.long p3), .second, .val (.long p4), .second, .val (.long p5), .second, .val (.int (0 : Int32)), .val (.int k.toInt32), .val (.int (p3).toInt32), .val (.int ((XT.ushrL p3 (Int8.ofInt 32).toInt32)).toInt32), .val (.int (p4).toInt32), .val (.int ((XT.ushrL p4 (Int8.ofInt 32).toInt32)).toInt32), .val (.int (p5).toInt32), .val (.int ((XT.ushrL p5 (Int8.ofInt 32).toInt32)).toInt32), .val (.ref a1), .val (.ref a26), .val (.ref a59), .val (.int (1 : Int32))] [(.int (1 : Int32))]
    refine go_ifeq K (k := 105) rfl (pc' := 182) (by decide) (fun q => absurd q (by decide)) (fun _ => ?_)
    refine go_run K 106 2 (pc' := 183) (st' := [(.int (1 : Int32))]) rfl ?_
    refine go_run K 109 1 (pc' := 185) (st' := []) rfl ?_
    refine go_run K 110 1 (pc' := 187) (st' := [(.int (1 : Int32))]) rfl ?_
    refine go_ifeq K (k := 111) rfl (pc' := 213) (by decide) (fun q => absurd q (by decide)) (fun _ => ?_)
    refine go_run K 112 1 (pc' := 192) (st' := [(.int (0 : Int32))]) rfl ?_
    refine go_ifle K (k := 113) rfl (pc' := 209) (by decide) (fun _ => ?_) (fun q => absurd q (by decide))
    refine go_run K 121 2 (pc' := 214) (st' := [(.int (1 : Int32))]) rfl ?_
    refine go_run K 124 1 (pc' := 216) (st' := []) rfl ?_
    refine go_run K 125 1 (pc' := 218) (st' := [(.int (1 : Int32))]) rfl ?_
    refine go_ifeq K (k := 126) rfl (pc' := 247) (by decide) (fun q => absurd q (by decide)) (fun _ => ?_)
    refine go_run K 127 2 (pc' := 224) (st' := [(.int (1 : Int32)), (.int (0 : Int32))]) rfl ?_
    refine go_icmple K (k := 129) rfl (pc' := 243) (by decide) (fun _ => ?_) (fun q => absurd q (by decide))
    refine go_run K 139 2 (pc' := 248) (st' := [(.int (1 : Int32))]) rfl ?_
    refine go_run K 142 1 (pc' := 250) (st' := []) rfl ?_
    refine go_run K 143 1 (pc' := 252) (st' := [(.int (1 : Int32))]) rfl ?_
    refine go_ifeq K (k := 144) rfl (pc' := 281) (by decide) (fun q => absurd q (by decide)) (fun _ => ?_)
    refine go_run K 145 2 (pc' := 258) (st' := [(.int (2 : Int32)), (.int (0 : Int32))]) rfl ?_
    refine go_icmple K (k := 147) rfl (pc' := 277) (by decide) (fun _ => ?_) (fun q => absurd q (by decide))
    refine go_run K 157 2 (pc' := 282) (st' := [(.int (1 : Int32))]) rfl ?_
    refine go_run K 160 1 (pc' := 284) (st' := []) rfl ?_
    refine go_run K 161 1 (pc' := 286) (st' := [(.int (1 : Int32))]) rfl ?_
    refine go_ifeq K (k := 162) rfl (pc' := 315) (by decide) (fun q => absurd q (by decide)) (fun _ => ?_)
    refine go_run K 163 2 (pc' := 292) (st' := [(.int (3 : Int32)), (.int (0 : Int32))]) rfl ?_
    refine go_icmple K (k := 165) rfl (pc' := 311) (by decide) (fun _ => ?_) (fun q => absurd q (by decide))
    refine go_run K 175 2 (pc' := 316) (st' := [(.int (1 : Int32))]) rfl ?_
    refine go_run K 178 1 (pc' := 318) (st' := []) rfl ?_
    refine go_run K 179 1 (pc' := 320) (st' := [(.int (1 : Int32))]) rfl ?_
    refine go_ireturn K (k := 180) rfl rfl (by decide) rfl rfl rfl ?_
    intro Sf hSf
    exact rfl
  · rw [hn]
    refine go_run K 5 1 (pc' := 8) (Ls' := #[.val (.int p0), .val (.int p1), .val (.int p2), .val (.long p3), .second, .val (.long p4), .second, .val (.long p5), .second, .val (.int (1 : Int32)), .unset, .unset, .unset, .unset, .unset, .unset, .unset, .unset, .unset, .unset, .unset]) (st' := []) rfl ?_
    refine go_run K 6 1 (pc' := 9) (st' := [(.int p1)]) rfl ?_
    refine go_ldcI K (k := 7) rfl (H.w 0 rfl) ?_
    refine go_run K 8 4 (pc' := 17) (st' := [(.int (6 : Int32)), (.int (p1 &&& (2147483647 : Int32)))]) rfl ?_
    refine go_irem K (k := 12) rfl (by decide) ?_
    obtain ⟨k, hk, ek⟩ : ∃ k : Nat, k + 1 ≤ 6 ∧ ((p1 &&& (2147483647 : Int32)) % (6 : Int32)) = k.toInt32 := off_k (m := 6) (by decide) (by decide)
    rw [ek]
    refine go_run K 13 1 (pc' := 20) (Ls' := #[.val (.int p0), .val (.int p1), .val (.int p2), .val (.long p3), .second, .val (.long p4), .second, .val (.long p5), .second, .val (.int (1 : Int32)), .val (.int k.toInt32), .unset, .unset, .unset, .unset, .unset, .unset, .unset, .unset, .unset, .unset]) (st' := []) rfl ?_
    refine go_run K 14 3 (pc' := 24) (Ls' := #[.val (.int p0), .val (.int p1), .val (.int p2), .val (.long p3), .second, .val (.long p4), .second, .val (.long p5), .second, .val (.int (1 : Int32)), .val (.int k.toInt32), .val (.int (p3).toInt32), .unset, .unset, .unset, .unset, .unset, .unset, .unset, .unset, .unset]) (st' := []) rfl ?_
    refine go_run K 17 5 (pc' := 31) (Ls' := #[.val (.int p0), .val (.int p1), .val (.int p2), .val (.long p3), .second, .val (.long p4), .second, .val (.long p5), .second, .val (.int (1 : Int32)), .val (.int k.toInt32), .val (.int (p3).toInt32), .val (.int ((XT.ushrL p3 (Int8.ofInt 32).toInt32)).toInt32), .unset, .unset, .unset, .unset, .unset, .unset, .unset, .unset]) (st' := []) rfl ?_
    refine go_run K 22 3 (pc' := 36) (Ls' := #[.val (.int p0), .val (.int p1), .val (.int p2), .val (.long p3), .second, .val (.long p4), .second, .val (.long p5), .second, .val (.int (1 : Int32)), .val (.int k.toInt32), .val (.int (p3).toInt32), .val (.int ((XT.ushrL p3 (Int8.ofInt 32).toInt32)).toInt32), .val (.int (p4).toInt32), .unset, .unset, .unset, .unset, .unset, .unset, .unset]) (st' := []) rfl ?_
    refine go_run K 25 5 (pc' := 44) (Ls' := #[.val (.int p0), .val (.int p1), .val (.int p2), .val (.long p3), .second, .val (.long p4), .second, .val (.long p5), .second, .val (.int (1 : Int32)), .val (.int k.toInt32), .val (.int (p3).toInt32), .val (.int ((XT.ushrL p3 (Int8.ofInt 32).toInt32)).toInt32), .val (.int (p4).toInt32), .val (.int ((XT.ushrL p4 (Int8.ofInt 32).toInt32)).toInt32), .unset, .unset, .unset, .unset, .unset, .unset]) (st' := []) rfl ?_
    refine go_run K 30 3 (pc' := 49) (Ls' := #[.val (.int p0), .val (.int p1), .val (.int p2), .val (.long p3), .second, .val (.long p4), .second, .val (.long p5), .second, .val (.int (1 : Int32)), .val (.int k.toInt32), .val (.int (p3).toInt32), .val (.int ((XT.ushrL p3 (Int8.ofInt 32).toInt32)).toInt32), .val (.int (p4).toInt32), .val (.int ((XT.ushrL p4 (Int8.ofInt 32).toInt32)).toInt32), .val (.int (p5).toInt32), .unset, .unset, .unset, .unset, .unset]) (st' := []) rfl ?_
    refine go_run K 33 5 (pc' := 57) (Ls' := #[.val (.int p0), .val (.int p1), .val (.int p2), .val (.long p3), .second, .val (.long p4), .second, .val (.long p5), .second, .val (.int (1 : Int32)), .val (.int k.toInt32), .val (.int (p3).toInt32), .val (.int ((XT.ushrL p3 (Int8.ofInt 32).toInt32)).toInt32), .val (.int (p4).toInt32), .val (.int ((XT.ushrL p4 (Int8.ofInt 32).toInt32)).toInt32), .val (.int (p5).toInt32), .val (.int ((XT.ushrL p5 (Int8.ofInt 32).toInt32)).toInt32), .unset, .unset, .unset, .unset]) (st' := []) rfl ?_
    refine go_run K 38 1 (pc' := 59) (st' := [(.int (6 : Int32))]) rfl ?_
    refine go_newarray K (k := 39) rfl (H.w 1 rfl) (by decide) (cap := 6) (by decide) rfl rfl rfl ?_
    intro h93 a92 k94 e95 g96 E97 A98
    have A98' : Arv G.Z h93 a92 k94 .int (6 : Int32) [(.int (0 : Int32)), (.int (0 : Int32)), (.int (0 : Int32)), (.int (0 : Int32)), (.int (0 : Int32)), (.int (0 : Int32))] (.int (0 : Int32)) := Arv.pad A98 (pad_rep [] (.int (0 : Int32)) 6)
    refine go_run K 40 3 (pc' := 65) (st' := [(.int (p3).toInt32), (.int (0 : Int32)), (.ref a92), (.ref a92)]) rfl ?_
    refine go_iastore K (k := 43) rfl A98' (i := 0) (by decide) rfl (Nat.le_of_ble_eq_true rfl) g96 ?_
    intro h99 W100 A101
    refine go_run K 44 3 (pc' := 70) (st' := [(.int ((XT.ushrL p3 (Int8.ofInt 32).toInt32)).toInt32), (.int (1 : Int32)), (.ref a92), (.ref a92)]) rfl ?_
    refine go_iastore K (k := 47) rfl A101 (i := 1) (by decide) rfl (Nat.le_of_ble_eq_true rfl) g96 ?_
    intro h102 W103 A104
    refine go_run K 48 3 (pc' := 75) (st' := [(.int (p4).toInt32), (.int (2 : Int32)), (.ref a92), (.ref a92)]) rfl ?_
    refine go_iastore K (k := 51) rfl A104 (i := 2) (by decide) rfl (Nat.le_of_ble_eq_true rfl) g96 ?_
    intro h105 W106 A107
    refine go_run K 52 3 (pc' := 80) (st' := [(.int ((XT.ushrL p4 (Int8.ofInt 32).toInt32)).toInt32), (.int (3 : Int32)), (.ref a92), (.ref a92)]) rfl ?_
    refine go_iastore K (k := 55) rfl A107 (i := 3) (by decide) rfl (Nat.le_of_ble_eq_true rfl) g96 ?_
    intro h108 W109 A110
    refine go_run K 56 3 (pc' := 85) (st' := [(.int (p5).toInt32), (.int (4 : Int32)), (.ref a92), (.ref a92)]) rfl ?_
    refine go_iastore K (k := 59) rfl A110 (i := 4) (by decide) rfl (Nat.le_of_ble_eq_true rfl) g96 ?_
    intro h111 W112 A113
    refine go_run K 60 3 (pc' := 90) (st' := [(.int ((XT.ushrL p5 (Int8.ofInt 32).toInt32)).toInt32), (.int (5 : Int32)), (.ref a92), (.ref a92)]) rfl ?_
    refine go_iastore K (k := 63) rfl A113 (i := 5) (by decide) rfl (Nat.le_of_ble_eq_true rfl) g96 ?_
    intro h114 W115 A116
    refine go_run K 64 1 (pc' := 93) (Ls' := #[.val (.int p0), .val (.int p1), .val (.int p2), .val (.long p3), .second, .val (.long p4), .second, .val (.long p5), .second, .val (.int (1 : Int32)), .val (.int k.toInt32), .val (.int (p3).toInt32), .val (.int ((XT.ushrL p3 (Int8.ofInt 32).toInt32)).toInt32), .val (.int (p4).toInt32), .val (.int ((XT.ushrL p4 (Int8.ofInt 32).toInt32)).toInt32), .val (.int (p5).toInt32), .val (.int ((XT.ushrL p5 (Int8.ofInt 32).toInt32)).toInt32), .val (.ref a92), .unset, .unset, .unset]) (st' := []) rfl ?_
    refine go_new K (k := 65) rfl (H.w 2 rfl) (H.w 3 rfl) (H.w 4 rfl) rfl rfl ?_
    intro h118 a117 e119 g120 E121 A122 D123
    have F124 : Fld G.Z h118 a117 "com/example/foyer/foyer/Layout" "declared" "Ljava/util/List;" .null := D123 (Or.inr (H.w 47 rfl)) (ty := (.object "java/util/List")) (by decide)
    have F125 : Fld G.Z h118 a117 "com/example/foyer/foyer/Layout" "prefix" "Ljava/lang/String;" .null := D123 (Or.inr (H.w 49 rfl)) (ty := (.object "java/lang/String")) (by decide)
    refine go_run K 66 1 (pc' := 97) (st' := [(.ref a117), (.ref a117)]) rfl ?_
    refine go_special K (k := 67) rfl rfl (H.w 5 rfl) (H.w 6 rfl) (H.w 4 rfl) (H.w 7 rfl) (by decide) pd_14 (c_ly0 H sE A122 F124 F125 g120) (argsL := []) (rest := [(.ref a117)]) rfl rfl rfl sub0 rfl ?_
    rintro _ h126 _ - ⟨li127, pr128, rfl, K129, Y130, L131, f132⟩
    show Go G B M_law _ h126 (a117 :: (a92 :: [])) 5 15 100 #[.val (.int p0), .val (.int p1), .val (.int p2), .val (.long p3), .second, .val (.long p4), .second, .val (.long p5), .second, .val (.int (1 : Int32)), .val (.int k.toInt32), .val (.int (p3).toInt32), .val (.int ((XT.ushrL p3 (Int8.ofInt 32).toInt32)).toInt32), .val (.int (p4).toInt32), .val (.int ((XT.ushrL p4 (Int8.ofInt 32).toInt32)).toInt32), .val (.int (p5).toInt32), .val (.int ((XT.ushrL p5 (Int8.ofInt 32).toInt32)).toInt32), .val (.ref a92), .unset, .unset, .unset] [(.ref a117)]
    refine go_run K 68 1 (pc' := 102) (Ls' := #[.val (.int p0), .val (.int p1), .val (.int p2), .val (.long p3), .second, .val (.long p4), .second, .val (.long p5), .second, .val (.int (1 : Int32)), .val (.int k.toInt32), .val (.int (p3).toInt32), .val (.int ((XT.ushrL p3 (Int8.ofInt 32).toInt32)).toInt32), .val (.int (p4).toInt32), .val (.int ((XT.ushrL p4 (Int8.ofInt 32).toInt32)).toInt32), .val (.int (p5).toInt32), .val (.int ((XT.ushrL p5 (Int8.ofInt 32).toInt32)).toInt32), .val (.ref a92), .val (.ref a117), .unset, .unset]) (st' := []) rfl ?_
    refine go_run K 69 1 (pc' := 104) (st' := [(.ref a117)]) rfl ?_
    refine go_ldcT K (k := 70) rfl (H.w 50 rfl) H.ws (H.mem (by decide)) (cs := [(114 : Int32)]) (by decide) (by decide) (n := 4) rfl rfl rfl rfl ?_
    intro h134 a133 E135 S136
    refine go_run K 71 5 (pc' := 112) (st' := [(.int p2), (.int (0 : Int32)), (.int (0 : Int32)), (.ref a133), (.ref a117)]) rfl ?_
    have c137 := ((Ly.exa Y130).ext E135)
    have c138 := (L131.ext E135)
    have c139 := (Y130.ext E135)
    refine go_virt0 K (k := 76) rfl (H.w 51 rfl) (H.w 54 rfl) (H.w 53 rfl) (H.w 4 rfl) (H.w 55 rfl) (by decide) pd_32 c137 (c_ar3 (p := (0 : Int32)) (q := (0 : Int32)) (iv := p2) H sE aE c138 c139 lat0 (lat1 (by decide)) (by decide) S136) (argsL := [(.ref a133), (.int (0 : Int32)), (.int (0 : Int32)), (.int p2)]) (rest := []) rfl rfl rfl sub0 rfl ?_
    rintro _ h140 _ - ⟨r141, t142, io143, k144, rfl, K145, f146, L147, Lm148⟩
    have L149 : Alk G h140 li127 t142 r141 k144 1 (0 : Int32) (0 : Int32) (1 : Int32) (.ref io143) := L147
    show Go G B M_law _ h140 (a117 :: (a92 :: [])) 14 80 115 #[.val (.int p0), .val (.int p1), .val (.int p2), .val (.long p3), .second, .val (.long p4), .second, .val (.long p5), .second, .val (.int (1 : Int32)), .val (.int k.toInt32), .val (.int (p3).toInt32), .val (.int ((XT.ushrL p3 (Int8.ofInt 32).toInt32)).toInt32), .val (.int (p4).toInt32), .val (.int ((XT.ushrL p4 (Int8.ofInt 32).toInt32)).toInt32), .val (.int (p5).toInt32), .val (.int ((XT.ushrL p5 (Int8.ofInt 32).toInt32)).toInt32), .val (.ref a92), .val (.ref a117), .unset, .unset] [(.ref r141)]
    refine go_run K 77 1 (pc' := 116) (st' := []) rfl ?_
    refine go_new K (k := 78) rfl (H.w 249 rfl) (H.w 250 rfl) (H.w 251 rfl) rfl rfl ?_
    intro h151 a150 e152 g153 E154 A155 D156
    have F157 : Fld G.Z h151 a150 "com/example/foyer/foyer/PlainRegisters" "values" "[I" .null := D156 (Or.inr (H.w 343 rfl)) (ty := (.array .int)) (by decide)
    refine go_run K 79 2 (pc' := 122) (st' := [(.ref a117), (.ref a150), (.ref a150)]) rfl ?_
    have c158 := (L149.ext E154)
    have c159 := ((Ly.keep c139 K145 (ninS (Exa.ne c137 ((Al0.exa L131).ext E135) (by decide)) nin0) (allS (Ap.of_exa ((Al0.exa L131).ext E135) (by decide) (H.w 9 rfl)) all0)).ext E154)
    have c160 := (Lm148.ext E154)
    refine go_special K (k := 81) rfl rfl (H.w 252 rfl) (H.w 253 rfl) (H.w 251 rfl) (H.w 254 rfl) (by decide) pd_33 (c_pr1 H c158 c159 c160 A155 F157 g153) (argsL := [(.ref a117)]) (rest := [(.ref a150)]) rfl rfl rfl sub0 rfl ?_
    rintro _ h161 _ - ⟨d162, k163, rfl, K164, e165, F166, A167, g168, f169⟩
    show Go G B M_law _ h161 (a150 :: (a117 :: (a92 :: []))) 17 89 125 #[.val (.int p0), .val (.int p1), .val (.int p2), .val (.long p3), .second, .val (.long p4), .second, .val (.long p5), .second, .val (.int (1 : Int32)), .val (.int k.toInt32), .val (.int (p3).toInt32), .val (.int ((XT.ushrL p3 (Int8.ofInt 32).toInt32)).toInt32), .val (.int (p4).toInt32), .val (.int ((XT.ushrL p4 (Int8.ofInt 32).toInt32)).toInt32), .val (.int (p5).toInt32), .val (.int ((XT.ushrL p5 (Int8.ofInt 32).toInt32)).toInt32), .val (.ref a92), .val (.ref a117), .unset, .unset] [(.ref a150)]
    refine go_run K 82 1 (pc' := 127) (Ls' := #[.val (.int p0), .val (.int p1), .val (.int p2), .val (.long p3), .second, .val (.long p4), .second, .val (.long p5), .second, .val (.int (1 : Int32)), .val (.int k.toInt32), .val (.int (p3).toInt32), .val (.int ((XT.ushrL p3 (Int8.ofInt 32).toInt32)).toInt32), .val (.int (p4).toInt32), .val (.int ((XT.ushrL p4 (Int8.ofInt 32).toInt32)).toInt32), .val (.int (p5).toInt32), .val (.int ((XT.ushrL p5 (Int8.ofInt 32).toInt32)).toInt32), .val (.ref a92), .val (.ref a117), .val (.ref a150), .unset]) (st' := []) rfl ?_
    refine go_run K 83 3 (pc' := 133) (st' := [(.int k.toInt32), (.ref a92), (.ref a150)]) rfl ?_
    have X170 : Ext h114 h126 := (Ext.keepN E121 K129 (allS (Nat.le_trans (Nat.le_refl _) (Nat.le_of_eq e119.symm)) all0))
    have X171 : Ext h114 h134 := (Ext.tr X170 E135)
    have X172 : Ext h114 h140 := (Ext.keepN X171 K145 (allS (Nat.le_trans (E121).1 f132) all0))
    have X173 : Ext h114 h151 := (Ext.tr X172 E154)
    have X174 : Ext h114 h161 := (Ext.keepN X173 K164 (allS (Nat.le_trans (X172).1 (Nat.le_of_eq e152.symm)) all0))
    have c175 := (A116.ext X174)
    refine go_virt0 K (k := 86) rfl (H.w 344 rfl) (H.w 347 rfl) (H.w 346 rfl) (H.w 251 rfl) (H.w 348 rfl) (by decide) pd_34 e165 (c_rst (k := k) (n := 1) (xs := [(p3).toInt32, ((XT.ushrL p3 (Int8.ofInt 32).toInt32)).toInt32, (p4).toInt32, ((XT.ushrL p4 (Int8.ofInt 32).toInt32)).toInt32, (p5).toInt32, ((XT.ushrL p5 (Int8.ofInt 32).toInt32)).toInt32]) (ys := [p2]) H rfl rfl (by omega) F166 c175 A167 g168) (argsL := [(.ref a92), (.int k.toInt32)]) (rest := []) rfl rfl rfl sub0 rfl ?_
    rintro _ h176 _ - ⟨rfl, K177, A178⟩
    show Go G B M_law _ h176 (a150 :: (a117 :: (a92 :: []))) 17 89 136 #[.val (.int p0), .val (.int p1), .val (.int p2), .val (.long p3), .second, .val (.long p4), .second, .val (.long p5), .second, .val (.int (1 : Int32)), .val (.int k.toInt32), .val (.int (p3).toInt32), .val (.int ((XT.ushrL p3 (Int8.ofInt 32).toInt32)).toInt32), .val (.int (p4).toInt32), .val (.int ((XT.ushrL p4 (Int8.ofInt 32).toInt32)).toInt32), .val (.int (p5).toInt32), .val (.int ((XT.ushrL p5 (Int8.ofInt 32).toInt32)).toInt32), .val (.ref a92), .val (.ref a117), .val (.ref a150), .unset] []
    refine go_run K 87 1 (pc' := 138) (st' := [(.ref a150)]) rfl ?_
    have c179 := (e165.keep K177)
    have c180 := (F166.keep K177 (ninS (Exa.neArv e165 A167 (H.w 250 rfl)) nin0))
    refine go_virt0 K (k := 88) rfl (H.w 350 rfl) (H.w 353 rfl) (H.w 352 rfl) (H.w 251 rfl) (H.w 354 rfl) (by decide) pd_6 c179 (c_psz (z := (1 : Int32)) H c180 A178) (argsL := []) (rest := []) rfl rfl rfl sub0 rfl ?_
    rintro _ _ _ - ⟨rfl, rfl⟩
    show Go G B M_law _ h176 (a150 :: (a117 :: (a92 :: []))) 17 89 141 #[.val (.int p0), .val (.int p1), .val (.int p2), .val (.long p3), .second, .val (.long p4), .second, .val (.long p5), .second, .val (.int (1 : Int32)), .val (.int k.toInt32), .val (.int (p3).toInt32), .val (.int ((XT.ushrL p3 (Int8.ofInt 32).toInt32)).toInt32), .val (.int (p4).toInt32), .val (.int ((XT.ushrL p4 (Int8.ofInt 32).toInt32)).toInt32), .val (.int (p5).toInt32), .val (.int ((XT.ushrL p5 (Int8.ofInt 32).toInt32)).toInt32), .val (.ref a92), .val (.ref a117), .val (.ref a150), .unset] [(.int (1 : Int32))]
    refine go_run K 89 1 (pc' := 143) (st' := [(.int (1 : Int32)), (.int (1 : Int32))]) rfl ?_
    refine go_icmpne K (k := 90) rfl (pc' := 150) (by decide) (fun q => absurd rfl q) (fun _ => ?_)
    refine go_run K 91 2 (pc' := 151) (st' := [(.int (1 : Int32))]) rfl ?_
    refine go_run K 94 1 (pc' := 153) (Ls' := #[.val (.int p0), .val (.int p1), .val (.int p2), .val (.long p3), .second, .val (.long p4), .second, .val (.long p5), .second, .val (.int (1 : Int32)), .val (.int k.toInt32), .val (.int (p3).toInt32), .val (.int ((XT.ushrL p3 (Int8.ofInt 32).toInt32)).toInt32), .val (.int (p4).toInt32), .val (.int ((XT.ushrL p4 (Int8.ofInt 32).toInt32)).toInt32), .val (.int (p5).toInt32), .val (.int ((XT.ushrL p5 (Int8.ofInt 32).toInt32)).toInt32), .val (.ref a92), .val (.ref a117), .val (.ref a150), .val (.int (1 : Int32))]) (st' := []) rfl ?_
    refine go_run K 95 1 (pc' := 155) (st' := [(.int (1 : Int32))]) rfl ?_
    refine go_ifeq K (k := 96) rfl (pc' := 182) (by decide) (fun q => absurd q (by decide)) (fun _ => ?_)
    refine go_run K 97 7 (pc' := 172) (st' := [(.int ((XT.ushrL p5 (Int8.ofInt 32).toInt32)).toInt32), (.int (p5).toInt32), (.int ((XT.ushrL p4 (Int8.ofInt 32).toInt32)).toInt32), (.int (p4).toInt32), (.int ((XT.ushrL p3 (Int8.ofInt 32).toInt32)).toInt32), (.int (p3).toInt32), (.ref a92)]) rfl ?_
    have X181 : Ext h114 h176 := (Ext.keepN X174 K177 (allS (Nat.le_trans (X173).1 f169) all0))
    have c182 := (A116.ext X181)
    refine go_static K (k := 104) rfl (H.w 355 rfl) (H.w 356 rfl) (H.w 357 rfl) (H.w 358 rfl) (by decide) pd_35 (c_unc H c182) (argsL := [(.ref a92), (.int (p3).toInt32), (.int ((XT.ushrL p3 (Int8.ofInt 32).toInt32)).toInt32), (.int (p4).toInt32), (.int ((XT.ushrL p4 (Int8.ofInt 32).toInt32)).toInt32), (.int (p5).toInt32), (.int ((XT.ushrL p5 (Int8.ofInt 32).toInt32)).toInt32)]) (rest := []) rfl rfl rfl sub0 rfl ?_
    rintro _ _ _ - ⟨rfl, rfl⟩
    show Go G B M_law _ h176 (a150 :: (a117 :: (a92 :: []))) 17 89 175 #[.val (.int p0), .val (.int p1), .val (.int p2), .val (.long p3), .second, .val (.long p4), .second, .val (.long p5), .second, .val (.int (1 : Int32)), .val (.int k.toInt32), .val (.int (p3).toInt32), .val (.int ((XT.ushrL p3 (Int8.ofInt 32).toInt32)).toInt32), .val (.int (p4).toInt32), .val (.int ((XT.ushrL p4 (Int8.ofInt 32).toInt32)).toInt32), .val (.int (p5).toInt32), .val (.int ((XT.ushrL p5 (Int8.ofInt 32).toInt32)).toInt32), .val (.ref a92), .val (.ref a117), .val (.ref a150), .val (.int (1 : Int32))] [(.int (1 : Int32))]
    refine go_ifeq K (k := 105) rfl (pc' := 182) (by decide) (fun q => absurd q (by decide)) (fun _ => ?_)
    refine go_run K 106 2 (pc' := 183) (st' := [(.int (1 : Int32))]) rfl ?_
    refine go_run K 109 1 (pc' := 185) (st' := []) rfl ?_
    refine go_run K 110 1 (pc' := 187) (st' := [(.int (1 : Int32))]) rfl ?_
    refine go_ifeq K (k := 111) rfl (pc' := 213) (by decide) (fun q => absurd q (by decide)) (fun _ => ?_)
    refine go_run K 112 1 (pc' := 192) (st' := [(.int (1 : Int32))]) rfl ?_
    refine go_ifle K (k := 113) rfl (pc' := 209) (by decide) (fun q => absurd (by decide) q) (fun _ => ?_)
    refine go_run K 114 2 (pc' := 198) (st' := [(.int (0 : Int32)), (.ref a150)]) rfl ?_
    refine go_virt0 K (k := 116) rfl (H.w 366 rfl) (H.w 369 rfl) (H.w 368 rfl) (H.w 251 rfl) (H.w 370 rfl) (by decide) pd_30 c179 (c_rd (i := (0 : Int32)) (y := ([(p3).toInt32, ((XT.ushrL p3 (Int8.ofInt 32).toInt32)).toInt32, (p4).toInt32, ((XT.ushrL p4 (Int8.ofInt 32).toInt32)).toInt32, (p5).toInt32, ((XT.ushrL p5 (Int8.ofInt 32).toInt32)).toInt32].getD (k + 0) 0)) (z := (1 : Int32)) H c180 A178 (by decide) (rst_get (xs := [(p3).toInt32, ((XT.ushrL p3 (Int8.ofInt 32).toInt32)).toInt32, (p4).toInt32, ((XT.ushrL p4 (Int8.ofInt 32).toInt32)).toInt32, (p5).toInt32, ((XT.ushrL p5 (Int8.ofInt 32).toInt32)).toInt32]) (k := k) (n := 1) (i := 0) (by show k + 1 ≤ 6; omega) (by decide))) (argsL := [(.int (0 : Int32))]) (rest := []) rfl rfl rfl sub0 rfl ?_
    rintro _ _ _ - ⟨rfl, rfl⟩
    show Go G B M_law _ h176 (a150 :: (a117 :: (a92 :: []))) 17 89 201 #[.val (.int p0), .val (.int p1), .val (.int p2), .val (.long p3), .second, .val (.long p4), .second, .val (.long p5), .second, .val (.int (1 : Int32)), .val (.int k.toInt32), .val (.int (p3).toInt32), .val (.int ((XT.ushrL p3 (Int8.ofInt 32).toInt32)).toInt32), .val (.int (p4).toInt32), .val (.int ((XT.ushrL p4 (Int8.ofInt 32).toInt32)).toInt32), .val (.int (p5).toInt32), .val (.int ((XT.ushrL p5 (Int8.ofInt 32).toInt32)).toInt32), .val (.ref a92), .val (.ref a117), .val (.ref a150), .val (.int (1 : Int32))] [(.int ([(p3).toInt32, ((XT.ushrL p3 (Int8.ofInt 32).toInt32)).toInt32, (p4).toInt32, ((XT.ushrL p4 (Int8.ofInt 32).toInt32)).toInt32, (p5).toInt32, ((XT.ushrL p5 (Int8.ofInt 32).toInt32)).toInt32].getD (k + 0) 0))]
    refine go_run K 117 2 (pc' := 205) (st' := [(.int k.toInt32), (.ref a92), (.int ([(p3).toInt32, ((XT.ushrL p3 (Int8.ofInt 32).toInt32)).toInt32, (p4).toInt32, ((XT.ushrL p4 (Int8.ofInt 32).toInt32)).toInt32, (p5).toInt32, ((XT.ushrL p5 (Int8.ofInt 32).toInt32)).toInt32].getD (k + 0) 0))]) rfl ?_
    refine go_iaload K (k := 119) rfl c182 ⟨len_nn (by omega), len_lt (n := 6) (by decide) (by omega)⟩ (v := .int ([(p3).toInt32, ((XT.ushrL p3 (Int8.ofInt 32).toInt32)).toInt32, (p4).toInt32, ((XT.ushrL p4 (Int8.ofInt 32).toInt32)).toInt32, (p5).toInt32, ((XT.ushrL p5 (Int8.ofInt 32).toInt32)).toInt32].getD (k + 0) 0)) (by rw [len_nat (by omega)]; exact st_get (xs := [(p3).toInt32, ((XT.ushrL p3 (Int8.ofInt 32).toInt32)).toInt32, (p4).toInt32, ((XT.ushrL p4 (Int8.ofInt 32).toInt32)).toInt32, (p5).toInt32, ((XT.ushrL p5 (Int8.ofInt 32).toInt32)).toInt32]) (by show k < 6; omega)) ?_
    refine go_icmpne K (k := 120) rfl (pc' := 213) (by decide) (fun q => absurd rfl q) (fun _ => ?_)
    refine go_run K 121 2 (pc' := 214) (st' := [(.int (1 : Int32))]) rfl ?_
    refine go_run K 124 1 (pc' := 216) (st' := []) rfl ?_
    refine go_run K 125 1 (pc' := 218) (st' := [(.int (1 : Int32))]) rfl ?_
    refine go_ifeq K (k := 126) rfl (pc' := 247) (by decide) (fun q => absurd q (by decide)) (fun _ => ?_)
    refine go_run K 127 2 (pc' := 224) (st' := [(.int (1 : Int32)), (.int (1 : Int32))]) rfl ?_
    refine go_icmple K (k := 129) rfl (pc' := 243) (by decide) (fun _ => ?_) (fun q => absurd q (by decide))
    refine go_run K 139 2 (pc' := 248) (st' := [(.int (1 : Int32))]) rfl ?_
    refine go_run K 142 1 (pc' := 250) (st' := []) rfl ?_
    refine go_run K 143 1 (pc' := 252) (st' := [(.int (1 : Int32))]) rfl ?_
    refine go_ifeq K (k := 144) rfl (pc' := 281) (by decide) (fun q => absurd q (by decide)) (fun _ => ?_)
    refine go_run K 145 2 (pc' := 258) (st' := [(.int (2 : Int32)), (.int (1 : Int32))]) rfl ?_
    refine go_icmple K (k := 147) rfl (pc' := 277) (by decide) (fun _ => ?_) (fun q => absurd q (by decide))
    refine go_run K 157 2 (pc' := 282) (st' := [(.int (1 : Int32))]) rfl ?_
    refine go_run K 160 1 (pc' := 284) (st' := []) rfl ?_
    refine go_run K 161 1 (pc' := 286) (st' := [(.int (1 : Int32))]) rfl ?_
    refine go_ifeq K (k := 162) rfl (pc' := 315) (by decide) (fun q => absurd q (by decide)) (fun _ => ?_)
    refine go_run K 163 2 (pc' := 292) (st' := [(.int (3 : Int32)), (.int (1 : Int32))]) rfl ?_
    refine go_icmple K (k := 165) rfl (pc' := 311) (by decide) (fun _ => ?_) (fun q => absurd q (by decide))
    refine go_run K 175 2 (pc' := 316) (st' := [(.int (1 : Int32))]) rfl ?_
    refine go_run K 178 1 (pc' := 318) (st' := []) rfl ?_
    refine go_run K 179 1 (pc' := 320) (st' := [(.int (1 : Int32))]) rfl ?_
    refine go_ireturn K (k := 180) rfl rfl (by decide) rfl rfl rfl ?_
    intro Sf hSf
    exact rfl
  · rw [hn]
    refine go_run K 5 1 (pc' := 8) (Ls' := #[.val (.int p0), .val (.int p1), .val (.int p2), .val (.long p3), .second, .val (.long p4), .second, .val (.long p5), .second, .val (.int (2 : Int32)), .unset, .unset, .unset, .unset, .unset, .unset, .unset, .unset, .unset, .unset, .unset]) (st' := []) rfl ?_
    refine go_run K 6 1 (pc' := 9) (st' := [(.int p1)]) rfl ?_
    refine go_ldcI K (k := 7) rfl (H.w 0 rfl) ?_
    refine go_run K 8 4 (pc' := 17) (st' := [(.int (5 : Int32)), (.int (p1 &&& (2147483647 : Int32)))]) rfl ?_
    refine go_irem K (k := 12) rfl (by decide) ?_
    obtain ⟨k, hk, ek⟩ : ∃ k : Nat, k + 1 ≤ 5 ∧ ((p1 &&& (2147483647 : Int32)) % (5 : Int32)) = k.toInt32 := off_k (m := 5) (by decide) (by decide)
    rw [ek]
    refine go_run K 13 1 (pc' := 20) (Ls' := #[.val (.int p0), .val (.int p1), .val (.int p2), .val (.long p3), .second, .val (.long p4), .second, .val (.long p5), .second, .val (.int (2 : Int32)), .val (.int k.toInt32), .unset, .unset, .unset, .unset, .unset, .unset, .unset, .unset, .unset, .unset]) (st' := []) rfl ?_
    refine go_run K 14 3 (pc' := 24) (Ls' := #[.val (.int p0), .val (.int p1), .val (.int p2), .val (.long p3), .second, .val (.long p4), .second, .val (.long p5), .second, .val (.int (2 : Int32)), .val (.int k.toInt32), .val (.int (p3).toInt32), .unset, .unset, .unset, .unset, .unset, .unset, .unset, .unset, .unset]) (st' := []) rfl ?_
    refine go_run K 17 5 (pc' := 31) (Ls' := #[.val (.int p0), .val (.int p1), .val (.int p2), .val (.long p3), .second, .val (.long p4), .second, .val (.long p5), .second, .val (.int (2 : Int32)), .val (.int k.toInt32), .val (.int (p3).toInt32), .val (.int ((XT.ushrL p3 (Int8.ofInt 32).toInt32)).toInt32), .unset, .unset, .unset, .unset, .unset, .unset, .unset, .unset]) (st' := []) rfl ?_
    refine go_run K 22 3 (pc' := 36) (Ls' := #[.val (.int p0), .val (.int p1), .val (.int p2), .val (.long p3), .second, .val (.long p4), .second, .val (.long p5), .second, .val (.int (2 : Int32)), .val (.int k.toInt32), .val (.int (p3).toInt32), .val (.int ((XT.ushrL p3 (Int8.ofInt 32).toInt32)).toInt32), .val (.int (p4).toInt32), .unset, .unset, .unset, .unset, .unset, .unset, .unset]) (st' := []) rfl ?_
    refine go_run K 25 5 (pc' := 44) (Ls' := #[.val (.int p0), .val (.int p1), .val (.int p2), .val (.long p3), .second, .val (.long p4), .second, .val (.long p5), .second, .val (.int (2 : Int32)), .val (.int k.toInt32), .val (.int (p3).toInt32), .val (.int ((XT.ushrL p3 (Int8.ofInt 32).toInt32)).toInt32), .val (.int (p4).toInt32), .val (.int ((XT.ushrL p4 (Int8.ofInt 32).toInt32)).toInt32), .unset, .unset, .unset, .unset, .unset, .unset]) (st' := []) rfl ?_
    refine go_run K 30 3 (pc' := 49) (Ls' := #[.val (.int p0), .val (.int p1), .val (.int p2), .val (.long p3), .second, .val (.long p4), .second, .val (.long p5), .second, .val (.int (2 : Int32)), .val (.int k.toInt32), .val (.int (p3).toInt32), .val (.int ((XT.ushrL p3 (Int8.ofInt 32).toInt32)).toInt32), .val (.int (p4).toInt32), .val (.int ((XT.ushrL p4 (Int8.ofInt 32).toInt32)).toInt32), .val (.int (p5).toInt32), .unset, .unset, .unset, .unset, .unset]) (st' := []) rfl ?_
    refine go_run K 33 5 (pc' := 57) (Ls' := #[.val (.int p0), .val (.int p1), .val (.int p2), .val (.long p3), .second, .val (.long p4), .second, .val (.long p5), .second, .val (.int (2 : Int32)), .val (.int k.toInt32), .val (.int (p3).toInt32), .val (.int ((XT.ushrL p3 (Int8.ofInt 32).toInt32)).toInt32), .val (.int (p4).toInt32), .val (.int ((XT.ushrL p4 (Int8.ofInt 32).toInt32)).toInt32), .val (.int (p5).toInt32), .val (.int ((XT.ushrL p5 (Int8.ofInt 32).toInt32)).toInt32), .unset, .unset, .unset, .unset]) (st' := []) rfl ?_
    refine go_run K 38 1 (pc' := 59) (st' := [(.int (6 : Int32))]) rfl ?_
    refine go_newarray K (k := 39) rfl (H.w 1 rfl) (by decide) (cap := 6) (by decide) rfl rfl rfl ?_
    intro h184 a183 k185 e186 g187 E188 A189
    have A189' : Arv G.Z h184 a183 k185 .int (6 : Int32) [(.int (0 : Int32)), (.int (0 : Int32)), (.int (0 : Int32)), (.int (0 : Int32)), (.int (0 : Int32)), (.int (0 : Int32))] (.int (0 : Int32)) := Arv.pad A189 (pad_rep [] (.int (0 : Int32)) 6)
    refine go_run K 40 3 (pc' := 65) (st' := [(.int (p3).toInt32), (.int (0 : Int32)), (.ref a183), (.ref a183)]) rfl ?_
    refine go_iastore K (k := 43) rfl A189' (i := 0) (by decide) rfl (Nat.le_of_ble_eq_true rfl) g187 ?_
    intro h190 W191 A192
    refine go_run K 44 3 (pc' := 70) (st' := [(.int ((XT.ushrL p3 (Int8.ofInt 32).toInt32)).toInt32), (.int (1 : Int32)), (.ref a183), (.ref a183)]) rfl ?_
    refine go_iastore K (k := 47) rfl A192 (i := 1) (by decide) rfl (Nat.le_of_ble_eq_true rfl) g187 ?_
    intro h193 W194 A195
    refine go_run K 48 3 (pc' := 75) (st' := [(.int (p4).toInt32), (.int (2 : Int32)), (.ref a183), (.ref a183)]) rfl ?_
    refine go_iastore K (k := 51) rfl A195 (i := 2) (by decide) rfl (Nat.le_of_ble_eq_true rfl) g187 ?_
    intro h196 W197 A198
    refine go_run K 52 3 (pc' := 80) (st' := [(.int ((XT.ushrL p4 (Int8.ofInt 32).toInt32)).toInt32), (.int (3 : Int32)), (.ref a183), (.ref a183)]) rfl ?_
    refine go_iastore K (k := 55) rfl A198 (i := 3) (by decide) rfl (Nat.le_of_ble_eq_true rfl) g187 ?_
    intro h199 W200 A201
    refine go_run K 56 3 (pc' := 85) (st' := [(.int (p5).toInt32), (.int (4 : Int32)), (.ref a183), (.ref a183)]) rfl ?_
    refine go_iastore K (k := 59) rfl A201 (i := 4) (by decide) rfl (Nat.le_of_ble_eq_true rfl) g187 ?_
    intro h202 W203 A204
    refine go_run K 60 3 (pc' := 90) (st' := [(.int ((XT.ushrL p5 (Int8.ofInt 32).toInt32)).toInt32), (.int (5 : Int32)), (.ref a183), (.ref a183)]) rfl ?_
    refine go_iastore K (k := 63) rfl A204 (i := 5) (by decide) rfl (Nat.le_of_ble_eq_true rfl) g187 ?_
    intro h205 W206 A207
    refine go_run K 64 1 (pc' := 93) (Ls' := #[.val (.int p0), .val (.int p1), .val (.int p2), .val (.long p3), .second, .val (.long p4), .second, .val (.long p5), .second, .val (.int (2 : Int32)), .val (.int k.toInt32), .val (.int (p3).toInt32), .val (.int ((XT.ushrL p3 (Int8.ofInt 32).toInt32)).toInt32), .val (.int (p4).toInt32), .val (.int ((XT.ushrL p4 (Int8.ofInt 32).toInt32)).toInt32), .val (.int (p5).toInt32), .val (.int ((XT.ushrL p5 (Int8.ofInt 32).toInt32)).toInt32), .val (.ref a183), .unset, .unset, .unset]) (st' := []) rfl ?_
    refine go_new K (k := 65) rfl (H.w 2 rfl) (H.w 3 rfl) (H.w 4 rfl) rfl rfl ?_
    intro h209 a208 e210 g211 E212 A213 D214
    have F215 : Fld G.Z h209 a208 "com/example/foyer/foyer/Layout" "declared" "Ljava/util/List;" .null := D214 (Or.inr (H.w 47 rfl)) (ty := (.object "java/util/List")) (by decide)
    have F216 : Fld G.Z h209 a208 "com/example/foyer/foyer/Layout" "prefix" "Ljava/lang/String;" .null := D214 (Or.inr (H.w 49 rfl)) (ty := (.object "java/lang/String")) (by decide)
    refine go_run K 66 1 (pc' := 97) (st' := [(.ref a208), (.ref a208)]) rfl ?_
    refine go_special K (k := 67) rfl rfl (H.w 5 rfl) (H.w 6 rfl) (H.w 4 rfl) (H.w 7 rfl) (by decide) pd_14 (c_ly0 H sE A213 F215 F216 g211) (argsL := []) (rest := [(.ref a208)]) rfl rfl rfl sub0 rfl ?_
    rintro _ h217 _ - ⟨li218, pr219, rfl, K220, Y221, L222, f223⟩
    show Go G B M_law _ h217 (a208 :: (a183 :: [])) 5 15 100 #[.val (.int p0), .val (.int p1), .val (.int p2), .val (.long p3), .second, .val (.long p4), .second, .val (.long p5), .second, .val (.int (2 : Int32)), .val (.int k.toInt32), .val (.int (p3).toInt32), .val (.int ((XT.ushrL p3 (Int8.ofInt 32).toInt32)).toInt32), .val (.int (p4).toInt32), .val (.int ((XT.ushrL p4 (Int8.ofInt 32).toInt32)).toInt32), .val (.int (p5).toInt32), .val (.int ((XT.ushrL p5 (Int8.ofInt 32).toInt32)).toInt32), .val (.ref a183), .unset, .unset, .unset] [(.ref a208)]
    refine go_run K 68 1 (pc' := 102) (Ls' := #[.val (.int p0), .val (.int p1), .val (.int p2), .val (.long p3), .second, .val (.long p4), .second, .val (.long p5), .second, .val (.int (2 : Int32)), .val (.int k.toInt32), .val (.int (p3).toInt32), .val (.int ((XT.ushrL p3 (Int8.ofInt 32).toInt32)).toInt32), .val (.int (p4).toInt32), .val (.int ((XT.ushrL p4 (Int8.ofInt 32).toInt32)).toInt32), .val (.int (p5).toInt32), .val (.int ((XT.ushrL p5 (Int8.ofInt 32).toInt32)).toInt32), .val (.ref a183), .val (.ref a208), .unset, .unset]) (st' := []) rfl ?_
    refine go_run K 69 1 (pc' := 104) (st' := [(.ref a208)]) rfl ?_
    refine go_ldcT K (k := 70) rfl (H.w 50 rfl) H.ws (H.mem (by decide)) (cs := [(114 : Int32)]) (by decide) (by decide) (n := 4) rfl rfl rfl rfl ?_
    intro h225 a224 E226 S227
    refine go_run K 71 5 (pc' := 112) (st' := [(.int p2), (.int (1 : Int32)), (.int (0 : Int32)), (.ref a224), (.ref a208)]) rfl ?_
    have c228 := ((Ly.exa Y221).ext E226)
    have c229 := (L222.ext E226)
    have c230 := (Y221.ext E226)
    refine go_virt0 K (k := 76) rfl (H.w 51 rfl) (H.w 54 rfl) (H.w 53 rfl) (H.w 4 rfl) (H.w 55 rfl) (by decide) pd_32 c228 (c_ar3 (p := (0 : Int32)) (q := (1 : Int32)) (iv := p2) H sE aE c229 c230 lat0 (lat1 (by decide)) (by decide) S227) (argsL := [(.ref a224), (.int (0 : Int32)), (.int (1 : Int32)), (.int p2)]) (rest := []) rfl rfl rfl sub0 rfl ?_
    rintro _ h231 _ - ⟨r232, t233, io234, k235, rfl, K236, f237, L238, Lm239⟩
    have L240 : Alk G h231 li218 t233 r232 k235 1 (0 : Int32) (0 : Int32) (2 : Int32) (.ref io234) := L238
    show Go G B M_law _ h231 (a208 :: (a183 :: [])) 14 80 115 #[.val (.int p0), .val (.int p1), .val (.int p2), .val (.long p3), .second, .val (.long p4), .second, .val (.long p5), .second, .val (.int (2 : Int32)), .val (.int k.toInt32), .val (.int (p3).toInt32), .val (.int ((XT.ushrL p3 (Int8.ofInt 32).toInt32)).toInt32), .val (.int (p4).toInt32), .val (.int ((XT.ushrL p4 (Int8.ofInt 32).toInt32)).toInt32), .val (.int (p5).toInt32), .val (.int ((XT.ushrL p5 (Int8.ofInt 32).toInt32)).toInt32), .val (.ref a183), .val (.ref a208), .unset, .unset] [(.ref r232)]
    refine go_run K 77 1 (pc' := 116) (st' := []) rfl ?_
    refine go_new K (k := 78) rfl (H.w 249 rfl) (H.w 250 rfl) (H.w 251 rfl) rfl rfl ?_
    intro h242 a241 e243 g244 E245 A246 D247
    have F248 : Fld G.Z h242 a241 "com/example/foyer/foyer/PlainRegisters" "values" "[I" .null := D247 (Or.inr (H.w 343 rfl)) (ty := (.array .int)) (by decide)
    refine go_run K 79 2 (pc' := 122) (st' := [(.ref a208), (.ref a241), (.ref a241)]) rfl ?_
    have c249 := (L240.ext E245)
    have c250 := ((Ly.keep c230 K236 (ninS (Exa.ne c228 ((Al0.exa L222).ext E226) (by decide)) nin0) (allS (Ap.of_exa ((Al0.exa L222).ext E226) (by decide) (H.w 9 rfl)) all0)).ext E245)
    have c251 := (Lm239.ext E245)
    refine go_special K (k := 81) rfl rfl (H.w 252 rfl) (H.w 253 rfl) (H.w 251 rfl) (H.w 254 rfl) (by decide) pd_33 (c_pr2 H c249 c250 c251 A246 F248 g244) (argsL := [(.ref a208)]) (rest := [(.ref a241)]) rfl rfl rfl sub0 rfl ?_
    rintro _ h252 _ - ⟨d253, k254, rfl, K255, e256, F257, A258, g259, f260⟩
    show Go G B M_law _ h252 (a241 :: (a208 :: (a183 :: []))) 17 89 125 #[.val (.int p0), .val (.int p1), .val (.int p2), .val (.long p3), .second, .val (.long p4), .second, .val (.long p5), .second, .val (.int (2 : Int32)), .val (.int k.toInt32), .val (.int (p3).toInt32), .val (.int ((XT.ushrL p3 (Int8.ofInt 32).toInt32)).toInt32), .val (.int (p4).toInt32), .val (.int ((XT.ushrL p4 (Int8.ofInt 32).toInt32)).toInt32), .val (.int (p5).toInt32), .val (.int ((XT.ushrL p5 (Int8.ofInt 32).toInt32)).toInt32), .val (.ref a183), .val (.ref a208), .unset, .unset] [(.ref a241)]
    refine go_run K 82 1 (pc' := 127) (Ls' := #[.val (.int p0), .val (.int p1), .val (.int p2), .val (.long p3), .second, .val (.long p4), .second, .val (.long p5), .second, .val (.int (2 : Int32)), .val (.int k.toInt32), .val (.int (p3).toInt32), .val (.int ((XT.ushrL p3 (Int8.ofInt 32).toInt32)).toInt32), .val (.int (p4).toInt32), .val (.int ((XT.ushrL p4 (Int8.ofInt 32).toInt32)).toInt32), .val (.int (p5).toInt32), .val (.int ((XT.ushrL p5 (Int8.ofInt 32).toInt32)).toInt32), .val (.ref a183), .val (.ref a208), .val (.ref a241), .unset]) (st' := []) rfl ?_
    refine go_run K 83 3 (pc' := 133) (st' := [(.int k.toInt32), (.ref a183), (.ref a241)]) rfl ?_
    have X261 : Ext h205 h217 := (Ext.keepN E212 K220 (allS (Nat.le_trans (Nat.le_refl _) (Nat.le_of_eq e210.symm)) all0))
    have X262 : Ext h205 h225 := (Ext.tr X261 E226)
    have X263 : Ext h205 h231 := (Ext.keepN X262 K236 (allS (Nat.le_trans (E212).1 f223) all0))
    have X264 : Ext h205 h242 := (Ext.tr X263 E245)
    have X265 : Ext h205 h252 := (Ext.keepN X264 K255 (allS (Nat.le_trans (X263).1 (Nat.le_of_eq e243.symm)) all0))
    have c266 := (A207.ext X265)
    refine go_virt0 K (k := 86) rfl (H.w 344 rfl) (H.w 347 rfl) (H.w 346 rfl) (H.w 251 rfl) (H.w 348 rfl) (by decide) pd_34 e256 (c_rst (k := k) (n := 2) (xs := [(p3).toInt32, ((XT.ushrL p3 (Int8.ofInt 32).toInt32)).toInt32, (p4).toInt32, ((XT.ushrL p4 (Int8.ofInt 32).toInt32)).toInt32, (p5).toInt32, ((XT.ushrL p5 (Int8.ofInt 32).toInt32)).toInt32]) (ys := [p2, p2]) H rfl rfl (by omega) F257 c266 A258 g259) (argsL := [(.ref a183), (.int k.toInt32)]) (rest := []) rfl rfl rfl sub0 rfl ?_
    rintro _ h267 _ - ⟨rfl, K268, A269⟩
    show Go G B M_law _ h267 (a241 :: (a208 :: (a183 :: []))) 17 89 136 #[.val (.int p0), .val (.int p1), .val (.int p2), .val (.long p3), .second, .val (.long p4), .second, .val (.long p5), .second, .val (.int (2 : Int32)), .val (.int k.toInt32), .val (.int (p3).toInt32), .val (.int ((XT.ushrL p3 (Int8.ofInt 32).toInt32)).toInt32), .val (.int (p4).toInt32), .val (.int ((XT.ushrL p4 (Int8.ofInt 32).toInt32)).toInt32), .val (.int (p5).toInt32), .val (.int ((XT.ushrL p5 (Int8.ofInt 32).toInt32)).toInt32), .val (.ref a183), .val (.ref a208), .val (.ref a241), .unset] []
    refine go_run K 87 1 (pc' := 138) (st' := [(.ref a241)]) rfl ?_
    have c270 := (e256.keep K268)
    have c271 := (F257.keep K268 (ninS (Exa.neArv e256 A258 (H.w 250 rfl)) nin0))
    refine go_virt0 K (k := 88) rfl (H.w 350 rfl) (H.w 353 rfl) (H.w 352 rfl) (H.w 251 rfl) (H.w 354 rfl) (by decide) pd_6 c270 (c_psz (z := (2 : Int32)) H c271 A269) (argsL := []) (rest := []) rfl rfl rfl sub0 rfl ?_
    rintro _ _ _ - ⟨rfl, rfl⟩
    show Go G B M_law _ h267 (a241 :: (a208 :: (a183 :: []))) 17 89 141 #[.val (.int p0), .val (.int p1), .val (.int p2), .val (.long p3), .second, .val (.long p4), .second, .val (.long p5), .second, .val (.int (2 : Int32)), .val (.int k.toInt32), .val (.int (p3).toInt32), .val (.int ((XT.ushrL p3 (Int8.ofInt 32).toInt32)).toInt32), .val (.int (p4).toInt32), .val (.int ((XT.ushrL p4 (Int8.ofInt 32).toInt32)).toInt32), .val (.int (p5).toInt32), .val (.int ((XT.ushrL p5 (Int8.ofInt 32).toInt32)).toInt32), .val (.ref a183), .val (.ref a208), .val (.ref a241), .unset] [(.int (2 : Int32))]
    refine go_run K 89 1 (pc' := 143) (st' := [(.int (2 : Int32)), (.int (2 : Int32))]) rfl ?_
    refine go_icmpne K (k := 90) rfl (pc' := 150) (by decide) (fun q => absurd rfl q) (fun _ => ?_)
    refine go_run K 91 2 (pc' := 151) (st' := [(.int (1 : Int32))]) rfl ?_
    refine go_run K 94 1 (pc' := 153) (Ls' := #[.val (.int p0), .val (.int p1), .val (.int p2), .val (.long p3), .second, .val (.long p4), .second, .val (.long p5), .second, .val (.int (2 : Int32)), .val (.int k.toInt32), .val (.int (p3).toInt32), .val (.int ((XT.ushrL p3 (Int8.ofInt 32).toInt32)).toInt32), .val (.int (p4).toInt32), .val (.int ((XT.ushrL p4 (Int8.ofInt 32).toInt32)).toInt32), .val (.int (p5).toInt32), .val (.int ((XT.ushrL p5 (Int8.ofInt 32).toInt32)).toInt32), .val (.ref a183), .val (.ref a208), .val (.ref a241), .val (.int (1 : Int32))]) (st' := []) rfl ?_
    refine go_run K 95 1 (pc' := 155) (st' := [(.int (1 : Int32))]) rfl ?_
    refine go_ifeq K (k := 96) rfl (pc' := 182) (by decide) (fun q => absurd q (by decide)) (fun _ => ?_)
    refine go_run K 97 7 (pc' := 172) (st' := [(.int ((XT.ushrL p5 (Int8.ofInt 32).toInt32)).toInt32), (.int (p5).toInt32), (.int ((XT.ushrL p4 (Int8.ofInt 32).toInt32)).toInt32), (.int (p4).toInt32), (.int ((XT.ushrL p3 (Int8.ofInt 32).toInt32)).toInt32), (.int (p3).toInt32), (.ref a183)]) rfl ?_
    have X272 : Ext h205 h267 := (Ext.keepN X265 K268 (allS (Nat.le_trans (X264).1 f260) all0))
    have c273 := (A207.ext X272)
    refine go_static K (k := 104) rfl (H.w 355 rfl) (H.w 356 rfl) (H.w 357 rfl) (H.w 358 rfl) (by decide) pd_35 (c_unc H c273) (argsL := [(.ref a183), (.int (p3).toInt32), (.int ((XT.ushrL p3 (Int8.ofInt 32).toInt32)).toInt32), (.int (p4).toInt32), (.int ((XT.ushrL p4 (Int8.ofInt 32).toInt32)).toInt32), (.int (p5).toInt32), (.int ((XT.ushrL p5 (Int8.ofInt 32).toInt32)).toInt32)]) (rest := []) rfl rfl rfl sub0 rfl ?_
    rintro _ _ _ - ⟨rfl, rfl⟩
    show Go G B M_law _ h267 (a241 :: (a208 :: (a183 :: []))) 17 89 175 #[.val (.int p0), .val (.int p1), .val (.int p2), .val (.long p3), .second, .val (.long p4), .second, .val (.long p5), .second, .val (.int (2 : Int32)), .val (.int k.toInt32), .val (.int (p3).toInt32), .val (.int ((XT.ushrL p3 (Int8.ofInt 32).toInt32)).toInt32), .val (.int (p4).toInt32), .val (.int ((XT.ushrL p4 (Int8.ofInt 32).toInt32)).toInt32), .val (.int (p5).toInt32), .val (.int ((XT.ushrL p5 (Int8.ofInt 32).toInt32)).toInt32), .val (.ref a183), .val (.ref a208), .val (.ref a241), .val (.int (1 : Int32))] [(.int (1 : Int32))]
    refine go_ifeq K (k := 105) rfl (pc' := 182) (by decide) (fun q => absurd q (by decide)) (fun _ => ?_)
    refine go_run K 106 2 (pc' := 183) (st' := [(.int (1 : Int32))]) rfl ?_
    refine go_run K 109 1 (pc' := 185) (st' := []) rfl ?_
    refine go_run K 110 1 (pc' := 187) (st' := [(.int (1 : Int32))]) rfl ?_
    refine go_ifeq K (k := 111) rfl (pc' := 213) (by decide) (fun q => absurd q (by decide)) (fun _ => ?_)
    refine go_run K 112 1 (pc' := 192) (st' := [(.int (2 : Int32))]) rfl ?_
    refine go_ifle K (k := 113) rfl (pc' := 209) (by decide) (fun q => absurd (by decide) q) (fun _ => ?_)
    refine go_run K 114 2 (pc' := 198) (st' := [(.int (0 : Int32)), (.ref a241)]) rfl ?_
    refine go_virt0 K (k := 116) rfl (H.w 366 rfl) (H.w 369 rfl) (H.w 368 rfl) (H.w 251 rfl) (H.w 370 rfl) (by decide) pd_30 c270 (c_rd (i := (0 : Int32)) (y := ([(p3).toInt32, ((XT.ushrL p3 (Int8.ofInt 32).toInt32)).toInt32, (p4).toInt32, ((XT.ushrL p4 (Int8.ofInt 32).toInt32)).toInt32, (p5).toInt32, ((XT.ushrL p5 (Int8.ofInt 32).toInt32)).toInt32].getD (k + 0) 0)) (z := (2 : Int32)) H c271 A269 (by decide) (rst_get (xs := [(p3).toInt32, ((XT.ushrL p3 (Int8.ofInt 32).toInt32)).toInt32, (p4).toInt32, ((XT.ushrL p4 (Int8.ofInt 32).toInt32)).toInt32, (p5).toInt32, ((XT.ushrL p5 (Int8.ofInt 32).toInt32)).toInt32]) (k := k) (n := 2) (i := 0) (by show k + 2 ≤ 6; omega) (by decide))) (argsL := [(.int (0 : Int32))]) (rest := []) rfl rfl rfl sub0 rfl ?_
    rintro _ _ _ - ⟨rfl, rfl⟩
    show Go G B M_law _ h267 (a241 :: (a208 :: (a183 :: []))) 17 89 201 #[.val (.int p0), .val (.int p1), .val (.int p2), .val (.long p3), .second, .val (.long p4), .second, .val (.long p5), .second, .val (.int (2 : Int32)), .val (.int k.toInt32), .val (.int (p3).toInt32), .val (.int ((XT.ushrL p3 (Int8.ofInt 32).toInt32)).toInt32), .val (.int (p4).toInt32), .val (.int ((XT.ushrL p4 (Int8.ofInt 32).toInt32)).toInt32), .val (.int (p5).toInt32), .val (.int ((XT.ushrL p5 (Int8.ofInt 32).toInt32)).toInt32), .val (.ref a183), .val (.ref a208), .val (.ref a241), .val (.int (1 : Int32))] [(.int ([(p3).toInt32, ((XT.ushrL p3 (Int8.ofInt 32).toInt32)).toInt32, (p4).toInt32, ((XT.ushrL p4 (Int8.ofInt 32).toInt32)).toInt32, (p5).toInt32, ((XT.ushrL p5 (Int8.ofInt 32).toInt32)).toInt32].getD (k + 0) 0))]
    refine go_run K 117 2 (pc' := 205) (st' := [(.int k.toInt32), (.ref a183), (.int ([(p3).toInt32, ((XT.ushrL p3 (Int8.ofInt 32).toInt32)).toInt32, (p4).toInt32, ((XT.ushrL p4 (Int8.ofInt 32).toInt32)).toInt32, (p5).toInt32, ((XT.ushrL p5 (Int8.ofInt 32).toInt32)).toInt32].getD (k + 0) 0))]) rfl ?_
    refine go_iaload K (k := 119) rfl c273 ⟨len_nn (by omega), len_lt (n := 6) (by decide) (by omega)⟩ (v := .int ([(p3).toInt32, ((XT.ushrL p3 (Int8.ofInt 32).toInt32)).toInt32, (p4).toInt32, ((XT.ushrL p4 (Int8.ofInt 32).toInt32)).toInt32, (p5).toInt32, ((XT.ushrL p5 (Int8.ofInt 32).toInt32)).toInt32].getD (k + 0) 0)) (by rw [len_nat (by omega)]; exact st_get (xs := [(p3).toInt32, ((XT.ushrL p3 (Int8.ofInt 32).toInt32)).toInt32, (p4).toInt32, ((XT.ushrL p4 (Int8.ofInt 32).toInt32)).toInt32, (p5).toInt32, ((XT.ushrL p5 (Int8.ofInt 32).toInt32)).toInt32]) (by show k < 6; omega)) ?_
    refine go_icmpne K (k := 120) rfl (pc' := 213) (by decide) (fun q => absurd rfl q) (fun _ => ?_)
    refine go_run K 121 2 (pc' := 214) (st' := [(.int (1 : Int32))]) rfl ?_
    refine go_run K 124 1 (pc' := 216) (st' := []) rfl ?_
    refine go_run K 125 1 (pc' := 218) (st' := [(.int (1 : Int32))]) rfl ?_
    refine go_ifeq K (k := 126) rfl (pc' := 247) (by decide) (fun q => absurd q (by decide)) (fun _ => ?_)
    refine go_run K 127 2 (pc' := 224) (st' := [(.int (1 : Int32)), (.int (2 : Int32))]) rfl ?_
    refine go_icmple K (k := 129) rfl (pc' := 243) (by decide) (fun q => absurd (by decide) q) (fun _ => ?_)
    refine go_run K 130 2 (pc' := 230) (st' := [(.int (1 : Int32)), (.ref a241)]) rfl ?_
    refine go_virt0 K (k := 132) rfl (H.w 366 rfl) (H.w 369 rfl) (H.w 368 rfl) (H.w 251 rfl) (H.w 370 rfl) (by decide) pd_30 c270 (c_rd (i := (1 : Int32)) (y := ([(p3).toInt32, ((XT.ushrL p3 (Int8.ofInt 32).toInt32)).toInt32, (p4).toInt32, ((XT.ushrL p4 (Int8.ofInt 32).toInt32)).toInt32, (p5).toInt32, ((XT.ushrL p5 (Int8.ofInt 32).toInt32)).toInt32].getD (k + 1) 0)) (z := (2 : Int32)) H c271 A269 (by decide) (rst_get (xs := [(p3).toInt32, ((XT.ushrL p3 (Int8.ofInt 32).toInt32)).toInt32, (p4).toInt32, ((XT.ushrL p4 (Int8.ofInt 32).toInt32)).toInt32, (p5).toInt32, ((XT.ushrL p5 (Int8.ofInt 32).toInt32)).toInt32]) (k := k) (n := 2) (i := 1) (by show k + 2 ≤ 6; omega) (by decide))) (argsL := [(.int (1 : Int32))]) (rest := []) rfl rfl rfl sub0 rfl ?_
    rintro _ _ _ - ⟨rfl, rfl⟩
    show Go G B M_law _ h267 (a241 :: (a208 :: (a183 :: []))) 17 89 233 #[.val (.int p0), .val (.int p1), .val (.int p2), .val (.long p3), .second, .val (.long p4), .second, .val (.long p5), .second, .val (.int (2 : Int32)), .val (.int k.toInt32), .val (.int (p3).toInt32), .val (.int ((XT.ushrL p3 (Int8.ofInt 32).toInt32)).toInt32), .val (.int (p4).toInt32), .val (.int ((XT.ushrL p4 (Int8.ofInt 32).toInt32)).toInt32), .val (.int (p5).toInt32), .val (.int ((XT.ushrL p5 (Int8.ofInt 32).toInt32)).toInt32), .val (.ref a183), .val (.ref a208), .val (.ref a241), .val (.int (1 : Int32))] [(.int ([(p3).toInt32, ((XT.ushrL p3 (Int8.ofInt 32).toInt32)).toInt32, (p4).toInt32, ((XT.ushrL p4 (Int8.ofInt 32).toInt32)).toInt32, (p5).toInt32, ((XT.ushrL p5 (Int8.ofInt 32).toInt32)).toInt32].getD (k + 1) 0))]
    refine go_run K 133 4 (pc' := 239) (st' := [(.int (k.toInt32 + (1 : Int32))), (.ref a183), (.int ([(p3).toInt32, ((XT.ushrL p3 (Int8.ofInt 32).toInt32)).toInt32, (p4).toInt32, ((XT.ushrL p4 (Int8.ofInt 32).toInt32)).toInt32, (p5).toInt32, ((XT.ushrL p5 (Int8.ofInt 32).toInt32)).toInt32].getD (k + 1) 0))]) rfl ?_
    rw [show k.toInt32 + (1 : Int32) = (k + 1).toInt32 from add_len k 1]
    refine go_iaload K (k := 137) rfl c273 ⟨len_nn (by omega), len_lt (n := 6) (by decide) (by omega)⟩ (v := .int ([(p3).toInt32, ((XT.ushrL p3 (Int8.ofInt 32).toInt32)).toInt32, (p4).toInt32, ((XT.ushrL p4 (Int8.ofInt 32).toInt32)).toInt32, (p5).toInt32, ((XT.ushrL p5 (Int8.ofInt 32).toInt32)).toInt32].getD (k + 1) 0)) (by rw [len_nat (by omega)]; exact st_get (xs := [(p3).toInt32, ((XT.ushrL p3 (Int8.ofInt 32).toInt32)).toInt32, (p4).toInt32, ((XT.ushrL p4 (Int8.ofInt 32).toInt32)).toInt32, (p5).toInt32, ((XT.ushrL p5 (Int8.ofInt 32).toInt32)).toInt32]) (by show (k + 1) < 6; omega)) ?_
    refine go_icmpne K (k := 138) rfl (pc' := 247) (by decide) (fun q => absurd rfl q) (fun _ => ?_)
    refine go_run K 139 2 (pc' := 248) (st' := [(.int (1 : Int32))]) rfl ?_
    refine go_run K 142 1 (pc' := 250) (st' := []) rfl ?_
    refine go_run K 143 1 (pc' := 252) (st' := [(.int (1 : Int32))]) rfl ?_
    refine go_ifeq K (k := 144) rfl (pc' := 281) (by decide) (fun q => absurd q (by decide)) (fun _ => ?_)
    refine go_run K 145 2 (pc' := 258) (st' := [(.int (2 : Int32)), (.int (2 : Int32))]) rfl ?_
    refine go_icmple K (k := 147) rfl (pc' := 277) (by decide) (fun _ => ?_) (fun q => absurd q (by decide))
    refine go_run K 157 2 (pc' := 282) (st' := [(.int (1 : Int32))]) rfl ?_
    refine go_run K 160 1 (pc' := 284) (st' := []) rfl ?_
    refine go_run K 161 1 (pc' := 286) (st' := [(.int (1 : Int32))]) rfl ?_
    refine go_ifeq K (k := 162) rfl (pc' := 315) (by decide) (fun q => absurd q (by decide)) (fun _ => ?_)
    refine go_run K 163 2 (pc' := 292) (st' := [(.int (3 : Int32)), (.int (2 : Int32))]) rfl ?_
    refine go_icmple K (k := 165) rfl (pc' := 311) (by decide) (fun _ => ?_) (fun q => absurd q (by decide))
    refine go_run K 175 2 (pc' := 316) (st' := [(.int (1 : Int32))]) rfl ?_
    refine go_run K 178 1 (pc' := 318) (st' := []) rfl ?_
    refine go_run K 179 1 (pc' := 320) (st' := [(.int (1 : Int32))]) rfl ?_
    refine go_ireturn K (k := 180) rfl rfl (by decide) rfl rfl rfl ?_
    intro Sf hSf
    exact rfl
  · rw [hn]
    refine go_run K 5 1 (pc' := 8) (Ls' := #[.val (.int p0), .val (.int p1), .val (.int p2), .val (.long p3), .second, .val (.long p4), .second, .val (.long p5), .second, .val (.int (3 : Int32)), .unset, .unset, .unset, .unset, .unset, .unset, .unset, .unset, .unset, .unset, .unset]) (st' := []) rfl ?_
    refine go_run K 6 1 (pc' := 9) (st' := [(.int p1)]) rfl ?_
    refine go_ldcI K (k := 7) rfl (H.w 0 rfl) ?_
    refine go_run K 8 4 (pc' := 17) (st' := [(.int (4 : Int32)), (.int (p1 &&& (2147483647 : Int32)))]) rfl ?_
    refine go_irem K (k := 12) rfl (by decide) ?_
    obtain ⟨k, hk, ek⟩ : ∃ k : Nat, k + 1 ≤ 4 ∧ ((p1 &&& (2147483647 : Int32)) % (4 : Int32)) = k.toInt32 := off_k (m := 4) (by decide) (by decide)
    rw [ek]
    refine go_run K 13 1 (pc' := 20) (Ls' := #[.val (.int p0), .val (.int p1), .val (.int p2), .val (.long p3), .second, .val (.long p4), .second, .val (.long p5), .second, .val (.int (3 : Int32)), .val (.int k.toInt32), .unset, .unset, .unset, .unset, .unset, .unset, .unset, .unset, .unset, .unset]) (st' := []) rfl ?_
    refine go_run K 14 3 (pc' := 24) (Ls' := #[.val (.int p0), .val (.int p1), .val (.int p2), .val (.long p3), .second, .val (.long p4), .second, .val (.long p5), .second, .val (.int (3 : Int32)), .val (.int k.toInt32), .val (.int (p3).toInt32), .unset, .unset, .unset, .unset, .unset, .unset, .unset, .unset, .unset]) (st' := []) rfl ?_
    refine go_run K 17 5 (pc' := 31) (Ls' := #[.val (.int p0), .val (.int p1), .val (.int p2), .val (.long p3), .second, .val (.long p4), .second, .val (.long p5), .second, .val (.int (3 : Int32)), .val (.int k.toInt32), .val (.int (p3).toInt32), .val (.int ((XT.ushrL p3 (Int8.ofInt 32).toInt32)).toInt32), .unset, .unset, .unset, .unset, .unset, .unset, .unset, .unset]) (st' := []) rfl ?_
    refine go_run K 22 3 (pc' := 36) (Ls' := #[.val (.int p0), .val (.int p1), .val (.int p2), .val (.long p3), .second, .val (.long p4), .second, .val (.long p5), .second, .val (.int (3 : Int32)), .val (.int k.toInt32), .val (.int (p3).toInt32), .val (.int ((XT.ushrL p3 (Int8.ofInt 32).toInt32)).toInt32), .val (.int (p4).toInt32), .unset, .unset, .unset, .unset, .unset, .unset, .unset]) (st' := []) rfl ?_
    refine go_run K 25 5 (pc' := 44) (Ls' := #[.val (.int p0), .val (.int p1), .val (.int p2), .val (.long p3), .second, .val (.long p4), .second, .val (.long p5), .second, .val (.int (3 : Int32)), .val (.int k.toInt32), .val (.int (p3).toInt32), .val (.int ((XT.ushrL p3 (Int8.ofInt 32).toInt32)).toInt32), .val (.int (p4).toInt32), .val (.int ((XT.ushrL p4 (Int8.ofInt 32).toInt32)).toInt32), .unset, .unset, .unset, .unset, .unset, .unset]) (st' := []) rfl ?_
    refine go_run K 30 3 (pc' := 49) (Ls' := #[.val (.int p0), .val (.int p1), .val (.int p2), .val (.long p3), .second, .val (.long p4), .second, .val (.long p5), .second, .val (.int (3 : Int32)), .val (.int k.toInt32), .val (.int (p3).toInt32), .val (.int ((XT.ushrL p3 (Int8.ofInt 32).toInt32)).toInt32), .val (.int (p4).toInt32), .val (.int ((XT.ushrL p4 (Int8.ofInt 32).toInt32)).toInt32), .val (.int (p5).toInt32), .unset, .unset, .unset, .unset, .unset]) (st' := []) rfl ?_
    refine go_run K 33 5 (pc' := 57) (Ls' := #[.val (.int p0), .val (.int p1), .val (.int p2), .val (.long p3), .second, .val (.long p4), .second, .val (.long p5), .second, .val (.int (3 : Int32)), .val (.int k.toInt32), .val (.int (p3).toInt32), .val (.int ((XT.ushrL p3 (Int8.ofInt 32).toInt32)).toInt32), .val (.int (p4).toInt32), .val (.int ((XT.ushrL p4 (Int8.ofInt 32).toInt32)).toInt32), .val (.int (p5).toInt32), .val (.int ((XT.ushrL p5 (Int8.ofInt 32).toInt32)).toInt32), .unset, .unset, .unset, .unset]) (st' := []) rfl ?_
    refine go_run K 38 1 (pc' := 59) (st' := [(.int (6 : Int32))]) rfl ?_
    refine go_newarray K (k := 39) rfl (H.w 1 rfl) (by decide) (cap := 6) (by decide) rfl rfl rfl ?_
    intro h275 a274 k276 e277 g278 E279 A280
    have A280' : Arv G.Z h275 a274 k276 .int (6 : Int32) [(.int (0 : Int32)), (.int (0 : Int32)), (.int (0 : Int32)), (.int (0 : Int32)), (.int (0 : Int32)), (.int (0 : Int32))] (.int (0 : Int32)) := Arv.pad A280 (pad_rep [] (.int (0 : Int32)) 6)
    refine go_run K 40 3 (pc' := 65) (st' := [(.int (p3).toInt32), (.int (0 : Int32)), (.ref a274), (.ref a274)]) rfl ?_
    refine go_iastore K (k := 43) rfl A280' (i := 0) (by decide) rfl (Nat.le_of_ble_eq_true rfl) g278 ?_
    intro h281 W282 A283
    refine go_run K 44 3 (pc' := 70) (st' := [(.int ((XT.ushrL p3 (Int8.ofInt 32).toInt32)).toInt32), (.int (1 : Int32)), (.ref a274), (.ref a274)]) rfl ?_
    refine go_iastore K (k := 47) rfl A283 (i := 1) (by decide) rfl (Nat.le_of_ble_eq_true rfl) g278 ?_
    intro h284 W285 A286
    refine go_run K 48 3 (pc' := 75) (st' := [(.int (p4).toInt32), (.int (2 : Int32)), (.ref a274), (.ref a274)]) rfl ?_
    refine go_iastore K (k := 51) rfl A286 (i := 2) (by decide) rfl (Nat.le_of_ble_eq_true rfl) g278 ?_
    intro h287 W288 A289
    refine go_run K 52 3 (pc' := 80) (st' := [(.int ((XT.ushrL p4 (Int8.ofInt 32).toInt32)).toInt32), (.int (3 : Int32)), (.ref a274), (.ref a274)]) rfl ?_
    refine go_iastore K (k := 55) rfl A289 (i := 3) (by decide) rfl (Nat.le_of_ble_eq_true rfl) g278 ?_
    intro h290 W291 A292
    refine go_run K 56 3 (pc' := 85) (st' := [(.int (p5).toInt32), (.int (4 : Int32)), (.ref a274), (.ref a274)]) rfl ?_
    refine go_iastore K (k := 59) rfl A292 (i := 4) (by decide) rfl (Nat.le_of_ble_eq_true rfl) g278 ?_
    intro h293 W294 A295
    refine go_run K 60 3 (pc' := 90) (st' := [(.int ((XT.ushrL p5 (Int8.ofInt 32).toInt32)).toInt32), (.int (5 : Int32)), (.ref a274), (.ref a274)]) rfl ?_
    refine go_iastore K (k := 63) rfl A295 (i := 5) (by decide) rfl (Nat.le_of_ble_eq_true rfl) g278 ?_
    intro h296 W297 A298
    refine go_run K 64 1 (pc' := 93) (Ls' := #[.val (.int p0), .val (.int p1), .val (.int p2), .val (.long p3), .second, .val (.long p4), .second, .val (.long p5), .second, .val (.int (3 : Int32)), .val (.int k.toInt32), .val (.int (p3).toInt32), .val (.int ((XT.ushrL p3 (Int8.ofInt 32).toInt32)).toInt32), .val (.int (p4).toInt32), .val (.int ((XT.ushrL p4 (Int8.ofInt 32).toInt32)).toInt32), .val (.int (p5).toInt32), .val (.int ((XT.ushrL p5 (Int8.ofInt 32).toInt32)).toInt32), .val (.ref a274), .unset, .unset, .unset]) (st' := []) rfl ?_
    refine go_new K (k := 65) rfl (H.w 2 rfl) (H.w 3 rfl) (H.w 4 rfl) rfl rfl ?_
    intro h300 a299 e301 g302 E303 A304 D305
    have F306 : Fld G.Z h300 a299 "com/example/foyer/foyer/Layout" "declared" "Ljava/util/List;" .null := D305 (Or.inr (H.w 47 rfl)) (ty := (.object "java/util/List")) (by decide)
    have F307 : Fld G.Z h300 a299 "com/example/foyer/foyer/Layout" "prefix" "Ljava/lang/String;" .null := D305 (Or.inr (H.w 49 rfl)) (ty := (.object "java/lang/String")) (by decide)
    refine go_run K 66 1 (pc' := 97) (st' := [(.ref a299), (.ref a299)]) rfl ?_
    refine go_special K (k := 67) rfl rfl (H.w 5 rfl) (H.w 6 rfl) (H.w 4 rfl) (H.w 7 rfl) (by decide) pd_14 (c_ly0 H sE A304 F306 F307 g302) (argsL := []) (rest := [(.ref a299)]) rfl rfl rfl sub0 rfl ?_
    rintro _ h308 _ - ⟨li309, pr310, rfl, K311, Y312, L313, f314⟩
    show Go G B M_law _ h308 (a299 :: (a274 :: [])) 5 15 100 #[.val (.int p0), .val (.int p1), .val (.int p2), .val (.long p3), .second, .val (.long p4), .second, .val (.long p5), .second, .val (.int (3 : Int32)), .val (.int k.toInt32), .val (.int (p3).toInt32), .val (.int ((XT.ushrL p3 (Int8.ofInt 32).toInt32)).toInt32), .val (.int (p4).toInt32), .val (.int ((XT.ushrL p4 (Int8.ofInt 32).toInt32)).toInt32), .val (.int (p5).toInt32), .val (.int ((XT.ushrL p5 (Int8.ofInt 32).toInt32)).toInt32), .val (.ref a274), .unset, .unset, .unset] [(.ref a299)]
    refine go_run K 68 1 (pc' := 102) (Ls' := #[.val (.int p0), .val (.int p1), .val (.int p2), .val (.long p3), .second, .val (.long p4), .second, .val (.long p5), .second, .val (.int (3 : Int32)), .val (.int k.toInt32), .val (.int (p3).toInt32), .val (.int ((XT.ushrL p3 (Int8.ofInt 32).toInt32)).toInt32), .val (.int (p4).toInt32), .val (.int ((XT.ushrL p4 (Int8.ofInt 32).toInt32)).toInt32), .val (.int (p5).toInt32), .val (.int ((XT.ushrL p5 (Int8.ofInt 32).toInt32)).toInt32), .val (.ref a274), .val (.ref a299), .unset, .unset]) (st' := []) rfl ?_
    refine go_run K 69 1 (pc' := 104) (st' := [(.ref a299)]) rfl ?_
    refine go_ldcT K (k := 70) rfl (H.w 50 rfl) H.ws (H.mem (by decide)) (cs := [(114 : Int32)]) (by decide) (by decide) (n := 4) rfl rfl rfl rfl ?_
    intro h316 a315 E317 S318
    refine go_run K 71 5 (pc' := 112) (st' := [(.int p2), (.int (2 : Int32)), (.int (0 : Int32)), (.ref a315), (.ref a299)]) rfl ?_
    have c319 := ((Ly.exa Y312).ext E317)
    have c320 := (L313.ext E317)
    have c321 := (Y312.ext E317)
    refine go_virt0 K (k := 76) rfl (H.w 51 rfl) (H.w 54 rfl) (H.w 53 rfl) (H.w 4 rfl) (H.w 55 rfl) (by decide) pd_32 c319 (c_ar3 (p := (0 : Int32)) (q := (2 : Int32)) (iv := p2) H sE aE c320 c321 lat0 (lat1 (by decide)) (by decide) S318) (argsL := [(.ref a315), (.int (0 : Int32)), (.int (2 : Int32)), (.int p2)]) (rest := []) rfl rfl rfl sub0 rfl ?_
    rintro _ h322 _ - ⟨r323, t324, io325, k326, rfl, K327, f328, L329, Lm330⟩
    have L331 : Alk G h322 li309 t324 r323 k326 1 (0 : Int32) (0 : Int32) (3 : Int32) (.ref io325) := L329
    show Go G B M_law _ h322 (a299 :: (a274 :: [])) 14 80 115 #[.val (.int p0), .val (.int p1), .val (.int p2), .val (.long p3), .second, .val (.long p4), .second, .val (.long p5), .second, .val (.int (3 : Int32)), .val (.int k.toInt32), .val (.int (p3).toInt32), .val (.int ((XT.ushrL p3 (Int8.ofInt 32).toInt32)).toInt32), .val (.int (p4).toInt32), .val (.int ((XT.ushrL p4 (Int8.ofInt 32).toInt32)).toInt32), .val (.int (p5).toInt32), .val (.int ((XT.ushrL p5 (Int8.ofInt 32).toInt32)).toInt32), .val (.ref a274), .val (.ref a299), .unset, .unset] [(.ref r323)]
    refine go_run K 77 1 (pc' := 116) (st' := []) rfl ?_
    refine go_new K (k := 78) rfl (H.w 249 rfl) (H.w 250 rfl) (H.w 251 rfl) rfl rfl ?_
    intro h333 a332 e334 g335 E336 A337 D338
    have F339 : Fld G.Z h333 a332 "com/example/foyer/foyer/PlainRegisters" "values" "[I" .null := D338 (Or.inr (H.w 343 rfl)) (ty := (.array .int)) (by decide)
    refine go_run K 79 2 (pc' := 122) (st' := [(.ref a299), (.ref a332), (.ref a332)]) rfl ?_
    have c340 := (L331.ext E336)
    have c341 := ((Ly.keep c321 K327 (ninS (Exa.ne c319 ((Al0.exa L313).ext E317) (by decide)) nin0) (allS (Ap.of_exa ((Al0.exa L313).ext E317) (by decide) (H.w 9 rfl)) all0)).ext E336)
    have c342 := (Lm330.ext E336)
    refine go_special K (k := 81) rfl rfl (H.w 252 rfl) (H.w 253 rfl) (H.w 251 rfl) (H.w 254 rfl) (by decide) pd_33 (c_pr3 H c340 c341 c342 A337 F339 g335) (argsL := [(.ref a299)]) (rest := [(.ref a332)]) rfl rfl rfl sub0 rfl ?_
    rintro _ h343 _ - ⟨d344, k345, rfl, K346, e347, F348, A349, g350, f351⟩
    show Go G B M_law _ h343 (a332 :: (a299 :: (a274 :: []))) 17 89 125 #[.val (.int p0), .val (.int p1), .val (.int p2), .val (.long p3), .second, .val (.long p4), .second, .val (.long p5), .second, .val (.int (3 : Int32)), .val (.int k.toInt32), .val (.int (p3).toInt32), .val (.int ((XT.ushrL p3 (Int8.ofInt 32).toInt32)).toInt32), .val (.int (p4).toInt32), .val (.int ((XT.ushrL p4 (Int8.ofInt 32).toInt32)).toInt32), .val (.int (p5).toInt32), .val (.int ((XT.ushrL p5 (Int8.ofInt 32).toInt32)).toInt32), .val (.ref a274), .val (.ref a299), .unset, .unset] [(.ref a332)]
    refine go_run K 82 1 (pc' := 127) (Ls' := #[.val (.int p0), .val (.int p1), .val (.int p2), .val (.long p3), .second, .val (.long p4), .second, .val (.long p5), .second, .val (.int (3 : Int32)), .val (.int k.toInt32), .val (.int (p3).toInt32), .val (.int ((XT.ushrL p3 (Int8.ofInt 32).toInt32)).toInt32), .val (.int (p4).toInt32), .val (.int ((XT.ushrL p4 (Int8.ofInt 32).toInt32)).toInt32), .val (.int (p5).toInt32), .val (.int ((XT.ushrL p5 (Int8.ofInt 32).toInt32)).toInt32), .val (.ref a274), .val (.ref a299), .val (.ref a332), .unset]) (st' := []) rfl ?_
    refine go_run K 83 3 (pc' := 133) (st' := [(.int k.toInt32), (.ref a274), (.ref a332)]) rfl ?_
    have X352 : Ext h296 h308 := (Ext.keepN E303 K311 (allS (Nat.le_trans (Nat.le_refl _) (Nat.le_of_eq e301.symm)) all0))
    have X353 : Ext h296 h316 := (Ext.tr X352 E317)
    have X354 : Ext h296 h322 := (Ext.keepN X353 K327 (allS (Nat.le_trans (E303).1 f314) all0))
    have X355 : Ext h296 h333 := (Ext.tr X354 E336)
    have X356 : Ext h296 h343 := (Ext.keepN X355 K346 (allS (Nat.le_trans (X354).1 (Nat.le_of_eq e334.symm)) all0))
    have c357 := (A298.ext X356)
    refine go_virt0 K (k := 86) rfl (H.w 344 rfl) (H.w 347 rfl) (H.w 346 rfl) (H.w 251 rfl) (H.w 348 rfl) (by decide) pd_34 e347 (c_rst (k := k) (n := 3) (xs := [(p3).toInt32, ((XT.ushrL p3 (Int8.ofInt 32).toInt32)).toInt32, (p4).toInt32, ((XT.ushrL p4 (Int8.ofInt 32).toInt32)).toInt32, (p5).toInt32, ((XT.ushrL p5 (Int8.ofInt 32).toInt32)).toInt32]) (ys := [p2, p2, p2]) H rfl rfl (by omega) F348 c357 A349 g350) (argsL := [(.ref a274), (.int k.toInt32)]) (rest := []) rfl rfl rfl sub0 rfl ?_
    rintro _ h358 _ - ⟨rfl, K359, A360⟩
    show Go G B M_law _ h358 (a332 :: (a299 :: (a274 :: []))) 17 89 136 #[.val (.int p0), .val (.int p1), .val (.int p2), .val (.long p3), .second, .val (.long p4), .second, .val (.long p5), .second, .val (.int (3 : Int32)), .val (.int k.toInt32), .val (.int (p3).toInt32), .val (.int ((XT.ushrL p3 (Int8.ofInt 32).toInt32)).toInt32), .val (.int (p4).toInt32), .val (.int ((XT.ushrL p4 (Int8.ofInt 32).toInt32)).toInt32), .val (.int (p5).toInt32), .val (.int ((XT.ushrL p5 (Int8.ofInt 32).toInt32)).toInt32), .val (.ref a274), .val (.ref a299), .val (.ref a332), .unset] []
    refine go_run K 87 1 (pc' := 138) (st' := [(.ref a332)]) rfl ?_
    have c361 := (e347.keep K359)
    have c362 := (F348.keep K359 (ninS (Exa.neArv e347 A349 (H.w 250 rfl)) nin0))
    refine go_virt0 K (k := 88) rfl (H.w 350 rfl) (H.w 353 rfl) (H.w 352 rfl) (H.w 251 rfl) (H.w 354 rfl) (by decide) pd_6 c361 (c_psz (z := (3 : Int32)) H c362 A360) (argsL := []) (rest := []) rfl rfl rfl sub0 rfl ?_
    rintro _ _ _ - ⟨rfl, rfl⟩
    show Go G B M_law _ h358 (a332 :: (a299 :: (a274 :: []))) 17 89 141 #[.val (.int p0), .val (.int p1), .val (.int p2), .val (.long p3), .second, .val (.long p4), .second, .val (.long p5), .second, .val (.int (3 : Int32)), .val (.int k.toInt32), .val (.int (p3).toInt32), .val (.int ((XT.ushrL p3 (Int8.ofInt 32).toInt32)).toInt32), .val (.int (p4).toInt32), .val (.int ((XT.ushrL p4 (Int8.ofInt 32).toInt32)).toInt32), .val (.int (p5).toInt32), .val (.int ((XT.ushrL p5 (Int8.ofInt 32).toInt32)).toInt32), .val (.ref a274), .val (.ref a299), .val (.ref a332), .unset] [(.int (3 : Int32))]
    refine go_run K 89 1 (pc' := 143) (st' := [(.int (3 : Int32)), (.int (3 : Int32))]) rfl ?_
    refine go_icmpne K (k := 90) rfl (pc' := 150) (by decide) (fun q => absurd rfl q) (fun _ => ?_)
    refine go_run K 91 2 (pc' := 151) (st' := [(.int (1 : Int32))]) rfl ?_
    refine go_run K 94 1 (pc' := 153) (Ls' := #[.val (.int p0), .val (.int p1), .val (.int p2), .val (.long p3), .second, .val (.long p4), .second, .val (.long p5), .second, .val (.int (3 : Int32)), .val (.int k.toInt32), .val (.int (p3).toInt32), .val (.int ((XT.ushrL p3 (Int8.ofInt 32).toInt32)).toInt32), .val (.int (p4).toInt32), .val (.int ((XT.ushrL p4 (Int8.ofInt 32).toInt32)).toInt32), .val (.int (p5).toInt32), .val (.int ((XT.ushrL p5 (Int8.ofInt 32).toInt32)).toInt32), .val (.ref a274), .val (.ref a299), .val (.ref a332), .val (.int (1 : Int32))]) (st' := []) rfl ?_
    refine go_run K 95 1 (pc' := 155) (st' := [(.int (1 : Int32))]) rfl ?_
    refine go_ifeq K (k := 96) rfl (pc' := 182) (by decide) (fun q => absurd q (by decide)) (fun _ => ?_)
    refine go_run K 97 7 (pc' := 172) (st' := [(.int ((XT.ushrL p5 (Int8.ofInt 32).toInt32)).toInt32), (.int (p5).toInt32), (.int ((XT.ushrL p4 (Int8.ofInt 32).toInt32)).toInt32), (.int (p4).toInt32), (.int ((XT.ushrL p3 (Int8.ofInt 32).toInt32)).toInt32), (.int (p3).toInt32), (.ref a274)]) rfl ?_
    have X363 : Ext h296 h358 := (Ext.keepN X356 K359 (allS (Nat.le_trans (X355).1 f351) all0))
    have c364 := (A298.ext X363)
    refine go_static K (k := 104) rfl (H.w 355 rfl) (H.w 356 rfl) (H.w 357 rfl) (H.w 358 rfl) (by decide) pd_35 (c_unc H c364) (argsL := [(.ref a274), (.int (p3).toInt32), (.int ((XT.ushrL p3 (Int8.ofInt 32).toInt32)).toInt32), (.int (p4).toInt32), (.int ((XT.ushrL p4 (Int8.ofInt 32).toInt32)).toInt32), (.int (p5).toInt32), (.int ((XT.ushrL p5 (Int8.ofInt 32).toInt32)).toInt32)]) (rest := []) rfl rfl rfl sub0 rfl ?_
    rintro _ _ _ - ⟨rfl, rfl⟩
    show Go G B M_law _ h358 (a332 :: (a299 :: (a274 :: []))) 17 89 175 #[.val (.int p0), .val (.int p1), .val (.int p2), .val (.long p3), .second, .val (.long p4), .second, .val (.long p5), .second, .val (.int (3 : Int32)), .val (.int k.toInt32), .val (.int (p3).toInt32), .val (.int ((XT.ushrL p3 (Int8.ofInt 32).toInt32)).toInt32), .val (.int (p4).toInt32), .val (.int ((XT.ushrL p4 (Int8.ofInt 32).toInt32)).toInt32), .val (.int (p5).toInt32), .val (.int ((XT.ushrL p5 (Int8.ofInt 32).toInt32)).toInt32), .val (.ref a274), .val (.ref a299), .val (.ref a332), .val (.int (1 : Int32))] [(.int (1 : Int32))]
    refine go_ifeq K (k := 105) rfl (pc' := 182) (by decide) (fun q => absurd q (by decide)) (fun _ => ?_)
    refine go_run K 106 2 (pc' := 183) (st' := [(.int (1 : Int32))]) rfl ?_
    refine go_run K 109 1 (pc' := 185) (st' := []) rfl ?_
    refine go_run K 110 1 (pc' := 187) (st' := [(.int (1 : Int32))]) rfl ?_
    refine go_ifeq K (k := 111) rfl (pc' := 213) (by decide) (fun q => absurd q (by decide)) (fun _ => ?_)
    refine go_run K 112 1 (pc' := 192) (st' := [(.int (3 : Int32))]) rfl ?_
    refine go_ifle K (k := 113) rfl (pc' := 209) (by decide) (fun q => absurd (by decide) q) (fun _ => ?_)
    refine go_run K 114 2 (pc' := 198) (st' := [(.int (0 : Int32)), (.ref a332)]) rfl ?_
    refine go_virt0 K (k := 116) rfl (H.w 366 rfl) (H.w 369 rfl) (H.w 368 rfl) (H.w 251 rfl) (H.w 370 rfl) (by decide) pd_30 c361 (c_rd (i := (0 : Int32)) (y := ([(p3).toInt32, ((XT.ushrL p3 (Int8.ofInt 32).toInt32)).toInt32, (p4).toInt32, ((XT.ushrL p4 (Int8.ofInt 32).toInt32)).toInt32, (p5).toInt32, ((XT.ushrL p5 (Int8.ofInt 32).toInt32)).toInt32].getD (k + 0) 0)) (z := (3 : Int32)) H c362 A360 (by decide) (rst_get (xs := [(p3).toInt32, ((XT.ushrL p3 (Int8.ofInt 32).toInt32)).toInt32, (p4).toInt32, ((XT.ushrL p4 (Int8.ofInt 32).toInt32)).toInt32, (p5).toInt32, ((XT.ushrL p5 (Int8.ofInt 32).toInt32)).toInt32]) (k := k) (n := 3) (i := 0) (by show k + 3 ≤ 6; omega) (by decide))) (argsL := [(.int (0 : Int32))]) (rest := []) rfl rfl rfl sub0 rfl ?_
    rintro _ _ _ - ⟨rfl, rfl⟩
    show Go G B M_law _ h358 (a332 :: (a299 :: (a274 :: []))) 17 89 201 #[.val (.int p0), .val (.int p1), .val (.int p2), .val (.long p3), .second, .val (.long p4), .second, .val (.long p5), .second, .val (.int (3 : Int32)), .val (.int k.toInt32), .val (.int (p3).toInt32), .val (.int ((XT.ushrL p3 (Int8.ofInt 32).toInt32)).toInt32), .val (.int (p4).toInt32), .val (.int ((XT.ushrL p4 (Int8.ofInt 32).toInt32)).toInt32), .val (.int (p5).toInt32), .val (.int ((XT.ushrL p5 (Int8.ofInt 32).toInt32)).toInt32), .val (.ref a274), .val (.ref a299), .val (.ref a332), .val (.int (1 : Int32))] [(.int ([(p3).toInt32, ((XT.ushrL p3 (Int8.ofInt 32).toInt32)).toInt32, (p4).toInt32, ((XT.ushrL p4 (Int8.ofInt 32).toInt32)).toInt32, (p5).toInt32, ((XT.ushrL p5 (Int8.ofInt 32).toInt32)).toInt32].getD (k + 0) 0))]
    refine go_run K 117 2 (pc' := 205) (st' := [(.int k.toInt32), (.ref a274), (.int ([(p3).toInt32, ((XT.ushrL p3 (Int8.ofInt 32).toInt32)).toInt32, (p4).toInt32, ((XT.ushrL p4 (Int8.ofInt 32).toInt32)).toInt32, (p5).toInt32, ((XT.ushrL p5 (Int8.ofInt 32).toInt32)).toInt32].getD (k + 0) 0))]) rfl ?_
    refine go_iaload K (k := 119) rfl c364 ⟨len_nn (by omega), len_lt (n := 6) (by decide) (by omega)⟩ (v := .int ([(p3).toInt32, ((XT.ushrL p3 (Int8.ofInt 32).toInt32)).toInt32, (p4).toInt32, ((XT.ushrL p4 (Int8.ofInt 32).toInt32)).toInt32, (p5).toInt32, ((XT.ushrL p5 (Int8.ofInt 32).toInt32)).toInt32].getD (k + 0) 0)) (by rw [len_nat (by omega)]; exact st_get (xs := [(p3).toInt32, ((XT.ushrL p3 (Int8.ofInt 32).toInt32)).toInt32, (p4).toInt32, ((XT.ushrL p4 (Int8.ofInt 32).toInt32)).toInt32, (p5).toInt32, ((XT.ushrL p5 (Int8.ofInt 32).toInt32)).toInt32]) (by show k < 6; omega)) ?_
    refine go_icmpne K (k := 120) rfl (pc' := 213) (by decide) (fun q => absurd rfl q) (fun _ => ?_)
    refine go_run K 121 2 (pc' := 214) (st' := [(.int (1 : Int32))]) rfl ?_
    refine go_run K 124 1 (pc' := 216) (st' := []) rfl ?_
    refine go_run K 125 1 (pc' := 218) (st' := [(.int (1 : Int32))]) rfl ?_
    refine go_ifeq K (k := 126) rfl (pc' := 247) (by decide) (fun q => absurd q (by decide)) (fun _ => ?_)
    refine go_run K 127 2 (pc' := 224) (st' := [(.int (1 : Int32)), (.int (3 : Int32))]) rfl ?_
    refine go_icmple K (k := 129) rfl (pc' := 243) (by decide) (fun q => absurd (by decide) q) (fun _ => ?_)
    refine go_run K 130 2 (pc' := 230) (st' := [(.int (1 : Int32)), (.ref a332)]) rfl ?_
    refine go_virt0 K (k := 132) rfl (H.w 366 rfl) (H.w 369 rfl) (H.w 368 rfl) (H.w 251 rfl) (H.w 370 rfl) (by decide) pd_30 c361 (c_rd (i := (1 : Int32)) (y := ([(p3).toInt32, ((XT.ushrL p3 (Int8.ofInt 32).toInt32)).toInt32, (p4).toInt32, ((XT.ushrL p4 (Int8.ofInt 32).toInt32)).toInt32, (p5).toInt32, ((XT.ushrL p5 (Int8.ofInt 32).toInt32)).toInt32].getD (k + 1) 0)) (z := (3 : Int32)) H c362 A360 (by decide) (rst_get (xs := [(p3).toInt32, ((XT.ushrL p3 (Int8.ofInt 32).toInt32)).toInt32, (p4).toInt32, ((XT.ushrL p4 (Int8.ofInt 32).toInt32)).toInt32, (p5).toInt32, ((XT.ushrL p5 (Int8.ofInt 32).toInt32)).toInt32]) (k := k) (n := 3) (i := 1) (by show k + 3 ≤ 6; omega) (by decide))) (argsL := [(.int (1 : Int32))]) (rest := []) rfl rfl rfl sub0 rfl ?_
    rintro _ _ _ - ⟨rfl, rfl⟩
    show Go G B M_law _ h358 (a332 :: (a299 :: (a274 :: []))) 17 89 233 #[.val (.int p0), .val (.int p1), .val (.int p2), .val (.long p3), .second, .val (.long p4), .second, .val (.long p5), .second, .val (.int (3 : Int32)), .val (.int k.toInt32), .val (.int (p3).toInt32), .val (.int ((XT.ushrL p3 (Int8.ofInt 32).toInt32)).toInt32), .val (.int (p4).toInt32), .val (.int ((XT.ushrL p4 (Int8.ofInt 32).toInt32)).toInt32), .val (.int (p5).toInt32), .val (.int ((XT.ushrL p5 (Int8.ofInt 32).toInt32)).toInt32), .val (.ref a274), .val (.ref a299), .val (.ref a332), .val (.int (1 : Int32))] [(.int ([(p3).toInt32, ((XT.ushrL p3 (Int8.ofInt 32).toInt32)).toInt32, (p4).toInt32, ((XT.ushrL p4 (Int8.ofInt 32).toInt32)).toInt32, (p5).toInt32, ((XT.ushrL p5 (Int8.ofInt 32).toInt32)).toInt32].getD (k + 1) 0))]
    refine go_run K 133 4 (pc' := 239) (st' := [(.int (k.toInt32 + (1 : Int32))), (.ref a274), (.int ([(p3).toInt32, ((XT.ushrL p3 (Int8.ofInt 32).toInt32)).toInt32, (p4).toInt32, ((XT.ushrL p4 (Int8.ofInt 32).toInt32)).toInt32, (p5).toInt32, ((XT.ushrL p5 (Int8.ofInt 32).toInt32)).toInt32].getD (k + 1) 0))]) rfl ?_
    rw [show k.toInt32 + (1 : Int32) = (k + 1).toInt32 from add_len k 1]
    refine go_iaload K (k := 137) rfl c364 ⟨len_nn (by omega), len_lt (n := 6) (by decide) (by omega)⟩ (v := .int ([(p3).toInt32, ((XT.ushrL p3 (Int8.ofInt 32).toInt32)).toInt32, (p4).toInt32, ((XT.ushrL p4 (Int8.ofInt 32).toInt32)).toInt32, (p5).toInt32, ((XT.ushrL p5 (Int8.ofInt 32).toInt32)).toInt32].getD (k + 1) 0)) (by rw [len_nat (by omega)]; exact st_get (xs := [(p3).toInt32, ((XT.ushrL p3 (Int8.ofInt 32).toInt32)).toInt32, (p4).toInt32, ((XT.ushrL p4 (Int8.ofInt 32).toInt32)).toInt32, (p5).toInt32, ((XT.ushrL p5 (Int8.ofInt 32).toInt32)).toInt32]) (by show (k + 1) < 6; omega)) ?_
    refine go_icmpne K (k := 138) rfl (pc' := 247) (by decide) (fun q => absurd rfl q) (fun _ => ?_)
    refine go_run K 139 2 (pc' := 248) (st' := [(.int (1 : Int32))]) rfl ?_
    refine go_run K 142 1 (pc' := 250) (st' := []) rfl ?_
    refine go_run K 143 1 (pc' := 252) (st' := [(.int (1 : Int32))]) rfl ?_
    refine go_ifeq K (k := 144) rfl (pc' := 281) (by decide) (fun q => absurd q (by decide)) (fun _ => ?_)
    refine go_run K 145 2 (pc' := 258) (st' := [(.int (2 : Int32)), (.int (3 : Int32))]) rfl ?_
    refine go_icmple K (k := 147) rfl (pc' := 277) (by decide) (fun q => absurd (by decide) q) (fun _ => ?_)
    refine go_run K 148 2 (pc' := 264) (st' := [(.int (2 : Int32)), (.ref a332)]) rfl ?_
    refine go_virt0 K (k := 150) rfl (H.w 366 rfl) (H.w 369 rfl) (H.w 368 rfl) (H.w 251 rfl) (H.w 370 rfl) (by decide) pd_30 c361 (c_rd (i := (2 : Int32)) (y := ([(p3).toInt32, ((XT.ushrL p3 (Int8.ofInt 32).toInt32)).toInt32, (p4).toInt32, ((XT.ushrL p4 (Int8.ofInt 32).toInt32)).toInt32, (p5).toInt32, ((XT.ushrL p5 (Int8.ofInt 32).toInt32)).toInt32].getD (k + 2) 0)) (z := (3 : Int32)) H c362 A360 (by decide) (rst_get (xs := [(p3).toInt32, ((XT.ushrL p3 (Int8.ofInt 32).toInt32)).toInt32, (p4).toInt32, ((XT.ushrL p4 (Int8.ofInt 32).toInt32)).toInt32, (p5).toInt32, ((XT.ushrL p5 (Int8.ofInt 32).toInt32)).toInt32]) (k := k) (n := 3) (i := 2) (by show k + 3 ≤ 6; omega) (by decide))) (argsL := [(.int (2 : Int32))]) (rest := []) rfl rfl rfl sub0 rfl ?_
    rintro _ _ _ - ⟨rfl, rfl⟩
    show Go G B M_law _ h358 (a332 :: (a299 :: (a274 :: []))) 17 89 267 #[.val (.int p0), .val (.int p1), .val (.int p2), .val (.long p3), .second, .val (.long p4), .second, .val (.long p5), .second, .val (.int (3 : Int32)), .val (.int k.toInt32), .val (.int (p3).toInt32), .val (.int ((XT.ushrL p3 (Int8.ofInt 32).toInt32)).toInt32), .val (.int (p4).toInt32), .val (.int ((XT.ushrL p4 (Int8.ofInt 32).toInt32)).toInt32), .val (.int (p5).toInt32), .val (.int ((XT.ushrL p5 (Int8.ofInt 32).toInt32)).toInt32), .val (.ref a274), .val (.ref a299), .val (.ref a332), .val (.int (1 : Int32))] [(.int ([(p3).toInt32, ((XT.ushrL p3 (Int8.ofInt 32).toInt32)).toInt32, (p4).toInt32, ((XT.ushrL p4 (Int8.ofInt 32).toInt32)).toInt32, (p5).toInt32, ((XT.ushrL p5 (Int8.ofInt 32).toInt32)).toInt32].getD (k + 2) 0))]
    refine go_run K 151 4 (pc' := 273) (st' := [(.int (k.toInt32 + (2 : Int32))), (.ref a274), (.int ([(p3).toInt32, ((XT.ushrL p3 (Int8.ofInt 32).toInt32)).toInt32, (p4).toInt32, ((XT.ushrL p4 (Int8.ofInt 32).toInt32)).toInt32, (p5).toInt32, ((XT.ushrL p5 (Int8.ofInt 32).toInt32)).toInt32].getD (k + 2) 0))]) rfl ?_
    rw [show k.toInt32 + (2 : Int32) = (k + 2).toInt32 from add_len k 2]
    refine go_iaload K (k := 155) rfl c364 ⟨len_nn (by omega), len_lt (n := 6) (by decide) (by omega)⟩ (v := .int ([(p3).toInt32, ((XT.ushrL p3 (Int8.ofInt 32).toInt32)).toInt32, (p4).toInt32, ((XT.ushrL p4 (Int8.ofInt 32).toInt32)).toInt32, (p5).toInt32, ((XT.ushrL p5 (Int8.ofInt 32).toInt32)).toInt32].getD (k + 2) 0)) (by rw [len_nat (by omega)]; exact st_get (xs := [(p3).toInt32, ((XT.ushrL p3 (Int8.ofInt 32).toInt32)).toInt32, (p4).toInt32, ((XT.ushrL p4 (Int8.ofInt 32).toInt32)).toInt32, (p5).toInt32, ((XT.ushrL p5 (Int8.ofInt 32).toInt32)).toInt32]) (by show (k + 2) < 6; omega)) ?_
    refine go_icmpne K (k := 156) rfl (pc' := 281) (by decide) (fun q => absurd rfl q) (fun _ => ?_)
    refine go_run K 157 2 (pc' := 282) (st' := [(.int (1 : Int32))]) rfl ?_
    refine go_run K 160 1 (pc' := 284) (st' := []) rfl ?_
    refine go_run K 161 1 (pc' := 286) (st' := [(.int (1 : Int32))]) rfl ?_
    refine go_ifeq K (k := 162) rfl (pc' := 315) (by decide) (fun q => absurd q (by decide)) (fun _ => ?_)
    refine go_run K 163 2 (pc' := 292) (st' := [(.int (3 : Int32)), (.int (3 : Int32))]) rfl ?_
    refine go_icmple K (k := 165) rfl (pc' := 311) (by decide) (fun _ => ?_) (fun q => absurd q (by decide))
    refine go_run K 175 2 (pc' := 316) (st' := [(.int (1 : Int32))]) rfl ?_
    refine go_run K 178 1 (pc' := 318) (st' := []) rfl ?_
    refine go_run K 179 1 (pc' := 320) (st' := [(.int (1 : Int32))]) rfl ?_
    refine go_ireturn K (k := 180) rfl rfl (by decide) rfl rfl rfl ?_
    intro Sf hSf
    exact rfl
  · rw [hn]
    refine go_run K 5 1 (pc' := 8) (Ls' := #[.val (.int p0), .val (.int p1), .val (.int p2), .val (.long p3), .second, .val (.long p4), .second, .val (.long p5), .second, .val (.int (4 : Int32)), .unset, .unset, .unset, .unset, .unset, .unset, .unset, .unset, .unset, .unset, .unset]) (st' := []) rfl ?_
    refine go_run K 6 1 (pc' := 9) (st' := [(.int p1)]) rfl ?_
    refine go_ldcI K (k := 7) rfl (H.w 0 rfl) ?_
    refine go_run K 8 4 (pc' := 17) (st' := [(.int (3 : Int32)), (.int (p1 &&& (2147483647 : Int32)))]) rfl ?_
    refine go_irem K (k := 12) rfl (by decide) ?_
    obtain ⟨k, hk, ek⟩ : ∃ k : Nat, k + 1 ≤ 3 ∧ ((p1 &&& (2147483647 : Int32)) % (3 : Int32)) = k.toInt32 := off_k (m := 3) (by decide) (by decide)
    rw [ek]
    refine go_run K 13 1 (pc' := 20) (Ls' := #[.val (.int p0), .val (.int p1), .val (.int p2), .val (.long p3), .second, .val (.long p4), .second, .val (.long p5), .second, .val (.int (4 : Int32)), .val (.int k.toInt32), .unset, .unset, .unset, .unset, .unset, .unset, .unset, .unset, .unset, .unset]) (st' := []) rfl ?_
    refine go_run K 14 3 (pc' := 24) (Ls' := #[.val (.int p0), .val (.int p1), .val (.int p2), .val (.long p3), .second, .val (.long p4), .second, .val (.long p5), .second, .val (.int (4 : Int32)), .val (.int k.toInt32), .val (.int (p3).toInt32), .unset, .unset, .unset, .unset, .unset, .unset, .unset, .unset, .unset]) (st' := []) rfl ?_
    refine go_run K 17 5 (pc' := 31) (Ls' := #[.val (.int p0), .val (.int p1), .val (.int p2), .val (.long p3), .second, .val (.long p4), .second, .val (.long p5), .second, .val (.int (4 : Int32)), .val (.int k.toInt32), .val (.int (p3).toInt32), .val (.int ((XT.ushrL p3 (Int8.ofInt 32).toInt32)).toInt32), .unset, .unset, .unset, .unset, .unset, .unset, .unset, .unset]) (st' := []) rfl ?_
    refine go_run K 22 3 (pc' := 36) (Ls' := #[.val (.int p0), .val (.int p1), .val (.int p2), .val (.long p3), .second, .val (.long p4), .second, .val (.long p5), .second, .val (.int (4 : Int32)), .val (.int k.toInt32), .val (.int (p3).toInt32), .val (.int ((XT.ushrL p3 (Int8.ofInt 32).toInt32)).toInt32), .val (.int (p4).toInt32), .unset, .unset, .unset, .unset, .unset, .unset, .unset]) (st' := []) rfl ?_
    refine go_run K 25 5 (pc' := 44) (Ls' := #[.val (.int p0), .val (.int p1), .val (.int p2), .val (.long p3), .second, .val (.long p4), .second, .val (.long p5), .second, .val (.int (4 : Int32)), .val (.int k.toInt32), .val (.int (p3).toInt32), .val (.int ((XT.ushrL p3 (Int8.ofInt 32).toInt32)).toInt32), .val (.int (p4).toInt32), .val (.int ((XT.ushrL p4 (Int8.ofInt 32).toInt32)).toInt32), .unset, .unset, .unset, .unset, .unset, .unset]) (st' := []) rfl ?_
    refine go_run K 30 3 (pc' := 49) (Ls' := #[.val (.int p0), .val (.int p1), .val (.int p2), .val (.long p3), .second, .val (.long p4), .second, .val (.long p5), .second, .val (.int (4 : Int32)), .val (.int k.toInt32), .val (.int (p3).toInt32), .val (.int ((XT.ushrL p3 (Int8.ofInt 32).toInt32)).toInt32), .val (.int (p4).toInt32), .val (.int ((XT.ushrL p4 (Int8.ofInt 32).toInt32)).toInt32), .val (.int (p5).toInt32), .unset, .unset, .unset, .unset, .unset]) (st' := []) rfl ?_
    refine go_run K 33 5 (pc' := 57) (Ls' := #[.val (.int p0), .val (.int p1), .val (.int p2), .val (.long p3), .second, .val (.long p4), .second, .val (.long p5), .second, .val (.int (4 : Int32)), .val (.int k.toInt32), .val (.int (p3).toInt32), .val (.int ((XT.ushrL p3 (Int8.ofInt 32).toInt32)).toInt32), .val (.int (p4).toInt32), .val (.int ((XT.ushrL p4 (Int8.ofInt 32).toInt32)).toInt32), .val (.int (p5).toInt32), .val (.int ((XT.ushrL p5 (Int8.ofInt 32).toInt32)).toInt32), .unset, .unset, .unset, .unset]) (st' := []) rfl ?_
    refine go_run K 38 1 (pc' := 59) (st' := [(.int (6 : Int32))]) rfl ?_
    refine go_newarray K (k := 39) rfl (H.w 1 rfl) (by decide) (cap := 6) (by decide) rfl rfl rfl ?_
    intro h366 a365 k367 e368 g369 E370 A371
    have A371' : Arv G.Z h366 a365 k367 .int (6 : Int32) [(.int (0 : Int32)), (.int (0 : Int32)), (.int (0 : Int32)), (.int (0 : Int32)), (.int (0 : Int32)), (.int (0 : Int32))] (.int (0 : Int32)) := Arv.pad A371 (pad_rep [] (.int (0 : Int32)) 6)
    refine go_run K 40 3 (pc' := 65) (st' := [(.int (p3).toInt32), (.int (0 : Int32)), (.ref a365), (.ref a365)]) rfl ?_
    refine go_iastore K (k := 43) rfl A371' (i := 0) (by decide) rfl (Nat.le_of_ble_eq_true rfl) g369 ?_
    intro h372 W373 A374
    refine go_run K 44 3 (pc' := 70) (st' := [(.int ((XT.ushrL p3 (Int8.ofInt 32).toInt32)).toInt32), (.int (1 : Int32)), (.ref a365), (.ref a365)]) rfl ?_
    refine go_iastore K (k := 47) rfl A374 (i := 1) (by decide) rfl (Nat.le_of_ble_eq_true rfl) g369 ?_
    intro h375 W376 A377
    refine go_run K 48 3 (pc' := 75) (st' := [(.int (p4).toInt32), (.int (2 : Int32)), (.ref a365), (.ref a365)]) rfl ?_
    refine go_iastore K (k := 51) rfl A377 (i := 2) (by decide) rfl (Nat.le_of_ble_eq_true rfl) g369 ?_
    intro h378 W379 A380
    refine go_run K 52 3 (pc' := 80) (st' := [(.int ((XT.ushrL p4 (Int8.ofInt 32).toInt32)).toInt32), (.int (3 : Int32)), (.ref a365), (.ref a365)]) rfl ?_
    refine go_iastore K (k := 55) rfl A380 (i := 3) (by decide) rfl (Nat.le_of_ble_eq_true rfl) g369 ?_
    intro h381 W382 A383
    refine go_run K 56 3 (pc' := 85) (st' := [(.int (p5).toInt32), (.int (4 : Int32)), (.ref a365), (.ref a365)]) rfl ?_
    refine go_iastore K (k := 59) rfl A383 (i := 4) (by decide) rfl (Nat.le_of_ble_eq_true rfl) g369 ?_
    intro h384 W385 A386
    refine go_run K 60 3 (pc' := 90) (st' := [(.int ((XT.ushrL p5 (Int8.ofInt 32).toInt32)).toInt32), (.int (5 : Int32)), (.ref a365), (.ref a365)]) rfl ?_
    refine go_iastore K (k := 63) rfl A386 (i := 5) (by decide) rfl (Nat.le_of_ble_eq_true rfl) g369 ?_
    intro h387 W388 A389
    refine go_run K 64 1 (pc' := 93) (Ls' := #[.val (.int p0), .val (.int p1), .val (.int p2), .val (.long p3), .second, .val (.long p4), .second, .val (.long p5), .second, .val (.int (4 : Int32)), .val (.int k.toInt32), .val (.int (p3).toInt32), .val (.int ((XT.ushrL p3 (Int8.ofInt 32).toInt32)).toInt32), .val (.int (p4).toInt32), .val (.int ((XT.ushrL p4 (Int8.ofInt 32).toInt32)).toInt32), .val (.int (p5).toInt32), .val (.int ((XT.ushrL p5 (Int8.ofInt 32).toInt32)).toInt32), .val (.ref a365), .unset, .unset, .unset]) (st' := []) rfl ?_
    refine go_new K (k := 65) rfl (H.w 2 rfl) (H.w 3 rfl) (H.w 4 rfl) rfl rfl ?_
    intro h391 a390 e392 g393 E394 A395 D396
    have F397 : Fld G.Z h391 a390 "com/example/foyer/foyer/Layout" "declared" "Ljava/util/List;" .null := D396 (Or.inr (H.w 47 rfl)) (ty := (.object "java/util/List")) (by decide)
    have F398 : Fld G.Z h391 a390 "com/example/foyer/foyer/Layout" "prefix" "Ljava/lang/String;" .null := D396 (Or.inr (H.w 49 rfl)) (ty := (.object "java/lang/String")) (by decide)
    refine go_run K 66 1 (pc' := 97) (st' := [(.ref a390), (.ref a390)]) rfl ?_
    refine go_special K (k := 67) rfl rfl (H.w 5 rfl) (H.w 6 rfl) (H.w 4 rfl) (H.w 7 rfl) (by decide) pd_14 (c_ly0 H sE A395 F397 F398 g393) (argsL := []) (rest := [(.ref a390)]) rfl rfl rfl sub0 rfl ?_
    rintro _ h399 _ - ⟨li400, pr401, rfl, K402, Y403, L404, f405⟩
    show Go G B M_law _ h399 (a390 :: (a365 :: [])) 5 15 100 #[.val (.int p0), .val (.int p1), .val (.int p2), .val (.long p3), .second, .val (.long p4), .second, .val (.long p5), .second, .val (.int (4 : Int32)), .val (.int k.toInt32), .val (.int (p3).toInt32), .val (.int ((XT.ushrL p3 (Int8.ofInt 32).toInt32)).toInt32), .val (.int (p4).toInt32), .val (.int ((XT.ushrL p4 (Int8.ofInt 32).toInt32)).toInt32), .val (.int (p5).toInt32), .val (.int ((XT.ushrL p5 (Int8.ofInt 32).toInt32)).toInt32), .val (.ref a365), .unset, .unset, .unset] [(.ref a390)]
    refine go_run K 68 1 (pc' := 102) (Ls' := #[.val (.int p0), .val (.int p1), .val (.int p2), .val (.long p3), .second, .val (.long p4), .second, .val (.long p5), .second, .val (.int (4 : Int32)), .val (.int k.toInt32), .val (.int (p3).toInt32), .val (.int ((XT.ushrL p3 (Int8.ofInt 32).toInt32)).toInt32), .val (.int (p4).toInt32), .val (.int ((XT.ushrL p4 (Int8.ofInt 32).toInt32)).toInt32), .val (.int (p5).toInt32), .val (.int ((XT.ushrL p5 (Int8.ofInt 32).toInt32)).toInt32), .val (.ref a365), .val (.ref a390), .unset, .unset]) (st' := []) rfl ?_
    refine go_run K 69 1 (pc' := 104) (st' := [(.ref a390)]) rfl ?_
    refine go_ldcT K (k := 70) rfl (H.w 50 rfl) H.ws (H.mem (by decide)) (cs := [(114 : Int32)]) (by decide) (by decide) (n := 4) rfl rfl rfl rfl ?_
    intro h407 a406 E408 S409
    refine go_run K 71 5 (pc' := 112) (st' := [(.int p2), (.int (3 : Int32)), (.int (0 : Int32)), (.ref a406), (.ref a390)]) rfl ?_
    have c410 := ((Ly.exa Y403).ext E408)
    have c411 := (L404.ext E408)
    have c412 := (Y403.ext E408)
    refine go_virt0 K (k := 76) rfl (H.w 51 rfl) (H.w 54 rfl) (H.w 53 rfl) (H.w 4 rfl) (H.w 55 rfl) (by decide) pd_32 c410 (c_ar3 (p := (0 : Int32)) (q := (3 : Int32)) (iv := p2) H sE aE c411 c412 lat0 (lat1 (by decide)) (by decide) S409) (argsL := [(.ref a406), (.int (0 : Int32)), (.int (3 : Int32)), (.int p2)]) (rest := []) rfl rfl rfl sub0 rfl ?_
    rintro _ h413 _ - ⟨r414, t415, io416, k417, rfl, K418, f419, L420, Lm421⟩
    have L422 : Alk G h413 li400 t415 r414 k417 1 (0 : Int32) (0 : Int32) (4 : Int32) (.ref io416) := L420
    show Go G B M_law _ h413 (a390 :: (a365 :: [])) 14 80 115 #[.val (.int p0), .val (.int p1), .val (.int p2), .val (.long p3), .second, .val (.long p4), .second, .val (.long p5), .second, .val (.int (4 : Int32)), .val (.int k.toInt32), .val (.int (p3).toInt32), .val (.int ((XT.ushrL p3 (Int8.ofInt 32).toInt32)).toInt32), .val (.int (p4).toInt32), .val (.int ((XT.ushrL p4 (Int8.ofInt 32).toInt32)).toInt32), .val (.int (p5).toInt32), .val (.int ((XT.ushrL p5 (Int8.ofInt 32).toInt32)).toInt32), .val (.ref a365), .val (.ref a390), .unset, .unset] [(.ref r414)]
    refine go_run K 77 1 (pc' := 116) (st' := []) rfl ?_
    refine go_new K (k := 78) rfl (H.w 249 rfl) (H.w 250 rfl) (H.w 251 rfl) rfl rfl ?_
    intro h424 a423 e425 g426 E427 A428 D429
    have F430 : Fld G.Z h424 a423 "com/example/foyer/foyer/PlainRegisters" "values" "[I" .null := D429 (Or.inr (H.w 343 rfl)) (ty := (.array .int)) (by decide)
    refine go_run K 79 2 (pc' := 122) (st' := [(.ref a390), (.ref a423), (.ref a423)]) rfl ?_
    have c431 := (L422.ext E427)
    have c432 := ((Ly.keep c412 K418 (ninS (Exa.ne c410 ((Al0.exa L404).ext E408) (by decide)) nin0) (allS (Ap.of_exa ((Al0.exa L404).ext E408) (by decide) (H.w 9 rfl)) all0)).ext E427)
    have c433 := (Lm421.ext E427)
    refine go_special K (k := 81) rfl rfl (H.w 252 rfl) (H.w 253 rfl) (H.w 251 rfl) (H.w 254 rfl) (by decide) pd_33 (c_pr4 H c431 c432 c433 A428 F430 g426) (argsL := [(.ref a390)]) (rest := [(.ref a423)]) rfl rfl rfl sub0 rfl ?_
    rintro _ h434 _ - ⟨d435, k436, rfl, K437, e438, F439, A440, g441, f442⟩
    show Go G B M_law _ h434 (a423 :: (a390 :: (a365 :: []))) 17 89 125 #[.val (.int p0), .val (.int p1), .val (.int p2), .val (.long p3), .second, .val (.long p4), .second, .val (.long p5), .second, .val (.int (4 : Int32)), .val (.int k.toInt32), .val (.int (p3).toInt32), .val (.int ((XT.ushrL p3 (Int8.ofInt 32).toInt32)).toInt32), .val (.int (p4).toInt32), .val (.int ((XT.ushrL p4 (Int8.ofInt 32).toInt32)).toInt32), .val (.int (p5).toInt32), .val (.int ((XT.ushrL p5 (Int8.ofInt 32).toInt32)).toInt32), .val (.ref a365), .val (.ref a390), .unset, .unset] [(.ref a423)]
    refine go_run K 82 1 (pc' := 127) (Ls' := #[.val (.int p0), .val (.int p1), .val (.int p2), .val (.long p3), .second, .val (.long p4), .second, .val (.long p5), .second, .val (.int (4 : Int32)), .val (.int k.toInt32), .val (.int (p3).toInt32), .val (.int ((XT.ushrL p3 (Int8.ofInt 32).toInt32)).toInt32), .val (.int (p4).toInt32), .val (.int ((XT.ushrL p4 (Int8.ofInt 32).toInt32)).toInt32), .val (.int (p5).toInt32), .val (.int ((XT.ushrL p5 (Int8.ofInt 32).toInt32)).toInt32), .val (.ref a365), .val (.ref a390), .val (.ref a423), .unset]) (st' := []) rfl ?_
    refine go_run K 83 3 (pc' := 133) (st' := [(.int k.toInt32), (.ref a365), (.ref a423)]) rfl ?_
    have X443 : Ext h387 h399 := (Ext.keepN E394 K402 (allS (Nat.le_trans (Nat.le_refl _) (Nat.le_of_eq e392.symm)) all0))
    have X444 : Ext h387 h407 := (Ext.tr X443 E408)
    have X445 : Ext h387 h413 := (Ext.keepN X444 K418 (allS (Nat.le_trans (E394).1 f405) all0))
    have X446 : Ext h387 h424 := (Ext.tr X445 E427)
    have X447 : Ext h387 h434 := (Ext.keepN X446 K437 (allS (Nat.le_trans (X445).1 (Nat.le_of_eq e425.symm)) all0))
    have c448 := (A389.ext X447)
    refine go_virt0 K (k := 86) rfl (H.w 344 rfl) (H.w 347 rfl) (H.w 346 rfl) (H.w 251 rfl) (H.w 348 rfl) (by decide) pd_34 e438 (c_rst (k := k) (n := 4) (xs := [(p3).toInt32, ((XT.ushrL p3 (Int8.ofInt 32).toInt32)).toInt32, (p4).toInt32, ((XT.ushrL p4 (Int8.ofInt 32).toInt32)).toInt32, (p5).toInt32, ((XT.ushrL p5 (Int8.ofInt 32).toInt32)).toInt32]) (ys := [p2, p2, p2, p2]) H rfl rfl (by omega) F439 c448 A440 g441) (argsL := [(.ref a365), (.int k.toInt32)]) (rest := []) rfl rfl rfl sub0 rfl ?_
    rintro _ h449 _ - ⟨rfl, K450, A451⟩
    show Go G B M_law _ h449 (a423 :: (a390 :: (a365 :: []))) 17 89 136 #[.val (.int p0), .val (.int p1), .val (.int p2), .val (.long p3), .second, .val (.long p4), .second, .val (.long p5), .second, .val (.int (4 : Int32)), .val (.int k.toInt32), .val (.int (p3).toInt32), .val (.int ((XT.ushrL p3 (Int8.ofInt 32).toInt32)).toInt32), .val (.int (p4).toInt32), .val (.int ((XT.ushrL p4 (Int8.ofInt 32).toInt32)).toInt32), .val (.int (p5).toInt32), .val (.int ((XT.ushrL p5 (Int8.ofInt 32).toInt32)).toInt32), .val (.ref a365), .val (.ref a390), .val (.ref a423), .unset] []
    refine go_run K 87 1 (pc' := 138) (st' := [(.ref a423)]) rfl ?_
    have c452 := (e438.keep K450)
    have c453 := (F439.keep K450 (ninS (Exa.neArv e438 A440 (H.w 250 rfl)) nin0))
    refine go_virt0 K (k := 88) rfl (H.w 350 rfl) (H.w 353 rfl) (H.w 352 rfl) (H.w 251 rfl) (H.w 354 rfl) (by decide) pd_6 c452 (c_psz (z := (4 : Int32)) H c453 A451) (argsL := []) (rest := []) rfl rfl rfl sub0 rfl ?_
    rintro _ _ _ - ⟨rfl, rfl⟩
    show Go G B M_law _ h449 (a423 :: (a390 :: (a365 :: []))) 17 89 141 #[.val (.int p0), .val (.int p1), .val (.int p2), .val (.long p3), .second, .val (.long p4), .second, .val (.long p5), .second, .val (.int (4 : Int32)), .val (.int k.toInt32), .val (.int (p3).toInt32), .val (.int ((XT.ushrL p3 (Int8.ofInt 32).toInt32)).toInt32), .val (.int (p4).toInt32), .val (.int ((XT.ushrL p4 (Int8.ofInt 32).toInt32)).toInt32), .val (.int (p5).toInt32), .val (.int ((XT.ushrL p5 (Int8.ofInt 32).toInt32)).toInt32), .val (.ref a365), .val (.ref a390), .val (.ref a423), .unset] [(.int (4 : Int32))]
    refine go_run K 89 1 (pc' := 143) (st' := [(.int (4 : Int32)), (.int (4 : Int32))]) rfl ?_
    refine go_icmpne K (k := 90) rfl (pc' := 150) (by decide) (fun q => absurd rfl q) (fun _ => ?_)
    refine go_run K 91 2 (pc' := 151) (st' := [(.int (1 : Int32))]) rfl ?_
    refine go_run K 94 1 (pc' := 153) (Ls' := #[.val (.int p0), .val (.int p1), .val (.int p2), .val (.long p3), .second, .val (.long p4), .second, .val (.long p5), .second, .val (.int (4 : Int32)), .val (.int k.toInt32), .val (.int (p3).toInt32), .val (.int ((XT.ushrL p3 (Int8.ofInt 32).toInt32)).toInt32), .val (.int (p4).toInt32), .val (.int ((XT.ushrL p4 (Int8.ofInt 32).toInt32)).toInt32), .val (.int (p5).toInt32), .val (.int ((XT.ushrL p5 (Int8.ofInt 32).toInt32)).toInt32), .val (.ref a365), .val (.ref a390), .val (.ref a423), .val (.int (1 : Int32))]) (st' := []) rfl ?_
    refine go_run K 95 1 (pc' := 155) (st' := [(.int (1 : Int32))]) rfl ?_
    refine go_ifeq K (k := 96) rfl (pc' := 182) (by decide) (fun q => absurd q (by decide)) (fun _ => ?_)
    refine go_run K 97 7 (pc' := 172) (st' := [(.int ((XT.ushrL p5 (Int8.ofInt 32).toInt32)).toInt32), (.int (p5).toInt32), (.int ((XT.ushrL p4 (Int8.ofInt 32).toInt32)).toInt32), (.int (p4).toInt32), (.int ((XT.ushrL p3 (Int8.ofInt 32).toInt32)).toInt32), (.int (p3).toInt32), (.ref a365)]) rfl ?_
    have X454 : Ext h387 h449 := (Ext.keepN X447 K450 (allS (Nat.le_trans (X446).1 f442) all0))
    have c455 := (A389.ext X454)
    refine go_static K (k := 104) rfl (H.w 355 rfl) (H.w 356 rfl) (H.w 357 rfl) (H.w 358 rfl) (by decide) pd_35 (c_unc H c455) (argsL := [(.ref a365), (.int (p3).toInt32), (.int ((XT.ushrL p3 (Int8.ofInt 32).toInt32)).toInt32), (.int (p4).toInt32), (.int ((XT.ushrL p4 (Int8.ofInt 32).toInt32)).toInt32), (.int (p5).toInt32), (.int ((XT.ushrL p5 (Int8.ofInt 32).toInt32)).toInt32)]) (rest := []) rfl rfl rfl sub0 rfl ?_
    rintro _ _ _ - ⟨rfl, rfl⟩
    show Go G B M_law _ h449 (a423 :: (a390 :: (a365 :: []))) 17 89 175 #[.val (.int p0), .val (.int p1), .val (.int p2), .val (.long p3), .second, .val (.long p4), .second, .val (.long p5), .second, .val (.int (4 : Int32)), .val (.int k.toInt32), .val (.int (p3).toInt32), .val (.int ((XT.ushrL p3 (Int8.ofInt 32).toInt32)).toInt32), .val (.int (p4).toInt32), .val (.int ((XT.ushrL p4 (Int8.ofInt 32).toInt32)).toInt32), .val (.int (p5).toInt32), .val (.int ((XT.ushrL p5 (Int8.ofInt 32).toInt32)).toInt32), .val (.ref a365), .val (.ref a390), .val (.ref a423), .val (.int (1 : Int32))] [(.int (1 : Int32))]
    refine go_ifeq K (k := 105) rfl (pc' := 182) (by decide) (fun q => absurd q (by decide)) (fun _ => ?_)
    refine go_run K 106 2 (pc' := 183) (st' := [(.int (1 : Int32))]) rfl ?_
    refine go_run K 109 1 (pc' := 185) (st' := []) rfl ?_
    refine go_run K 110 1 (pc' := 187) (st' := [(.int (1 : Int32))]) rfl ?_
    refine go_ifeq K (k := 111) rfl (pc' := 213) (by decide) (fun q => absurd q (by decide)) (fun _ => ?_)
    refine go_run K 112 1 (pc' := 192) (st' := [(.int (4 : Int32))]) rfl ?_
    refine go_ifle K (k := 113) rfl (pc' := 209) (by decide) (fun q => absurd (by decide) q) (fun _ => ?_)
    refine go_run K 114 2 (pc' := 198) (st' := [(.int (0 : Int32)), (.ref a423)]) rfl ?_
    refine go_virt0 K (k := 116) rfl (H.w 366 rfl) (H.w 369 rfl) (H.w 368 rfl) (H.w 251 rfl) (H.w 370 rfl) (by decide) pd_30 c452 (c_rd (i := (0 : Int32)) (y := ([(p3).toInt32, ((XT.ushrL p3 (Int8.ofInt 32).toInt32)).toInt32, (p4).toInt32, ((XT.ushrL p4 (Int8.ofInt 32).toInt32)).toInt32, (p5).toInt32, ((XT.ushrL p5 (Int8.ofInt 32).toInt32)).toInt32].getD (k + 0) 0)) (z := (4 : Int32)) H c453 A451 (by decide) (rst_get (xs := [(p3).toInt32, ((XT.ushrL p3 (Int8.ofInt 32).toInt32)).toInt32, (p4).toInt32, ((XT.ushrL p4 (Int8.ofInt 32).toInt32)).toInt32, (p5).toInt32, ((XT.ushrL p5 (Int8.ofInt 32).toInt32)).toInt32]) (k := k) (n := 4) (i := 0) (by show k + 4 ≤ 6; omega) (by decide))) (argsL := [(.int (0 : Int32))]) (rest := []) rfl rfl rfl sub0 rfl ?_
    rintro _ _ _ - ⟨rfl, rfl⟩
    show Go G B M_law _ h449 (a423 :: (a390 :: (a365 :: []))) 17 89 201 #[.val (.int p0), .val (.int p1), .val (.int p2), .val (.long p3), .second, .val (.long p4), .second, .val (.long p5), .second, .val (.int (4 : Int32)), .val (.int k.toInt32), .val (.int (p3).toInt32), .val (.int ((XT.ushrL p3 (Int8.ofInt 32).toInt32)).toInt32), .val (.int (p4).toInt32), .val (.int ((XT.ushrL p4 (Int8.ofInt 32).toInt32)).toInt32), .val (.int (p5).toInt32), .val (.int ((XT.ushrL p5 (Int8.ofInt 32).toInt32)).toInt32), .val (.ref a365), .val (.ref a390), .val (.ref a423), .val (.int (1 : Int32))] [(.int ([(p3).toInt32, ((XT.ushrL p3 (Int8.ofInt 32).toInt32)).toInt32, (p4).toInt32, ((XT.ushrL p4 (Int8.ofInt 32).toInt32)).toInt32, (p5).toInt32, ((XT.ushrL p5 (Int8.ofInt 32).toInt32)).toInt32].getD (k + 0) 0))]
    refine go_run K 117 2 (pc' := 205) (st' := [(.int k.toInt32), (.ref a365), (.int ([(p3).toInt32, ((XT.ushrL p3 (Int8.ofInt 32).toInt32)).toInt32, (p4).toInt32, ((XT.ushrL p4 (Int8.ofInt 32).toInt32)).toInt32, (p5).toInt32, ((XT.ushrL p5 (Int8.ofInt 32).toInt32)).toInt32].getD (k + 0) 0))]) rfl ?_
    refine go_iaload K (k := 119) rfl c455 ⟨len_nn (by omega), len_lt (n := 6) (by decide) (by omega)⟩ (v := .int ([(p3).toInt32, ((XT.ushrL p3 (Int8.ofInt 32).toInt32)).toInt32, (p4).toInt32, ((XT.ushrL p4 (Int8.ofInt 32).toInt32)).toInt32, (p5).toInt32, ((XT.ushrL p5 (Int8.ofInt 32).toInt32)).toInt32].getD (k + 0) 0)) (by rw [len_nat (by omega)]; exact st_get (xs := [(p3).toInt32, ((XT.ushrL p3 (Int8.ofInt 32).toInt32)).toInt32, (p4).toInt32, ((XT.ushrL p4 (Int8.ofInt 32).toInt32)).toInt32, (p5).toInt32, ((XT.ushrL p5 (Int8.ofInt 32).toInt32)).toInt32]) (by show k < 6; omega)) ?_
    refine go_icmpne K (k := 120) rfl (pc' := 213) (by decide) (fun q => absurd rfl q) (fun _ => ?_)
    refine go_run K 121 2 (pc' := 214) (st' := [(.int (1 : Int32))]) rfl ?_
    refine go_run K 124 1 (pc' := 216) (st' := []) rfl ?_
    refine go_run K 125 1 (pc' := 218) (st' := [(.int (1 : Int32))]) rfl ?_
    refine go_ifeq K (k := 126) rfl (pc' := 247) (by decide) (fun q => absurd q (by decide)) (fun _ => ?_)
    refine go_run K 127 2 (pc' := 224) (st' := [(.int (1 : Int32)), (.int (4 : Int32))]) rfl ?_
    refine go_icmple K (k := 129) rfl (pc' := 243) (by decide) (fun q => absurd (by decide) q) (fun _ => ?_)
    refine go_run K 130 2 (pc' := 230) (st' := [(.int (1 : Int32)), (.ref a423)]) rfl ?_
    refine go_virt0 K (k := 132) rfl (H.w 366 rfl) (H.w 369 rfl) (H.w 368 rfl) (H.w 251 rfl) (H.w 370 rfl) (by decide) pd_30 c452 (c_rd (i := (1 : Int32)) (y := ([(p3).toInt32, ((XT.ushrL p3 (Int8.ofInt 32).toInt32)).toInt32, (p4).toInt32, ((XT.ushrL p4 (Int8.ofInt 32).toInt32)).toInt32, (p5).toInt32, ((XT.ushrL p5 (Int8.ofInt 32).toInt32)).toInt32].getD (k + 1) 0)) (z := (4 : Int32)) H c453 A451 (by decide) (rst_get (xs := [(p3).toInt32, ((XT.ushrL p3 (Int8.ofInt 32).toInt32)).toInt32, (p4).toInt32, ((XT.ushrL p4 (Int8.ofInt 32).toInt32)).toInt32, (p5).toInt32, ((XT.ushrL p5 (Int8.ofInt 32).toInt32)).toInt32]) (k := k) (n := 4) (i := 1) (by show k + 4 ≤ 6; omega) (by decide))) (argsL := [(.int (1 : Int32))]) (rest := []) rfl rfl rfl sub0 rfl ?_
    rintro _ _ _ - ⟨rfl, rfl⟩
    show Go G B M_law _ h449 (a423 :: (a390 :: (a365 :: []))) 17 89 233 #[.val (.int p0), .val (.int p1), .val (.int p2), .val (.long p3), .second, .val (.long p4), .second, .val (.long p5), .second, .val (.int (4 : Int32)), .val (.int k.toInt32), .val (.int (p3).toInt32), .val (.int ((XT.ushrL p3 (Int8.ofInt 32).toInt32)).toInt32), .val (.int (p4).toInt32), .val (.int ((XT.ushrL p4 (Int8.ofInt 32).toInt32)).toInt32), .val (.int (p5).toInt32), .val (.int ((XT.ushrL p5 (Int8.ofInt 32).toInt32)).toInt32), .val (.ref a365), .val (.ref a390), .val (.ref a423), .val (.int (1 : Int32))] [(.int ([(p3).toInt32, ((XT.ushrL p3 (Int8.ofInt 32).toInt32)).toInt32, (p4).toInt32, ((XT.ushrL p4 (Int8.ofInt 32).toInt32)).toInt32, (p5).toInt32, ((XT.ushrL p5 (Int8.ofInt 32).toInt32)).toInt32].getD (k + 1) 0))]
    refine go_run K 133 4 (pc' := 239) (st' := [(.int (k.toInt32 + (1 : Int32))), (.ref a365), (.int ([(p3).toInt32, ((XT.ushrL p3 (Int8.ofInt 32).toInt32)).toInt32, (p4).toInt32, ((XT.ushrL p4 (Int8.ofInt 32).toInt32)).toInt32, (p5).toInt32, ((XT.ushrL p5 (Int8.ofInt 32).toInt32)).toInt32].getD (k + 1) 0))]) rfl ?_
    rw [show k.toInt32 + (1 : Int32) = (k + 1).toInt32 from add_len k 1]
    refine go_iaload K (k := 137) rfl c455 ⟨len_nn (by omega), len_lt (n := 6) (by decide) (by omega)⟩ (v := .int ([(p3).toInt32, ((XT.ushrL p3 (Int8.ofInt 32).toInt32)).toInt32, (p4).toInt32, ((XT.ushrL p4 (Int8.ofInt 32).toInt32)).toInt32, (p5).toInt32, ((XT.ushrL p5 (Int8.ofInt 32).toInt32)).toInt32].getD (k + 1) 0)) (by rw [len_nat (by omega)]; exact st_get (xs := [(p3).toInt32, ((XT.ushrL p3 (Int8.ofInt 32).toInt32)).toInt32, (p4).toInt32, ((XT.ushrL p4 (Int8.ofInt 32).toInt32)).toInt32, (p5).toInt32, ((XT.ushrL p5 (Int8.ofInt 32).toInt32)).toInt32]) (by show (k + 1) < 6; omega)) ?_
    refine go_icmpne K (k := 138) rfl (pc' := 247) (by decide) (fun q => absurd rfl q) (fun _ => ?_)
    refine go_run K 139 2 (pc' := 248) (st' := [(.int (1 : Int32))]) rfl ?_
    refine go_run K 142 1 (pc' := 250) (st' := []) rfl ?_
    refine go_run K 143 1 (pc' := 252) (st' := [(.int (1 : Int32))]) rfl ?_
    refine go_ifeq K (k := 144) rfl (pc' := 281) (by decide) (fun q => absurd q (by decide)) (fun _ => ?_)
    refine go_run K 145 2 (pc' := 258) (st' := [(.int (2 : Int32)), (.int (4 : Int32))]) rfl ?_
    refine go_icmple K (k := 147) rfl (pc' := 277) (by decide) (fun q => absurd (by decide) q) (fun _ => ?_)
    refine go_run K 148 2 (pc' := 264) (st' := [(.int (2 : Int32)), (.ref a423)]) rfl ?_
    refine go_virt0 K (k := 150) rfl (H.w 366 rfl) (H.w 369 rfl) (H.w 368 rfl) (H.w 251 rfl) (H.w 370 rfl) (by decide) pd_30 c452 (c_rd (i := (2 : Int32)) (y := ([(p3).toInt32, ((XT.ushrL p3 (Int8.ofInt 32).toInt32)).toInt32, (p4).toInt32, ((XT.ushrL p4 (Int8.ofInt 32).toInt32)).toInt32, (p5).toInt32, ((XT.ushrL p5 (Int8.ofInt 32).toInt32)).toInt32].getD (k + 2) 0)) (z := (4 : Int32)) H c453 A451 (by decide) (rst_get (xs := [(p3).toInt32, ((XT.ushrL p3 (Int8.ofInt 32).toInt32)).toInt32, (p4).toInt32, ((XT.ushrL p4 (Int8.ofInt 32).toInt32)).toInt32, (p5).toInt32, ((XT.ushrL p5 (Int8.ofInt 32).toInt32)).toInt32]) (k := k) (n := 4) (i := 2) (by show k + 4 ≤ 6; omega) (by decide))) (argsL := [(.int (2 : Int32))]) (rest := []) rfl rfl rfl sub0 rfl ?_
    rintro _ _ _ - ⟨rfl, rfl⟩
    show Go G B M_law _ h449 (a423 :: (a390 :: (a365 :: []))) 17 89 267 #[.val (.int p0), .val (.int p1), .val (.int p2), .val (.long p3), .second, .val (.long p4), .second, .val (.long p5), .second, .val (.int (4 : Int32)), .val (.int k.toInt32), .val (.int (p3).toInt32), .val (.int ((XT.ushrL p3 (Int8.ofInt 32).toInt32)).toInt32), .val (.int (p4).toInt32), .val (.int ((XT.ushrL p4 (Int8.ofInt 32).toInt32)).toInt32), .val (.int (p5).toInt32), .val (.int ((XT.ushrL p5 (Int8.ofInt 32).toInt32)).toInt32), .val (.ref a365), .val (.ref a390), .val (.ref a423), .val (.int (1 : Int32))] [(.int ([(p3).toInt32, ((XT.ushrL p3 (Int8.ofInt 32).toInt32)).toInt32, (p4).toInt32, ((XT.ushrL p4 (Int8.ofInt 32).toInt32)).toInt32, (p5).toInt32, ((XT.ushrL p5 (Int8.ofInt 32).toInt32)).toInt32].getD (k + 2) 0))]
    refine go_run K 151 4 (pc' := 273) (st' := [(.int (k.toInt32 + (2 : Int32))), (.ref a365), (.int ([(p3).toInt32, ((XT.ushrL p3 (Int8.ofInt 32).toInt32)).toInt32, (p4).toInt32, ((XT.ushrL p4 (Int8.ofInt 32).toInt32)).toInt32, (p5).toInt32, ((XT.ushrL p5 (Int8.ofInt 32).toInt32)).toInt32].getD (k + 2) 0))]) rfl ?_
    rw [show k.toInt32 + (2 : Int32) = (k + 2).toInt32 from add_len k 2]
    refine go_iaload K (k := 155) rfl c455 ⟨len_nn (by omega), len_lt (n := 6) (by decide) (by omega)⟩ (v := .int ([(p3).toInt32, ((XT.ushrL p3 (Int8.ofInt 32).toInt32)).toInt32, (p4).toInt32, ((XT.ushrL p4 (Int8.ofInt 32).toInt32)).toInt32, (p5).toInt32, ((XT.ushrL p5 (Int8.ofInt 32).toInt32)).toInt32].getD (k + 2) 0)) (by rw [len_nat (by omega)]; exact st_get (xs := [(p3).toInt32, ((XT.ushrL p3 (Int8.ofInt 32).toInt32)).toInt32, (p4).toInt32, ((XT.ushrL p4 (Int8.ofInt 32).toInt32)).toInt32, (p5).toInt32, ((XT.ushrL p5 (Int8.ofInt 32).toInt32)).toInt32]) (by show (k + 2) < 6; omega)) ?_
    refine go_icmpne K (k := 156) rfl (pc' := 281) (by decide) (fun q => absurd rfl q) (fun _ => ?_)
    refine go_run K 157 2 (pc' := 282) (st' := [(.int (1 : Int32))]) rfl ?_
    refine go_run K 160 1 (pc' := 284) (st' := []) rfl ?_
    refine go_run K 161 1 (pc' := 286) (st' := [(.int (1 : Int32))]) rfl ?_
    refine go_ifeq K (k := 162) rfl (pc' := 315) (by decide) (fun q => absurd q (by decide)) (fun _ => ?_)
    refine go_run K 163 2 (pc' := 292) (st' := [(.int (3 : Int32)), (.int (4 : Int32))]) rfl ?_
    refine go_icmple K (k := 165) rfl (pc' := 311) (by decide) (fun q => absurd (by decide) q) (fun _ => ?_)
    refine go_run K 166 2 (pc' := 298) (st' := [(.int (3 : Int32)), (.ref a423)]) rfl ?_
    refine go_virt0 K (k := 168) rfl (H.w 366 rfl) (H.w 369 rfl) (H.w 368 rfl) (H.w 251 rfl) (H.w 370 rfl) (by decide) pd_30 c452 (c_rd (i := (3 : Int32)) (y := ([(p3).toInt32, ((XT.ushrL p3 (Int8.ofInt 32).toInt32)).toInt32, (p4).toInt32, ((XT.ushrL p4 (Int8.ofInt 32).toInt32)).toInt32, (p5).toInt32, ((XT.ushrL p5 (Int8.ofInt 32).toInt32)).toInt32].getD (k + 3) 0)) (z := (4 : Int32)) H c453 A451 (by decide) (rst_get (xs := [(p3).toInt32, ((XT.ushrL p3 (Int8.ofInt 32).toInt32)).toInt32, (p4).toInt32, ((XT.ushrL p4 (Int8.ofInt 32).toInt32)).toInt32, (p5).toInt32, ((XT.ushrL p5 (Int8.ofInt 32).toInt32)).toInt32]) (k := k) (n := 4) (i := 3) (by show k + 4 ≤ 6; omega) (by decide))) (argsL := [(.int (3 : Int32))]) (rest := []) rfl rfl rfl sub0 rfl ?_
    rintro _ _ _ - ⟨rfl, rfl⟩
    show Go G B M_law _ h449 (a423 :: (a390 :: (a365 :: []))) 17 89 301 #[.val (.int p0), .val (.int p1), .val (.int p2), .val (.long p3), .second, .val (.long p4), .second, .val (.long p5), .second, .val (.int (4 : Int32)), .val (.int k.toInt32), .val (.int (p3).toInt32), .val (.int ((XT.ushrL p3 (Int8.ofInt 32).toInt32)).toInt32), .val (.int (p4).toInt32), .val (.int ((XT.ushrL p4 (Int8.ofInt 32).toInt32)).toInt32), .val (.int (p5).toInt32), .val (.int ((XT.ushrL p5 (Int8.ofInt 32).toInt32)).toInt32), .val (.ref a365), .val (.ref a390), .val (.ref a423), .val (.int (1 : Int32))] [(.int ([(p3).toInt32, ((XT.ushrL p3 (Int8.ofInt 32).toInt32)).toInt32, (p4).toInt32, ((XT.ushrL p4 (Int8.ofInt 32).toInt32)).toInt32, (p5).toInt32, ((XT.ushrL p5 (Int8.ofInt 32).toInt32)).toInt32].getD (k + 3) 0))]
    refine go_run K 169 4 (pc' := 307) (st' := [(.int (k.toInt32 + (3 : Int32))), (.ref a365), (.int ([(p3).toInt32, ((XT.ushrL p3 (Int8.ofInt 32).toInt32)).toInt32, (p4).toInt32, ((XT.ushrL p4 (Int8.ofInt 32).toInt32)).toInt32, (p5).toInt32, ((XT.ushrL p5 (Int8.ofInt 32).toInt32)).toInt32].getD (k + 3) 0))]) rfl ?_
    rw [show k.toInt32 + (3 : Int32) = (k + 3).toInt32 from add_len k 3]
    refine go_iaload K (k := 173) rfl c455 ⟨len_nn (by omega), len_lt (n := 6) (by decide) (by omega)⟩ (v := .int ([(p3).toInt32, ((XT.ushrL p3 (Int8.ofInt 32).toInt32)).toInt32, (p4).toInt32, ((XT.ushrL p4 (Int8.ofInt 32).toInt32)).toInt32, (p5).toInt32, ((XT.ushrL p5 (Int8.ofInt 32).toInt32)).toInt32].getD (k + 3) 0)) (by rw [len_nat (by omega)]; exact st_get (xs := [(p3).toInt32, ((XT.ushrL p3 (Int8.ofInt 32).toInt32)).toInt32, (p4).toInt32, ((XT.ushrL p4 (Int8.ofInt 32).toInt32)).toInt32, (p5).toInt32, ((XT.ushrL p5 (Int8.ofInt 32).toInt32)).toInt32]) (by show (k + 3) < 6; omega)) ?_
    refine go_icmpne K (k := 174) rfl (pc' := 315) (by decide) (fun q => absurd rfl q) (fun _ => ?_)
    refine go_run K 175 2 (pc' := 316) (st' := [(.int (1 : Int32))]) rfl ?_
    refine go_run K 178 1 (pc' := 318) (st' := []) rfl ?_
    refine go_run K 179 1 (pc' := 320) (st' := [(.int (1 : Int32))]) rfl ?_
    refine go_ireturn K (k := 180) rfl rfl (by decide) rfl rfl rfl ?_
    intro Sf hSf
    exact rfl
set_option maxRecDepth 65536 in
set_option maxHeartbeats 40000000 in
theorem comes_1 {Post : Tables → Env → Array Value → State → Outcome → State → Prop} (hpost : ∀ tb e args s v u, (limb_1_1.after args s (.returned v) u = true ∧ limb_1_2.after args s (.returned v) u = true ∧ True) → ReturnedEndW s (.returned v) u (Jvm.fieldLocs frame_1_writes args s ++ Jvm.arrayLocs frame_1_arrays args s ++ Jvm.staticLocs frame_1_statics s) 40 2304 → Post tb e args s (.returned v) u) :
    ArmFor flags0 classFile x code maxLocals ret World_1 tables_1 room_1 Calls_1 rest_1 Pre_1 Post := by
  intro l hfl _ _ p e ha hc hk s m args below hf hA hF happ hP
  obtain ⟨hcalls, hrest, hpre⟩ := hP
  obtain ⟨-, -, -, hnamed, -, -, -, hat⟩ := (Spec.applies_iff hf).mp happ
  obtain ⟨hg, hn⟩ := and_e (Cond.before_iff.mp (show (Jvm.Cond.and given_1 narrow_1).before args s = true from hpre))
  obtain ⟨hcnt, hz0⟩ := and_e hg
  obtain ⟨hi0, hz1⟩ := and_e hz0
  obtain ⟨hi1, hz2⟩ := and_e hz1
  obtain ⟨hi2, hz3⟩ := and_e hz2
  obtain ⟨hi3, hz4⟩ := and_e hz3
  obtain ⟨hi4, hz5⟩ := and_e hz4
  have hi5 := hz5
  obtain ⟨w0, w1, w2, w3, w4, w5, rfl⟩ : ∃ w0 w1 w2 w3 w4 w5 : Value, args = #[w0, w1, w2, w3, w4, w5] := by
    have hs : args.size = 6 := by simpa [Cond.value, given_1] using hcnt
    obtain ⟨L⟩ := args
    match L, hs with
    | [w0, w1, w2, w3, w4, w5], _ => exact ⟨w0, w1, w2, w3, w4, w5, rfl⟩
  have hw := fun d (hd : d ∈ tables_1) => atoms_spec (ws := Jvm.Cond.code x code maxLocals ret :: tables_1) hat d (List.mem_cons_of_mem _ hd)
  obtain ⟨hsets, hown0⟩ := atoms_of _ (rest_1_c_eq ▸ (show rest_1_c.before _ s = true from hrest))
  obtain ⟨i0, e0⟩ := is_v hi0
  obtain rfl : w0 = (.int i0) := Option.some.inj e0
  obtain ⟨i1, e1⟩ := is_v hi1
  obtain rfl : w1 = (.int i1) := Option.some.inj e1
  obtain ⟨i2, e2⟩ := is_v hi2
  obtain rfl : w2 = (.int i2) := Option.some.inj e2
  obtain ⟨i3, e3⟩ := isL_v hi3
  obtain rfl : w3 = (.long i3) := Option.some.inj e3
  obtain ⟨i4, e4⟩ := isL_v hi4
  obtain rfl : w4 = (.long i4) := Option.some.inj e4
  obtain ⟨i5, e5⟩ := isL_v hi5
  obtain rfl : w5 = (.long i5) := Option.some.inj e5
  have nz := not_v (Cond.before_iff.mp (hsets _ (List.mem_of_getElem? (i := 11) rfl)))
  obtain ⟨cz, ecz⟩ := is_v (Cond.before_iff.mp (hsets _ (List.mem_of_getElem? (i := 10) rfl)))
  have Scz : Sta s s.heap "java/lang/String" "COMPACT_STRINGS" "Z" (.int cz) := Sta.start ecz (Or.inl (hsets _ (List.mem_of_getElem? (i := 9) rfl)))
  have hcz : ¬ (cz = (0 : Int32)) := gotF (Cond.eq_ints ecz (Term.int_eval (0))) nz
  have hEW : EW s #[(.int i0), (.int i1), (.int i2), (.long i3), (.long i4), (.long i5)] els := by
    exact (EW.cons (hw _ (List.mem_of_getElem? (i := 34) rfl)) (by decide) (EW.cons (hw _ (List.mem_of_getElem? (i := 50) rfl)) (by decide) EW.nil))
  have hCH : CHv s els s.vm s.heap := CHv.start hEW (fun p hp => hcalls.1 p hp) (hsets _ (List.mem_of_getElem? (i := 11) rfl)) (hw _ (List.mem_of_getElem? (i := 37) rfl)) (hw _ (List.mem_of_getElem? (i := 36) rfl))
  have H : Gl tables_1 els (l, s, #[(.int i0), (.int i1), (.int i2), (.long i3), (.long i4), (.long i5)], els) := ⟨hw, rfl, hEW, fun d hd => hw d ((by decide +kernel : ∀ d ∈ Bundle.stringAtoms, d ∈ tables_1) d hd), cz, Scz, hcz⟩
  obtain ⟨vf0, evf0, hvf0⟩ := isR_v (Cond.before_iff.mp (hsets _ (List.mem_of_getElem? (i := 17) rfl)))
  have hF0 : ∃ vf : Value, Sta s s.heap "jdk/internal/util/Preconditions" "SIOOBE_FORMATTER" "Ljava/util/function/BiFunction;" vf ∧ vf.isRef = true := ⟨vf0, Sta.start evf0 (Or.inl (hsets _ (List.mem_of_getElem? (i := 16) rfl))), hvf0⟩
  have hFit : Fit s := by intro x c hc i hi; exact (Jvm.heapFits'_iff s).mp hF x c hc i _ (Array.getElem?_eq_getElem hi)
  have nA := Cond.before_iff.mp (hsets _ (List.mem_of_getElem? (i := 6) rfl))
  have nL := Cond.before_iff.mp (hsets _ (List.mem_of_getElem? (i := 8) rfl))
  obtain ⟨ed, evD⟩ := arr_v nA
  have sE := Sta.start evD (Or.inr ⟨hw _ (List.mem_of_getElem? (i := 10) rfl), hsets _ (List.mem_of_getElem? (i := 2) rfl)⟩)
  obtain ⟨ke, aE⟩ := arr0_start (args := #[(.int i0), (.int i1), (.int i2), (.long i3), (.long i4), (.long i5)]) (G := (l, s, #[(.int i0), (.int i1), (.int i2), (.long i3), (.long i4), (.long i5)], els)) hFit evD nA (eqv_i (Term.int_eval (0)) nL)
  obtain ⟨n, o, k1, k2, k3, v, L, rfl, ⟨rfl, N, hext⟩, hC, hq⟩ := law_ok (G := (l, s, #[(.int i0), (.int i1), (.int i2), (.long i3), (.long i4), (.long i5)], els)) H sE aE p e ha hc hk s m _ below hf ((Spec.applies_iff_loose hf).mp happ).1 ⟨rfl, State.Warmed39.refl s, rfl, hCH, Ext.rf _, fun _ q => nomatch q⟩ trivial
  refine ⟨n, _, k1, k2, k3, hpost _ _ _ _ _ _ ⟨Cond.after_iff.mpr rfl, Cond.after_iff.mpr (eq_i res_at (Term.int_eval (1)) rfl), trivial⟩ ?_⟩
  obtain ⟨q1, q2, q3, q4⟩ := hq
  exact ⟨q1, q2, q3, (q4.sift fun y hy => Or.inr (N y hy)).mono (by decide) (by decide)⟩
theorem main_1_1 : Claimed_1_1 := comes_1 fun _ _ _ _ _ _ h hF => ⟨h.1, hF⟩
theorem main_1_2 : Claimed_1_2 := comes_1 fun _ _ _ _ _ _ h hF => ⟨h.2.1, hF⟩
end Jvm.Pilot.@@N@@
namespace Jvm.Pilot.@@N@@
open Jvm Jvm.ClassFile Sem Op Lib Jvm.Free Jvm.Stand Jvm.Pilot.@@N@@.Jvm.D
/-! MADE BY PROGRAM (witnessworld.py) out of the Statement's table words and the real class files: 40 classes; the members and pool entries that the words name. The judged class is class 1, her method 1. -/
namespace start1
open Jvm.ClassFile
def u (s : String) : CpInfo := .utf8 (stringToUtf16 s)
/-- a pool by its gaps: so many unusable entries, then the entry; so many at the end -/
def gap : Nat → List CpInfo → List CpInfo
  | 0, r => r
  | n + 1, r => .unusable :: gap n r
def poolList (es : List (Nat × CpInfo)) (last : Nat) : List CpInfo := es.foldr (fun e r => gap e.1 (e.2 :: r)) (gap last [])
def pool (es : List (Nat × CpInfo)) (last : Nat) : Array CpInfo := ⟨poolList es last⟩
def fileOf (pool : Array CpInfo) (this : Nat) (attrs : Array Attribute := #[]) (ms : Array MethodInfo := #[]) (fl : Nat := 33) (sup : Nat := 0) (ifs : Array Nat := #[]) (fds : Array FieldInfo := #[]) : ClassFile where
  minorVersion := 0
  majorVersion := 65
  constantPool := pool
  accessFlags := fl
  thisClass := this
  superClass := sup
  interfaces := ifs
  fields := fds
  methods := ms
  attributes := attrs
def plain (name : String) (sup : Option ClassId) : Class where
  name := name
  kind := .ordinary
  loader := none
  accessFlags := 33
  super := sup
  interfaces := #[]
  cf := none
  fields := #[]
  methods := #[]
  instanceTypes := #[]
  staticTypes := #[]
  resolved := #[]
  callSites := []
  init := .initialized
  statics := none
  mirror := none

def pool0 : Array CpInfo := pool [(5, u "<init>"), (0, u "()V"), (1, .class_ 10), (1, u "java/lang/Object")] 113

def k0c0 : Code := { maxStack := 0, maxLocals := 1, code := object_method_1_code, exceptionTable := #[], attributes := #[] }
def k0m0 : Method := { name := "<init>", desc := "()V", sig := { parameters := [], returnType := none }, accessFlags := 1, code := some k0c0 }
/-- java/lang/Object -/
def k0 : Class := { plain "java/lang/Object" none with
  accessFlags := 33
  interfaces := #[]
  cf := some (fileOf pool0 8 #[] #[{ accessFlags := 1, nameIndex := 5, descriptorIndex := 6, attributes := #[] }] 33 0 #[] #[])
  fields := #[]
  methods := #[k0m0]
  instanceTypes := #[]
  staticTypes := #[]
  resolved := Array.replicate 124 none
  statics := none }

def pool1 : Array CpInfo := pool [(2, .class_ 4), (0, .nameAndType 5 6), (0, u "java/lang/Object"), (0, u "<init>"), (0, u "()V"), (0, .integer 2147483647), (0, .class_ 9), (0, u "com/example/foyer/foyer/Layout"), (0, .methodref 8 3), (0, .string 12), (0, u "r"), (0, .methodref 8 14), (0, .nameAndType 15 16), (0, u "array"), (0, u "(Ljava/lang/String;III)Lcom/example/foyer/foyer/Layout$RegisterArray;"), (0, .class_ 18), (0, u "com/example/foyer/foyer/PlainRegisters"), (0, .methodref 17 20), (0, .nameAndType 5 21), (0, u "(Lcom/example/foyer/foyer/Layout;)V"), (0, .methodref 17 23), (0, .nameAndType 24 25), (0, u "restore"), (0, u "([II)V"), (0, .methodref 17 27), (0, .nameAndType 28 29), (0, u "size"), (0, u "()I"), (0, .methodref 31 32), (0, .class_ 33), (0, .nameAndType 34 35), (0, u "com/example/foyer/foyer/PlainRegistersRestorePinLaw"), (0, u "unchanged"), (0, u "([IIIIIII)Z"), (0, .methodref 17 37), (0, .nameAndType 38 39), (0, u "read"), (0, u "(I)I"), (2, u "law"), (0, u "(IIIJJJ)Z")] 9

def k1m0 : Method := { name := "<init>", desc := "()V", sig := { parameters := [], returnType := none }, accessFlags := 1, code := none }
def k1c1 : Code := { maxStack := 7, maxLocals := 21, code := code, exceptionTable := #[], attributes := #[] }
def k1m1 : Method := { name := "law", desc := "(IIIJJJ)Z", sig := { parameters := [.int, .int, .int, .long, .long, .long], returnType := some .boolean }, accessFlags := 9, code := some k1c1 }
def k1c2 : Code := { maxStack := 2, maxLocals := 7, code := method_3_code, exceptionTable := #[], attributes := #[] }
def k1m2 : Method := { name := "unchanged", desc := "([IIIIIII)Z", sig := { parameters := [(.array .int), .int, .int, .int, .int, .int, .int], returnType := some .boolean }, accessFlags := 10, code := some k1c2 }
/-- com/example/foyer/foyer/PlainRegistersRestorePinLaw -/
def k1 : Class := { plain "com/example/foyer/foyer/PlainRegistersRestorePinLaw" (some 0) with
  accessFlags := 49
  interfaces := #[]
  cf := some (fileOf pool1 31 #[] #[{ accessFlags := 1, nameIndex := 5, descriptorIndex := 6, attributes := #[] }, { accessFlags := 9, nameIndex := 42, descriptorIndex := 43, attributes := #[] }, { accessFlags := 10, nameIndex := 34, descriptorIndex := 35, attributes := #[] }] 49 2 #[] #[])
  fields := #[]
  methods := #[k1m0, k1m1, k1m2]
  instanceTypes := #[]
  staticTypes := #[]
  resolved := Array.replicate 53 none
  statics := none }

def pool2 : Array CpInfo := pool [(1, .class_ 2), (0, u "java/util/ArrayList"), (0, .methodref 1 4), (0, .nameAndType 5 6), (0, u "<init>"), (0, u "()V"), (0, .string 8), (0, u ""), (0, .methodref 10 11), (0, .class_ 12), (0, .nameAndType 5 13), (0, u "com/example/foyer/foyer/Layout"), (0, u "(Ljava/util/List;Ljava/lang/String;)V"), (0, .methodref 15 4), (0, .class_ 16), (0, u "java/lang/Object"), (0, .fieldref 10 18), (0, .nameAndType 19 20), (0, u "declared"), (0, u "Ljava/util/List;"), (0, .fieldref 10 22), (0, .nameAndType 23 24), (0, u "prefix"), (0, u "Ljava/lang/String;"), (0, .class_ 26), (0, u "java/lang/StringBuilder"), (0, .methodref 25 4), (0, .methodref 25 29), (0, .nameAndType 30 31), (0, u "append"), (0, u "(Ljava/lang/String;)Ljava/lang/StringBuilder;"), (0, .methodref 25 33), (0, .nameAndType 34 35), (0, u "toString"), (0, u "()Ljava/lang/String;"), (1, .nameAndType 38 39), (0, u "applyAsInt"), (0, u "(I)Ljava/util/function/IntUnaryOperator;"), (0, .methodref 10 41), (0, .nameAndType 42 43), (0, u "declare"), (0, u "(Ljava/lang/String;IILjava/util/function/IntUnaryOperator;Z)Lcom/example/foyer/foyer/Layout$RegisterArray;"), (1, .class_ 47), (1, u "com/example/foyer/foyer/Layout$RegisterArray"), (1, u "(I)I"), (0, .invokeDynamic 1 37), (0, .methodref 10 52), (0, .nameAndType 53 54), (0, u "array"), (0, u "(Ljava/lang/String;IILjava/util/function/IntUnaryOperator;)Lcom/example/foyer/foyer/Layout$RegisterArray;"), (0, .methodref 10 56), (0, .nameAndType 57 58), (0, u "size"), (0, u "()I"), (0, .interfaceMethodref 60 61), (0, .class_ 62), (0, .nameAndType 63 64), (0, u "java/util/List"), (0, u "iterator"), (0, u "()Ljava/util/Iterator;"), (0, .interfaceMethodref 66 67), (0, .class_ 68), (0, .nameAndType 69 70), (0, u "java/util/Iterator"), (0, u "hasNext"), (0, u "()Z"), (0, .interfaceMethodref 66 72), (0, .nameAndType 73 74), (0, u "next"), (0, u "()Ljava/lang/Object;"), (0, .fieldref 45 76), (0, .nameAndType 77 78), (0, u "length"), (0, u "I"), (0, .fieldref 45 80), (0, .nameAndType 81 78), (0, u "base"), (0, .fieldref 45 83), (0, .nameAndType 84 85), (0, u "initial"), (0, u "Ljava/util/function/IntUnaryOperator;"), (0, .fieldref 45 87), (0, .nameAndType 88 78), (0, u "first"), (0, .interfaceMethodref 90 91), (0, .class_ 92), (0, .nameAndType 38 49), (0, u "java/util/function/IntUnaryOperator"), (18, .interfaceMethodref 60 112), (0, .nameAndType 113 70), (0, u "isEmpty"), (0, .interfaceMethodref 60 56), (0, .interfaceMethodref 60 116), (0, .nameAndType 117 118), (0, u "get"), (0, u "(I)Ljava/lang/Object;"), (0, .methodref 45 120), (0, .nameAndType 5 121), (0, u "(Ljava/lang/String;IIILjava/util/function/IntUnaryOperator;Z)V"), (0, .interfaceMethodref 60 123), (0, .nameAndType 124 125), (0, u "add"), (0, u "(Ljava/lang/Object;)Z"), (5, u "(II)I"), (9, u "(Ljava/lang/String;III)Lcom/example/foyer/foyer/Layout$RegisterArray;"), (0, u "initialValues"), (0, u "()[I"), (6, u "lambda$array$1"), (5, .methodType 49), (3, .methodHandle 6 161), (0, .methodref 10 162), (0, .nameAndType 150 131), (0, .methodHandle 6 164), (0, .methodref 165 166), (0, .class_ 167), (0, .nameAndType 168 169), (0, u "java/lang/invoke/LambdaMetafactory"), (0, u "metafactory"), (0, u "(Ljava/lang/invoke/MethodHandles$Lookup;Ljava/lang/String;Ljava/lang/invoke/MethodType;Ljava/lang/invoke/MethodType;Ljava/lang/invoke/MethodHandle;Ljava/lang/invoke/MethodType;)Ljava/lang/invoke/CallSite;")] 7

def k2c0 : Code := { maxStack := 3, maxLocals := 1, code := prog_33_method_1_code, exceptionTable := #[], attributes := #[] }
def k2m0 : Method := { name := "<init>", desc := "()V", sig := { parameters := [], returnType := none }, accessFlags := 0, code := some k2c0 }
def k2c1 : Code := { maxStack := 2, maxLocals := 3, code := prog_33_method_2_code, exceptionTable := #[], attributes := #[] }
def k2m1 : Method := { name := "<init>", desc := "(Ljava/util/List;Ljava/lang/String;)V", sig := { parameters := [(.object "java/util/List"), (.object "java/lang/String")], returnType := none }, accessFlags := 2, code := some k2c1 }
def k2c2 : Code := { maxStack := 5, maxLocals := 5, code := prog_33_method_5_code, exceptionTable := #[], attributes := #[] }
def k2m2 : Method := { name := "array", desc := "(Ljava/lang/String;III)Lcom/example/foyer/foyer/Layout$RegisterArray;", sig := { parameters := [(.object "java/lang/String"), .int, .int, .int], returnType := some (.object "com/example/foyer/foyer/Layout$RegisterArray") }, accessFlags := 0, code := some k2c2 }
def k2c3 : Code := { maxStack := 6, maxLocals := 5, code := prog_33_method_6_code, exceptionTable := #[], attributes := #[] }
def k2m3 : Method := { name := "array", desc := "(Ljava/lang/String;IILjava/util/function/IntUnaryOperator;)Lcom/example/foyer/foyer/Layout$RegisterArray;", sig := { parameters := [(.object "java/lang/String"), .int, .int, (.object "java/util/function/IntUnaryOperator")], returnType := some (.object "com/example/foyer/foyer/Layout$RegisterArray") }, accessFlags := 0, code := some k2c3 }
def k2c4 : Code := { maxStack := 5, maxLocals := 5, code := prog_33_method_7_code, exceptionTable := #[], attributes := #[] }
def k2m4 : Method := { name := "initialValues", desc := "()[I", sig := { parameters := [], returnType := some (.array .int) }, accessFlags := 0, code := some k2c4 }
def k2c5 : Code := { maxStack := 3, maxLocals := 3, code := prog_33_method_9_code, exceptionTable := #[], attributes := #[] }
def k2m5 : Method := { name := "size", desc := "()I", sig := { parameters := [], returnType := some .int }, accessFlags := 2, code := some k2c5 }
def k2c6 : Code := { maxStack := 8, maxLocals := 7, code := prog_33_method_10_code, exceptionTable := #[], attributes := #[] }
def k2m6 : Method := { name := "declare", desc := "(Ljava/lang/String;IILjava/util/function/IntUnaryOperator;Z)Lcom/example/foyer/foyer/Layout$RegisterArray;", sig := { parameters := [(.object "java/lang/String"), .int, .int, (.object "java/util/function/IntUnaryOperator"), .boolean], returnType := some (.object "com/example/foyer/foyer/Layout$RegisterArray") }, accessFlags := 2, code := some k2c6 }
def k2c7 : Code := { maxStack := 1, maxLocals := 2, code := prog_33_method_12_code, exceptionTable := #[], attributes := #[] }
def k2m7 : Method := { name := "lambda$array$1", desc := "(II)I", sig := { parameters := [.int, .int], returnType := some .int }, accessFlags := 4106, code := some k2c7 }
/-- com/example/foyer/foyer/Layout -/
def k2 : Class := { plain "com/example/foyer/foyer/Layout" (some 0) with
  accessFlags := 48
  interfaces := #[]
  cf := some (fileOf pool2 10 #[.nestMembers #[45], .bootstrapMethods #[⟨0, #[]⟩, ⟨163, #[156, 160, 156]⟩]] #[{ accessFlags := 0, nameIndex := 5, descriptorIndex := 6, attributes := #[] }, { accessFlags := 2, nameIndex := 5, descriptorIndex := 13, attributes := #[] }, { accessFlags := 0, nameIndex := 53, descriptorIndex := 141, attributes := #[] }, { accessFlags := 0, nameIndex := 53, descriptorIndex := 54, attributes := #[] }, { accessFlags := 0, nameIndex := 142, descriptorIndex := 143, attributes := #[] }, { accessFlags := 2, nameIndex := 57, descriptorIndex := 58, attributes := #[] }, { accessFlags := 2, nameIndex := 42, descriptorIndex := 43, attributes := #[] }, { accessFlags := 4106, nameIndex := 150, descriptorIndex := 131, attributes := #[] }] 48 15 #[] #[{ accessFlags := 18, nameIndex := 19, descriptorIndex := 20, attributes := #[] }, { accessFlags := 18, nameIndex := 23, descriptorIndex := 24, attributes := #[] }])
  fields := #[{ name := "declared", type := (.object "java/util/List"), accessFlags := 18, slot := 0, constantValue := 0 }, { name := "prefix", type := (.object "java/lang/String"), accessFlags := 18, slot := 1, constantValue := 0 }]
  methods := #[k2m0, k2m1, k2m2, k2m3, k2m4, k2m5, k2m6, k2m7]
  instanceTypes := #[(.object "java/util/List"), (.object "java/lang/String")]
  staticTypes := #[]
  resolved := (((((((Array.replicate 177 none).setIfInBounds 119 (some (.method ⟨19, 0⟩))).setIfInBounds 45 (some (.cls 19))).setIfInBounds 79 (some (.field 19 1))).setIfInBounds 75 (some (.field 19 3))).setIfInBounds 82 (some (.field 19 4))).setIfInBounds 86 (some (.field 19 2)))
  callSites := [(2, 6, .makes 39)]
  statics := none }

def pool3 : Array CpInfo := pool [(8, .class_ 10), (1, u "java/lang/Iterable"), (24, .class_ 36), (0, u "java/lang/Object")] 25

/-- java/lang/Iterable -/
def k3 : Class := { plain "java/lang/Iterable" (some 0) with
  accessFlags := 1537
  interfaces := #[]
  cf := some (fileOf pool3 8 #[] #[] 1537 35 #[] #[])
  fields := #[]
  methods := #[]
  instanceTypes := #[]
  staticTypes := #[]
  resolved := Array.replicate 62 none
  statics := none }

def pool4 : Array CpInfo := pool [(10, .class_ 12), (1, u "java/util/Collection"), (47, .class_ 61), (0, u "java/lang/Object"), (0, .class_ 63), (0, u "java/lang/Iterable")] 51

/-- java/util/Collection -/
def k4 : Class := { plain "java/util/Collection" (some 0) with
  accessFlags := 1537
  interfaces := #[3]
  cf := some (fileOf pool4 10 #[] #[] 1537 60 #[62] #[])
  fields := #[]
  methods := #[]
  instanceTypes := #[]
  staticTypes := #[]
  resolved := Array.replicate 115 none
  statics := none }

def pool5 : Array CpInfo := pool [(1, .methodref 2 3), (0, .class_ 4), (0, .nameAndType 5 6), (0, u "java/lang/Object"), (0, u "<init>"), (0, u "()V"), (1, .class_ 10), (1, u "java/util/AbstractCollection"), (66, .class_ 78), (0, u "java/util/Collection")] 81

def k5c0 : Code := { maxStack := 1, maxLocals := 1, code := jdk_22_method_1_code, exceptionTable := #[], attributes := #[] }
def k5m0 : Method := { name := "<init>", desc := "()V", sig := { parameters := [], returnType := none }, accessFlags := 4, code := some k5c0 }
/-- java/util/AbstractCollection -/
def k5 : Class := { plain "java/util/AbstractCollection" (some 0) with
  accessFlags := 1057
  interfaces := #[4]
  cf := some (fileOf pool5 8 #[] #[{ accessFlags := 4, nameIndex := 5, descriptorIndex := 6, attributes := #[] }] 1057 2 #[77] #[])
  fields := #[]
  methods := #[k5m0]
  instanceTypes := #[]
  staticTypes := #[]
  resolved := Array.replicate 160 none
  statics := none }

def pool6 : Array CpInfo := pool [(8, .class_ 10), (1, u "java/util/SequencedCollection"), (15, .class_ 27), (0, u "java/lang/Object"), (0, .class_ 29), (0, u "java/util/Collection")] 27

/-- java/util/SequencedCollection -/
def k6 : Class := { plain "java/util/SequencedCollection" (some 0) with
  accessFlags := 1537
  interfaces := #[4]
  cf := some (fileOf pool6 8 #[] #[] 1537 26 #[28] #[])
  fields := #[]
  methods := #[]
  instanceTypes := #[]
  staticTypes := #[]
  resolved := Array.replicate 57 none
  statics := none }

def pool7 : Array CpInfo := pool [(8, .class_ 10), (1, u "java/util/List"), (7, u "()Z"), (41, u "add"), (3, u "(Ljava/lang/Object;)Z"), (2, u "isEmpty"), (7, u "get"), (0, u "(I)Ljava/lang/Object;"), (2, u "size"), (0, u "()I"), (22, .class_ 104), (0, u "java/lang/Object"), (15, .class_ 121), (0, u "java/util/SequencedCollection"), (1, u "iterator"), (0, u "()Ljava/util/Iterator;")] 126

def k7m0 : Method := { name := "size", desc := "()I", sig := { parameters := [], returnType := some .int }, accessFlags := 1025, code := none }
def k7m1 : Method := { name := "isEmpty", desc := "()Z", sig := { parameters := [], returnType := some .boolean }, accessFlags := 1025, code := none }
def k7m2 : Method := { name := "iterator", desc := "()Ljava/util/Iterator;", sig := { parameters := [], returnType := some (.object "java/util/Iterator") }, accessFlags := 1025, code := none }
def k7m3 : Method := { name := "add", desc := "(Ljava/lang/Object;)Z", sig := { parameters := [(.object "java/lang/Object")], returnType := some .boolean }, accessFlags := 1025, code := none }
def k7m4 : Method := { name := "get", desc := "(I)Ljava/lang/Object;", sig := { parameters := [.int], returnType := some (.object "java/lang/Object") }, accessFlags := 1025, code := none }
/-- java/util/List -/
def k7 : Class := { plain "java/util/List" (some 0) with
  accessFlags := 1537
  interfaces := #[6]
  cf := some (fileOf pool7 8 #[] #[{ accessFlags := 1025, nameIndex := 79, descriptorIndex := 80, attributes := #[] }, { accessFlags := 1025, nameIndex := 67, descriptorIndex := 18, attributes := #[] }, { accessFlags := 1025, nameIndex := 123, descriptorIndex := 124, attributes := #[] }, { accessFlags := 1025, nameIndex := 60, descriptorIndex := 64, attributes := #[] }, { accessFlags := 1025, nameIndex := 75, descriptorIndex := 76, attributes := #[] }] 1537 103 #[120] #[])
  fields := #[]
  methods := #[k7m0, k7m1, k7m2, k7m3, k7m4]
  instanceTypes := #[]
  staticTypes := #[]
  resolved := Array.replicate 251 none
  statics := none }

def pool8 : Array CpInfo := pool [(1, .methodref 2 3), (0, .class_ 4), (0, .nameAndType 5 6), (0, u "java/util/AbstractCollection"), (0, u "<init>"), (0, u "()V"), (0, .fieldref 8 9), (0, .class_ 10), (0, .nameAndType 11 12), (0, u "java/util/AbstractList"), (0, u "modCount"), (0, u "I"), (64, .class_ 78), (0, u "java/util/AbstractList$Itr"), (3, .class_ 83), (0, u "java/util/AbstractList$ListItr"), (9, .class_ 94), (0, u "java/util/AbstractList$RandomAccessSubList"), (3, .class_ 99), (0, u "java/util/AbstractList$SubList"), (33, .class_ 134), (0, u "java/util/List"), (73, .class_ 209), (0, u "java/util/AbstractList$SubList$1"), (0, .class_ 211), (0, u "java/util/AbstractList$RandomAccessSpliterator")] 6

def k8c0 : Code := { maxStack := 2, maxLocals := 1, code := jdk_39_method_1_code, exceptionTable := #[], attributes := #[] }
def k8m0 : Method := { name := "<init>", desc := "()V", sig := { parameters := [], returnType := none }, accessFlags := 4, code := some k8c0 }
/-- java/util/AbstractList -/
def k8 : Class := { plain "java/util/AbstractList" (some 5) with
  accessFlags := 1057
  interfaces := #[7]
  cf := some (fileOf pool8 8 #[.nestMembers #[93, 98, 208, 210, 82, 77]] #[{ accessFlags := 4, nameIndex := 5, descriptorIndex := 6, attributes := #[] }] 1057 2 #[133] #[{ accessFlags := 132, nameIndex := 11, descriptorIndex := 12, attributes := #[] }])
  fields := #[{ name := "modCount", type := .int, accessFlags := 132, slot := 0, constantValue := 0 }]
  methods := #[k8m0]
  instanceTypes := #[.int]
  staticTypes := #[]
  resolved := Array.replicate 218 none
  statics := none }

def pool9 : Array CpInfo := pool [(1, .class_ 2), (0, u "java/util/RandomAccess"), (0, .class_ 4), (0, u "java/lang/Object")] 2

/-- java/util/RandomAccess -/
def k9 : Class := { plain "java/util/RandomAccess" (some 0) with
  accessFlags := 1537
  interfaces := #[]
  cf := some (fileOf pool9 1 #[] #[] 1537 3 #[] #[])
  fields := #[]
  methods := #[]
  instanceTypes := #[]
  staticTypes := #[]
  resolved := Array.replicate 7 none
  statics := none }

def pool10 : Array CpInfo := pool [(1, .class_ 2), (0, u "java/lang/Cloneable"), (0, .class_ 4), (0, u "java/lang/Object")] 2

/-- java/lang/Cloneable -/
def k10 : Class := { plain "java/lang/Cloneable" (some 0) with
  accessFlags := 1537
  interfaces := #[]
  cf := some (fileOf pool10 1 #[] #[] 1537 3 #[] #[])
  fields := #[]
  methods := #[]
  instanceTypes := #[]
  staticTypes := #[]
  resolved := Array.replicate 7 none
  statics := none }

def pool11 : Array CpInfo := pool [(1, .class_ 2), (0, u "java/io/Serializable"), (0, .class_ 4), (0, u "java/lang/Object")] 2

/-- java/io/Serializable -/
def k11 : Class := { plain "java/io/Serializable" (some 0) with
  accessFlags := 1537
  interfaces := #[]
  cf := some (fileOf pool11 1 #[] #[] 1537 3 #[] #[])
  fields := #[]
  methods := #[]
  instanceTypes := #[]
  staticTypes := #[]
  resolved := Array.replicate 7 none
  statics := none }

def pool12 : Array CpInfo := pool [(1, .methodref 2 3), (0, .class_ 4), (0, .nameAndType 5 6), (0, u "java/util/AbstractList"), (0, u "<init>"), (0, u "()V"), (0, .class_ 8), (0, u "java/lang/Object"), (0, .fieldref 10 11), (0, .class_ 12), (0, .nameAndType 13 14), (0, u "java/util/ArrayList"), (0, u "elementData"), (0, u "[Ljava/lang/Object;"), (2, u "EMPTY_ELEMENTDATA"), (21, .fieldref 10 40), (0, .nameAndType 41 14), (0, u "DEFAULTCAPACITY_EMPTY_ELEMENTDATA"), (5, u "()[Ljava/lang/Object;"), (0, .fieldref 10 49), (0, .nameAndType 50 51), (0, u "size"), (0, u "I"), (11, .fieldref 10 64), (0, .nameAndType 65 51), (0, u "modCount"), (3, .methodref 10 70), (0, .nameAndType 71 72), (0, u "grow"), (0, u "(I)[Ljava/lang/Object;"), (6, .methodref 80 81), (0, .class_ 82), (0, .nameAndType 83 84), (0, u "java/lang/Math"), (0, u "max"), (0, u "(II)I"), (11, u "(Ljava/lang/Object;)Z"), (21, .methodref 119 120), (0, .class_ 121), (0, .nameAndType 122 84), (0, u "java/util/Objects"), (0, u "checkIndex"), (0, .methodref 10 124), (0, .nameAndType 13 125), (0, u "(I)Ljava/lang/Object;"), (3, .methodref 10 130), (0, .nameAndType 71 47), (0, .methodref 10 132), (0, .nameAndType 133 134), (0, u "add"), (0, u "(Ljava/lang/Object;[Ljava/lang/Object;I)V"), (13, .class_ 149), (0, u "java/util/List"), (16, u "iterator"), (0, u "()Ljava/util/Iterator;"), (5, u "()Z"), (12, u "()I"), (75, .class_ 263), (0, u "java/util/ArrayList$ListItr"), (3, .class_ 268), (0, u "java/util/ArrayList$Itr"), (0, .methodref 267 270), (0, .nameAndType 5 271), (0, u "(Ljava/util/ArrayList;)V"), (4, .class_ 277), (0, u "java/util/ArrayList$SubList"), (12, .class_ 291), (0, u "java/util/ArrayList$ArrayListSpliterator"), (37, .class_ 330), (0, u "java/util/RandomAccess"), (0, .class_ 332), (0, u "java/lang/Cloneable"), (0, .class_ 334), (0, u "java/io/Serializable"), (0, u "serialVersionUID"), (0, u "J"), (3, u "DEFAULT_CAPACITY"), (22, u "isEmpty"), (17, u "get"), (118, .class_ 501), (0, u "java/util/ArrayList$SubList$2"), (0, .class_ 503), (0, u "java/util/ArrayList$SubList$1")] 5

def k12c0 : Code := { maxStack := 2, maxLocals := 1, code := jdk_38_method_2_code, exceptionTable := #[], attributes := #[] }
def k12m0 : Method := { name := "<init>", desc := "()V", sig := { parameters := [], returnType := none }, accessFlags := 1, code := some k12c0 }
def k12c1 : Code := { maxStack := 4, maxLocals := 4, code := jdk_38_method_6_code, exceptionTable := #[], attributes := #[] }
def k12m1 : Method := { name := "grow", desc := "(I)[Ljava/lang/Object;", sig := { parameters := [.int], returnType := some (.array (.object "java/lang/Object")) }, accessFlags := 2, code := some k12c1 }
def k12c2 : Code := { maxStack := 3, maxLocals := 1, code := jdk_38_method_7_code, exceptionTable := #[], attributes := #[] }
def k12m2 : Method := { name := "grow", desc := "()[Ljava/lang/Object;", sig := { parameters := [], returnType := some (.array (.object "java/lang/Object")) }, accessFlags := 2, code := some k12c2 }
def k12c3 : Code := { maxStack := 1, maxLocals := 1, code := jdk_38_method_8_code, exceptionTable := #[], attributes := #[] }
def k12m3 : Method := { name := "size", desc := "()I", sig := { parameters := [], returnType := some .int }, accessFlags := 1, code := some k12c3 }
def k12c4 : Code := { maxStack := 1, maxLocals := 1, code := jdk_38_method_9_code, exceptionTable := #[], attributes := #[] }
def k12m4 : Method := { name := "isEmpty", desc := "()Z", sig := { parameters := [], returnType := some .boolean }, accessFlags := 1, code := some k12c4 }
def k12c5 : Code := { maxStack := 2, maxLocals := 2, code := jdk_38_method_18_code, exceptionTable := #[], attributes := #[] }
def k12m5 : Method := { name := "elementData", desc := "(I)Ljava/lang/Object;", sig := { parameters := [.int], returnType := some (.object "java/lang/Object") }, accessFlags := 0, code := some k12c5 }
def k12c6 : Code := { maxStack := 2, maxLocals := 2, code := jdk_38_method_20_code, exceptionTable := #[], attributes := #[] }
def k12m6 : Method := { name := "get", desc := "(I)Ljava/lang/Object;", sig := { parameters := [.int], returnType := some (.object "java/lang/Object") }, accessFlags := 1, code := some k12c6 }
def k12c7 : Code := { maxStack := 3, maxLocals := 4, code := jdk_38_method_24_code, exceptionTable := #[], attributes := #[] }
def k12m7 : Method := { name := "add", desc := "(Ljava/lang/Object;[Ljava/lang/Object;I)V", sig := { parameters := [(.object "java/lang/Object"), (.array (.object "java/lang/Object")), .int], returnType := none }, accessFlags := 2, code := some k12c7 }
def k12c8 : Code := { maxStack := 4, maxLocals := 2, code := jdk_38_method_25_code, exceptionTable := #[], attributes := #[] }
def k12m8 : Method := { name := "add", desc := "(Ljava/lang/Object;)Z", sig := { parameters := [(.object "java/lang/Object")], returnType := some .boolean }, accessFlags := 1, code := some k12c8 }
def k12c9 : Code := { maxStack := 3, maxLocals := 1, code := jdk_38_method_55_code, exceptionTable := #[], attributes := #[] }
def k12m9 : Method := { name := "iterator", desc := "()Ljava/util/Iterator;", sig := { parameters := [], returnType := some (.object "java/util/Iterator") }, accessFlags := 1, code := some k12c9 }
/-- java/util/ArrayList -/
def k12 : Class := { plain "java/util/ArrayList" (some 8) with
  accessFlags := 33
  interfaces := #[7, 9, 10, 11]
  cf := some (fileOf pool12 10 #[.nestMembers #[290, 276, 500, 502, 262, 267]] #[{ accessFlags := 1, nameIndex := 5, descriptorIndex := 6, attributes := #[] }, { accessFlags := 2, nameIndex := 71, descriptorIndex := 72, attributes := #[] }, { accessFlags := 2, nameIndex := 71, descriptorIndex := 47, attributes := #[] }, { accessFlags := 1, nameIndex := 50, descriptorIndex := 186, attributes := #[] }, { accessFlags := 1, nameIndex := 363, descriptorIndex := 173, attributes := #[] }, { accessFlags := 0, nameIndex := 13, descriptorIndex := 125, attributes := #[] }, { accessFlags := 1, nameIndex := 381, descriptorIndex := 125, attributes := #[] }, { accessFlags := 2, nameIndex := 133, descriptorIndex := 134, attributes := #[] }, { accessFlags := 1, nameIndex := 133, descriptorIndex := 96, attributes := #[] }, { accessFlags := 1, nameIndex := 166, descriptorIndex := 167, attributes := #[] }] 33 2 #[148, 329, 331, 333] #[{ accessFlags := 26, nameIndex := 335, descriptorIndex := 336, attributes := #[] }, { accessFlags := 26, nameIndex := 340, descriptorIndex := 51, attributes := #[] }, { accessFlags := 26, nameIndex := 17, descriptorIndex := 14, attributes := #[] }, { accessFlags := 26, nameIndex := 41, descriptorIndex := 14, attributes := #[] }, { accessFlags := 128, nameIndex := 13, descriptorIndex := 14, attributes := #[] }, { accessFlags := 2, nameIndex := 50, descriptorIndex := 51, attributes := #[] }])
  fields := #[{ name := "serialVersionUID", type := .long, accessFlags := 26, slot := 0, constantValue := 0 }, { name := "DEFAULT_CAPACITY", type := .int, accessFlags := 26, slot := 1, constantValue := 0 }, { name := "EMPTY_ELEMENTDATA", type := (.array (.object "java/lang/Object")), accessFlags := 26, slot := 2, constantValue := 0 }, { name := "DEFAULTCAPACITY_EMPTY_ELEMENTDATA", type := (.array (.object "java/lang/Object")), accessFlags := 26, slot := 3, constantValue := 0 }, { name := "elementData", type := (.array (.object "java/lang/Object")), accessFlags := 128, slot := 1, constantValue := 0 }, { name := "size", type := .int, accessFlags := 2, slot := 2, constantValue := 0 }]
  methods := #[k12m0, k12m1, k12m2, k12m3, k12m4, k12m5, k12m6, k12m7, k12m8, k12m9]
  instanceTypes := #[.int, (.array (.object "java/lang/Object")), .int]
  staticTypes := #[.long, .int, (.array (.object "java/lang/Object")), (.array (.object "java/lang/Object"))]
  resolved := Array.replicate 509 none
  statics := some 0 }

def pool13 : Array CpInfo := pool [(1, .class_ 2), (0, u "java/lang/Comparable"), (0, .class_ 4), (0, u "java/lang/Object")] 7

/-- java/lang/Comparable -/
def k13 : Class := { plain "java/lang/Comparable" (some 0) with
  accessFlags := 1537
  interfaces := #[]
  cf := some (fileOf pool13 1 #[] #[] 1537 3 #[] #[])
  fields := #[]
  methods := #[]
  instanceTypes := #[]
  staticTypes := #[]
  resolved := Array.replicate 12 none
  statics := none }

def pool14 : Array CpInfo := pool [(2, .class_ 4), (1, u "java/lang/CharSequence"), (42, .class_ 48), (0, u "java/lang/CharSequence$1CodePointIterator"), (10, .class_ 60), (0, u "java/lang/CharSequence$1CharIterator"), (5, .class_ 67), (0, u "java/lang/Object")] 63

/-- java/lang/CharSequence -/
def k14 : Class := { plain "java/lang/CharSequence" (some 0) with
  accessFlags := 1537
  interfaces := #[]
  cf := some (fileOf pool14 2 #[.nestMembers #[47, 59]] #[] 1537 66 #[] #[])
  fields := #[]
  methods := #[]
  instanceTypes := #[]
  staticTypes := #[]
  resolved := Array.replicate 131 none
  statics := none }

def pool15 : Array CpInfo := pool [(1, .class_ 2), (0, u "java/lang/constant/Constable"), (0, .class_ 4), (0, u "java/lang/Object")] 6

/-- java/lang/constant/Constable -/
def k15 : Class := { plain "java/lang/constant/Constable" (some 0) with
  accessFlags := 1537
  interfaces := #[]
  cf := some (fileOf pool15 1 #[] #[] 1537 3 #[] #[])
  fields := #[]
  methods := #[]
  instanceTypes := #[]
  staticTypes := #[]
  resolved := Array.replicate 11 none
  statics := none }

def pool16 : Array CpInfo := pool [(1, .class_ 2), (0, u "java/lang/constant/ConstantDesc"), (0, .class_ 4), (0, u "java/lang/Object")] 32

/-- java/lang/constant/ConstantDesc -/
def k16 : Class := { plain "java/lang/constant/ConstantDesc" (some 0) with
  accessFlags := 1537
  interfaces := #[]
  cf := some (fileOf pool16 1 #[] #[] 1537 3 #[] #[])
  fields := #[]
  methods := #[]
  instanceTypes := #[]
  staticTypes := #[]
  resolved := Array.replicate 37 none
  statics := none }

def pool17 : Array CpInfo := pool [(1, .methodref 2 3), (0, .class_ 4), (0, .nameAndType 5 6), (0, u "java/lang/Object"), (0, u "<init>"), (0, u "()V"), (2, .fieldref 10 11), (0, .class_ 12), (0, .nameAndType 13 14), (0, u "java/lang/String"), (0, u "value"), (0, u "[B"), (0, .fieldref 10 16), (0, .nameAndType 17 18), (0, u "coder"), (0, u "B"), (2, u "hash"), (0, u "I"), (2, u "hashIsZero"), (0, u "Z"), (11, .fieldref 10 39), (0, .nameAndType 40 26), (0, u "COMPACT_STRINGS"), (13, .methodref 55 56), (0, .class_ 57), (0, .nameAndType 58 59), (0, u "java/util/Arrays"), (0, u "copyOfRange"), (0, u "([BII)[B"), (82, u "()Z"), (50, .class_ 195), (1, u "java/lang/System"), (16, .methodref 193 213), (0, .nameAndType 214 215), (0, u "arraycopy"), (0, u "(Ljava/lang/Object;ILjava/lang/Object;II)V"), (118, u "()I"), (0, .methodref 10 336), (0, .nameAndType 17 337), (0, u "()B"), (2, u "()[B"), (148, .methodref 10 490), (0, .nameAndType 5 491), (0, u "(Ljava/lang/AbstractStringBuilder;Ljava/lang/Void;)V"), (1, .nameAndType 494 142), (0, u "isLatin1"), (11, .nameAndType 507 334), (0, u "length"), (24, u "getBytes"), (16, .methodref 550 506), (0, .class_ 551), (0, u "java/lang/AbstractStringBuilder"), (0, .methodref 550 553), (0, .nameAndType 554 340), (0, u "getValue"), (20, .class_ 576), (0, u "java/lang/CharSequence"), (22, u "CASE_INSENSITIVE_ORDER"), (0, u "Ljava/util/Comparator;"), (220, u "([BIB)V"), (225, .methodref 550 493), (53, u "serialPersistentFields"), (0, u "[Ljava/io/ObjectStreamField;"), (0, .class_ 1104), (0, u "java/lang/String$CaseInsensitiveComparator"), (1, .class_ 1107), (0, u "java/io/Serializable"), (0, .class_ 1109), (0, u "java/lang/Comparable"), (0, .class_ 1111), (0, u "java/lang/constant/Constable"), (0, .class_ 1113), (0, u "java/lang/constant/ConstantDesc"), (2, u "serialVersionUID"), (0, u "J"), (3, u "REPL"), (0, u "C"), (2, u "LATIN1"), (1, u "UTF16"), (105, u "(Ljava/lang/StringBuilder;)V")] 217

def k17m0 : Method := { name := "<init>", desc := "()V", sig := { parameters := [], returnType := none }, accessFlags := 1, code := none }
def k17c1 : Code := { maxStack := 3, maxLocals := 2, code := jdk_42_method_53_code, exceptionTable := #[], attributes := #[] }
def k17m1 : Method := { name := "<init>", desc := "(Ljava/lang/StringBuilder;)V", sig := { parameters := [(.object "java/lang/StringBuilder")], returnType := none }, accessFlags := 1, code := some k17c1 }
def k17c2 : Code := { maxStack := 2, maxLocals := 1, code := jdk_42_method_54_code, exceptionTable := #[], attributes := #[] }
def k17m2 : Method := { name := "length", desc := "()I", sig := { parameters := [], returnType := some .int }, accessFlags := 1, code := some k17c2 }
def k17c3 : Code := { maxStack := 5, maxLocals := 4, code := jdk_42_method_147_code, exceptionTable := #[], attributes := #[] }
def k17m3 : Method := { name := "getBytes", desc := "([BIB)V", sig := { parameters := [(.array .byte), .int, .byte], returnType := none }, accessFlags := 0, code := some k17c3 }
def k17c4 : Code := { maxStack := 5, maxLocals := 5, code := jdk_42_method_150_code, exceptionTable := #[], attributes := #[] }
def k17m4 : Method := { name := "<init>", desc := "(Ljava/lang/AbstractStringBuilder;Ljava/lang/Void;)V", sig := { parameters := [(.object "java/lang/AbstractStringBuilder"), (.object "java/lang/Void")], returnType := none }, accessFlags := 0, code := some k17c4 }
def k17c5 : Code := { maxStack := 1, maxLocals := 1, code := jdk_42_method_152_code, exceptionTable := #[], attributes := #[] }
def k17m5 : Method := { name := "coder", desc := "()B", sig := { parameters := [], returnType := some .byte }, accessFlags := 0, code := some k17c5 }
/-- java/lang/String -/
def k17 : Class := { plain "java/lang/String" (some 0) with
  accessFlags := 49
  interfaces := #[11, 13, 14, 15, 16]
  cf := some (fileOf pool17 10 #[.nestMembers #[1103]] #[{ accessFlags := 1, nameIndex := 5, descriptorIndex := 6, attributes := #[] }, { accessFlags := 1, nameIndex := 5, descriptorIndex := 1233, attributes := #[] }, { accessFlags := 1, nameIndex := 507, descriptorIndex := 334, attributes := #[] }, { accessFlags := 0, nameIndex := 532, descriptorIndex := 821, attributes := #[] }, { accessFlags := 0, nameIndex := 5, descriptorIndex := 491, attributes := #[] }, { accessFlags := 0, nameIndex := 17, descriptorIndex := 337, attributes := #[] }] 49 2 #[1106, 1108, 575, 1110, 1112] #[{ accessFlags := 18, nameIndex := 13, descriptorIndex := 14, attributes := #[] }, { accessFlags := 18, nameIndex := 17, descriptorIndex := 18, attributes := #[] }, { accessFlags := 2, nameIndex := 21, descriptorIndex := 22, attributes := #[] }, { accessFlags := 2, nameIndex := 25, descriptorIndex := 26, attributes := #[] }, { accessFlags := 26, nameIndex := 1116, descriptorIndex := 1117, attributes := #[] }, { accessFlags := 24, nameIndex := 40, descriptorIndex := 26, attributes := #[] }, { accessFlags := 26, nameIndex := 1101, descriptorIndex := 1102, attributes := #[] }, { accessFlags := 26, nameIndex := 1121, descriptorIndex := 1122, attributes := #[] }, { accessFlags := 25, nameIndex := 599, descriptorIndex := 600, attributes := #[] }, { accessFlags := 24, nameIndex := 1125, descriptorIndex := 18, attributes := #[] }, { accessFlags := 24, nameIndex := 1127, descriptorIndex := 18, attributes := #[] }])
  fields := #[{ name := "value", type := (.array .byte), accessFlags := 18, slot := 0, constantValue := 0 }, { name := "coder", type := .byte, accessFlags := 18, slot := 1, constantValue := 0 }, { name := "hash", type := .int, accessFlags := 2, slot := 2, constantValue := 0 }, { name := "hashIsZero", type := .boolean, accessFlags := 2, slot := 3, constantValue := 0 }, { name := "serialVersionUID", type := .long, accessFlags := 26, slot := 0, constantValue := 0 }, { name := "COMPACT_STRINGS", type := .boolean, accessFlags := 24, slot := 1, constantValue := 0 }, { name := "serialPersistentFields", type := (.array (.object "java/io/ObjectStreamField")), accessFlags := 26, slot := 2, constantValue := 0 }, { name := "REPL", type := .char, accessFlags := 26, slot := 3, constantValue := 0 }, { name := "CASE_INSENSITIVE_ORDER", type := (.object "java/util/Comparator"), accessFlags := 25, slot := 4, constantValue := 0 }, { name := "LATIN1", type := .byte, accessFlags := 24, slot := 5, constantValue := 0 }, { name := "UTF16", type := .byte, accessFlags := 24, slot := 6, constantValue := 0 }]
  methods := #[k17m0, k17m1, k17m2, k17m3, k17m4, k17m5]
  instanceTypes := #[(.array .byte), .byte, .int, .boolean]
  staticTypes := #[.long, .boolean, (.array (.object "java/io/ObjectStreamField")), .char, (.object "java/util/Comparator"), .byte, .byte]
  resolved := Array.replicate 1451 none
  statics := some 1 }

def pool18 : Array CpInfo := pool [(9, u "applyAsInt"), (6, .class_ 18), (1, u "java/util/function/IntUnaryOperator"), (0, u "(I)I"), (0, .class_ 21), (0, u "java/lang/Object")] 46

def k18m0 : Method := { name := "applyAsInt", desc := "(I)I", sig := { parameters := [.int], returnType := some .int }, accessFlags := 1025, code := none }
/-- java/util/function/IntUnaryOperator -/
def k18 : Class := { plain "java/util/function/IntUnaryOperator" (some 0) with
  accessFlags := 1537
  interfaces := #[]
  cf := some (fileOf pool18 16 #[] #[{ accessFlags := 1025, nameIndex := 9, descriptorIndex := 19, attributes := #[] }] 1537 20 #[] #[])
  fields := #[]
  methods := #[k18m0]
  instanceTypes := #[]
  staticTypes := #[]
  resolved := Array.replicate 68 none
  statics := none }

def pool19 : Array CpInfo := pool [(1, .methodref 2 3), (0, .class_ 4), (0, .nameAndType 5 6), (0, u "java/lang/Object"), (0, u "<init>"), (0, u "()V"), (0, .fieldref 8 9), (0, .class_ 10), (0, .nameAndType 11 12), (0, u "com/example/foyer/foyer/Layout$RegisterArray"), (0, u "name"), (0, u "Ljava/lang/String;"), (0, .fieldref 8 14), (0, .nameAndType 15 16), (0, u "base"), (0, u "I"), (0, .fieldref 8 18), (0, .nameAndType 19 16), (0, u "first"), (0, .fieldref 8 21), (0, .nameAndType 22 16), (0, u "length"), (0, .fieldref 8 24), (0, .nameAndType 25 26), (0, u "initial"), (0, u "Ljava/util/function/IntUnaryOperator;"), (0, .fieldref 8 28), (0, .nameAndType 29 30), (0, u "indexed"), (0, u "Z"), (6, u "(Ljava/lang/String;IIILjava/util/function/IntUnaryOperator;Z)V"), (7, .class_ 46), (0, u "com/example/foyer/foyer/Layout")] 2

def k19c0 : Code := { maxStack := 2, maxLocals := 7, code := prog_34_method_1_code, exceptionTable := #[], attributes := #[] }
def k19m0 : Method := { name := "<init>", desc := "(Ljava/lang/String;IIILjava/util/function/IntUnaryOperator;Z)V", sig := { parameters := [(.object "java/lang/String"), .int, .int, .int, (.object "java/util/function/IntUnaryOperator"), .boolean], returnType := none }, accessFlags := 2, code := some k19c0 }
/-- com/example/foyer/foyer/Layout$RegisterArray -/
def k19 : Class := { plain "com/example/foyer/foyer/Layout$RegisterArray" (some 0) with
  accessFlags := 48
  interfaces := #[]
  cf := some (fileOf pool19 8 #[.nestHost 45] #[{ accessFlags := 2, nameIndex := 5, descriptorIndex := 37, attributes := #[] }] 48 2 #[] #[{ accessFlags := 18, nameIndex := 11, descriptorIndex := 12, attributes := #[] }, { accessFlags := 18, nameIndex := 15, descriptorIndex := 16, attributes := #[] }, { accessFlags := 18, nameIndex := 19, descriptorIndex := 16, attributes := #[] }, { accessFlags := 18, nameIndex := 22, descriptorIndex := 16, attributes := #[] }, { accessFlags := 18, nameIndex := 25, descriptorIndex := 26, attributes := #[] }, { accessFlags := 18, nameIndex := 29, descriptorIndex := 30, attributes := #[] }])
  fields := #[{ name := "name", type := (.object "java/lang/String"), accessFlags := 18, slot := 0, constantValue := 0 }, { name := "base", type := .int, accessFlags := 18, slot := 1, constantValue := 0 }, { name := "first", type := .int, accessFlags := 18, slot := 2, constantValue := 0 }, { name := "length", type := .int, accessFlags := 18, slot := 3, constantValue := 0 }, { name := "initial", type := (.object "java/util/function/IntUnaryOperator"), accessFlags := 18, slot := 4, constantValue := 0 }, { name := "indexed", type := .boolean, accessFlags := 18, slot := 5, constantValue := 0 }]
  methods := #[k19m0]
  instanceTypes := #[(.object "java/lang/String"), .int, .int, .int, (.object "java/util/function/IntUnaryOperator"), .boolean]
  staticTypes := #[]
  resolved := Array.replicate 49 none
  statics := none }

def pool20 : Array CpInfo := pool [(1, .class_ 2), (0, u "java/lang/Appendable"), (0, .class_ 4), (0, u "java/lang/Object")] 9

/-- java/lang/Appendable -/
def k20 : Class := { plain "java/lang/Appendable" (some 0) with
  accessFlags := 1537
  interfaces := #[]
  cf := some (fileOf pool20 1 #[] #[] 1537 3 #[] #[])
  fields := #[]
  methods := #[]
  instanceTypes := #[]
  staticTypes := #[]
  resolved := Array.replicate 14 none
  statics := none }

def pool21 : Array CpInfo := pool [(1, .class_ 2), (0, u "java/lang/String"), (0, .methodref 4 5), (0, .class_ 6), (0, .nameAndType 7 8), (0, u "java/lang/Object"), (0, u "<init>"), (0, u "()V"), (1, .class_ 12), (1, u "java/lang/AbstractStringBuilder"), (0, u "EMPTYVALUE"), (0, u "[B"), (0, .fieldref 10 16), (0, .nameAndType 17 14), (0, u "value"), (0, .fieldref 1 19), (0, .nameAndType 20 21), (0, u "COMPACT_STRINGS"), (0, u "Z"), (0, .fieldref 10 23), (0, .nameAndType 24 25), (0, u "coder"), (0, u "B"), (6, .methodref 1 33), (0, .nameAndType 34 35), (0, u "length"), (0, u "()I"), (4, .methodref 1 41), (0, .nameAndType 24 42), (0, u "()B"), (2, u "append"), (0, u "(Ljava/lang/String;)Ljava/lang/AbstractStringBuilder;"), (1, .class_ 49), (0, u "java/lang/CharSequence"), (19, u "(Ljava/lang/String;)V"), (5, u "maybeLatin1"), (3, .fieldref 10 80), (0, .nameAndType 81 82), (0, u "count"), (0, u "I"), (2, u "isLatin1"), (0, u "()Z"), (13, .methodref 10 101), (0, .nameAndType 102 103), (0, u "ensureCapacityInternal"), (0, u "(I)V"), (104, .methodref 10 209), (0, .nameAndType 210 211), (0, u "putStringAt"), (0, u "(ILjava/lang/String;)V"), (5, u "inflateIfNeededFor"), (2, .nameAndType 221 222), (0, u "getBytes"), (0, u "([BIB)V"), (174, .methodref 10 398), (0, .nameAndType 217 69), (0, .methodref 1 220), (3, u "()[B"), (40, .class_ 445), (0, u "java/lang/Appendable"), (106, u "getValue")] 56

def k21m0 : Method := { name := "<init>", desc := "()V", sig := { parameters := [], returnType := none }, accessFlags := 0, code := none }
def k21c1 : Code := { maxStack := 2, maxLocals := 2, code := jdk_68_method_2_code, exceptionTable := #[], attributes := #[] }
def k21m1 : Method := { name := "<init>", desc := "(I)V", sig := { parameters := [.int], returnType := none }, accessFlags := 0, code := some k21c1 }
def k21c2 : Code := { maxStack := 1, maxLocals := 1, code := jdk_68_method_6_code, exceptionTable := #[], attributes := #[] }
def k21m2 : Method := { name := "length", desc := "()I", sig := { parameters := [], returnType := some .int }, accessFlags := 1, code := some k21c2 }
def k21c3 : Code := { maxStack := 4, maxLocals := 3, code := jdk_68_method_9_code, exceptionTable := #[], attributes := #[] }
def k21m3 : Method := { name := "ensureCapacityInternal", desc := "(I)V", sig := { parameters := [.int], returnType := none }, accessFlags := 2, code := some k21c3 }
def k21c4 : Code := { maxStack := 3, maxLocals := 3, code := jdk_68_method_22_code, exceptionTable := #[], attributes := #[] }
def k21m4 : Method := { name := "append", desc := "(Ljava/lang/String;)Ljava/lang/AbstractStringBuilder;", sig := { parameters := [(.object "java/lang/String")], returnType := some (.object "java/lang/AbstractStringBuilder") }, accessFlags := 1, code := some k21c4 }
def k21c5 : Code := { maxStack := 1, maxLocals := 1, code := jdk_68_method_64_code, exceptionTable := #[], attributes := #[] }
def k21m5 : Method := { name := "getValue", desc := "()[B", sig := { parameters := [], returnType := some (.array .byte) }, accessFlags := 16, code := some k21c5 }
def k21c6 : Code := { maxStack := 1, maxLocals := 1, code := jdk_68_method_68_code, exceptionTable := #[], attributes := #[] }
def k21m6 : Method := { name := "isLatin1", desc := "()Z", sig := { parameters := [], returnType := some .boolean }, accessFlags := 16, code := some k21c6 }
def k21c7 : Code := { maxStack := 2, maxLocals := 2, code := jdk_68_method_71_code, exceptionTable := #[], attributes := #[] }
def k21m7 : Method := { name := "inflateIfNeededFor", desc := "(Ljava/lang/String;)V", sig := { parameters := [(.object "java/lang/String")], returnType := none }, accessFlags := 2, code := some k21c7 }
def k21c8 : Code := { maxStack := 4, maxLocals := 3, code := jdk_68_method_73_code, exceptionTable := #[], attributes := #[] }
def k21m8 : Method := { name := "putStringAt", desc := "(ILjava/lang/String;)V", sig := { parameters := [.int, (.object "java/lang/String")], returnType := none }, accessFlags := 2, code := some k21c8 }
/-- java/lang/AbstractStringBuilder -/
def k21 : Class := { plain "java/lang/AbstractStringBuilder" (some 0) with
  accessFlags := 1056
  interfaces := #[20, 14]
  cf := some (fileOf pool21 10 #[] #[{ accessFlags := 0, nameIndex := 7, descriptorIndex := 8, attributes := #[] }, { accessFlags := 0, nameIndex := 7, descriptorIndex := 103, attributes := #[] }, { accessFlags := 1, nameIndex := 34, descriptorIndex := 35, attributes := #[] }, { accessFlags := 2, nameIndex := 102, descriptorIndex := 103, attributes := #[] }, { accessFlags := 1, nameIndex := 45, descriptorIndex := 46, attributes := #[] }, { accessFlags := 16, nameIndex := 552, descriptorIndex := 403, attributes := #[] }, { accessFlags := 16, nameIndex := 85, descriptorIndex := 86, attributes := #[] }, { accessFlags := 2, nameIndex := 217, descriptorIndex := 69, attributes := #[] }, { accessFlags := 2, nameIndex := 210, descriptorIndex := 211, attributes := #[] }] 1056 4 #[444, 48] #[{ accessFlags := 0, nameIndex := 17, descriptorIndex := 14, attributes := #[] }, { accessFlags := 0, nameIndex := 24, descriptorIndex := 25, attributes := #[] }, { accessFlags := 0, nameIndex := 75, descriptorIndex := 21, attributes := #[] }, { accessFlags := 0, nameIndex := 81, descriptorIndex := 82, attributes := #[] }, { accessFlags := 26, nameIndex := 13, descriptorIndex := 14, attributes := #[] }])
  fields := #[{ name := "value", type := (.array .byte), accessFlags := 0, slot := 0, constantValue := 0 }, { name := "coder", type := .byte, accessFlags := 0, slot := 1, constantValue := 0 }, { name := "maybeLatin1", type := .boolean, accessFlags := 0, slot := 2, constantValue := 0 }, { name := "count", type := .int, accessFlags := 0, slot := 3, constantValue := 0 }, { name := "EMPTYVALUE", type := (.array .byte), accessFlags := 26, slot := 0, constantValue := 0 }]
  methods := #[k21m0, k21m1, k21m2, k21m3, k21m4, k21m5, k21m6, k21m7, k21m8]
  instanceTypes := #[(.array .byte), .byte, .boolean, .int]
  staticTypes := #[(.array .byte)]
  resolved := Array.replicate 609 none
  statics := none }

def pool22 : Array CpInfo := pool [(1, .methodref 2 3), (0, .class_ 4), (0, .nameAndType 5 6), (0, u "java/lang/AbstractStringBuilder"), (0, u "<init>"), (0, u "(I)V"), (11, .class_ 20), (1, u "java/lang/String"), (3, .class_ 26), (1, u "java/lang/StringBuilder"), (0, u "append"), (0, u "(Ljava/lang/String;)Ljava/lang/StringBuilder;"), (0, .methodref 2 30), (0, .nameAndType 27 31), (0, u "(Ljava/lang/String;)Ljava/lang/AbstractStringBuilder;"), (105, .methodref 18 138), (0, .nameAndType 5 139), (0, u "(Ljava/lang/StringBuilder;)V"), (5, u "()V"), (10, u "()I"), (186, .methodref 2 344), (0, .nameAndType 345 156), (0, u "length"), (3, .class_ 350), (0, u "java/lang/Appendable"), (0, .class_ 352), (0, u "java/io/Serializable"), (0, .class_ 354), (0, u "java/lang/Comparable"), (0, .class_ 356), (0, u "java/lang/CharSequence"), (0, u "serialVersionUID"), (0, u "J"), (40, u "toString"), (0, u "()Ljava/lang/String;")] 21

def k22c0 : Code := { maxStack := 2, maxLocals := 1, code := jdk_67_method_1_code, exceptionTable := #[], attributes := #[] }
def k22m0 : Method := { name := "<init>", desc := "()V", sig := { parameters := [], returnType := none }, accessFlags := 1, code := some k22c0 }
def k22c1 : Code := { maxStack := 2, maxLocals := 2, code := jdk_67_method_7_code, exceptionTable := #[], attributes := #[] }
def k22m1 : Method := { name := "append", desc := "(Ljava/lang/String;)Ljava/lang/StringBuilder;", sig := { parameters := [(.object "java/lang/String")], returnType := some (.object "java/lang/StringBuilder") }, accessFlags := 1, code := some k22c1 }
def k22c2 : Code := { maxStack := 3, maxLocals := 1, code := jdk_67_method_42_code, exceptionTable := #[], attributes := #[] }
def k22m2 : Method := { name := "toString", desc := "()Ljava/lang/String;", sig := { parameters := [], returnType := some (.object "java/lang/String") }, accessFlags := 1, code := some k22c2 }
def k22c3 : Code := { maxStack := 1, maxLocals := 1, code := jdk_67_method_93_code, exceptionTable := #[], attributes := #[] }
def k22m3 : Method := { name := "length", desc := "()I", sig := { parameters := [], returnType := some .int }, accessFlags := 4161, code := some k22c3 }
/-- java/lang/StringBuilder -/
def k22 : Class := { plain "java/lang/StringBuilder" (some 21) with
  accessFlags := 49
  interfaces := #[20, 11, 13, 14]
  cf := some (fileOf pool22 24 #[] #[{ accessFlags := 1, nameIndex := 5, descriptorIndex := 145, attributes := #[] }, { accessFlags := 1, nameIndex := 27, descriptorIndex := 28, attributes := #[] }, { accessFlags := 1, nameIndex := 399, descriptorIndex := 400, attributes := #[] }, { accessFlags := 4161, nameIndex := 345, descriptorIndex := 156, attributes := #[] }] 49 2 #[349, 351, 353, 355] #[{ accessFlags := 24, nameIndex := 357, descriptorIndex := 358, attributes := #[] }])
  fields := #[{ name := "serialVersionUID", type := .long, accessFlags := 24, slot := 0, constantValue := 0 }]
  methods := #[k22m0, k22m1, k22m2, k22m3]
  instanceTypes := #[(.array .byte), .byte, .boolean, .int]
  staticTypes := #[.long]
  resolved := Array.replicate 422 none
  statics := none }

def pool23 : Array CpInfo := pool [(2, .class_ 4), (1, u "java/lang/Object"), (0, u "<init>"), (0, u "()V"), (1, .class_ 10), (1, u "java/lang/System"), (0, u "allowSecurityManager"), (0, u "I"), (16, u "cons"), (0, u "Ljava/io/Console;"), (77, .class_ 110), (1, u "java/lang/System$CallersHolder"), (43, u "initialErrStream"), (0, u "Ljava/io/PrintStream;"), (19, u "security"), (0, u "Ljava/lang/SecurityManager;"), (31, .class_ 209), (0, u "java/lang/System$1"), (7, u "props"), (0, u "Ljava/util/Properties;"), (2, u "lineSeparator"), (0, u "Ljava/lang/String;"), (96, .class_ 321), (1, u "java/lang/System$LoggerFinder"), (5, .class_ 328), (0, u "java/lang/System$Logger"), (67, u "err"), (2, u "out"), (91, u "notSupportedJnuEncoding"), (15, u "in"), (17, u "initialIn"), (0, u "Ljava/io/InputStream;"), (35, u "bootLayer"), (0, u "Ljava/lang/ModuleLayer;"), (99, .class_ 664), (0, u "java/lang/System$2"), (9, u "NEVER"), (2, u "MAYBE"), (49, u "arraycopy"), (0, u "(Ljava/lang/Object;ILjava/lang/Object;II)V"), (72, .class_ 802), (0, u "java/lang/System$Logger$Level")] 31

def k23m0 : Method := { name := "<init>", desc := "()V", sig := { parameters := [], returnType := none }, accessFlags := 2, code := none }
def k23m1 : Method := { name := "arraycopy", desc := "(Ljava/lang/Object;ILjava/lang/Object;II)V", sig := { parameters := [(.object "java/lang/Object"), .int, (.object "java/lang/Object"), .int, .int], returnType := none }, accessFlags := 265, code := none }
/-- java/lang/System -/
def k23 : Class := { plain "java/lang/System" (some 0) with
  accessFlags := 49
  interfaces := #[]
  cf := some (fileOf pool23 8 #[.nestMembers #[319, 327, 801, 108, 663, 208]] #[{ accessFlags := 2, nameIndex := 5, descriptorIndex := 6, attributes := #[] }, { accessFlags := 265, nameIndex := 727, descriptorIndex := 728, attributes := #[] }] 49 2 #[] #[{ accessFlags := 25, nameIndex := 507, descriptorIndex := 526, attributes := #[] }, { accessFlags := 25, nameIndex := 399, descriptorIndex := 155, attributes := #[] }, { accessFlags := 25, nameIndex := 396, descriptorIndex := 155, attributes := #[] }, { accessFlags := 10, nameIndex := 525, descriptorIndex := 526, attributes := #[] }, { accessFlags := 26, nameIndex := 674, descriptorIndex := 12, attributes := #[] }, { accessFlags := 26, nameIndex := 677, descriptorIndex := 12, attributes := #[] }, { accessFlags := 10, nameIndex := 11, descriptorIndex := 12, attributes := #[] }, { accessFlags := 74, nameIndex := 175, descriptorIndex := 176, attributes := #[] }, { accessFlags := 10, nameIndex := 491, descriptorIndex := 222, attributes := #[] }, { accessFlags := 74, nameIndex := 29, descriptorIndex := 30, attributes := #[] }, { accessFlags := 74, nameIndex := 154, descriptorIndex := 155, attributes := #[] }, { accessFlags := 10, nameIndex := 217, descriptorIndex := 218, attributes := #[] }, { accessFlags := 10, nameIndex := 221, descriptorIndex := 222, attributes := #[] }, { accessFlags := 8, nameIndex := 562, descriptorIndex := 563, attributes := #[] }])
  fields := #[{ name := "in", type := (.object "java/io/InputStream"), accessFlags := 25, slot := 0, constantValue := 0 }, { name := "out", type := (.object "java/io/PrintStream"), accessFlags := 25, slot := 1, constantValue := 0 }, { name := "err", type := (.object "java/io/PrintStream"), accessFlags := 25, slot := 2, constantValue := 0 }, { name := "initialIn", type := (.object "java/io/InputStream"), accessFlags := 10, slot := 3, constantValue := 0 }, { name := "NEVER", type := .int, accessFlags := 26, slot := 4, constantValue := 0 }, { name := "MAYBE", type := .int, accessFlags := 26, slot := 5, constantValue := 0 }, { name := "allowSecurityManager", type := .int, accessFlags := 10, slot := 6, constantValue := 0 }, { name := "security", type := (.object "java/lang/SecurityManager"), accessFlags := 74, slot := 7, constantValue := 0 }, { name := "notSupportedJnuEncoding", type := (.object "java/lang/String"), accessFlags := 10, slot := 8, constantValue := 0 }, { name := "cons", type := (.object "java/io/Console"), accessFlags := 74, slot := 9, constantValue := 0 }, { name := "initialErrStream", type := (.object "java/io/PrintStream"), accessFlags := 74, slot := 10, constantValue := 0 }, { name := "props", type := (.object "java/util/Properties"), accessFlags := 10, slot := 11, constantValue := 0 }, { name := "lineSeparator", type := (.object "java/lang/String"), accessFlags := 10, slot := 12, constantValue := 0 }, { name := "bootLayer", type := (.object "java/lang/ModuleLayer"), accessFlags := 8, slot := 13, constantValue := 0 }]
  methods := #[k23m0, k23m1]
  instanceTypes := #[]
  staticTypes := #[(.object "java/io/InputStream"), (.object "java/io/PrintStream"), (.object "java/io/PrintStream"), (.object "java/io/InputStream"), .int, .int, .int, (.object "java/lang/SecurityManager"), (.object "java/lang/String"), (.object "java/io/Console"), (.object "java/io/PrintStream"), (.object "java/util/Properties"), (.object "java/lang/String"), (.object "java/lang/ModuleLayer")]
  resolved := Array.replicate 834 none
  statics := none }

def pool24 : Array CpInfo := pool [(2, .class_ 4), (1, u "java/lang/Object"), (0, u "<init>"), (0, u "()V"), (7, .class_ 16), (1, u "java/util/Arrays"), (57, .class_ 76), (1, u "java/util/Arrays$NaturalOrder"), (36, .class_ 115), (1, u "java/util/Arrays$LegacyMergeSort"), (1, u "Z"), (21, u "copyOfRange"), (10, .methodref 151 152), (0, .class_ 153), (0, .nameAndType 154 155), (0, u "java/lang/System"), (0, u "arraycopy"), (0, u "(Ljava/lang/Object;ILjava/lang/Object;II)V"), (148, .methodref 305 306), (0, .class_ 307), (0, .nameAndType 308 309), (0, u "java/lang/Math"), (0, u "min"), (0, u "(II)I"), (29, .methodref 14 340), (0, .nameAndType 341 342), (0, u "copyOfRangeByte"), (0, u "([BII)[B"), (0, .methodref 14 344), (0, .nameAndType 345 346), (0, u "checkLength"), (0, u "(II)V"), (28, .class_ 376), (0, u "java/util/Arrays$ArrayList"), (68, u "$assertionsDisabled"), (269, u "MIN_ARRAY_SORT_GRAN"), (0, u "I"), (2, u "INSERTIONSORT_THRESHOLD"), (255, .class_ 976), (0, u "java/util/Arrays$ArrayItr")] 52

def k24m0 : Method := { name := "<init>", desc := "()V", sig := { parameters := [], returnType := none }, accessFlags := 2, code := none }
def k24c1 : Code := { maxStack := 4, maxLocals := 2, code := jdk_65_method_131_code, exceptionTable := #[], attributes := #[] }
def k24m1 : Method := { name := "checkLength", desc := "(II)V", sig := { parameters := [.int, .int], returnType := none }, accessFlags := 10, code := some k24c1 }
def k24c2 : Code := { maxStack := 3, maxLocals := 3, code := jdk_65_method_132_code, exceptionTable := #[], attributes := #[] }
def k24m2 : Method := { name := "copyOfRange", desc := "([BII)[B", sig := { parameters := [(.array .byte), .int, .int], returnType := some (.array .byte) }, accessFlags := 9, code := some k24c2 }
def k24c3 : Code := { maxStack := 6, maxLocals := 5, code := jdk_65_method_133_code, exceptionTable := #[], attributes := #[] }
def k24m3 : Method := { name := "copyOfRangeByte", desc := "([BII)[B", sig := { parameters := [(.array .byte), .int, .int], returnType := some (.array .byte) }, accessFlags := 10, code := some k24c3 }
/-- java/util/Arrays -/
def k24 : Class := { plain "java/util/Arrays" (some 0) with
  accessFlags := 49
  interfaces := #[]
  cf := some (fileOf pool24 14 #[.nestMembers #[975, 375, 113, 74]] #[{ accessFlags := 2, nameIndex := 5, descriptorIndex := 6, attributes := #[] }, { accessFlags := 10, nameIndex := 345, descriptorIndex := 346, attributes := #[] }, { accessFlags := 9, nameIndex := 139, descriptorIndex := 342, attributes := #[] }, { accessFlags := 10, nameIndex := 341, descriptorIndex := 342, attributes := #[] }] 49 2 #[] #[{ accessFlags := 26, nameIndex := 715, descriptorIndex := 716, attributes := #[] }, { accessFlags := 26, nameIndex := 719, descriptorIndex := 716, attributes := #[] }, { accessFlags := 4120, nameIndex := 445, descriptorIndex := 117, attributes := #[] }])
  fields := #[{ name := "MIN_ARRAY_SORT_GRAN", type := .int, accessFlags := 26, slot := 0, constantValue := 0 }, { name := "INSERTIONSORT_THRESHOLD", type := .int, accessFlags := 26, slot := 1, constantValue := 0 }, { name := "$assertionsDisabled", type := .boolean, accessFlags := 4120, slot := 2, constantValue := 0 }]
  methods := #[k24m0, k24m1, k24m2, k24m3]
  instanceTypes := #[]
  staticTypes := #[.int, .int, .boolean]
  resolved := Array.replicate 1029 none
  statics := none }

def pool25 : Array CpInfo := pool [(1, .class_ 2), (0, u "java/lang/Math"), (1, .class_ 6), (1, u "java/lang/Object"), (0, u "<init>"), (0, u "()V"), (89, .class_ 100), (1, u "java/lang/Math$RandomNumberGeneratorHolder"), (71, u "negativeZeroFloatBits"), (0, u "J"), (2, u "negativeZeroDoubleBits"), (21, u "max"), (2, u "min"), (43, u "$assertionsDisabled"), (0, u "Z"), (88, u "(II)I"), (2, u "twoToTheDoubleScaleDown"), (0, u "D"), (4, u "twoToTheDoubleScaleUp"), (9, u "E"), (3, u "PI"), (2, u "TAU"), (2, u "DEGREES_TO_RADIANS"), (0, u "RADIANS_TO_DEGREES")] 94

def k25m0 : Method := { name := "<init>", desc := "()V", sig := { parameters := [], returnType := none }, accessFlags := 2, code := none }
def k25c1 : Code := { maxStack := 2, maxLocals := 2, code := jdk_29_method_65_code, exceptionTable := #[], attributes := #[] }
def k25m1 : Method := { name := "max", desc := "(II)I", sig := { parameters := [.int, .int], returnType := some .int }, accessFlags := 9, code := some k25c1 }
def k25c2 : Code := { maxStack := 2, maxLocals := 2, code := jdk_29_method_69_code, exceptionTable := #[], attributes := #[] }
def k25m2 : Method := { name := "min", desc := "(II)I", sig := { parameters := [.int, .int], returnType := some .int }, accessFlags := 9, code := some k25c2 }
/-- java/lang/Math -/
def k25 : Class := { plain "java/lang/Math" (some 0) with
  accessFlags := 49
  interfaces := #[]
  cf := some (fileOf pool25 1 #[.nestMembers #[98]] #[{ accessFlags := 2, nameIndex := 7, descriptorIndex := 8, attributes := #[] }, { accessFlags := 9, nameIndex := 198, descriptorIndex := 335, attributes := #[] }, { accessFlags := 9, nameIndex := 201, descriptorIndex := 335, attributes := #[] }] 49 4 #[] #[{ accessFlags := 25, nameIndex := 354, descriptorIndex := 339, attributes := #[] }, { accessFlags := 25, nameIndex := 358, descriptorIndex := 339, attributes := #[] }, { accessFlags := 25, nameIndex := 361, descriptorIndex := 339, attributes := #[] }, { accessFlags := 26, nameIndex := 364, descriptorIndex := 339, attributes := #[] }, { accessFlags := 26, nameIndex := 365, descriptorIndex := 339, attributes := #[] }, { accessFlags := 26, nameIndex := 172, descriptorIndex := 173, attributes := #[] }, { accessFlags := 26, nameIndex := 176, descriptorIndex := 173, attributes := #[] }, { accessFlags := 8, nameIndex := 344, descriptorIndex := 339, attributes := #[] }, { accessFlags := 8, nameIndex := 338, descriptorIndex := 339, attributes := #[] }, { accessFlags := 4120, nameIndex := 245, descriptorIndex := 246, attributes := #[] }])
  fields := #[{ name := "E", type := .double, accessFlags := 25, slot := 0, constantValue := 0 }, { name := "PI", type := .double, accessFlags := 25, slot := 1, constantValue := 0 }, { name := "TAU", type := .double, accessFlags := 25, slot := 2, constantValue := 0 }, { name := "DEGREES_TO_RADIANS", type := .double, accessFlags := 26, slot := 3, constantValue := 0 }, { name := "RADIANS_TO_DEGREES", type := .double, accessFlags := 26, slot := 4, constantValue := 0 }, { name := "negativeZeroFloatBits", type := .long, accessFlags := 26, slot := 5, constantValue := 0 }, { name := "negativeZeroDoubleBits", type := .long, accessFlags := 26, slot := 6, constantValue := 0 }, { name := "twoToTheDoubleScaleUp", type := .double, accessFlags := 8, slot := 7, constantValue := 0 }, { name := "twoToTheDoubleScaleDown", type := .double, accessFlags := 8, slot := 8, constantValue := 0 }, { name := "$assertionsDisabled", type := .boolean, accessFlags := 4120, slot := 9, constantValue := 0 }]
  methods := #[k25m0, k25m1, k25m2]
  instanceTypes := #[]
  staticTypes := #[.double, .double, .double, .double, .double, .long, .long, .double, .double, .boolean]
  resolved := Array.replicate 460 none
  statics := none }

def pool26 : Array CpInfo := pool [(1, .class_ 2), (0, u "com/example/foyer/foyer/Registers"), (0, .class_ 4), (0, u "java/lang/Object")] 8

/-- com/example/foyer/foyer/Registers -/
def k26 : Class := { plain "com/example/foyer/foyer/Registers" (some 0) with
  accessFlags := 1536
  interfaces := #[]
  cf := some (fileOf pool26 1 #[] #[] 1536 3 #[] #[])
  fields := #[]
  methods := #[]
  instanceTypes := #[]
  staticTypes := #[]
  resolved := Array.replicate 13 none
  statics := none }

def pool27 : Array CpInfo := pool [(1, .methodref 2 3), (0, .class_ 4), (0, .nameAndType 5 6), (0, u "java/lang/Object"), (0, u "<init>"), (0, u "()V"), (0, .methodref 8 9), (0, .class_ 10), (0, .nameAndType 11 12), (0, u "com/example/foyer/foyer/Layout"), (0, u "initialValues"), (0, u "()[I"), (0, .fieldref 14 15), (0, .class_ 16), (0, .nameAndType 17 18), (0, u "com/example/foyer/foyer/PlainRegisters"), (0, u "values"), (0, u "[I"), (0, .methodref 20 21), (0, .class_ 22), (0, .nameAndType 23 24), (0, u "java/lang/System"), (0, u "arraycopy"), (0, u "(Ljava/lang/Object;ILjava/lang/Object;II)V"), (5, u "(I)I"), (0, .class_ 32), (0, u "com/example/foyer/foyer/Registers"), (0, u "(Lcom/example/foyer/foyer/Layout;)V"), (2, u "size"), (0, u "()I"), (1, u "([II)V"), (0, u "restore"), (0, u "read")] 6

def k27c0 : Code := { maxStack := 2, maxLocals := 2, code := prog_45_method_1_code, exceptionTable := #[], attributes := #[] }
def k27m0 : Method := { name := "<init>", desc := "(Lcom/example/foyer/foyer/Layout;)V", sig := { parameters := [(.object "com/example/foyer/foyer/Layout")], returnType := none }, accessFlags := 0, code := some k27c0 }
def k27c1 : Code := { maxStack := 1, maxLocals := 1, code := prog_45_method_2_code, exceptionTable := #[], attributes := #[] }
def k27m1 : Method := { name := "size", desc := "()I", sig := { parameters := [], returnType := some .int }, accessFlags := 0, code := some k27c1 }
def k27c2 : Code := { maxStack := 5, maxLocals := 3, code := prog_45_method_4_code, exceptionTable := #[], attributes := #[] }
def k27m2 : Method := { name := "restore", desc := "([II)V", sig := { parameters := [(.array .int), .int], returnType := none }, accessFlags := 0, code := some k27c2 }
def k27c3 : Code := { maxStack := 2, maxLocals := 2, code := prog_45_method_5_code, exceptionTable := #[], attributes := #[] }
def k27m3 : Method := { name := "read", desc := "(I)I", sig := { parameters := [.int], returnType := some .int }, accessFlags := 1, code := some k27c3 }
/-- com/example/foyer/foyer/PlainRegisters -/
def k27 : Class := { plain "com/example/foyer/foyer/PlainRegisters" (some 0) with
  accessFlags := 48
  interfaces := #[26]
  cf := some (fileOf pool27 14 #[] #[{ accessFlags := 0, nameIndex := 5, descriptorIndex := 33, attributes := #[] }, { accessFlags := 0, nameIndex := 36, descriptorIndex := 37, attributes := #[] }, { accessFlags := 0, nameIndex := 40, descriptorIndex := 39, attributes := #[] }, { accessFlags := 1, nameIndex := 41, descriptorIndex := 30, attributes := #[] }] 48 2 #[31] #[{ accessFlags := 18, nameIndex := 17, descriptorIndex := 18, attributes := #[] }])
  fields := #[{ name := "values", type := (.array .int), accessFlags := 18, slot := 0, constantValue := 0 }]
  methods := #[k27m0, k27m1, k27m2, k27m3]
  instanceTypes := #[(.array .int)]
  staticTypes := #[]
  resolved := Array.replicate 48 none
  statics := none }

def pool28 : Array CpInfo := pool [(2, .class_ 4), (1, u "java/lang/Object"), (0, u "<init>"), (0, u "()V"), (35, .class_ 44), (1, u "java/util/Objects"), (60, .methodref 106 107), (0, .class_ 108), (0, .nameAndType 109 110), (0, u "jdk/internal/util/Preconditions"), (0, u "checkIndex"), (0, u "(IILjava/util/function/BiFunction;)I"), (60, u "(II)I")] 12

def k28m0 : Method := { name := "<init>", desc := "()V", sig := { parameters := [], returnType := none }, accessFlags := 2, code := none }
def k28c1 : Code := { maxStack := 3, maxLocals := 2, code := jdk_31_method_17_code, exceptionTable := #[], attributes := #[] }
def k28m1 : Method := { name := "checkIndex", desc := "(II)I", sig := { parameters := [.int, .int], returnType := some .int }, accessFlags := 9, code := some k28c1 }
/-- java/util/Objects -/
def k28 : Class := { plain "java/util/Objects" (some 0) with
  accessFlags := 49
  interfaces := #[]
  cf := some (fileOf pool28 42 #[] #[{ accessFlags := 2, nameIndex := 5, descriptorIndex := 6, attributes := #[] }, { accessFlags := 9, nameIndex := 109, descriptorIndex := 171, attributes := #[] }] 49 2 #[] #[])
  fields := #[]
  methods := #[k28m0, k28m1]
  instanceTypes := #[]
  staticTypes := #[]
  resolved := Array.replicate 184 none
  statics := none }

def pool29 : Array CpInfo := pool [(2, .class_ 4), (1, u "java/lang/Object"), (0, u "<init>"), (0, u "()V"), (17, .class_ 26), (1, u "jdk/internal/util/Preconditions"), (6, u "checkIndex"), (21, .class_ 56), (0, u "jdk/internal/util/Preconditions$4"), (57, .class_ 115), (0, u "jdk/internal/util/Preconditions$1"), (7, u "SIOOBE_FORMATTER"), (0, u "Ljava/util/function/BiFunction;"), (0, .class_ 126), (0, u "jdk/internal/util/Preconditions$2"), (3, u "AIOOBE_FORMATTER"), (0, .class_ 132), (0, u "jdk/internal/util/Preconditions$3"), (3, u "IOOBE_FORMATTER"), (41, u "(IILjava/util/function/BiFunction;)I")] 15

def k29m0 : Method := { name := "<init>", desc := "()V", sig := { parameters := [], returnType := none }, accessFlags := 1, code := none }
def k29c1 : Code := { maxStack := 3, maxLocals := 3, code := jdk_41_method_11_code, exceptionTable := #[], attributes := #[] }
def k29m1 : Method := { name := "checkIndex", desc := "(IILjava/util/function/BiFunction;)I", sig := { parameters := [.int, .int, (.object "java/util/function/BiFunction")], returnType := some .int }, accessFlags := 9, code := some k29c1 }
/-- jdk/internal/util/Preconditions -/
def k29 : Class := { plain "jdk/internal/util/Preconditions" (some 0) with
  accessFlags := 33
  interfaces := #[]
  cf := some (fileOf pool29 24 #[.nestMembers #[55, 131, 125, 114]] #[{ accessFlags := 1, nameIndex := 5, descriptorIndex := 6, attributes := #[] }, { accessFlags := 9, nameIndex := 33, descriptorIndex := 178, attributes := #[] }] 33 2 #[] #[{ accessFlags := 25, nameIndex := 123, descriptorIndex := 124, attributes := #[] }, { accessFlags := 25, nameIndex := 130, descriptorIndex := 124, attributes := #[] }, { accessFlags := 25, nameIndex := 136, descriptorIndex := 124, attributes := #[] }])
  fields := #[{ name := "SIOOBE_FORMATTER", type := (.object "java/util/function/BiFunction"), accessFlags := 25, slot := 0, constantValue := 0 }, { name := "AIOOBE_FORMATTER", type := (.object "java/util/function/BiFunction"), accessFlags := 25, slot := 1, constantValue := 0 }, { name := "IOOBE_FORMATTER", type := (.object "java/util/function/BiFunction"), accessFlags := 25, slot := 2, constantValue := 0 }]
  methods := #[k29m0, k29m1]
  instanceTypes := #[]
  staticTypes := #[(.object "java/util/function/BiFunction"), (.object "java/util/function/BiFunction"), (.object "java/util/function/BiFunction")]
  resolved := Array.replicate 194 none
  statics := some 2 }

def pool30 : Array CpInfo := pool [(16, .class_ 18), (1, u "java/util/Iterator"), (0, u "hasNext"), (0, u "()Z"), (2, u "next"), (0, u "()Ljava/lang/Object;"), (6, .class_ 32), (0, u "java/lang/Object")] 20

def k30m0 : Method := { name := "hasNext", desc := "()Z", sig := { parameters := [], returnType := some .boolean }, accessFlags := 1025, code := none }
def k30m1 : Method := { name := "next", desc := "()Ljava/lang/Object;", sig := { parameters := [], returnType := some (.object "java/lang/Object") }, accessFlags := 1025, code := none }
/-- java/util/Iterator -/
def k30 : Class := { plain "java/util/Iterator" (some 0) with
  accessFlags := 1537
  interfaces := #[]
  cf := some (fileOf pool30 16 #[] #[{ accessFlags := 1025, nameIndex := 19, descriptorIndex := 20, attributes := #[] }, { accessFlags := 1025, nameIndex := 23, descriptorIndex := 24, attributes := #[] }] 1537 31 #[] #[])
  fields := #[]
  methods := #[k30m0, k30m1]
  instanceTypes := #[]
  staticTypes := #[]
  resolved := Array.replicate 53 none
  statics := none }

def pool31 : Array CpInfo := pool [(1, .fieldref 2 3), (0, .class_ 4), (0, .nameAndType 5 6), (0, u "java/util/ArrayList$Itr"), (0, u "this$0"), (0, u "Ljava/util/ArrayList;"), (0, .methodref 8 9), (0, .class_ 10), (0, .nameAndType 11 12), (0, u "java/lang/Object"), (0, u "<init>"), (0, u "()V"), (0, .fieldref 2 14), (0, .nameAndType 15 16), (0, u "lastRet"), (0, u "I"), (0, .fieldref 18 19), (0, .class_ 20), (0, .nameAndType 21 16), (0, u "java/util/ArrayList"), (0, u "modCount"), (0, .fieldref 2 23), (0, .nameAndType 24 16), (0, u "expectedModCount"), (0, .fieldref 2 26), (0, .nameAndType 27 16), (0, u "cursor"), (0, .fieldref 18 29), (0, .nameAndType 30 16), (0, u "size"), (0, .methodref 2 32), (0, .nameAndType 33 12), (0, u "checkForComodification"), (3, .fieldref 18 38), (0, .nameAndType 39 40), (0, u "elementData"), (0, u "[Ljava/lang/Object;"), (28, .class_ 70), (0, u "java/util/Iterator"), (0, u "(Ljava/util/ArrayList;)V"), (8, u "hasNext"), (0, u "()Z"), (1, u "next"), (0, u "()Ljava/lang/Object;")] 19

def k31c0 : Code := { maxStack := 2, maxLocals := 2, code := jdk_49_method_1_code, exceptionTable := #[], attributes := #[] }
def k31m0 : Method := { name := "<init>", desc := "(Ljava/util/ArrayList;)V", sig := { parameters := [(.object "java/util/ArrayList")], returnType := none }, accessFlags := 0, code := some k31c0 }
def k31c1 : Code := { maxStack := 2, maxLocals := 1, code := jdk_49_method_2_code, exceptionTable := #[], attributes := #[] }
def k31m1 : Method := { name := "hasNext", desc := "()Z", sig := { parameters := [], returnType := some .boolean }, accessFlags := 1, code := some k31c1 }
def k31c2 : Code := { maxStack := 4, maxLocals := 3, code := jdk_49_method_3_code, exceptionTable := #[], attributes := #[] }
def k31m2 : Method := { name := "next", desc := "()Ljava/lang/Object;", sig := { parameters := [], returnType := some (.object "java/lang/Object") }, accessFlags := 1, code := some k31c2 }
def k31c3 : Code := { maxStack := 2, maxLocals := 1, code := jdk_49_method_6_code, exceptionTable := #[], attributes := #[] }
def k31m3 : Method := { name := "checkForComodification", desc := "()V", sig := { parameters := [], returnType := none }, accessFlags := 16, code := some k31c3 }
/-- java/util/ArrayList$Itr -/
def k31 : Class := { plain "java/util/ArrayList$Itr" (some 0) with
  accessFlags := 32
  interfaces := #[30]
  cf := some (fileOf pool31 2 #[.nestHost 18] #[{ accessFlags := 0, nameIndex := 11, descriptorIndex := 71, attributes := #[] }, { accessFlags := 1, nameIndex := 80, descriptorIndex := 81, attributes := #[] }, { accessFlags := 1, nameIndex := 83, descriptorIndex := 84, attributes := #[] }, { accessFlags := 16, nameIndex := 33, descriptorIndex := 12, attributes := #[] }] 32 8 #[69] #[{ accessFlags := 0, nameIndex := 27, descriptorIndex := 16, attributes := #[] }, { accessFlags := 0, nameIndex := 15, descriptorIndex := 16, attributes := #[] }, { accessFlags := 0, nameIndex := 24, descriptorIndex := 16, attributes := #[] }, { accessFlags := 4112, nameIndex := 5, descriptorIndex := 6, attributes := #[] }])
  fields := #[{ name := "cursor", type := .int, accessFlags := 0, slot := 0, constantValue := 0 }, { name := "lastRet", type := .int, accessFlags := 0, slot := 1, constantValue := 0 }, { name := "expectedModCount", type := .int, accessFlags := 0, slot := 2, constantValue := 0 }, { name := "this$0", type := (.object "java/util/ArrayList"), accessFlags := 4112, slot := 3, constantValue := 0 }]
  methods := #[k31m0, k31m1, k31m2, k31m3]
  instanceTypes := #[.int, .int, .int, (.object "java/util/ArrayList")]
  staticTypes := #[]
  resolved := Array.replicate 104 none
  statics := none }

def pool32 : Array CpInfo := pool [(4, .class_ 6), (1, u "java/lang/Object"), (0, u "<init>"), (0, u "()V"), (5, .class_ 16), (1, u "java/lang/StringLatin1"), (104, u "$assertionsDisabled"), (0, u "Z"), (98, .class_ 223), (1, u "java/lang/StringLatin1$LinesSpliterator"), (166, .class_ 391), (0, u "java/lang/StringLatin1$CharsSpliterator")] 3

def k32m0 : Method := { name := "<init>", desc := "()V", sig := { parameters := [], returnType := none }, accessFlags := 0, code := none }
/-- java/lang/StringLatin1 -/
def k32 : Class := { plain "java/lang/StringLatin1" (some 0) with
  accessFlags := 48
  interfaces := #[]
  cf := some (fileOf pool32 14 #[.nestMembers #[390, 221]] #[{ accessFlags := 0, nameIndex := 7, descriptorIndex := 8, attributes := #[] }] 48 4 #[] #[{ accessFlags := 4120, nameIndex := 121, descriptorIndex := 122, attributes := #[] }])
  fields := #[{ name := "$assertionsDisabled", type := .boolean, accessFlags := 4120, slot := 0, constantValue := 0 }]
  methods := #[k32m0]
  instanceTypes := #[]
  staticTypes := #[.boolean]
  resolved := Array.replicate 395 none
  statics := none }

def pool33 : Array CpInfo := pool [(9, u "<init>"), (6, .class_ 18), (1, u "java/lang/Object"), (0, u "()V"), (1, .class_ 23), (1, u "jdk/internal/util/ArraysSupport"), (0, u "LOG2_ARRAY_LONG_INDEX_SCALE"), (0, u "I"), (2, u "U"), (0, u "Ljdk/internal/misc/Unsafe;"), (8, u "BIG_ENDIAN"), (0, u "Z"), (8, u "LOG2_BYTE_BIT_SIZE"), (4, u "LOG2_ARRAY_INT_INDEX_SCALE"), (54, u "JLA"), (0, u "Ljdk/internal/access/JavaLangAccess;"), (11, u "LOG2_ARRAY_BOOLEAN_INDEX_SCALE"), (9, u "LOG2_ARRAY_BYTE_INDEX_SCALE"), (5, u "LOG2_ARRAY_CHAR_INDEX_SCALE"), (5, u "LOG2_ARRAY_SHORT_INDEX_SCALE"), (18, u "LOG2_ARRAY_FLOAT_INDEX_SCALE"), (24, u "LOG2_ARRAY_DOUBLE_INDEX_SCALE"), (89, u "T_BOOLEAN"), (2, u "T_CHAR"), (1, u "T_FLOAT"), (1, u "T_DOUBLE"), (1, u "T_BYTE"), (1, u "T_SHORT"), (1, u "T_INT"), (1, u "T_LONG"), (1, u "SOFT_MAX_ARRAY_LENGTH")] 83

def k33m0 : Method := { name := "<init>", desc := "()V", sig := { parameters := [], returnType := none }, accessFlags := 2, code := none }
/-- jdk/internal/util/ArraysSupport -/
def k33 : Class := { plain "jdk/internal/util/ArraysSupport" (some 0) with
  accessFlags := 33
  interfaces := #[]
  cf := some (fileOf pool33 21 #[] #[{ accessFlags := 2, nameIndex := 9, descriptorIndex := 19, attributes := #[] }] 33 16 #[] #[{ accessFlags := 24, nameIndex := 28, descriptorIndex := 29, attributes := #[] }, { accessFlags := 26, nameIndex := 38, descriptorIndex := 39, attributes := #[] }, { accessFlags := 25, nameIndex := 121, descriptorIndex := 25, attributes := #[] }, { accessFlags := 25, nameIndex := 131, descriptorIndex := 25, attributes := #[] }, { accessFlags := 25, nameIndex := 137, descriptorIndex := 25, attributes := #[] }, { accessFlags := 25, nameIndex := 143, descriptorIndex := 25, attributes := #[] }, { accessFlags := 25, nameIndex := 53, descriptorIndex := 25, attributes := #[] }, { accessFlags := 25, nameIndex := 24, descriptorIndex := 25, attributes := #[] }, { accessFlags := 25, nameIndex := 162, descriptorIndex := 25, attributes := #[] }, { accessFlags := 25, nameIndex := 187, descriptorIndex := 25, attributes := #[] }, { accessFlags := 26, nameIndex := 48, descriptorIndex := 25, attributes := #[] }, { accessFlags := 25, nameIndex := 277, descriptorIndex := 25, attributes := #[] }, { accessFlags := 25, nameIndex := 280, descriptorIndex := 25, attributes := #[] }, { accessFlags := 25, nameIndex := 282, descriptorIndex := 25, attributes := #[] }, { accessFlags := 25, nameIndex := 284, descriptorIndex := 25, attributes := #[] }, { accessFlags := 25, nameIndex := 286, descriptorIndex := 25, attributes := #[] }, { accessFlags := 25, nameIndex := 288, descriptorIndex := 25, attributes := #[] }, { accessFlags := 25, nameIndex := 290, descriptorIndex := 25, attributes := #[] }, { accessFlags := 25, nameIndex := 292, descriptorIndex := 25, attributes := #[] }, { accessFlags := 26, nameIndex := 108, descriptorIndex := 109, attributes := #[] }, { accessFlags := 25, nameIndex := 294, descriptorIndex := 25, attributes := #[] }])
  fields := #[{ name := "U", type := (.object "jdk/internal/misc/Unsafe"), accessFlags := 24, slot := 0, constantValue := 0 }, { name := "BIG_ENDIAN", type := .boolean, accessFlags := 26, slot := 1, constantValue := 0 }, { name := "LOG2_ARRAY_BOOLEAN_INDEX_SCALE", type := .int, accessFlags := 25, slot := 2, constantValue := 0 }, { name := "LOG2_ARRAY_BYTE_INDEX_SCALE", type := .int, accessFlags := 25, slot := 3, constantValue := 0 }, { name := "LOG2_ARRAY_CHAR_INDEX_SCALE", type := .int, accessFlags := 25, slot := 4, constantValue := 0 }, { name := "LOG2_ARRAY_SHORT_INDEX_SCALE", type := .int, accessFlags := 25, slot := 5, constantValue := 0 }, { name := "LOG2_ARRAY_INT_INDEX_SCALE", type := .int, accessFlags := 25, slot := 6, constantValue := 0 }, { name := "LOG2_ARRAY_LONG_INDEX_SCALE", type := .int, accessFlags := 25, slot := 7, constantValue := 0 }, { name := "LOG2_ARRAY_FLOAT_INDEX_SCALE", type := .int, accessFlags := 25, slot := 8, constantValue := 0 }, { name := "LOG2_ARRAY_DOUBLE_INDEX_SCALE", type := .int, accessFlags := 25, slot := 9, constantValue := 0 }, { name := "LOG2_BYTE_BIT_SIZE", type := .int, accessFlags := 26, slot := 10, constantValue := 0 }, { name := "T_BOOLEAN", type := .int, accessFlags := 25, slot := 11, constantValue := 0 }, { name := "T_CHAR", type := .int, accessFlags := 25, slot := 12, constantValue := 0 }, { name := "T_FLOAT", type := .int, accessFlags := 25, slot := 13, constantValue := 0 }, { name := "T_DOUBLE", type := .int, accessFlags := 25, slot := 14, constantValue := 0 }, { name := "T_BYTE", type := .int, accessFlags := 25, slot := 15, constantValue := 0 }, { name := "T_SHORT", type := .int, accessFlags := 25, slot := 16, constantValue := 0 }, { name := "T_INT", type := .int, accessFlags := 25, slot := 17, constantValue := 0 }, { name := "T_LONG", type := .int, accessFlags := 25, slot := 18, constantValue := 0 }, { name := "JLA", type := (.object "jdk/internal/access/JavaLangAccess"), accessFlags := 26, slot := 19, constantValue := 0 }, { name := "SOFT_MAX_ARRAY_LENGTH", type := .int, accessFlags := 25, slot := 20, constantValue := 0 }]
  methods := #[k33m0]
  instanceTypes := #[]
  staticTypes := #[(.object "jdk/internal/misc/Unsafe"), .boolean, .int, .int, .int, .int, .int, .int, .int, .int, .int, .int, .int, .int, .int, .int, .int, .int, .int, (.object "jdk/internal/access/JavaLangAccess"), .int]
  resolved := Array.replicate 378 none
  statics := none }

/-- the primitive byte -/
def k34 : Class := { plain "byte" none with kind := .primitive 'B', accessFlags := 0x411 }
/-- [B -/
def k35 : Class := { plain "[B" (some 0) with kind := .array 34 .byte, interfaces := #[10, 11], accessFlags := 1041 }

/-- the primitive int -/
def k36 : Class := { plain "int" none with kind := .primitive 'I', accessFlags := 0x411 }
/-- [I -/
def k37 : Class := { plain "[I" (some 0) with kind := .array 36 .int, interfaces := #[10, 11], accessFlags := 1041 }

/-- [Ljava/lang/Object; -/
def k38 : Class := { plain "[Ljava/lang/Object;" (some 0) with kind := .array 0 (.object "java/lang/Object"), interfaces := #[10, 11], accessFlags := 1041 }

def classes0 : Array Class := #[k0, k1, k2, k3, k4, k5, k6, k7, k8, k9, k10, k11, k12, k13, k14, k15, k16, k17, k18, k19, k20, k21, k22, k23, k24, k25, k26, k27, k28, k29, k30, k31, k32, k33, k34, k35, k36, k37, k38]
/-- the class that the rule has made for the site at 6 of com/example/foyer/foyer/Layout.array -/
def k39 : Class := Jvm.LamKit.madeRec { classes := classes0 } "com/example/foyer/foyer/Layout" (Jvm.Lambda.Shape.mk "java/util/function/IntUnaryOperator" "applyAsInt" (Jvm.ClassFile.MethodDescriptor.mk ([Jvm.ClassFile.FieldType.int] : List Jvm.ClassFile.FieldType) (Option.some Jvm.ClassFile.FieldType.int)) ([Jvm.ClassFile.FieldType.int] : List Jvm.ClassFile.FieldType) (6 : Nat) "com/example/foyer/foyer/Layout" "lambda$array$1" (Jvm.ClassFile.MethodDescriptor.mk ([Jvm.ClassFile.FieldType.int, Jvm.ClassFile.FieldType.int] : List Jvm.ClassFile.FieldType) (Option.some Jvm.ClassFile.FieldType.int)) false (Jvm.ClassFile.MethodDescriptor.mk ([Jvm.ClassFile.FieldType.int] : List Jvm.ClassFile.FieldType) (Option.some Jvm.ClassFile.FieldType.int))) 39

def heap : Heap := #[{ cls := 12, slots := #[.long 0, .int 0, .ref 3, .ref 4], vm := .statics 12 },
  { cls := 17, slots := #[.long 0, .int 1, .null, .int 0, .null, .int 0, .int 0], vm := .statics 17 },
  { cls := 29, slots := #[.null, .null, .null], vm := .statics 29 },
  { cls := 38, slots := #[], vm := .none },
  { cls := 38, slots := #[], vm := .none }]
def classes : Array Class := #[k0, k1, k2, k3, k4, k5, k6, k7, k8, k9, k10, k11, k12, k13, k14, k15, k16, k17, k18, k19, k20, k21, k22, k23, k24, k25, k26, k27, k28, k29, k30, k31, k32, k33, k34, k35, k36, k37, k38, k39]
def interned : List (Array UInt16 × Addr) := []
def slotsUsed : Nat := 14
def theMethod : MethodId := ⟨1, 1⟩
def args0 : Array Value := #[.int 5, .int 5, .int 5, .long 5, .long 5, .long 5]
def aboutOver (below : List Frame) : State where
  vm := { classes := classes, interned := interned.toArray }
  heap := heap
  slotsUsed := slotsUsed
  threads := #[{ frames := .invoking theMethod args0 :: below }]
def below0 : List Frame := [.native { method := ⟨0, 0⟩, args := #[] }]
def about1 : State := aboutOver below0
def p0 : Program := .bare "" "" ""
def e0 : Env := launch0.env 0 0 0
theorem w_frames : about1.frames = Frame.invoking theMethod args0 :: below0 := rfl
set_option maxRecDepth 65536 in
theorem w_args : argsFit about1.vm theMethod args0 = true := by decide +kernel
set_option maxRecDepth 65536 in
theorem w_heap : heapFits about1 = true := by decide +kernel
set_option maxRecDepth 65536 in
theorem w_runnable : about1.curStatus? = some .runnable := by decide +kernel
set_option maxRecDepth 65536 in
theorem w_alone : about1.alone = true := by decide +kernel
set_option maxRecDepth 65536 in
theorem w_named : about1.methodNamed? x = some theMethod := by decide +kernel
set_option maxRecDepth 65536 in
theorem w_hears : about1.hears theMethod below0 = true := by decide +kernel
set_option maxRecDepth 65536 in
theorem w_ripe : about1.ripe theMethod args0 below0 = true := by decide +kernel
theorem w_running : about1.status = .running := rfl
set_option maxRecDepth 65536 in
theorem w_room : about1.hasRoom e0.platform room_1 = true :=
  launch0.hasRoom_least _ room_1 (by decide +kernel) (by decide +kernel) (by decide +kernel) (by decide +kernel) (by decide +kernel) (by decide +kernel)
theorem allAtoms_all (ts : List Jvm.Cond) (a : Array Jvm.Value) (st : Jvm.State) : (allAtoms ts).before a st = ts.all (fun c => c.before a st) := by
  induction ts with
  | nil => rfl
  | cons c t ih =>
    show (Jvm.Cond.and c (allAtoms t)).before a st = _
    rw [Jvm.Cond.before_and, ih, List.all_cons]
def words1 : List Jvm.Cond := Jvm.Cond.code x code maxLocals ret :: tables_1
/-- a 'code' word, met by the world's own term for the bytes: nothing is compared byte by byte -/
theorem code_word {y : MethodName} {bytes : ByteArray} {mx : Nat} {rt : Option FieldType} {a : Array Value} {s : State} {m : MethodId} {meth : Method} {c : Code} (h1 : s.methodNamed? y = some m) (h2 : s.vm.method? m = some meth) (h3 : meth.code = some c) (h4 : c.code = bytes)
    (h5 : (c.maxLocals == mx && c.exceptionTable.isEmpty && decide (c.maxStack ≤ mostOperands) && decide (meth.sig.returnType = rt) && !meth.locks && decide (parseMethodDescriptor y.desc = some meth.sig)) = true) : (Jvm.Cond.code y bytes mx rt).before a s = true := by
  simp only [Bool.and_eq_true, beq_iff_eq, Bool.not_eq_true', decide_eq_true_eq] at h5
  obtain ⟨⟨⟨⟨⟨g1, g2⟩, g3⟩, g4⟩, g5⟩, g6⟩ := h5
  simp [Cond.before, Cond.holds, Cond.value, h1, h2, h3, h4, g1, g2, g3, g4, g5, g6]
def isCode : Jvm.Cond → Bool
  | .code _ _ _ _ => true
  | _ => false
theorem all_split {L : List Jvm.Cond} {P : Jvm.Cond → Bool} (h1 : L.all (fun c => isCode c || P c) = true) (h2 : ∀ c ∈ L.filter isCode, P c = true) : L.all P = true := by
  refine List.all_eq_true.mpr fun c hc => ?_
  have h := List.all_eq_true.mp h1 c hc
  rcases Bool.eq_false_or_eq_true (isCode c) with hi | hi
  · exact h2 c (List.mem_filter.mpr ⟨hc, hi⟩)
  · simpa [hi] using h
set_option maxRecDepth 65536 in
theorem w_c0 : (Jvm.Cond.code x code maxLocals ret).before args0 about1 = true := code_word (m := ⟨1, 1⟩) (meth := k1m1) (c := k1c1) (by decide +kernel) rfl rfl rfl (by decide +kernel)
set_option maxRecDepth 65536 in
theorem w_c1 : (Jvm.Cond.code ({ cls := "com/example/foyer/foyer/Layout", name := "<init>", desc := "()V" } : Jvm.MethodName) prog_33_method_1_code (1 : Nat) (Option.none : Option Jvm.ClassFile.FieldType)).before args0 about1 = true := code_word (m := ⟨2, 0⟩) (meth := k2m0) (c := k2c0) (by decide +kernel) rfl rfl rfl (by decide +kernel)
set_option maxRecDepth 65536 in
theorem w_c2 : (Jvm.Cond.code ({ cls := "java/util/ArrayList", name := "<init>", desc := "()V" } : Jvm.MethodName) jdk_38_method_2_code (1 : Nat) (Option.none : Option Jvm.ClassFile.FieldType)).before args0 about1 = true := code_word (m := ⟨12, 0⟩) (meth := k12m0) (c := k12c0) (by decide +kernel) rfl rfl rfl (by decide +kernel)
set_option maxRecDepth 65536 in
theorem w_c3 : (Jvm.Cond.code ({ cls := "java/util/AbstractList", name := "<init>", desc := "()V" } : Jvm.MethodName) jdk_39_method_1_code (1 : Nat) (Option.none : Option Jvm.ClassFile.FieldType)).before args0 about1 = true := code_word (m := ⟨8, 0⟩) (meth := k8m0) (c := k8c0) (by decide +kernel) rfl rfl rfl (by decide +kernel)
set_option maxRecDepth 65536 in
theorem w_c4 : (Jvm.Cond.code ({ cls := "java/util/AbstractCollection", name := "<init>", desc := "()V" } : Jvm.MethodName) jdk_22_method_1_code (1 : Nat) (Option.none : Option Jvm.ClassFile.FieldType)).before args0 about1 = true := code_word (m := ⟨5, 0⟩) (meth := k5m0) (c := k5c0) (by decide +kernel) rfl rfl rfl (by decide +kernel)
set_option maxRecDepth 65536 in
theorem w_c5 : (Jvm.Cond.code ({ cls := "java/lang/Object", name := "<init>", desc := "()V" } : Jvm.MethodName) object_method_1_code (1 : Nat) (Option.none : Option Jvm.ClassFile.FieldType)).before args0 about1 = true := code_word (m := ⟨0, 0⟩) (meth := k0m0) (c := k0c0) (by decide +kernel) rfl rfl rfl (by decide +kernel)
set_option maxRecDepth 65536 in
theorem w_c6 : (Jvm.Cond.code ({ cls := "com/example/foyer/foyer/Layout", name := "<init>", desc := "(Ljava/util/List;Ljava/lang/String;)V" } : Jvm.MethodName) prog_33_method_2_code (3 : Nat) (Option.none : Option Jvm.ClassFile.FieldType)).before args0 about1 = true := code_word (m := ⟨2, 1⟩) (meth := k2m1) (c := k2c1) (by decide +kernel) rfl rfl rfl (by decide +kernel)
set_option maxRecDepth 65536 in
theorem w_c7 : (Jvm.Cond.code ({ cls := "com/example/foyer/foyer/Layout", name := "array", desc := "(Ljava/lang/String;III)Lcom/example/foyer/foyer/Layout$RegisterArray;" } : Jvm.MethodName) prog_33_method_5_code (5 : Nat) (Option.some (Jvm.ClassFile.FieldType.object "com/example/foyer/foyer/Layout$RegisterArray"))).before args0 about1 = true := code_word (m := ⟨2, 2⟩) (meth := k2m2) (c := k2c2) (by decide +kernel) rfl rfl rfl (by decide +kernel)
set_option maxRecDepth 65536 in
theorem w_c8 : (Jvm.Cond.code ({ cls := "com/example/foyer/foyer/Layout", name := "array", desc := "(Ljava/lang/String;IILjava/util/function/IntUnaryOperator;)Lcom/example/foyer/foyer/Layout$RegisterArray;" } : Jvm.MethodName) prog_33_method_6_code (5 : Nat) (Option.some (Jvm.ClassFile.FieldType.object "com/example/foyer/foyer/Layout$RegisterArray"))).before args0 about1 = true := code_word (m := ⟨2, 3⟩) (meth := k2m3) (c := k2c3) (by decide +kernel) rfl rfl rfl (by decide +kernel)
set_option maxRecDepth 65536 in
theorem w_c9 : (Jvm.Cond.code ({ cls := "com/example/foyer/foyer/Layout", name := "declare", desc := "(Ljava/lang/String;IILjava/util/function/IntUnaryOperator;Z)Lcom/example/foyer/foyer/Layout$RegisterArray;" } : Jvm.MethodName) prog_33_method_10_code (7 : Nat) (Option.some (Jvm.ClassFile.FieldType.object "com/example/foyer/foyer/Layout$RegisterArray"))).before args0 about1 = true := code_word (m := ⟨2, 6⟩) (meth := k2m6) (c := k2c6) (by decide +kernel) rfl rfl rfl (by decide +kernel)
set_option maxRecDepth 65536 in
theorem w_c10 : (Jvm.Cond.code ({ cls := "java/lang/StringBuilder", name := "<init>", desc := "()V" } : Jvm.MethodName) jdk_67_method_1_code (1 : Nat) (Option.none : Option Jvm.ClassFile.FieldType)).before args0 about1 = true := code_word (m := ⟨22, 0⟩) (meth := k22m0) (c := k22c0) (by decide +kernel) rfl rfl rfl (by decide +kernel)
set_option maxRecDepth 65536 in
theorem w_c11 : (Jvm.Cond.code ({ cls := "java/lang/AbstractStringBuilder", name := "<init>", desc := "(I)V" } : Jvm.MethodName) jdk_68_method_2_code (2 : Nat) (Option.none : Option Jvm.ClassFile.FieldType)).before args0 about1 = true := code_word (m := ⟨21, 1⟩) (meth := k21m1) (c := k21c1) (by decide +kernel) rfl rfl rfl (by decide +kernel)
set_option maxRecDepth 65536 in
theorem w_c12 : (Jvm.Cond.code ({ cls := "java/lang/StringBuilder", name := "append", desc := "(Ljava/lang/String;)Ljava/lang/StringBuilder;" } : Jvm.MethodName) jdk_67_method_7_code (2 : Nat) (Option.some (Jvm.ClassFile.FieldType.object "java/lang/StringBuilder"))).before args0 about1 = true := code_word (m := ⟨22, 1⟩) (meth := k22m1) (c := k22c1) (by decide +kernel) rfl rfl rfl (by decide +kernel)
set_option maxRecDepth 65536 in
theorem w_c13 : (Jvm.Cond.code ({ cls := "java/lang/AbstractStringBuilder", name := "append", desc := "(Ljava/lang/String;)Ljava/lang/AbstractStringBuilder;" } : Jvm.MethodName) jdk_68_method_22_code (3 : Nat) (Option.some (Jvm.ClassFile.FieldType.object "java/lang/AbstractStringBuilder"))).before args0 about1 = true := code_word (m := ⟨21, 4⟩) (meth := k21m4) (c := k21c4) (by decide +kernel) rfl rfl rfl (by decide +kernel)
set_option maxRecDepth 65536 in
theorem w_c14 : (Jvm.Cond.code ({ cls := "java/lang/String", name := "length", desc := "()I" } : Jvm.MethodName) jdk_42_method_54_code (1 : Nat) (Option.some Jvm.ClassFile.FieldType.int)).before args0 about1 = true := code_word (m := ⟨17, 2⟩) (meth := k17m2) (c := k17c2) (by decide +kernel) rfl rfl rfl (by decide +kernel)
set_option maxRecDepth 65536 in
theorem w_c15 : (Jvm.Cond.code ({ cls := "java/lang/String", name := "coder", desc := "()B" } : Jvm.MethodName) jdk_42_method_152_code (1 : Nat) (Option.some Jvm.ClassFile.FieldType.byte)).before args0 about1 = true := code_word (m := ⟨17, 5⟩) (meth := k17m5) (c := k17c5) (by decide +kernel) rfl rfl rfl (by decide +kernel)
set_option maxRecDepth 65536 in
theorem w_c16 : (Jvm.Cond.code ({ cls := "java/lang/AbstractStringBuilder", name := "ensureCapacityInternal", desc := "(I)V" } : Jvm.MethodName) jdk_68_method_9_code (3 : Nat) (Option.none : Option Jvm.ClassFile.FieldType)).before args0 about1 = true := code_word (m := ⟨21, 3⟩) (meth := k21m3) (c := k21c3) (by decide +kernel) rfl rfl rfl (by decide +kernel)
set_option maxRecDepth 65536 in
theorem w_c17 : (Jvm.Cond.code ({ cls := "java/lang/AbstractStringBuilder", name := "putStringAt", desc := "(ILjava/lang/String;)V" } : Jvm.MethodName) jdk_68_method_73_code (3 : Nat) (Option.none : Option Jvm.ClassFile.FieldType)).before args0 about1 = true := code_word (m := ⟨21, 8⟩) (meth := k21m8) (c := k21c8) (by decide +kernel) rfl rfl rfl (by decide +kernel)
set_option maxRecDepth 65536 in
theorem w_c18 : (Jvm.Cond.code ({ cls := "java/lang/AbstractStringBuilder", name := "inflateIfNeededFor", desc := "(Ljava/lang/String;)V" } : Jvm.MethodName) jdk_68_method_71_code (2 : Nat) (Option.none : Option Jvm.ClassFile.FieldType)).before args0 about1 = true := code_word (m := ⟨21, 7⟩) (meth := k21m7) (c := k21c7) (by decide +kernel) rfl rfl rfl (by decide +kernel)
set_option maxRecDepth 65536 in
theorem w_c19 : (Jvm.Cond.code ({ cls := "java/lang/String", name := "getBytes", desc := "([BIB)V" } : Jvm.MethodName) jdk_42_method_147_code (4 : Nat) (Option.none : Option Jvm.ClassFile.FieldType)).before args0 about1 = true := code_word (m := ⟨17, 3⟩) (meth := k17m3) (c := k17c3) (by decide +kernel) rfl rfl rfl (by decide +kernel)
set_option maxRecDepth 65536 in
theorem w_c20 : (Jvm.Cond.code ({ cls := "java/lang/StringBuilder", name := "toString", desc := "()Ljava/lang/String;" } : Jvm.MethodName) jdk_67_method_42_code (1 : Nat) (Option.some (Jvm.ClassFile.FieldType.object "java/lang/String"))).before args0 about1 = true := code_word (m := ⟨22, 2⟩) (meth := k22m2) (c := k22c2) (by decide +kernel) rfl rfl rfl (by decide +kernel)
set_option maxRecDepth 65536 in
theorem w_c21 : (Jvm.Cond.code ({ cls := "java/lang/String", name := "<init>", desc := "(Ljava/lang/StringBuilder;)V" } : Jvm.MethodName) jdk_42_method_53_code (2 : Nat) (Option.none : Option Jvm.ClassFile.FieldType)).before args0 about1 = true := code_word (m := ⟨17, 1⟩) (meth := k17m1) (c := k17c1) (by decide +kernel) rfl rfl rfl (by decide +kernel)
set_option maxRecDepth 65536 in
theorem w_c22 : (Jvm.Cond.code ({ cls := "java/lang/String", name := "<init>", desc := "(Ljava/lang/AbstractStringBuilder;Ljava/lang/Void;)V" } : Jvm.MethodName) jdk_42_method_150_code (5 : Nat) (Option.none : Option Jvm.ClassFile.FieldType)).before args0 about1 = true := code_word (m := ⟨17, 4⟩) (meth := k17m4) (c := k17c4) (by decide +kernel) rfl rfl rfl (by decide +kernel)
set_option maxRecDepth 65536 in
theorem w_c23 : (Jvm.Cond.code ({ cls := "java/lang/AbstractStringBuilder", name := "getValue", desc := "()[B" } : Jvm.MethodName) jdk_68_method_64_code (1 : Nat) (Option.some (Jvm.ClassFile.FieldType.array Jvm.ClassFile.FieldType.byte))).before args0 about1 = true := code_word (m := ⟨21, 5⟩) (meth := k21m5) (c := k21c5) (by decide +kernel) rfl rfl rfl (by decide +kernel)
set_option maxRecDepth 65536 in
theorem w_c24 : (Jvm.Cond.code ({ cls := "java/lang/StringBuilder", name := "length", desc := "()I" } : Jvm.MethodName) jdk_67_method_93_code (1 : Nat) (Option.some Jvm.ClassFile.FieldType.int)).before args0 about1 = true := code_word (m := ⟨22, 3⟩) (meth := k22m3) (c := k22c3) (by decide +kernel) rfl rfl rfl (by decide +kernel)
set_option maxRecDepth 65536 in
theorem w_c25 : (Jvm.Cond.code ({ cls := "java/lang/AbstractStringBuilder", name := "length", desc := "()I" } : Jvm.MethodName) jdk_68_method_6_code (1 : Nat) (Option.some Jvm.ClassFile.FieldType.int)).before args0 about1 = true := code_word (m := ⟨21, 2⟩) (meth := k21m2) (c := k21c2) (by decide +kernel) rfl rfl rfl (by decide +kernel)
set_option maxRecDepth 65536 in
theorem w_c26 : (Jvm.Cond.code ({ cls := "java/lang/AbstractStringBuilder", name := "isLatin1", desc := "()Z" } : Jvm.MethodName) jdk_68_method_68_code (1 : Nat) (Option.some Jvm.ClassFile.FieldType.boolean)).before args0 about1 = true := code_word (m := ⟨21, 6⟩) (meth := k21m6) (c := k21c6) (by decide +kernel) rfl rfl rfl (by decide +kernel)
set_option maxRecDepth 65536 in
theorem w_c27 : (Jvm.Cond.code ({ cls := "java/util/Arrays", name := "copyOfRange", desc := "([BII)[B" } : Jvm.MethodName) jdk_65_method_132_code (3 : Nat) (Option.some (Jvm.ClassFile.FieldType.array Jvm.ClassFile.FieldType.byte))).before args0 about1 = true := code_word (m := ⟨24, 2⟩) (meth := k24m2) (c := k24c2) (by decide +kernel) rfl rfl rfl (by decide +kernel)
set_option maxRecDepth 65536 in
theorem w_c28 : (Jvm.Cond.code ({ cls := "java/util/Arrays", name := "copyOfRangeByte", desc := "([BII)[B" } : Jvm.MethodName) jdk_65_method_133_code (5 : Nat) (Option.some (Jvm.ClassFile.FieldType.array Jvm.ClassFile.FieldType.byte))).before args0 about1 = true := code_word (m := ⟨24, 3⟩) (meth := k24m3) (c := k24c3) (by decide +kernel) rfl rfl rfl (by decide +kernel)
set_option maxRecDepth 65536 in
theorem w_c29 : (Jvm.Cond.code ({ cls := "java/util/Arrays", name := "checkLength", desc := "(II)V" } : Jvm.MethodName) jdk_65_method_131_code (2 : Nat) (Option.none : Option Jvm.ClassFile.FieldType)).before args0 about1 = true := code_word (m := ⟨24, 1⟩) (meth := k24m1) (c := k24c1) (by decide +kernel) rfl rfl rfl (by decide +kernel)
set_option maxRecDepth 65536 in
theorem w_c30 : (Jvm.Cond.code ({ cls := "java/lang/Math", name := "min", desc := "(II)I" } : Jvm.MethodName) jdk_29_method_69_code (2 : Nat) (Option.some Jvm.ClassFile.FieldType.int)).before args0 about1 = true := code_word (m := ⟨25, 2⟩) (meth := k25m2) (c := k25c2) (by decide +kernel) rfl rfl rfl (by decide +kernel)
set_option maxRecDepth 65536 in
theorem w_c31 : (Jvm.Cond.code ({ cls := "com/example/foyer/foyer/Layout", name := "size", desc := "()I" } : Jvm.MethodName) prog_33_method_9_code (3 : Nat) (Option.some Jvm.ClassFile.FieldType.int)).before args0 about1 = true := code_word (m := ⟨2, 5⟩) (meth := k2m5) (c := k2c5) (by decide +kernel) rfl rfl rfl (by decide +kernel)
set_option maxRecDepth 65536 in
theorem w_c32 : (Jvm.Cond.code ({ cls := "java/util/ArrayList", name := "isEmpty", desc := "()Z" } : Jvm.MethodName) jdk_38_method_9_code (1 : Nat) (Option.some Jvm.ClassFile.FieldType.boolean)).before args0 about1 = true := code_word (m := ⟨12, 4⟩) (meth := k12m4) (c := k12c4) (by decide +kernel) rfl rfl rfl (by decide +kernel)
set_option maxRecDepth 65536 in
theorem w_c33 : (Jvm.Cond.code ({ cls := "com/example/foyer/foyer/Layout$RegisterArray", name := "<init>", desc := "(Ljava/lang/String;IIILjava/util/function/IntUnaryOperator;Z)V" } : Jvm.MethodName) prog_34_method_1_code (7 : Nat) (Option.none : Option Jvm.ClassFile.FieldType)).before args0 about1 = true := code_word (m := ⟨19, 0⟩) (meth := k19m0) (c := k19c0) (by decide +kernel) rfl rfl rfl (by decide +kernel)
set_option maxRecDepth 65536 in
theorem w_c34 : (Jvm.Cond.code ({ cls := "java/util/ArrayList", name := "add", desc := "(Ljava/lang/Object;)Z" } : Jvm.MethodName) jdk_38_method_25_code (2 : Nat) (Option.some Jvm.ClassFile.FieldType.boolean)).before args0 about1 = true := code_word (m := ⟨12, 8⟩) (meth := k12m8) (c := k12c8) (by decide +kernel) rfl rfl rfl (by decide +kernel)
set_option maxRecDepth 65536 in
theorem w_c35 : (Jvm.Cond.code ({ cls := "java/util/ArrayList", name := "add", desc := "(Ljava/lang/Object;[Ljava/lang/Object;I)V" } : Jvm.MethodName) jdk_38_method_24_code (4 : Nat) (Option.none : Option Jvm.ClassFile.FieldType)).before args0 about1 = true := code_word (m := ⟨12, 7⟩) (meth := k12m7) (c := k12c7) (by decide +kernel) rfl rfl rfl (by decide +kernel)
set_option maxRecDepth 65536 in
theorem w_c36 : (Jvm.Cond.code ({ cls := "java/util/ArrayList", name := "grow", desc := "()[Ljava/lang/Object;" } : Jvm.MethodName) jdk_38_method_7_code (1 : Nat) (Option.some (Jvm.ClassFile.FieldType.array (Jvm.ClassFile.FieldType.object "java/lang/Object")))).before args0 about1 = true := code_word (m := ⟨12, 2⟩) (meth := k12m2) (c := k12c2) (by decide +kernel) rfl rfl rfl (by decide +kernel)
set_option maxRecDepth 65536 in
theorem w_c37 : (Jvm.Cond.code ({ cls := "java/util/ArrayList", name := "grow", desc := "(I)[Ljava/lang/Object;" } : Jvm.MethodName) jdk_38_method_6_code (4 : Nat) (Option.some (Jvm.ClassFile.FieldType.array (Jvm.ClassFile.FieldType.object "java/lang/Object")))).before args0 about1 = true := code_word (m := ⟨12, 1⟩) (meth := k12m1) (c := k12c1) (by decide +kernel) rfl rfl rfl (by decide +kernel)
set_option maxRecDepth 65536 in
theorem w_c38 : (Jvm.Cond.code ({ cls := "java/lang/Math", name := "max", desc := "(II)I" } : Jvm.MethodName) jdk_29_method_65_code (2 : Nat) (Option.some Jvm.ClassFile.FieldType.int)).before args0 about1 = true := code_word (m := ⟨25, 1⟩) (meth := k25m1) (c := k25c1) (by decide +kernel) rfl rfl rfl (by decide +kernel)
set_option maxRecDepth 65536 in
theorem w_c39 : (Jvm.Cond.code ({ cls := "com/example/foyer/foyer/PlainRegisters", name := "<init>", desc := "(Lcom/example/foyer/foyer/Layout;)V" } : Jvm.MethodName) prog_45_method_1_code (2 : Nat) (Option.none : Option Jvm.ClassFile.FieldType)).before args0 about1 = true := code_word (m := ⟨27, 0⟩) (meth := k27m0) (c := k27c0) (by decide +kernel) rfl rfl rfl (by decide +kernel)
set_option maxRecDepth 65536 in
theorem w_c40 : (Jvm.Cond.code ({ cls := "com/example/foyer/foyer/Layout", name := "initialValues", desc := "()[I" } : Jvm.MethodName) prog_33_method_7_code (5 : Nat) (Option.some (Jvm.ClassFile.FieldType.array Jvm.ClassFile.FieldType.int))).before args0 about1 = true := code_word (m := ⟨2, 4⟩) (meth := k2m4) (c := k2c4) (by decide +kernel) rfl rfl rfl (by decide +kernel)
set_option maxRecDepth 65536 in
theorem w_c41 : (Jvm.Cond.code ({ cls := "java/util/ArrayList", name := "size", desc := "()I" } : Jvm.MethodName) jdk_38_method_8_code (1 : Nat) (Option.some Jvm.ClassFile.FieldType.int)).before args0 about1 = true := code_word (m := ⟨12, 3⟩) (meth := k12m3) (c := k12c3) (by decide +kernel) rfl rfl rfl (by decide +kernel)
set_option maxRecDepth 65536 in
theorem w_c42 : (Jvm.Cond.code ({ cls := "java/util/ArrayList", name := "get", desc := "(I)Ljava/lang/Object;" } : Jvm.MethodName) jdk_38_method_20_code (2 : Nat) (Option.some (Jvm.ClassFile.FieldType.object "java/lang/Object"))).before args0 about1 = true := code_word (m := ⟨12, 6⟩) (meth := k12m6) (c := k12c6) (by decide +kernel) rfl rfl rfl (by decide +kernel)
set_option maxRecDepth 65536 in
theorem w_c43 : (Jvm.Cond.code ({ cls := "java/util/Objects", name := "checkIndex", desc := "(II)I" } : Jvm.MethodName) jdk_31_method_17_code (2 : Nat) (Option.some Jvm.ClassFile.FieldType.int)).before args0 about1 = true := code_word (m := ⟨28, 1⟩) (meth := k28m1) (c := k28c1) (by decide +kernel) rfl rfl rfl (by decide +kernel)
set_option maxRecDepth 65536 in
theorem w_c44 : (Jvm.Cond.code ({ cls := "jdk/internal/util/Preconditions", name := "checkIndex", desc := "(IILjava/util/function/BiFunction;)I" } : Jvm.MethodName) jdk_41_method_11_code (3 : Nat) (Option.some Jvm.ClassFile.FieldType.int)).before args0 about1 = true := code_word (m := ⟨29, 1⟩) (meth := k29m1) (c := k29c1) (by decide +kernel) rfl rfl rfl (by decide +kernel)
set_option maxRecDepth 65536 in
theorem w_c45 : (Jvm.Cond.code ({ cls := "java/util/ArrayList", name := "elementData", desc := "(I)Ljava/lang/Object;" } : Jvm.MethodName) jdk_38_method_18_code (2 : Nat) (Option.some (Jvm.ClassFile.FieldType.object "java/lang/Object"))).before args0 about1 = true := code_word (m := ⟨12, 5⟩) (meth := k12m5) (c := k12c5) (by decide +kernel) rfl rfl rfl (by decide +kernel)
set_option maxRecDepth 65536 in
theorem w_c46 : (Jvm.Cond.code ({ cls := "java/util/ArrayList", name := "iterator", desc := "()Ljava/util/Iterator;" } : Jvm.MethodName) jdk_38_method_55_code (1 : Nat) (Option.some (Jvm.ClassFile.FieldType.object "java/util/Iterator"))).before args0 about1 = true := code_word (m := ⟨12, 9⟩) (meth := k12m9) (c := k12c9) (by decide +kernel) rfl rfl rfl (by decide +kernel)
set_option maxRecDepth 65536 in
theorem w_c47 : (Jvm.Cond.code ({ cls := "java/util/ArrayList$Itr", name := "<init>", desc := "(Ljava/util/ArrayList;)V" } : Jvm.MethodName) jdk_49_method_1_code (2 : Nat) (Option.none : Option Jvm.ClassFile.FieldType)).before args0 about1 = true := code_word (m := ⟨31, 0⟩) (meth := k31m0) (c := k31c0) (by decide +kernel) rfl rfl rfl (by decide +kernel)
set_option maxRecDepth 65536 in
theorem w_c48 : (Jvm.Cond.code ({ cls := "java/util/ArrayList$Itr", name := "hasNext", desc := "()Z" } : Jvm.MethodName) jdk_49_method_2_code (1 : Nat) (Option.some Jvm.ClassFile.FieldType.boolean)).before args0 about1 = true := code_word (m := ⟨31, 1⟩) (meth := k31m1) (c := k31c1) (by decide +kernel) rfl rfl rfl (by decide +kernel)
set_option maxRecDepth 65536 in
theorem w_c49 : (Jvm.Cond.code ({ cls := "java/util/ArrayList$Itr", name := "next", desc := "()Ljava/lang/Object;" } : Jvm.MethodName) jdk_49_method_3_code (3 : Nat) (Option.some (Jvm.ClassFile.FieldType.object "java/lang/Object"))).before args0 about1 = true := code_word (m := ⟨31, 2⟩) (meth := k31m2) (c := k31c2) (by decide +kernel) rfl rfl rfl (by decide +kernel)
set_option maxRecDepth 65536 in
theorem w_c50 : (Jvm.Cond.code ({ cls := "java/util/ArrayList$Itr", name := "checkForComodification", desc := "()V" } : Jvm.MethodName) jdk_49_method_6_code (1 : Nat) (Option.none : Option Jvm.ClassFile.FieldType)).before args0 about1 = true := code_word (m := ⟨31, 3⟩) (meth := k31m3) (c := k31c3) (by decide +kernel) rfl rfl rfl (by decide +kernel)
set_option maxRecDepth 65536 in
theorem w_c51 : (Jvm.Cond.code ({ cls := "com/example/foyer/foyer/PlainRegisters", name := "restore", desc := "([II)V" } : Jvm.MethodName) prog_45_method_4_code (3 : Nat) (Option.none : Option Jvm.ClassFile.FieldType)).before args0 about1 = true := code_word (m := ⟨27, 2⟩) (meth := k27m2) (c := k27c2) (by decide +kernel) rfl rfl rfl (by decide +kernel)
set_option maxRecDepth 65536 in
theorem w_c52 : (Jvm.Cond.code ({ cls := "com/example/foyer/foyer/PlainRegisters", name := "size", desc := "()I" } : Jvm.MethodName) prog_45_method_2_code (1 : Nat) (Option.some Jvm.ClassFile.FieldType.int)).before args0 about1 = true := code_word (m := ⟨27, 1⟩) (meth := k27m1) (c := k27c1) (by decide +kernel) rfl rfl rfl (by decide +kernel)
set_option maxRecDepth 65536 in
theorem w_c53 : (Jvm.Cond.code ({ cls := "com/example/foyer/foyer/PlainRegistersRestorePinLaw", name := "unchanged", desc := "([IIIIIII)Z" } : Jvm.MethodName) method_3_code (7 : Nat) (Option.some Jvm.ClassFile.FieldType.boolean)).before args0 about1 = true := code_word (m := ⟨1, 2⟩) (meth := k1m2) (c := k1c2) (by decide +kernel) rfl rfl rfl (by decide +kernel)
set_option maxRecDepth 65536 in
theorem w_c54 : (Jvm.Cond.code ({ cls := "com/example/foyer/foyer/Layout", name := "lambda$array$1", desc := "(II)I" } : Jvm.MethodName) prog_33_method_12_code (2 : Nat) (Option.some Jvm.ClassFile.FieldType.int)).before args0 about1 = true := code_word (m := ⟨2, 7⟩) (meth := k2m7) (c := k2c7) (by decide +kernel) rfl rfl rfl (by decide +kernel)
set_option maxRecDepth 65536 in
theorem w_c55 : (Jvm.Cond.code ({ cls := "com/example/foyer/foyer/PlainRegisters", name := "read", desc := "(I)I" } : Jvm.MethodName) prog_45_method_5_code (2 : Nat) (Option.some Jvm.ClassFile.FieldType.int)).before args0 about1 = true := code_word (m := ⟨27, 3⟩) (meth := k27m3) (c := k27c3) (by decide +kernel) rfl rfl rfl (by decide +kernel)
def codes1 : List Jvm.Cond := [Jvm.Cond.code x code maxLocals ret, Jvm.Cond.code ({ cls := "com/example/foyer/foyer/Layout", name := "<init>", desc := "()V" } : Jvm.MethodName) prog_33_method_1_code (1 : Nat) (Option.none : Option Jvm.ClassFile.FieldType), Jvm.Cond.code ({ cls := "java/util/ArrayList", name := "<init>", desc := "()V" } : Jvm.MethodName) jdk_38_method_2_code (1 : Nat) (Option.none : Option Jvm.ClassFile.FieldType), Jvm.Cond.code ({ cls := "java/util/AbstractList", name := "<init>", desc := "()V" } : Jvm.MethodName) jdk_39_method_1_code (1 : Nat) (Option.none : Option Jvm.ClassFile.FieldType), Jvm.Cond.code ({ cls := "java/util/AbstractCollection", name := "<init>", desc := "()V" } : Jvm.MethodName) jdk_22_method_1_code (1 : Nat) (Option.none : Option Jvm.ClassFile.FieldType), Jvm.Cond.code ({ cls := "java/lang/Object", name := "<init>", desc := "()V" } : Jvm.MethodName) object_method_1_code (1 : Nat) (Option.none : Option Jvm.ClassFile.FieldType), Jvm.Cond.code ({ cls := "com/example/foyer/foyer/Layout", name := "<init>", desc := "(Ljava/util/List;Ljava/lang/String;)V" } : Jvm.MethodName) prog_33_method_2_code (3 : Nat) (Option.none : Option Jvm.ClassFile.FieldType), Jvm.Cond.code ({ cls := "com/example/foyer/foyer/Layout", name := "array", desc := "(Ljava/lang/String;III)Lcom/example/foyer/foyer/Layout$RegisterArray;" } : Jvm.MethodName) prog_33_method_5_code (5 : Nat) (Option.some (Jvm.ClassFile.FieldType.object "com/example/foyer/foyer/Layout$RegisterArray")), Jvm.Cond.code ({ cls := "com/example/foyer/foyer/Layout", name := "array", desc := "(Ljava/lang/String;IILjava/util/function/IntUnaryOperator;)Lcom/example/foyer/foyer/Layout$RegisterArray;" } : Jvm.MethodName) prog_33_method_6_code (5 : Nat) (Option.some (Jvm.ClassFile.FieldType.object "com/example/foyer/foyer/Layout$RegisterArray")), Jvm.Cond.code ({ cls := "com/example/foyer/foyer/Layout", name := "declare", desc := "(Ljava/lang/String;IILjava/util/function/IntUnaryOperator;Z)Lcom/example/foyer/foyer/Layout$RegisterArray;" } : Jvm.MethodName) prog_33_method_10_code (7 : Nat) (Option.some (Jvm.ClassFile.FieldType.object "com/example/foyer/foyer/Layout$RegisterArray")), Jvm.Cond.code ({ cls := "java/lang/StringBuilder", name := "<init>", desc := "()V" } : Jvm.MethodName) jdk_67_method_1_code (1 : Nat) (Option.none : Option Jvm.ClassFile.FieldType), Jvm.Cond.code ({ cls := "java/lang/AbstractStringBuilder", name := "<init>", desc := "(I)V" } : Jvm.MethodName) jdk_68_method_2_code (2 : Nat) (Option.none : Option Jvm.ClassFile.FieldType), Jvm.Cond.code ({ cls := "java/lang/StringBuilder", name := "append", desc := "(Ljava/lang/String;)Ljava/lang/StringBuilder;" } : Jvm.MethodName) jdk_67_method_7_code (2 : Nat) (Option.some (Jvm.ClassFile.FieldType.object "java/lang/StringBuilder")), Jvm.Cond.code ({ cls := "java/lang/AbstractStringBuilder", name := "append", desc := "(Ljava/lang/String;)Ljava/lang/AbstractStringBuilder;" } : Jvm.MethodName) jdk_68_method_22_code (3 : Nat) (Option.some (Jvm.ClassFile.FieldType.object "java/lang/AbstractStringBuilder")), Jvm.Cond.code ({ cls := "java/lang/String", name := "length", desc := "()I" } : Jvm.MethodName) jdk_42_method_54_code (1 : Nat) (Option.some Jvm.ClassFile.FieldType.int), Jvm.Cond.code ({ cls := "java/lang/String", name := "coder", desc := "()B" } : Jvm.MethodName) jdk_42_method_152_code (1 : Nat) (Option.some Jvm.ClassFile.FieldType.byte), Jvm.Cond.code ({ cls := "java/lang/AbstractStringBuilder", name := "ensureCapacityInternal", desc := "(I)V" } : Jvm.MethodName) jdk_68_method_9_code (3 : Nat) (Option.none : Option Jvm.ClassFile.FieldType), Jvm.Cond.code ({ cls := "java/lang/AbstractStringBuilder", name := "putStringAt", desc := "(ILjava/lang/String;)V" } : Jvm.MethodName) jdk_68_method_73_code (3 : Nat) (Option.none : Option Jvm.ClassFile.FieldType), Jvm.Cond.code ({ cls := "java/lang/AbstractStringBuilder", name := "inflateIfNeededFor", desc := "(Ljava/lang/String;)V" } : Jvm.MethodName) jdk_68_method_71_code (2 : Nat) (Option.none : Option Jvm.ClassFile.FieldType), Jvm.Cond.code ({ cls := "java/lang/String", name := "getBytes", desc := "([BIB)V" } : Jvm.MethodName) jdk_42_method_147_code (4 : Nat) (Option.none : Option Jvm.ClassFile.FieldType), Jvm.Cond.code ({ cls := "java/lang/StringBuilder", name := "toString", desc := "()Ljava/lang/String;" } : Jvm.MethodName) jdk_67_method_42_code (1 : Nat) (Option.some (Jvm.ClassFile.FieldType.object "java/lang/String")), Jvm.Cond.code ({ cls := "java/lang/String", name := "<init>", desc := "(Ljava/lang/StringBuilder;)V" } : Jvm.MethodName) jdk_42_method_53_code (2 : Nat) (Option.none : Option Jvm.ClassFile.FieldType), Jvm.Cond.code ({ cls := "java/lang/String", name := "<init>", desc := "(Ljava/lang/AbstractStringBuilder;Ljava/lang/Void;)V" } : Jvm.MethodName) jdk_42_method_150_code (5 : Nat) (Option.none : Option Jvm.ClassFile.FieldType), Jvm.Cond.code ({ cls := "java/lang/AbstractStringBuilder", name := "getValue", desc := "()[B" } : Jvm.MethodName) jdk_68_method_64_code (1 : Nat) (Option.some (Jvm.ClassFile.FieldType.array Jvm.ClassFile.FieldType.byte)), Jvm.Cond.code ({ cls := "java/lang/StringBuilder", name := "length", desc := "()I" } : Jvm.MethodName) jdk_67_method_93_code (1 : Nat) (Option.some Jvm.ClassFile.FieldType.int), Jvm.Cond.code ({ cls := "java/lang/AbstractStringBuilder", name := "length", desc := "()I" } : Jvm.MethodName) jdk_68_method_6_code (1 : Nat) (Option.some Jvm.ClassFile.FieldType.int), Jvm.Cond.code ({ cls := "java/lang/AbstractStringBuilder", name := "isLatin1", desc := "()Z" } : Jvm.MethodName) jdk_68_method_68_code (1 : Nat) (Option.some Jvm.ClassFile.FieldType.boolean), Jvm.Cond.code ({ cls := "java/util/Arrays", name := "copyOfRange", desc := "([BII)[B" } : Jvm.MethodName) jdk_65_method_132_code (3 : Nat) (Option.some (Jvm.ClassFile.FieldType.array Jvm.ClassFile.FieldType.byte)), Jvm.Cond.code ({ cls := "java/util/Arrays", name := "copyOfRangeByte", desc := "([BII)[B" } : Jvm.MethodName) jdk_65_method_133_code (5 : Nat) (Option.some (Jvm.ClassFile.FieldType.array Jvm.ClassFile.FieldType.byte)), Jvm.Cond.code ({ cls := "java/util/Arrays", name := "checkLength", desc := "(II)V" } : Jvm.MethodName) jdk_65_method_131_code (2 : Nat) (Option.none : Option Jvm.ClassFile.FieldType), Jvm.Cond.code ({ cls := "java/lang/Math", name := "min", desc := "(II)I" } : Jvm.MethodName) jdk_29_method_69_code (2 : Nat) (Option.some Jvm.ClassFile.FieldType.int), Jvm.Cond.code ({ cls := "com/example/foyer/foyer/Layout", name := "size", desc := "()I" } : Jvm.MethodName) prog_33_method_9_code (3 : Nat) (Option.some Jvm.ClassFile.FieldType.int), Jvm.Cond.code ({ cls := "java/util/ArrayList", name := "isEmpty", desc := "()Z" } : Jvm.MethodName) jdk_38_method_9_code (1 : Nat) (Option.some Jvm.ClassFile.FieldType.boolean), Jvm.Cond.code ({ cls := "com/example/foyer/foyer/Layout$RegisterArray", name := "<init>", desc := "(Ljava/lang/String;IIILjava/util/function/IntUnaryOperator;Z)V" } : Jvm.MethodName) prog_34_method_1_code (7 : Nat) (Option.none : Option Jvm.ClassFile.FieldType), Jvm.Cond.code ({ cls := "java/util/ArrayList", name := "add", desc := "(Ljava/lang/Object;)Z" } : Jvm.MethodName) jdk_38_method_25_code (2 : Nat) (Option.some Jvm.ClassFile.FieldType.boolean), Jvm.Cond.code ({ cls := "java/util/ArrayList", name := "add", desc := "(Ljava/lang/Object;[Ljava/lang/Object;I)V" } : Jvm.MethodName) jdk_38_method_24_code (4 : Nat) (Option.none : Option Jvm.ClassFile.FieldType), Jvm.Cond.code ({ cls := "java/util/ArrayList", name := "grow", desc := "()[Ljava/lang/Object;" } : Jvm.MethodName) jdk_38_method_7_code (1 : Nat) (Option.some (Jvm.ClassFile.FieldType.array (Jvm.ClassFile.FieldType.object "java/lang/Object"))), Jvm.Cond.code ({ cls := "java/util/ArrayList", name := "grow", desc := "(I)[Ljava/lang/Object;" } : Jvm.MethodName) jdk_38_method_6_code (4 : Nat) (Option.some (Jvm.ClassFile.FieldType.array (Jvm.ClassFile.FieldType.object "java/lang/Object"))), Jvm.Cond.code ({ cls := "java/lang/Math", name := "max", desc := "(II)I" } : Jvm.MethodName) jdk_29_method_65_code (2 : Nat) (Option.some Jvm.ClassFile.FieldType.int), Jvm.Cond.code ({ cls := "com/example/foyer/foyer/PlainRegisters", name := "<init>", desc := "(Lcom/example/foyer/foyer/Layout;)V" } : Jvm.MethodName) prog_45_method_1_code (2 : Nat) (Option.none : Option Jvm.ClassFile.FieldType), Jvm.Cond.code ({ cls := "com/example/foyer/foyer/Layout", name := "initialValues", desc := "()[I" } : Jvm.MethodName) prog_33_method_7_code (5 : Nat) (Option.some (Jvm.ClassFile.FieldType.array Jvm.ClassFile.FieldType.int)), Jvm.Cond.code ({ cls := "java/util/ArrayList", name := "size", desc := "()I" } : Jvm.MethodName) jdk_38_method_8_code (1 : Nat) (Option.some Jvm.ClassFile.FieldType.int), Jvm.Cond.code ({ cls := "java/util/ArrayList", name := "get", desc := "(I)Ljava/lang/Object;" } : Jvm.MethodName) jdk_38_method_20_code (2 : Nat) (Option.some (Jvm.ClassFile.FieldType.object "java/lang/Object")), Jvm.Cond.code ({ cls := "java/util/Objects", name := "checkIndex", desc := "(II)I" } : Jvm.MethodName) jdk_31_method_17_code (2 : Nat) (Option.some Jvm.ClassFile.FieldType.int), Jvm.Cond.code ({ cls := "jdk/internal/util/Preconditions", name := "checkIndex", desc := "(IILjava/util/function/BiFunction;)I" } : Jvm.MethodName) jdk_41_method_11_code (3 : Nat) (Option.some Jvm.ClassFile.FieldType.int), Jvm.Cond.code ({ cls := "java/util/ArrayList", name := "elementData", desc := "(I)Ljava/lang/Object;" } : Jvm.MethodName) jdk_38_method_18_code (2 : Nat) (Option.some (Jvm.ClassFile.FieldType.object "java/lang/Object")), Jvm.Cond.code ({ cls := "java/util/ArrayList", name := "iterator", desc := "()Ljava/util/Iterator;" } : Jvm.MethodName) jdk_38_method_55_code (1 : Nat) (Option.some (Jvm.ClassFile.FieldType.object "java/util/Iterator")), Jvm.Cond.code ({ cls := "java/util/ArrayList$Itr", name := "<init>", desc := "(Ljava/util/ArrayList;)V" } : Jvm.MethodName) jdk_49_method_1_code (2 : Nat) (Option.none : Option Jvm.ClassFile.FieldType), Jvm.Cond.code ({ cls := "java/util/ArrayList$Itr", name := "hasNext", desc := "()Z" } : Jvm.MethodName) jdk_49_method_2_code (1 : Nat) (Option.some Jvm.ClassFile.FieldType.boolean), Jvm.Cond.code ({ cls := "java/util/ArrayList$Itr", name := "next", desc := "()Ljava/lang/Object;" } : Jvm.MethodName) jdk_49_method_3_code (3 : Nat) (Option.some (Jvm.ClassFile.FieldType.object "java/lang/Object")), Jvm.Cond.code ({ cls := "java/util/ArrayList$Itr", name := "checkForComodification", desc := "()V" } : Jvm.MethodName) jdk_49_method_6_code (1 : Nat) (Option.none : Option Jvm.ClassFile.FieldType), Jvm.Cond.code ({ cls := "com/example/foyer/foyer/PlainRegisters", name := "restore", desc := "([II)V" } : Jvm.MethodName) prog_45_method_4_code (3 : Nat) (Option.none : Option Jvm.ClassFile.FieldType), Jvm.Cond.code ({ cls := "com/example/foyer/foyer/PlainRegisters", name := "size", desc := "()I" } : Jvm.MethodName) prog_45_method_2_code (1 : Nat) (Option.some Jvm.ClassFile.FieldType.int), Jvm.Cond.code ({ cls := "com/example/foyer/foyer/PlainRegistersRestorePinLaw", name := "unchanged", desc := "([IIIIIII)Z" } : Jvm.MethodName) method_3_code (7 : Nat) (Option.some Jvm.ClassFile.FieldType.boolean), Jvm.Cond.code ({ cls := "com/example/foyer/foyer/Layout", name := "lambda$array$1", desc := "(II)I" } : Jvm.MethodName) prog_33_method_12_code (2 : Nat) (Option.some Jvm.ClassFile.FieldType.int), Jvm.Cond.code ({ cls := "com/example/foyer/foyer/PlainRegisters", name := "read", desc := "(I)I" } : Jvm.MethodName) prog_45_method_5_code (2 : Nat) (Option.some Jvm.ClassFile.FieldType.int)]
set_option maxRecDepth 65536 in
theorem codes_eq : words1.filter isCode = codes1 := rfl
theorem w_codes : ∀ c ∈ words1.filter isCode, c.before args0 about1 = true := by
  rw [codes_eq]
  intro c hc
  simp only [codes1, List.mem_cons, List.not_mem_nil, or_false] at hc
  rcases hc with rfl | rfl | rfl | rfl | rfl | rfl | rfl | rfl | rfl | rfl | rfl | rfl | rfl | rfl | rfl | rfl | rfl | rfl | rfl | rfl | rfl | rfl | rfl | rfl | rfl | rfl | rfl | rfl | rfl | rfl | rfl | rfl | rfl | rfl | rfl | rfl | rfl | rfl | rfl | rfl | rfl | rfl | rfl | rfl | rfl | rfl | rfl | rfl | rfl | rfl | rfl | rfl | rfl | rfl | rfl | rfl
  · exact w_c0
  · exact w_c1
  · exact w_c2
  · exact w_c3
  · exact w_c4
  · exact w_c5
  · exact w_c6
  · exact w_c7
  · exact w_c8
  · exact w_c9
  · exact w_c10
  · exact w_c11
  · exact w_c12
  · exact w_c13
  · exact w_c14
  · exact w_c15
  · exact w_c16
  · exact w_c17
  · exact w_c18
  · exact w_c19
  · exact w_c20
  · exact w_c21
  · exact w_c22
  · exact w_c23
  · exact w_c24
  · exact w_c25
  · exact w_c26
  · exact w_c27
  · exact w_c28
  · exact w_c29
  · exact w_c30
  · exact w_c31
  · exact w_c32
  · exact w_c33
  · exact w_c34
  · exact w_c35
  · exact w_c36
  · exact w_c37
  · exact w_c38
  · exact w_c39
  · exact w_c40
  · exact w_c41
  · exact w_c42
  · exact w_c43
  · exact w_c44
  · exact w_c45
  · exact w_c46
  · exact w_c47
  · exact w_c48
  · exact w_c49
  · exact w_c50
  · exact w_c51
  · exact w_c52
  · exact w_c53
  · exact w_c54
  · exact w_c55
set_option maxRecDepth 65536 in
theorem w_t1 : (words1.take 24).all (fun c => isCode c || c.before args0 about1) = true := by decide +kernel
set_option maxRecDepth 65536 in
theorem w_t2 : ((words1.drop 24).take 24).all (fun c => isCode c || c.before args0 about1) = true := by decide +kernel
set_option maxRecDepth 65536 in
theorem w_t3 : (((words1.drop 24).drop 24).take 24).all (fun c => isCode c || c.before args0 about1) = true := by decide +kernel
set_option maxRecDepth 65536 in
theorem w_t4 : ((((words1.drop 24).drop 24).drop 24).take 24).all (fun c => isCode c || c.before args0 about1) = true := by decide +kernel
set_option maxRecDepth 65536 in
theorem w_t5 : (((((words1.drop 24).drop 24).drop 24).drop 24).take 24).all (fun c => isCode c || c.before args0 about1) = true := by decide +kernel
set_option maxRecDepth 65536 in
theorem w_t6 : ((((((words1.drop 24).drop 24).drop 24).drop 24).drop 24).take 24).all (fun c => isCode c || c.before args0 about1) = true := by decide +kernel
set_option maxRecDepth 65536 in
theorem w_t7 : (((((((words1.drop 24).drop 24).drop 24).drop 24).drop 24).drop 24).take 24).all (fun c => isCode c || c.before args0 about1) = true := by decide +kernel
set_option maxRecDepth 65536 in
theorem w_t8 : ((((((((words1.drop 24).drop 24).drop 24).drop 24).drop 24).drop 24).drop 24).take 24).all (fun c => isCode c || c.before args0 about1) = true := by decide +kernel
set_option maxRecDepth 65536 in
theorem w_t9 : (((((((((words1.drop 24).drop 24).drop 24).drop 24).drop 24).drop 24).drop 24).drop 24).take 24).all (fun c => isCode c || c.before args0 about1) = true := by decide +kernel
set_option maxRecDepth 65536 in
theorem w_t10 : ((((((((((words1.drop 24).drop 24).drop 24).drop 24).drop 24).drop 24).drop 24).drop 24).drop 24).take 24).all (fun c => isCode c || c.before args0 about1) = true := by decide +kernel
set_option maxRecDepth 65536 in
theorem w_t11 : (((((((((((words1.drop 24).drop 24).drop 24).drop 24).drop 24).drop 24).drop 24).drop 24).drop 24).drop 24).take 24).all (fun c => isCode c || c.before args0 about1) = true := by decide +kernel
set_option maxRecDepth 65536 in
theorem w_t12 : ((((((((((((words1.drop 24).drop 24).drop 24).drop 24).drop 24).drop 24).drop 24).drop 24).drop 24).drop 24).drop 24).take 24).all (fun c => isCode c || c.before args0 about1) = true := by decide +kernel
set_option maxRecDepth 65536 in
theorem w_t13 : (((((((((((((words1.drop 24).drop 24).drop 24).drop 24).drop 24).drop 24).drop 24).drop 24).drop 24).drop 24).drop 24).drop 24).take 24).all (fun c => isCode c || c.before args0 about1) = true := by decide +kernel
set_option maxRecDepth 65536 in
theorem w_t14 : ((((((((((((((words1.drop 24).drop 24).drop 24).drop 24).drop 24).drop 24).drop 24).drop 24).drop 24).drop 24).drop 24).drop 24).drop 24).take 24).all (fun c => isCode c || c.before args0 about1) = true := by decide +kernel
set_option maxRecDepth 65536 in
theorem w_t15 : (((((((((((((((words1.drop 24).drop 24).drop 24).drop 24).drop 24).drop 24).drop 24).drop 24).drop 24).drop 24).drop 24).drop 24).drop 24).drop 24).take 24).all (fun c => isCode c || c.before args0 about1) = true := by decide +kernel
set_option maxRecDepth 65536 in
theorem w_t16 : (((((((((((((((words1.drop 24).drop 24).drop 24).drop 24).drop 24).drop 24).drop 24).drop 24).drop 24).drop 24).drop 24).drop 24).drop 24).drop 24).drop 24).all (fun c => isCode c || c.before args0 about1) = true := by decide +kernel
theorem w_tables : (allAtoms (Jvm.Cond.code x code maxLocals ret :: tables_1)).before args0 about1 = true := by
  rw [allAtoms_all]
  show words1.all (fun c => c.before args0 about1) = true
  refine all_split ?_ w_codes
  rw [← List.take_append_drop 24 words1, List.all_append, w_t1, ← List.take_append_drop 24 (words1.drop 24), List.all_append, w_t2, ← List.take_append_drop 24 ((words1.drop 24).drop 24), List.all_append, w_t3, ← List.take_append_drop 24 (((words1.drop 24).drop 24).drop 24), List.all_append, w_t4, ← List.take_append_drop 24 ((((words1.drop 24).drop 24).drop 24).drop 24), List.all_append, w_t5, ← List.take_append_drop 24 (((((words1.drop 24).drop 24).drop 24).drop 24).drop 24), List.all_append, w_t6, ← List.take_append_drop 24 ((((((words1.drop 24).drop 24).drop 24).drop 24).drop 24).drop 24), List.all_append, w_t7, ← List.take_append_drop 24 (((((((words1.drop 24).drop 24).drop 24).drop 24).drop 24).drop 24).drop 24), List.all_append, w_t8, ← List.take_append_drop 24 ((((((((words1.drop 24).drop 24).drop 24).drop 24).drop 24).drop 24).drop 24).drop 24), List.all_append, w_t9, ← List.take_append_drop 24 (((((((((words1.drop 24).drop 24).drop 24).drop 24).drop 24).drop 24).drop 24).drop 24).drop 24), List.all_append, w_t10, ← List.take_append_drop 24 ((((((((((words1.drop 24).drop 24).drop 24).drop 24).drop 24).drop 24).drop 24).drop 24).drop 24).drop 24), List.all_append, w_t11, ← List.take_append_drop 24 (((((((((((words1.drop 24).drop 24).drop 24).drop 24).drop 24).drop 24).drop 24).drop 24).drop 24).drop 24).drop 24), List.all_append, w_t12, ← List.take_append_drop 24 ((((((((((((words1.drop 24).drop 24).drop 24).drop 24).drop 24).drop 24).drop 24).drop 24).drop 24).drop 24).drop 24).drop 24), List.all_append, w_t13, ← List.take_append_drop 24 (((((((((((((words1.drop 24).drop 24).drop 24).drop 24).drop 24).drop 24).drop 24).drop 24).drop 24).drop 24).drop 24).drop 24).drop 24), List.all_append, w_t14, ← List.take_append_drop 24 ((((((((((((((words1.drop 24).drop 24).drop 24).drop 24).drop 24).drop 24).drop 24).drop 24).drop 24).drop 24).drop 24).drop 24).drop 24).drop 24), List.all_append, w_t15, w_t16]
  rfl
set_option maxRecDepth 65536 in
theorem w_rest : rest_1_c.before args0 about1 = true := by decide +kernel
set_option maxRecDepth 65536 in
theorem w_case : (Jvm.Cond.and given_1 narrow_1).before args0 about1 = true := by decide +kernel
set_option maxRecDepth 65536 in
theorem w_consts : constsHeld consts_1 about1 := Jvm.Lit.constsHeldB_iff.mp (by decide +kernel)
theorem w_applies : (headSpec (Jvm.Cond.code x code maxLocals ret :: tables_1) room_1).applies x e0.platform about1 = true :=
  (Spec.applies_iff w_frames).mpr ⟨w_running, w_runnable, w_alone, w_named, w_hears, w_ripe, w_room, w_tables⟩
theorem atStart : AtStart classFile x code maxLocals ret World_1 tables_1 room_1 Calls_1 rest_1 Pre_1 launch0 p0 e0 about1 theMethod args0 below0 :=
  ⟨lists_1, trivial, launch0.admits_env _ _ _, launch0.least_env, fairChoices_fair.cas, fairChoices_fair.clock, w_frames, w_args, w_heap, w_applies, ⟨w_consts, trivial⟩, w_rest, w_case⟩
end start1
theorem witness_1 : WitnessClaimed_1 := ⟨start1.p0, start1.e0, start1.about1, start1.theMethod, start1.args0, start1.below0, start1.atStart⟩
end Jvm.Pilot.@@N@@
