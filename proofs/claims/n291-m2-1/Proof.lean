import JvmDerived
import JvmDerived.Pilot.@@N@@Statement
import JvmDerived.Pilot.@@N@@Code
set_option linter.unusedVariables false
set_option linter.unusedSimpArgs false
namespace Jvm.OwnW
open Sem ClassFile Op Lib Bundle Jvm.Stand Jvm.Free Jvm.LawKit Jvm.RoadKit
/-! OwnW: a walk as one goal. Go: 'from every state of the walk that stands over this heap, with this frame, the method comes to its end with Q'. Each step is one lemma; tables, written places, rebased starts and booked constants ride inside. -/
abbrev Gb : Type := Launch × State × Array Value × List (String × Nat)
abbrev Gb.l (G : Gb) : Launch := G.1
abbrev Gb.Z (G : Gb) : State := G.2.1
abbrev Gb.a0 (G : Gb) : Array Value := G.2.2.1
abbrev Gb.EL (G : Gb) : List (String × Nat) := G.2.2.2
abbrev Cx : Type := (Program × Env × State × MethodId) × (Array Value × List Frame × Method × Code)
abbrev Cx.p (B : Cx) : Program := B.1.1
abbrev Cx.e (B : Cx) : Env := B.1.2.1
abbrev Cx.s (B : Cx) : State := B.1.2.2.1
abbrev Cx.m (B : Cx) : MethodId := B.1.2.2.2
abbrev Cx.as (B : Cx) : Array Value := B.2.1
abbrev Cx.bl (B : Cx) : List Frame := B.2.2.1
abbrev Cx.mt (B : Cx) : Method := B.2.2.2.1
abbrev Cx.c (B : Cx) : Code := B.2.2.2.2
abbrev Mt : Type := (String × String × Room) × (List (Nat × Instr × Nat) × Nat × Option FieldType)
abbrev Mt.own (M : Mt) : String := M.1.1
abbrev Mt.nm (M : Mt) : String := M.1.2.1
abbrev Mt.R (M : Mt) : Room := M.1.2.2
abbrev Mt.P (M : Mt) : List (Nat × Instr × Nat) := M.2.1
abbrev Mt.maxL (M : Mt) : Nat := M.2.2.1
abbrev Mt.ret (M : Mt) : Option FieldType := M.2.2.2
abbrev Wd (G : Gb) (d : Jvm.Cond) : Prop := d.before G.a0 G.Z = true
def Wo (G : Gb) (B : Cx) (own : String) (R : Room) (h : Heap) (sf : List Addr) (cells slots : Nat) (T : State) (vm0 : Vm) (k0 : Nat) (locs : List Loc) : Prop :=
  Stand B.p G.l B.e R (B.s.setVm vm0) B.m B.as B.bl B.mt B.c T locs cells slots ∧ T.heap = h ∧ B.s.Since vm0 k0 ∧ k0 ≤ h.size ∧
  G.Z.Warmed39 vm0 ∧ vm0.findClass own = some B.m.cls ∧ Fr G.Z.heap.size locs ∧ Ext G.Z.heap h ∧ CHr G.Z G.EL B.s.vm B.s.heap vm0 h ∧
  ∀ x ∈ sf, Safe G.Z G.EL vm0 h x ∧ x < h.size
def Fin (G : Gb) (B : Cx) (R : Room) (Q : Option Value → Heap → (Addr → Prop) → Prop) (u : State) : Prop :=
  ∃ (t : State) (v : Option Value) (L : List Loc), Steps B.p.tables B.e B.bl u t ∧ t.status = .running ∧ Ended t B.bl (.returned v) ∧ Q v t.heap (fun x => Safe G.Z G.EL t.vm t.heap x ∧ x < t.heap.size) ∧ Fr G.Z.heap.size L ∧ Ext G.Z.heap t.heap ∧
    CHr G.Z G.EL B.s.vm B.s.heap t.vm t.heap ∧ ReturnedEndW B.s (.returned v) t L R.cells R.slots
def Go (G : Gb) (B : Cx) (M : Mt) (Q : Option Value → Heap → (Addr → Prop) → Prop) (h : Heap) (sf : List Addr) (cells slots pc : Nat) (Ls : Array Slot) (st : List Value) : Prop :=
  ∀ T vm0 k0 locs, Wo G B M.own M.R h sf cells slots T vm0 k0 locs → Fin G B M.R Q (T.setTop (mkF B.m pc Ls st))
def Kd (G : Gb) (B : Cx) (M : Mt) : Prop :=
  B.p.tables.exec = Jvm.exec ∧ (∀ q ∈ M.P, decode B.c.code q.1 = .ok q.2) ∧ B.c.maxLocals = M.maxL ∧ B.mt.sig.returnType = M.ret ∧ B.mt.locks = false ∧ B.mt.name = M.nm ∧ EW G.Z G.a0 G.EL
/-- a contract: from these arguments over this heap it returns, and Q holds of what is returned and of the heap behind -/
def Ctr (G : Gb) (ws : List Jvm.Cond) (y : MethodName) (bytes : ByteArray) (maxL : Nat) (ret : Option FieldType) (rm : Room) (as' : Array Value) (h : Heap) (sf : List Addr) (Q : Option Value → Heap → (Addr → Prop) → Prop) : Prop :=
  MetFree G.l y (head1 (Jvm.Cond.code y bytes maxL ret :: ws) rm)
    (fun a U => a = as' ∧ G.Z.Warmed39 U.vm ∧ U.heap = h ∧ CHv G.Z G.EL U.vm h ∧ Ext G.Z.heap h ∧ ∀ x ∈ sf, Safe G.Z G.EL U.vm h x ∧ x < h.size) (fun _ _ _ _ _ => True)
    (fun _ U o U' => ∃ v L, o = .returned v ∧ (Q v U'.heap (fun x => Safe G.Z G.EL U'.vm U'.heap x ∧ x < U'.heap.size) ∧ Fr G.Z.heap.size L ∧ Ext G.Z.heap U'.heap) ∧ CHr G.Z G.EL U.vm U.heap U'.vm U'.heap ∧ ReturnedEndW U o U' L rm.cells rm.slots)
section Base
variable {G : Gb} {B : Cx} {M : Mt} {R : Room} {Q : Option Value → Heap → (Addr → Prop) → Prop} {h : Heap} {sf : List Addr} {cells slots pc : Nat} {Ls : Array Slot} {st : List Value}
theorem Fin.pre {u u' : State} (f : Fin G B R Q u') (k : ∀ target, Steps B.p.tables B.e B.bl u' target → Steps B.p.tables B.e B.bl u target) : Fin G B R Q u := by
  obtain ⟨t, v, L, s, r⟩ := f
  exact ⟨t, v, L, k _ s, r⟩
theorem ef_ok {m : MethodId} {as' : Array Value} {n : Nat} {Ls : Array Slot} (q : argsToLocals as' n = Ls) : entryFrame m as' n = mkF m 0 Ls [] := by
  subst q
  rfl
theorem Kd.dec (K : Kd G B M) {k : Nat} {i : Instr} {len : Nat} (hd : M.P[k]? = some (pc, i, len)) : decode B.c.code pc = .ok (i, len) := K.2.1 (pc, i, len) (List.mem_of_getElem? hd)
/-! ### plain steps -/
def intAt (Ls : Array Slot) (k : Nat) : Option Int32 := match Ls[k]? with | some (.val (.int v)) => some v | _ => none
def longAt (Ls : Array Slot) (k : Nat) : Option Int64 := match Ls[k]? with | some (.val (.long v)) => some v | _ => none
def refAt (Ls : Array Slot) (k : Nat) : Option Value := match Ls[k]? with | some (.val (.ref a)) => some (.ref a) | some (.val .null) => some .null | _ => none
theorem intAt_ok {k : Nat} {v : Int32} (q : intAt Ls k = some v) : Ls[k]? = some (.val (.int v)) := by
  unfold intAt at q; split at q
  · rename_i u; cases q; exact u
  · cases q
theorem longAt_ok {k : Nat} {v : Int64} (q : longAt Ls k = some v) : Ls[k]? = some (.val (.long v)) := by
  unfold longAt at q; split at q
  · rename_i u; cases q; exact u
  · cases q
theorem refAt_ok {k : Nat} {v : Value} (q : refAt Ls k = some v) : Ls[k]? = some (.val v) ∧ v.isRef = true := by
  unfold refAt at q; split at q
  · rename_i u; cases q; exact ⟨u, rfl⟩
  · rename_i u; cases q; exact ⟨u, rfl⟩
  · cases q
def sem1 (i : Instr) (n pc : Nat) (Ls : Array Slot) (st : List Value) : Option (Nat × Array Slot × List Value) :=
  match i, n, st with
  | .aconst_null, 1, st => some (pc + 1, Ls, .null :: st)
  | .iconst z, 1, st => some (pc + 1, Ls, .int (Int32.ofInt z) :: st)
  | .bipush z, 2, st => some (pc + 2, Ls, .int (Int8.ofInt z).toInt32 :: st)
  | .sipush z, 3, st => some (pc + 3, Ls, .int (Int16.ofInt z).toInt32 :: st)
  | .iload k, 2, st => (intAt Ls k).map fun v => (pc + 2, Ls, .int v :: st)
  | .iload_n k, 1, st => (intAt Ls k.val).map fun v => (pc + 1, Ls, .int v :: st)
  | .lload k, 2, st => (longAt Ls k).map fun v => (pc + 2, Ls, .long v :: st)
  | .lload_n k, 1, st => (longAt Ls k.val).map fun v => (pc + 1, Ls, .long v :: st)
  | .aload k, 2, st => (refAt Ls k).map fun v => (pc + 2, Ls, v :: st)
  | .aload_n k, 1, st => (refAt Ls k.val).map fun v => (pc + 1, Ls, v :: st)
  | .istore k, 2, .int x :: st => (storeLocals Ls k (.int x)).map fun l => (pc + 2, l, st)
  | .istore_n k, 1, .int x :: st => (storeLocals Ls k.val (.int x)).map fun l => (pc + 1, l, st)
  | .astore k, 2, .ref x :: st => (storeLocals Ls k (.ref x)).map fun l => (pc + 2, l, st)
  | .astore k, 2, .null :: st => (storeLocals Ls k .null).map fun l => (pc + 2, l, st)
  | .astore_n k, 1, .ref x :: st => (storeLocals Ls k.val (.ref x)).map fun l => (pc + 1, l, st)
  | .astore_n k, 1, .null :: st => (storeLocals Ls k.val .null).map fun l => (pc + 1, l, st)
  | .pop, 1, x :: st => if x.category = 1 then some (pc + 1, Ls, st) else none
  | .dup, 1, x :: st => if x.category = 1 then some (pc + 1, Ls, x :: x :: st) else none
  | .dup_x1, 1, x :: y :: st => if x.category = 1 then (if y.category = 1 then some (pc + 1, Ls, x :: y :: x :: st) else none) else none
  | .iadd, 1, .int y :: .int x :: st => some (pc + 1, Ls, .int (x + y) :: st)
  | .isub, 1, .int y :: .int x :: st => some (pc + 1, Ls, .int (x - y) :: st)
  | .imul, 1, .int y :: .int x :: st => some (pc + 1, Ls, .int (x * y) :: st)
  | .iand, 1, .int y :: .int x :: st => some (pc + 1, Ls, .int (x &&& y) :: st)
  | .ior, 1, .int y :: .int x :: st => some (pc + 1, Ls, .int (x ||| y) :: st)
  | .ixor, 1, .int y :: .int x :: st => some (pc + 1, Ls, .int (x ^^^ y) :: st)
  | .ishl, 1, .int y :: .int x :: st => some (pc + 1, Ls, .int (x <<< (y &&& 31)) :: st)
  | .ishr, 1, .int y :: .int x :: st => some (pc + 1, Ls, .int (x >>> (y &&& 31)) :: st)
  | .iushr, 1, .int y :: .int x :: st => some (pc + 1, Ls, .int (XT.ushr x y) :: st)
  | .lushr, 1, .int y :: .long x :: st => some (pc + 1, Ls, .long (XT.ushrL x y) :: st)
  | .i2l, 1, .int x :: st => some (pc + 1, Ls, .long x.toInt64 :: st)
  | .l2i, 1, .long x :: st => some (pc + 1, Ls, .int x.toInt32 :: st)
  | .i2b, 1, .int x :: st => some (pc + 1, Ls, .int x.toInt8.toInt32 :: st)
  | .i2c, 1, .int x :: st => some (pc + 1, Ls, .int x.toUInt32.toUInt16.toUInt32.toInt32 :: st)
  | .lcmp, 1, .long y :: .long x :: st => some (pc + 1, Ls, .int (XT.cmpL x y) :: st)
  | .iinc k z, 3, st => (intAt Ls k).bind fun x => (storeLocals Ls k (.int (x + Int32.ofInt z))).map fun l => (pc + 3, l, st)
  | .goto o, 3, st => if 0 ≤ (pc : Int) + o then some (((pc : Int) + o).toNat, Ls, st) else none
  | _, _, _ => none
theorem sem1_ok {tb : Tables} [Ours tb] {e : Env} {below : List Frame} {T target : State} {m : MethodId} {c : Code} (h : At T m c below) (hx : tb.exec = Jvm.exec) {i : Instr} {n : Nat} {f : Nat × Array Slot × List Value}
    (hd : decode c.code pc = .ok (i, n)) (hs : sem1 i n pc Ls st = some f) (hr : Steps tb e below (T.setTop (mkF m f.1 f.2.1 f.2.2)) target) : Steps tb e below (T.setTop (mkF m pc Ls st)) target := by
  unfold sem1 at hs
  split at hs
  · cases hs; exact XS.aconstNull h hx rfl hd hr
  · cases hs; exact XS.iconst h hx rfl hd hr
  · cases hs; exact XS.bipush h hx rfl hd hr
  · cases hs; exact XS.sipush h hx rfl hd hr
  · obtain ⟨v, q, rfl⟩ := Option.map_eq_some_iff.mp hs; exact XS.iload h hx rfl hd (intAt_ok q) hr
  · obtain ⟨v, q, rfl⟩ := Option.map_eq_some_iff.mp hs; exact XS.iloadN h hx rfl hd (intAt_ok q) hr
  · obtain ⟨v, q, rfl⟩ := Option.map_eq_some_iff.mp hs; exact XT.lload h hx rfl hd (longAt_ok q) hr
  · obtain ⟨v, q, rfl⟩ := Option.map_eq_some_iff.mp hs; exact XT.lloadN h hx rfl hd (longAt_ok q) hr
  · obtain ⟨v, q, rfl⟩ := Option.map_eq_some_iff.mp hs; exact XS.aload h hx rfl hd (refAt_ok q).1 (refAt_ok q).2 hr
  · obtain ⟨v, q, rfl⟩ := Option.map_eq_some_iff.mp hs; exact XS.aloadN h hx rfl hd (refAt_ok q).1 (refAt_ok q).2 hr
  · obtain ⟨v, q, rfl⟩ := Option.map_eq_some_iff.mp hs; exact XS.istore h hx rfl hd rfl q hr
  · obtain ⟨v, q, rfl⟩ := Option.map_eq_some_iff.mp hs; exact XS.istoreN h hx rfl hd rfl q hr
  · obtain ⟨v, q, rfl⟩ := Option.map_eq_some_iff.mp hs; exact XS.astore h hx rfl hd rfl rfl q hr
  · obtain ⟨v, q, rfl⟩ := Option.map_eq_some_iff.mp hs; exact XS.astore h hx rfl hd rfl rfl q hr
  · obtain ⟨v, q, rfl⟩ := Option.map_eq_some_iff.mp hs; exact XS.astoreN h hx rfl hd rfl rfl q hr
  · obtain ⟨v, q, rfl⟩ := Option.map_eq_some_iff.mp hs; exact XS.astoreN h hx rfl hd rfl rfl q hr
  · split at hs
    · rename_i q; cases hs; exact XT.pop h hx rfl hd rfl q hr
    · cases hs
  · split at hs
    · rename_i q; cases hs; exact XS.dup h hx rfl hd rfl q hr
    · cases hs
  · split at hs
    · rename_i q
      split at hs
      · rename_i q'; cases hs; exact XT.dupX1 h hx rfl hd rfl q q' hr
      · cases hs
    · cases hs
  · cases hs; exact XS.iadd h hx rfl hd rfl hr
  · cases hs; exact XS.isub h hx rfl hd rfl hr
  · cases hs; exact XS.imul h hx rfl hd rfl hr
  · cases hs; exact XS.iand h hx rfl hd rfl hr
  · cases hs; exact XT.ior h hx rfl hd rfl hr
  · cases hs; exact XT.ixor h hx rfl hd rfl hr
  · cases hs; exact XT.ishl h hx rfl hd rfl hr
  · cases hs; exact XT.ishr h hx rfl hd rfl hr
  · cases hs; exact XT.iushr h hx rfl hd rfl hr
  · cases hs; exact XT.lushr h hx rfl hd rfl hr
  · cases hs; exact XT.i2l h hx rfl hd rfl hr
  · cases hs; exact XT.l2i h hx rfl hd rfl hr
  · cases hs; exact XT.i2b h hx rfl hd rfl hr
  · cases hs; exact XT.i2c h hx rfl hd rfl hr
  · cases hs; exact XT.lcmp h hx rfl hd rfl hr
  · obtain ⟨x, q, hs⟩ := Option.bind_eq_some_iff.mp hs
    obtain ⟨v, q', rfl⟩ := Option.map_eq_some_iff.mp hs; exact XS.iinc h hx rfl hd (intAt_ok q) q' hr
  · split at hs
    · rename_i q; cases hs; exact XS.goto h hx rfl (pc0 := pc) rfl hd q rfl hr
    · cases hs
  · cases hs
def runs : Nat → List (Nat × Instr × Nat) → Nat × Array Slot × List Value → Option (Nat × Array Slot × List Value)
  | 0, _, f => some f
  | _ + 1, [], _ => none
  | n + 1, q :: P, f => if q.1 = f.1 then (sem1 q.2.1 q.2.2 f.1 f.2.1 f.2.2).bind fun f' => runs n P f' else none
theorem runs_ok {tb : Tables} [Ours tb] {e : Env} {below : List Frame} {T target : State} {m : MethodId} {c : Code} (h : At T m c below) (hx : tb.exec = Jvm.exec) : ∀ (n : Nat) (P : List (Nat × Instr × Nat)) (f f' : Nat × Array Slot × List Value),
    (∀ q ∈ P, decode c.code q.1 = .ok q.2) → runs n P f = some f' → Steps tb e below (T.setTop (mkF m f'.1 f'.2.1 f'.2.2)) target → Steps tb e below (T.setTop (mkF m f.1 f.2.1 f.2.2)) target
  | 0, _, f, f', _, hs, hr => by cases hs; exact hr
  | _ + 1, [], _, _, _, hs, _ => by cases hs
  | n + 1, q :: P, f, f', hP, hs, hr => by
    simp only [runs] at hs
    split at hs
    · rename_i u
      obtain ⟨g, q1, q2⟩ := Option.bind_eq_some_iff.mp hs
      exact sem1_ok h hx (by rw [← u]; exact hP q (List.mem_cons_self ..)) q1 (runs_ok h hx n P g f' (fun z hz => hP z (List.mem_cons_of_mem _ hz)) q2 hr)
    · cases hs
theorem go_run (K : Kd G B M) (k n : Nat) {pc' : Nat} {Ls' : Array Slot} {st' : List Value} (hr : runs n (M.P.drop k) (pc, Ls, st) = some (pc', Ls', st')) (g : Go G B M Q h sf cells slots pc' Ls' st') : Go G B M Q h sf cells slots pc Ls st := by
  intro T vm0 k0 locs W
  exact (g T vm0 k0 locs W).pre fun target q => runs_ok W.1.here K.1 n _ (pc, Ls, st) (pc', Ls', st') (fun z hz => K.2.1 z (List.mem_of_mem_drop hz)) hr q
/-! ### branches -/
theorem go_if2 (K : Kd G B M) {k : Nat} {cd : ClassFile.Cond} {o : Int} {x : Int32} (hd : M.P[k]? = some (pc, .ifCond cd o, 3)) {pc' : Nat} (ho : 0 ≤ (pc : Int) + o ∧ ((pc : Int) + o).toNat = pc') {A : Prop} [Decidable A] (hA : A → ifCond.holds cd x = true) (hN : ¬ A → ifCond.holds cd x = false)
    (gT : A → Go G B M Q h sf cells slots pc' Ls st) (gF : ¬ A → Go G B M Q h sf cells slots (pc + 3) Ls st) : Go G B M Q h sf cells slots pc Ls (.int x :: st) := by
  intro T vm0 k0 locs W
  by_cases a : A
  · exact (gT a T vm0 k0 locs W).pre fun target hr => XS.ifYes W.1.here K.1 rfl (pc0 := pc) (pc' := pc') rfl (K.dec hd) rfl (hA a) ho.1 ho.2 hr
  · exact (gF a T vm0 k0 locs W).pre fun target hr => XS.ifNo W.1.here K.1 rfl (K.dec hd) rfl (hN a) hr
theorem go_icmp2 (K : Kd G B M) {k : Nat} {cd : ClassFile.Cond} {o : Int} {x y : Int32} (hd : M.P[k]? = some (pc, .if_icmp cd o, 3)) {pc' : Nat} (ho : 0 ≤ (pc : Int) + o ∧ ((pc : Int) + o).toNat = pc') {A : Prop} [Decidable A] (hA : A → if_icmp.holds cd x y = true) (hN : ¬ A → if_icmp.holds cd x y = false)
    (gT : A → Go G B M Q h sf cells slots pc' Ls st) (gF : ¬ A → Go G B M Q h sf cells slots (pc + 3) Ls st) : Go G B M Q h sf cells slots pc Ls (.int y :: .int x :: st) := by
  intro T vm0 k0 locs W
  by_cases a : A
  · exact (gT a T vm0 k0 locs W).pre fun target hr => XS.icmpYes W.1.here K.1 rfl (pc0 := pc) (pc' := pc') rfl (K.dec hd) rfl (hA a) ho.1 ho.2 hr
  · exact (gF a T vm0 k0 locs W).pre fun target hr => XS.icmpNo W.1.here K.1 rfl (K.dec hd) rfl (hN a) hr
theorem go_ifeq (K : Kd G B M) {k : Nat} {o : Int} {x : Int32} (hd : M.P[k]? = some (pc, .ifCond .eq o, 3)) {pc' : Nat} (ho : 0 ≤ (pc : Int) + o ∧ ((pc : Int) + o).toNat = pc') (gT : x = 0 → Go G B M Q h sf cells slots pc' Ls st) (gF : ¬ x = 0 → Go G B M Q h sf cells slots (pc + 3) Ls st) : Go G B M Q h sf cells slots pc Ls (.int x :: st) :=
  go_if2 K hd ho (fun q => by rw [if0]; exact (teq q).1) (fun q => by rw [if0]; exact (feq q).1) gT gF
theorem go_ifne (K : Kd G B M) {k : Nat} {o : Int} {x : Int32} (hd : M.P[k]? = some (pc, .ifCond .ne o, 3)) {pc' : Nat} (ho : 0 ≤ (pc : Int) + o ∧ ((pc : Int) + o).toNat = pc') (gT : ¬ x = 0 → Go G B M Q h sf cells slots pc' Ls st) (gF : x = 0 → Go G B M Q h sf cells slots (pc + 3) Ls st) : Go G B M Q h sf cells slots pc Ls (.int x :: st) :=
  go_if2 K hd ho (A := ¬ x = 0) (fun q => by rw [if0]; exact (feq q).2) (fun q => by rw [if0]; exact (teq (Decidable.not_not.mp q)).2) gT (fun q => gF (Decidable.not_not.mp q))
theorem go_iflt (K : Kd G B M) {k : Nat} {o : Int} {x : Int32} (hd : M.P[k]? = some (pc, .ifCond .lt o, 3)) {pc' : Nat} (ho : 0 ≤ (pc : Int) + o ∧ ((pc : Int) + o).toNat = pc') (gT : x < 0 → Go G B M Q h sf cells slots pc' Ls st) (gF : ¬ x < 0 → Go G B M Q h sf cells slots (pc + 3) Ls st) : Go G B M Q h sf cells slots pc Ls (.int x :: st) :=
  go_if2 K hd ho (fun q => by rw [if0]; exact (tlt q).1) (fun q => by rw [if0]; exact (flt q).1) gT gF
theorem go_ifge (K : Kd G B M) {k : Nat} {o : Int} {x : Int32} (hd : M.P[k]? = some (pc, .ifCond .ge o, 3)) {pc' : Nat} (ho : 0 ≤ (pc : Int) + o ∧ ((pc : Int) + o).toNat = pc') (gT : ¬ x < 0 → Go G B M Q h sf cells slots pc' Ls st) (gF : x < 0 → Go G B M Q h sf cells slots (pc + 3) Ls st) : Go G B M Q h sf cells slots pc Ls (.int x :: st) :=
  go_if2 K hd ho (A := ¬ x < 0) (fun q => by rw [if0]; exact (flt q).2.1) (fun q => by rw [if0]; exact (tlt (Decidable.not_not.mp q)).2.1) gT (fun q => gF (Decidable.not_not.mp q))
theorem go_ifgt (K : Kd G B M) {k : Nat} {o : Int} {x : Int32} (hd : M.P[k]? = some (pc, .ifCond .gt o, 3)) {pc' : Nat} (ho : 0 ≤ (pc : Int) + o ∧ ((pc : Int) + o).toNat = pc') (gT : 0 < x → Go G B M Q h sf cells slots pc' Ls st) (gF : ¬ 0 < x → Go G B M Q h sf cells slots (pc + 3) Ls st) : Go G B M Q h sf cells slots pc Ls (.int x :: st) :=
  go_if2 K hd ho (fun q => by rw [if0]; exact (tlt q).2.2.1) (fun q => by rw [if0]; exact (flt q).2.2.1) gT gF
theorem go_ifle (K : Kd G B M) {k : Nat} {o : Int} {x : Int32} (hd : M.P[k]? = some (pc, .ifCond .le o, 3)) {pc' : Nat} (ho : 0 ≤ (pc : Int) + o ∧ ((pc : Int) + o).toNat = pc') (gT : ¬ 0 < x → Go G B M Q h sf cells slots pc' Ls st) (gF : 0 < x → Go G B M Q h sf cells slots (pc + 3) Ls st) : Go G B M Q h sf cells slots pc Ls (.int x :: st) :=
  go_if2 K hd ho (A := ¬ 0 < x) (fun q => by rw [if0]; exact (flt q).2.2.2) (fun q => by rw [if0]; exact (tlt (Decidable.not_not.mp q)).2.2.2) gT (fun q => gF (Decidable.not_not.mp q))
theorem go_icmpeq (K : Kd G B M) {k : Nat} {o : Int} {x y : Int32} (hd : M.P[k]? = some (pc, .if_icmp .eq o, 3)) {pc' : Nat} (ho : 0 ≤ (pc : Int) + o ∧ ((pc : Int) + o).toNat = pc') (gT : x = y → Go G B M Q h sf cells slots pc' Ls st) (gF : ¬ x = y → Go G B M Q h sf cells slots (pc + 3) Ls st) : Go G B M Q h sf cells slots pc Ls (.int y :: .int x :: st) :=
  go_icmp2 K hd ho (fun q => (teq q).1) (fun q => (feq q).1) gT gF
theorem go_icmpne (K : Kd G B M) {k : Nat} {o : Int} {x y : Int32} (hd : M.P[k]? = some (pc, .if_icmp .ne o, 3)) {pc' : Nat} (ho : 0 ≤ (pc : Int) + o ∧ ((pc : Int) + o).toNat = pc') (gT : ¬ x = y → Go G B M Q h sf cells slots pc' Ls st) (gF : x = y → Go G B M Q h sf cells slots (pc + 3) Ls st) : Go G B M Q h sf cells slots pc Ls (.int y :: .int x :: st) :=
  go_icmp2 K hd ho (A := ¬ x = y) (fun q => (feq q).2) (fun q => (teq (Decidable.not_not.mp q)).2) gT (fun q => gF (Decidable.not_not.mp q))
theorem go_icmplt (K : Kd G B M) {k : Nat} {o : Int} {x y : Int32} (hd : M.P[k]? = some (pc, .if_icmp .lt o, 3)) {pc' : Nat} (ho : 0 ≤ (pc : Int) + o ∧ ((pc : Int) + o).toNat = pc') (gT : x < y → Go G B M Q h sf cells slots pc' Ls st) (gF : ¬ x < y → Go G B M Q h sf cells slots (pc + 3) Ls st) : Go G B M Q h sf cells slots pc Ls (.int y :: .int x :: st) :=
  go_icmp2 K hd ho (fun q => (tlt q).1) (fun q => (flt q).1) gT gF
theorem go_icmpge (K : Kd G B M) {k : Nat} {o : Int} {x y : Int32} (hd : M.P[k]? = some (pc, .if_icmp .ge o, 3)) {pc' : Nat} (ho : 0 ≤ (pc : Int) + o ∧ ((pc : Int) + o).toNat = pc') (gT : ¬ x < y → Go G B M Q h sf cells slots pc' Ls st) (gF : x < y → Go G B M Q h sf cells slots (pc + 3) Ls st) : Go G B M Q h sf cells slots pc Ls (.int y :: .int x :: st) :=
  go_icmp2 K hd ho (A := ¬ x < y) (fun q => (flt q).2.1) (fun q => (tlt (Decidable.not_not.mp q)).2.1) gT (fun q => gF (Decidable.not_not.mp q))
theorem go_icmpgt (K : Kd G B M) {k : Nat} {o : Int} {x y : Int32} (hd : M.P[k]? = some (pc, .if_icmp .gt o, 3)) {pc' : Nat} (ho : 0 ≤ (pc : Int) + o ∧ ((pc : Int) + o).toNat = pc') (gT : y < x → Go G B M Q h sf cells slots pc' Ls st) (gF : ¬ y < x → Go G B M Q h sf cells slots (pc + 3) Ls st) : Go G B M Q h sf cells slots pc Ls (.int y :: .int x :: st) :=
  go_icmp2 K hd ho (fun q => (tlt q).2.2.1) (fun q => (flt q).2.2.1) gT gF
theorem go_icmple (K : Kd G B M) {k : Nat} {o : Int} {x y : Int32} (hd : M.P[k]? = some (pc, .if_icmp .le o, 3)) {pc' : Nat} (ho : 0 ≤ (pc : Int) + o ∧ ((pc : Int) + o).toNat = pc') (gT : ¬ y < x → Go G B M Q h sf cells slots pc' Ls st) (gF : y < x → Go G B M Q h sf cells slots (pc + 3) Ls st) : Go G B M Q h sf cells slots pc Ls (.int y :: .int x :: st) :=
  go_icmp2 K hd ho (A := ¬ y < x) (fun q => (flt q).2.2.2) (fun q => (tlt (Decidable.not_not.mp q)).2.2.2) gT (fun q => gF (Decidable.not_not.mp q))
theorem go_ifnullY (K : Kd G B M) {k : Nat} {o : Int} (hd : M.P[k]? = some (pc, .ifnull o, 3)) {pc' : Nat} (ho : 0 ≤ (pc : Int) + o ∧ ((pc : Int) + o).toNat = pc') (g : Go G B M Q h sf cells slots pc' Ls st) : Go G B M Q h sf cells slots pc Ls (.null :: st) := by
  intro T vm0 k0 locs W
  exact (g T vm0 k0 locs W).pre fun target hr => XS.ifnullYes W.1.here K.1 rfl (pc0 := pc) (pc' := pc') rfl (K.dec hd) rfl ho.1 ho.2 hr
theorem go_ifnullN (K : Kd G B M) {k : Nat} {o : Int} {a : Addr} (hd : M.P[k]? = some (pc, .ifnull o, 3)) (g : Go G B M Q h sf cells slots (pc + 3) Ls st) : Go G B M Q h sf cells slots pc Ls (.ref a :: st) := by
  intro T vm0 k0 locs W
  exact (g T vm0 k0 locs W).pre fun target hr => XS.ifnullNo W.1.here K.1 rfl (K.dec hd) rfl hr
theorem go_ifnonY (K : Kd G B M) {k : Nat} {o : Int} {a : Addr} (hd : M.P[k]? = some (pc, .ifnonnull o, 3)) {pc' : Nat} (ho : 0 ≤ (pc : Int) + o ∧ ((pc : Int) + o).toNat = pc') (g : Go G B M Q h sf cells slots pc' Ls st) : Go G B M Q h sf cells slots pc Ls (.ref a :: st) := by
  intro T vm0 k0 locs W
  exact (g T vm0 k0 locs W).pre fun target hr => XT.ifnonnullYes W.1.here K.1 rfl (pc0 := pc) (pc' := pc') rfl (K.dec hd) rfl ho.1 ho.2 hr
theorem go_ifnonN (K : Kd G B M) {k : Nat} {o : Int} (hd : M.P[k]? = some (pc, .ifnonnull o, 3)) (g : Go G B M Q h sf cells slots (pc + 3) Ls st) : Go G B M Q h sf cells slots pc Ls (.null :: st) := by
  intro T vm0 k0 locs W
  exact (g T vm0 k0 locs W).pre fun target hr => XT.ifnonnullNo W.1.here K.1 rfl (K.dec hd) rfl hr
theorem go_acmp (K : Kd G B M) {k : Nat} {cd : ACond} {o : Int} {x y : Value} (hd : M.P[k]? = some (pc, .if_acmp cd o, 3)) (h1 : x.isRef = true) (h2 : y.isRef = true) {same : Bool} (hq : decide (x = y) = same) {pc' : Nat} (ho : 0 ≤ (pc : Int) + o) (hp : pc' = if acV cd same = true then ((pc : Int) + o).toNat else pc + 3)
    (g : Go G B M Q h sf cells slots pc' Ls st) : Go G B M Q h sf cells slots pc Ls (y :: x :: st) := by
  intro T vm0 k0 locs W
  exact (g T vm0 k0 locs W).pre fun target hr => RoadKit.acmp W.1 K.1 rfl h1 h2 (pc0 := pc) rfl (K.dec hd) rfl hq ho hp hr
theorem go_irem (K : Kd G B M) {k : Nat} {x y : Int32} (hd : M.P[k]? = some (pc, .irem, 1)) (hy : y ≠ 0) (g : Go G B M Q h sf cells slots (pc + 1) Ls (.int (x % y) :: st)) : Go G B M Q h sf cells slots pc Ls (.int y :: .int x :: st) := by
  intro T vm0 k0 locs W
  exact (g T vm0 k0 locs W).pre fun target hr => iremM W.1 K.1 rfl (K.dec hd) rfl hy hr
/-! ### the end -/
theorem go_leave (K : Kd G B M) {v : Option Value} (hv : M.ret = none → v = none) (q : ∀ Sf : Addr → Prop, (∀ x ∈ sf, Sf x) → Q v h Sf)
    (rt : ∀ (T : State) (vm0 : Vm) (locs : List Loc) (fs : List Frame), Stand B.p G.l B.e M.R (B.s.setVm vm0) B.m B.as B.bl B.mt B.c T locs cells slots →
      (∀ (f : JFrame) (acts : List Action), f.method = B.m → f.locked = none → f.entered = [] → (doReturn B.e (T.setTop f) acts v).1 = T.setFrames fs) → Steps B.p.tables B.e B.bl (T.setTop (mkF B.m pc Ls st)) (T.setFrames fs))
    (hc : cells ≤ M.R.cells) (hs : slots ≤ M.R.slots) : Go G B M Q h sf cells slots pc Ls st := by
  intro T vm0 k0 locs W
  obtain ⟨X, eT, hS, hk, hZ, hown, hF, hE, hC, hs0⟩ := W
  obtain ⟨fs, hr, hrun, hend, hW⟩ := X.leaveW hS (by rw [eT]; exact hk) (v := v) (fun z => hv (by rw [← K.2.2.2.1]; exact z)) K.2.2.2.2.1
  obtain ⟨w1, w2, w3, w4⟩ := hW
  have A := CHv.at X hZ K.2.2.2.2.2.2 hC.1
  refine ⟨_, v, locs, rt T vm0 locs fs X hr, hrun, hend, ?_, hF, ?_, ?_, w1, w2, w3, w4.mono hc hs⟩
  · show Q v T.heap (fun x => Safe G.Z G.EL T.vm T.heap x ∧ x < T.heap.size)
    rw [eT]
    exact q _ fun x hx => ⟨A.safe (hs0 x hx).2 (hs0 x hx).1, (hs0 x hx).2⟩
  · show Ext G.Z.heap T.heap
    rw [eT]; exact hE
  · show CHr G.Z G.EL B.s.vm B.s.heap T.vm T.heap
    rw [eT]; exact hC.trans A
theorem go_return (K : Kd G B M) {k : Nat} (hd : M.P[k]? = some (pc, .return_, 1)) (hr : M.ret = none) (hc : Nat.ble cells M.R.cells = true) (hs : Nat.ble slots M.R.slots = true) (q : ∀ Sf : Addr → Prop, (∀ x ∈ sf, Sf x) → Q none h Sf) : Go G B M Q h sf cells slots pc Ls [] :=
  go_leave K (fun _ => rfl) q (fun T vm0 locs fs X hl => X.returnOut K.1 (K.2.2.2.1.trans hr) (K.dec hd) hl) (Nat.le_of_ble_eq_true hc) (Nat.le_of_ble_eq_true hs)
theorem go_ret (K : Kd G B M) {k : Nat} {i : Instr} {t : FieldType} {w : Value} (hd : M.P[k]? = some (pc, i, 1)) (hr : M.ret = some t) (hn : narrow t w = w)
    (hi : (i = .ireturn ∧ (t = .int ∨ t = .boolean ∨ t = .byte ∨ t = .char ∨ t = .short) ∧ ∃ z, w = .int z) ∨ (i = .lreturn ∧ t = .long ∧ ∃ z, w = .long z) ∨ (i = .dreturn ∧ t = .double ∧ ∃ z, w = .double z) ∨ (i = .freturn ∧ t = .float ∧ ∃ z, w = .float z) ∨ (i = .areturn ∧ t.isReference = true ∧ w.isRef = true))
    (hc : Nat.ble cells M.R.cells = true) (hs : Nat.ble slots M.R.slots = true) (q : ∀ Sf : Addr → Prop, (∀ x ∈ sf, Sf x) → Q (some w) h Sf) : Go G B M Q h sf cells slots pc Ls (w :: st) :=
  go_leave K (fun z => by rw [hr] at z; cases z) q (fun T vm0 locs fs X hl => retOut X K.1 (K.2.2.2.1.trans hr) hn hi (K.dec hd) hl) (Nat.le_of_ble_eq_true hc) (Nat.le_of_ble_eq_true hs)
theorem go_ireturn (K : Kd G B M) {k : Nat} {t : FieldType} {z : Int32} (hd : M.P[k]? = some (pc, .ireturn, 1)) (hr : M.ret = some t) (ht : t = .int ∨ t = .boolean ∨ t = .byte ∨ t = .char ∨ t = .short) (hn : narrow t (.int z) = .int z) (hc : Nat.ble cells M.R.cells = true) (hs : Nat.ble slots M.R.slots = true) (q : ∀ Sf : Addr → Prop, (∀ x ∈ sf, Sf x) → Q (some (.int z)) h Sf) : Go G B M Q h sf cells slots pc Ls (.int z :: st) :=
  go_ret K hd hr hn (Or.inl ⟨rfl, ht, z, rfl⟩) hc hs q
theorem go_areturn (K : Kd G B M) {k : Nat} {t : FieldType} {w : Value} (hd : M.P[k]? = some (pc, .areturn, 1)) (hr : M.ret = some t) (ht : t.isReference = true) (hw : w.isRef = true) (hn : narrow t w = w) (hc : Nat.ble cells M.R.cells = true) (hs : Nat.ble slots M.R.slots = true) (q : ∀ Sf : Addr → Prop, (∀ x ∈ sf, Sf x) → Q (some w) h Sf) : Go G B M Q h sf cells slots pc Ls (w :: st) :=
  go_ret K hd hr hn (Or.inr (Or.inr (Or.inr (Or.inr ⟨rfl, ht, hw⟩)))) hc hs q
theorem go_lreturn (K : Kd G B M) {k : Nat} {z : Int64} (hd : M.P[k]? = some (pc, .lreturn, 1)) (hr : M.ret = some .long) (hc : Nat.ble cells M.R.cells = true) (hs : Nat.ble slots M.R.slots = true) (q : ∀ Sf : Addr → Prop, (∀ x ∈ sf, Sf x) → Q (some (.long z)) h Sf) : Go G B M Q h sf cells slots pc Ls (.long z :: st) :=
  go_ret K hd hr rfl (Or.inr (Or.inl ⟨rfl, rfl, z, rfl⟩)) hc hs q
end Base
end Jvm.OwnW
namespace Jvm.OwnW
open Sem ClassFile Op Lib Bundle Jvm.Stand Jvm.Free Jvm.LawKit Jvm.RoadKit
section Heap
variable {G : Gb} {B : Cx} {M : Mt} {R : Room} {Q : Option Value → Heap → (Addr → Prop) → Prop} {h : Heap} {sf : List Addr} {cells slots pc : Nat} {Ls : Array Slot} {st : List Value}
theorem go_getfield (K : Kd G B M) {k ix : Nat} {R0 O n d host : String} {a : Addr} {v : Value} (hd : M.P[k]? = some (pc, .getfield ix, 3)) (w : Wd G (.fieldLink M.own ix R0 n d) ∨ Wd G (.fieldLinkNest M.own ix R0 n d host)) (via : Via G.Z R0 O n d) (F : Fld G.Z h a O n d v)
    (g : Go G B M Q h sf cells slots (pc + 3) Ls (v :: st)) : Go G B M Q h sf cells slots pc Ls (.ref a :: st) := by
  intro T vm0 k0 locs W
  obtain ⟨X, eT, hS, hk, hZ, hown, hF, hE, hC, hs⟩ := W
  obtain ⟨T', X', e', st'⟩ := RoadKit.getF X K.1 hZ hown w via eT F (g := mkF B.m pc Ls (.ref a :: st)) rfl rfl (K.dec hd)
  exact (g T' vm0 k0 locs ⟨X', e', hS, hk, hZ, hown, hF, hE, hC, hs⟩).pre st'
theorem go_getstatic (K : Kd G B M) {k ix : Nat} {R0 O n d host : String} {v : Value} (hd : M.P[k]? = some (pc, .getstatic ix, 3)) (w : Wd G (.fieldLink M.own ix R0 n d) ∨ Wd G (.fieldLinkNest M.own ix R0 n d host)) (via : Via G.Z R0 O n d) (F : Sta G.Z G.Z.heap O n d v)
    (g : Go G B M Q h sf cells slots (pc + 3) Ls (v :: st)) : Go G B M Q h sf cells slots pc Ls st := by
  intro T vm0 k0 locs W
  obtain ⟨X, eT, hS, hk, hZ, hown, hF, hE, hC, hs⟩ := W
  obtain ⟨T', X', e', st'⟩ := getS2 X K.1 hZ hown w via eT (F.ext hE) (g := mkF B.m pc Ls st) rfl (K.dec hd)
  exact (g T' vm0 k0 locs ⟨X', e', hS, hk, hZ, hown, hF, hE, hC, hs⟩).pre st'
theorem go_new (K : Kd G B M) {k ix n : Nat} {C : String} (hd : M.P[k]? = some (pc, .new ix, 3)) (w : Wd G (.classLink M.own ix C)) (wi : Wd G (.instantiable C n)) (wz : Wd G (.initialized C)) (hc : Nat.ble (cells + 1) M.R.cells = true) (hl : Nat.ble (slots + n) M.R.slots = true)
    (g : ∀ (h' : Heap) (a : Addr), a = h.size → G.Z.heap.size ≤ a → Ext h h' → Exa G.Z h' a C → (∀ {O nm d : String} {ty : FieldType}, Laid G.Z G.a0 C O nm d → parseFieldDescriptor d = some ty → Fld G.Z h' a O nm d (defaultValue ty)) → Go G B M Q h' (a :: sf) (cells + 1) (slots + n) (pc + 3) Ls (.ref a :: st)) : Go G B M Q h sf cells slots pc Ls st := by
  intro T vm0 k0 locs W
  obtain ⟨X, eT, hS, hk, hZ, hown, hF, hE, hC, hs⟩ := W
  obtain ⟨T', h', X', e', E', A', D', -, st'⟩ := newO X K.1 hZ hown w wi wz eT (g := mkF B.m pc Ls st) rfl (K.dec hd) (Nat.le_of_ble_eq_true hc) (Nat.le_of_ble_eq_true hl)
  refine (g h' h.size rfl hE.1 E' A' D' T' vm0 k0 locs ⟨X', e', hS, Nat.le_trans hk E'.1, hZ, hown, hF, ⟨Nat.le_trans hE.1 E'.1, fun x c q => E'.2 x c (hE.2 x c q)⟩, hC.trans (CHr.ext E' hC.1), fun x hx => ?_⟩).pre st'
  rcases List.mem_cons.mp hx with rfl | hx
  · exact ⟨Safe.ext E' hC.1 (Safe.new (Nat.le_refl _)), A'.lt⟩
  · exact ⟨Safe.ext E' hC.1 (hs x hx).1, Nat.lt_of_lt_of_le (hs x hx).2 E'.1⟩
theorem go_wr (K : Kd G B M) {a : Addr} {sl pc' : Nat} {v : Value} {st' : List Value} (ha : G.Z.heap.size ≤ a) (hsf : a ∈ sf ∨ ∀ vm0 : Vm, G.Z.vm.Alike vm0 → Safe G.Z G.EL vm0 h a)
    (law : ∀ (T : State) (vm0 : Vm) (locs : List Loc), Stand B.p G.l B.e M.R (B.s.setVm vm0) B.m B.as B.bl B.mt B.c T locs cells slots → T.heap = h → G.Z.Warmed39 vm0 → vm0.findClass M.own = some B.m.cls →
      ∃ (T' : State) (h' : Heap), Stand B.p G.l B.e M.R (B.s.setVm vm0) B.m B.as B.bl B.mt B.c T' (locs ++ [⟨a, sl⟩]) cells slots ∧ T'.heap = h' ∧ Wr h h' a sl v ∧ ∀ target, Steps B.p.tables B.e B.bl (T'.setTop (mkF B.m pc' Ls st')) target → Steps B.p.tables B.e B.bl (T.setTop (mkF B.m pc Ls st)) target)
    (g : ∀ h' : Heap, Wr h h' a sl v → Go G B M Q h' sf cells slots pc' Ls st') : Go G B M Q h sf cells slots pc Ls st := by
  intro T vm0 k0 locs W
  obtain ⟨X, eT, hS, hk, hZ, hown, hF, hE, hC, hs⟩ := W
  obtain ⟨T', h', X', e', W', st''⟩ := law T vm0 locs X eT hZ hown
  have S : Safe G.Z G.EL vm0 h a := hsf.elim (fun q => (hs a q).1) (fun q => q vm0 hZ.alike)
  exact (g h' W' T' vm0 k0 _ ⟨X', e', hS, by rw [W'.size]; exact hk, hZ, hown, Fr.snoc X' hF ha, (Old.wr (n0 := G.Z.heap.size) ⟨rfl, hE⟩ W' ha).2, hC.trans (CHr.wr W' S hC.1), fun x hx => ⟨Safe.wr W' S hC.1 (hs x hx).1, by rw [W'.size]; exact (hs x hx).2⟩⟩).pre st''
theorem go_putfield (K : Kd G B M) {k ix kk : Nat} {R0 O n d host C : String} {ty : FieldType} {a : Addr} {v old : Value} (hd : M.P[k]? = some (pc, .putfield ix, 3)) (w : Wd G (.fieldLink M.own ix R0 n d) ∨ Wd G (.fieldLinkNest M.own ix R0 n d host)) (via : Via G.Z R0 O n d) (F : Fld G.Z h a O n d old) (E : Exa G.Z h a C)
    (L : Wd G (.lays C O n d) ∨ (Wd G (.laysFinal C O n d) ∧ M.own = O ∧ M.nm = "<init>")) (wi : Wd G (.instantiable C kk)) (hty : parseFieldDescriptor d = some ty) (hn : narrow ty v = v) (hf : fits ty v = true) (ha : G.Z.heap.size ≤ a) (hsf : a ∈ sf ∨ (C ≠ "java/lang/String" ∧ C ≠ "[B"))
    (g : ∀ h' : Heap, Wr h h' a (RoadKit.slotOf G.Z O n d) v → Go G B M Q h' sf cells slots (pc + 3) Ls st) : Go G B M Q h sf cells slots pc Ls (v :: .ref a :: st) :=
  go_wr K ha (hsf.imp id fun q vm0 hal => Safe.exa hal E q.1 q.2) (fun T vm0 locs X eT hZ hown => RoadKit.putF X K.1 hZ hown w via eT F E (L.imp id fun q => ⟨q.1, q.2.1, K.2.2.2.2.2.1.trans q.2.2⟩) wi hty hn hf (g := mkF B.m pc Ls (v :: .ref a :: st)) rfl rfl (K.dec hd)) g
theorem go_newarray (K : Kd G B M) {k cap : Nat} {aty : ArrayType} {n : Int32} (hd : M.P[k]? = some (pc, .newarray aty, 2)) (w : Wd G (.arrayClass (newarray.typeOf aty))) (hn : ¬ n < 0) (hcap : n.toNatClampNeg ≤ cap) (hb : Nat.ble (cap * 8) 536870912 = true) (hc : Nat.ble (cells + 1) M.R.cells = true) (hl : Nat.ble (slots + cap) M.R.slots = true)
    (g : ∀ (h' : Heap) (a : Addr) (kA : ClassId), a = h.size → G.Z.heap.size ≤ a → Ext h h' → Arv G.Z h' a kA (newarray.typeOf aty) n [] (defaultValue (newarray.typeOf aty)) → Go G B M Q h' (a :: sf) (cells + 1) (slots + cap) (pc + 2) Ls (.ref a :: st)) : Go G B M Q h sf cells slots pc Ls (.int n :: st) := by
  intro T vm0 k0 locs W
  obtain ⟨X, eT, hS, hk, hZ, hown, hF, hE, hC, hs⟩ := W
  obtain ⟨T', h', cA, X', e', E', A', st'⟩ := newP X K.1 hZ w eT (g := mkF B.m pc Ls (.int n :: st)) rfl (K.dec hd) rfl hn hcap (Nat.le_of_ble_eq_true hb) (Nat.le_of_ble_eq_true hc) (Nat.le_of_ble_eq_true hl)
  refine (g h' h.size cA rfl hE.1 E' (Arv.new A' hn) T' vm0 k0 locs ⟨X', e', hS, Nat.le_trans hk E'.1, hZ, hown, hF, ⟨Nat.le_trans hE.1 E'.1, fun x c q => E'.2 x c (hE.2 x c q)⟩, hC.trans (CHr.ext E' hC.1), fun x hx => ?_⟩).pre st'
  rcases List.mem_cons.mp hx with rfl | hx
  · exact ⟨Safe.ext E' hC.1 (Safe.new (Nat.le_refl _)), A'.lt⟩
  · exact ⟨Safe.ext E' hC.1 (hs x hx).1, Nat.lt_of_lt_of_le (hs x hx).2 E'.1⟩
theorem go_castore (K : Kd G B M) {k i : Nat} {a : Addr} {kA : ClassId} {z j x : Int32} {vs : List Value} {dv : Value} (hd : M.P[k]? = some (pc, .castore, 1)) (A : Arv G.Z h a kA .char z vs dv) (hj : ¬ j < 0 ∧ j < z) (hi : j.toNatClampNeg = i) (hl : i < vs.length) (ha : G.Z.heap.size ≤ a)
    (g : ∀ h' : Heap, Wr h h' a j.toNatClampNeg (.int (nar .char x)) → Arv G.Z h' a kA .char z (vs.set i (.int (nar .char x))) dv → Go G B M Q h' sf cells slots (pc + 1) Ls st) : Go G B M Q h sf cells slots pc Ls (.int x :: .int j :: .ref a :: st) := by
  obtain ⟨c, A1, q1, S, q3, H, Gf⟩ := A
  exact go_wr K ha (Or.inr fun vm0 hal => Safe.arr hal A1 (by decide)) (fun T vm0 locs X eT hZ hown => stC X K.1 hZ eT A1 (inb_of S hj) (g := mkF B.m pc Ls (.int x :: .int j :: .ref a :: st)) rfl rfl (K.dec hd)) fun h' W => g h' W (Arv.set A1 q1 S q3 H Gf (fits_nar_char _) W i hi hl)
theorem go_bastore (K : Kd G B M) {k i : Nat} {a : Addr} {kA : ClassId} {z j x : Int32} {vs : List Value} {dv : Value} (hd : M.P[k]? = some (pc, .bastore, 1)) (A : Arv G.Z h a kA .byte z vs dv) (hj : ¬ j < 0 ∧ j < z) (hi : j.toNatClampNeg = i) (hl : i < vs.length) (ha : G.Z.heap.size ≤ a) (hsf : a ∈ sf)
    (g : ∀ h' : Heap, Wr h h' a j.toNatClampNeg (.int (nar .byte x)) → Arv G.Z h' a kA .byte z (vs.set i (.int (nar .byte x))) dv → Go G B M Q h' sf cells slots (pc + 1) Ls st) : Go G B M Q h sf cells slots pc Ls (.int x :: .int j :: .ref a :: st) := by
  obtain ⟨c, A1, q1, S, q3, H, Gf⟩ := A
  exact go_wr K ha (Or.inl hsf) (fun T vm0 locs X eT hZ hown => stB X K.1 hZ eT A1 (inb_of S hj) (g := mkF B.m pc Ls (.int x :: .int j :: .ref a :: st)) rfl rfl (K.dec hd)) fun h' W => g h' W (Arv.set A1 q1 S q3 H Gf (fits_nar_byte _) W i hi hl)
theorem go_iastore (K : Kd G B M) {k i : Nat} {a : Addr} {kA : ClassId} {z j x : Int32} {vs : List Value} {dv : Value} (hd : M.P[k]? = some (pc, .iastore, 1)) (A : Arv G.Z h a kA .int z vs dv) (hj : ¬ j < 0 ∧ j < z) (hi : j.toNatClampNeg = i) (hl : i < vs.length) (ha : G.Z.heap.size ≤ a)
    (g : ∀ h' : Heap, Wr h h' a j.toNatClampNeg (.int x) → Arv G.Z h' a kA .int z (vs.set i (.int x)) dv → Go G B M Q h' sf cells slots (pc + 1) Ls st) : Go G B M Q h sf cells slots pc Ls (.int x :: .int j :: .ref a :: st) := by
  obtain ⟨c, A1, q1, S, q3, H, Gf⟩ := A
  exact go_wr K ha (Or.inr fun vm0 hal => Safe.arr hal A1 (by decide)) (fun T vm0 locs X eT hZ hown => stI X K.1 hZ eT A1 (inb_of S hj) (g := mkF B.m pc Ls (.int x :: .int j :: .ref a :: st)) rfl rfl (K.dec hd)) fun h' W => g h' W (Arv.set A1 q1 S q3 H Gf rfl W i hi hl)
theorem go_caload (K : Kd G B M) {k : Nat} {a : Addr} {kA : ClassId} {z j : Int32} {vs : List Value} {v dv : Value} (hd : M.P[k]? = some (pc, .caload, 1)) (A : Arv G.Z h a kA .char z vs dv) (hj : ¬ j < 0 ∧ j < z) (hv : vs.getD j.toNatClampNeg dv = v)
    (g : Go G B M Q h sf cells slots (pc + 1) Ls (v :: st)) : Go G B M Q h sf cells slots pc Ls (.int j :: .ref a :: st) := by
  intro T vm0 k0 locs W
  obtain ⟨c, A1, q1, S, q3, H, Gf⟩ := A
  have X := W.1
  exact (g T vm0 k0 locs W).pre fun target hr => X.caload K.1 (j := j) (v := v) (by rw [W.2.1]; exact A1.1) (State.isArrayOf_alike W.2.2.2.2.1.alike A1.2.1) A1.2.2 (inb_of S hj) (H.at (inb_of S hj) hv) (g := mkF B.m pc Ls (.int j :: .ref a :: st)) rfl rfl (K.dec hd) _ hr
theorem go_baload (K : Kd G B M) {k : Nat} {a : Addr} {kA : ClassId} {z j : Int32} {vs : List Value} {v dv : Value} (hd : M.P[k]? = some (pc, .baload, 1)) (A : Arv G.Z h a kA .byte z vs dv) (hj : ¬ j < 0 ∧ j < z) (hv : vs.getD j.toNatClampNeg dv = v)
    (g : Go G B M Q h sf cells slots (pc + 1) Ls (v :: st)) : Go G B M Q h sf cells slots pc Ls (.int j :: .ref a :: st) := by
  intro T vm0 k0 locs W
  obtain ⟨c, A1, q1, S, q3, H, Gf⟩ := A
  have X := W.1
  exact (g T vm0 k0 locs W).pre fun target hr => X.baloadBytes K.1 (j := j) (v := v) (by rw [W.2.1]; exact A1.1) (State.isArrayOf_alike W.2.2.2.2.1.alike A1.2.1) A1.2.2 (inb_of S hj) (H.at (inb_of S hj) hv) (g := mkF B.m pc Ls (.int j :: .ref a :: st)) rfl rfl (K.dec hd) _ hr
theorem go_iaload (K : Kd G B M) {k : Nat} {a : Addr} {kA : ClassId} {z j : Int32} {vs : List Value} {v dv : Value} (hd : M.P[k]? = some (pc, .iaload, 1)) (A : Arv G.Z h a kA .int z vs dv) (hj : ¬ j < 0 ∧ j < z) (hv : vs.getD j.toNatClampNeg dv = v)
    (g : Go G B M Q h sf cells slots (pc + 1) Ls (v :: st)) : Go G B M Q h sf cells slots pc Ls (.int j :: .ref a :: st) := by
  intro T vm0 k0 locs W
  obtain ⟨c, A1, q1, S, q3, H, Gf⟩ := A
  have X := W.1
  exact (g T vm0 k0 locs W).pre fun target hr => X.iaload K.1 (j := j) (v := v) (by rw [W.2.1]; exact A1.1) (State.isArrayOf_alike W.2.2.2.2.1.alike A1.2.1) A1.2.2 (inb_of S hj) (H.at (inb_of S hj) hv) (g := mkF B.m pc Ls (.int j :: .ref a :: st)) rfl rfl (K.dec hd) _ hr
theorem go_aaload (K : Kd G B M) {k : Nat} {a : Addr} {kA : ClassId} {ty : FieldType} {z j : Int32} {vs : List Value} {v dv : Value} (hd : M.P[k]? = some (pc, .aaload, 1)) (A : Arv G.Z h a kA ty z vs dv) (hty : ty.isReference = true) (hj : ¬ j < 0 ∧ j < z) (hv : vs.getD j.toNatClampNeg dv = v)
    (g : Go G B M Q h sf cells slots (pc + 1) Ls (v :: st)) : Go G B M Q h sf cells slots pc Ls (.int j :: .ref a :: st) := by
  intro T vm0 k0 locs W
  obtain ⟨c, A1, q1, S, q3, H, Gf⟩ := A
  have X := W.1
  exact (g T vm0 k0 locs W).pre fun target hr => X.aaload K.1 (j := j) (v := v) (by rw [W.2.1]; exact A1.1) (State.isArrayOf_alike W.2.2.2.2.1.alike A1.2.1) hty A1.2.2 (inb_of S hj) (H.at (inb_of S hj) hv) (g := mkF B.m pc Ls (.int j :: .ref a :: st)) rfl rfl (K.dec hd) _ hr
theorem go_arraylength (K : Kd G B M) {k : Nat} {a : Addr} {kA : ClassId} {ty : FieldType} {z : Int32} {vs : List Value} {dv : Value} (hd : M.P[k]? = some (pc, .arraylength, 1)) (A : Arv G.Z h a kA ty z vs dv)
    (g : Go G B M Q h sf cells slots (pc + 1) Ls (.int z :: st)) : Go G B M Q h sf cells slots pc Ls (.ref a :: st) := by
  intro T vm0 k0 locs W
  obtain ⟨c, A1, q1, S, q3, H, Gf⟩ := A
  have X := W.1
  exact (g T vm0 k0 locs W).pre fun target hr => X.arraylength K.1 (by rw [W.2.1]; exact A1.1) (State.isArrayOf_alike W.2.2.2.2.1.alike A1.2.1) (g := mkF B.m pc Ls (.ref a :: st)) rfl rfl (K.dec hd) _ (by rw [len_of S q3]; exact hr)
theorem go_cast (K : Kd G B M) {k ix : Nat} {C : String} {a : Addr} (hd : M.P[k]? = some (pc, .checkcast ix, 3)) (w : Wd G (.classLink M.own ix C)) (F : Ins G.Z h a C true)
    (g : Go G B M Q h sf cells slots (pc + 3) Ls (.ref a :: st)) : Go G B M Q h sf cells slots pc Ls (.ref a :: st) := by
  intro T vm0 k0 locs W
  obtain ⟨X, eT, hS, hk, hZ, hown, hF, hE, hC, hs⟩ := W
  obtain ⟨T', X', e', st'⟩ := castY X K.1 hZ hown w eT F (g := mkF B.m pc Ls (.ref a :: st)) rfl rfl (K.dec hd)
  exact (g T' vm0 k0 locs ⟨X', e', hS, hk, hZ, hown, hF, hE, hC, hs⟩).pre st'
theorem go_instY (K : Kd G B M) {k ix : Nat} {C : String} {a : Addr} (hd : M.P[k]? = some (pc, .instanceof ix, 3)) (w : Wd G (.classLink M.own ix C)) (F : Ins G.Z h a C true)
    (g : Go G B M Q h sf cells slots (pc + 3) Ls (.int 1 :: st)) : Go G B M Q h sf cells slots pc Ls (.ref a :: st) := by
  intro T vm0 k0 locs W
  obtain ⟨X, eT, hS, hk, hZ, hown, hF, hE, hC, hs⟩ := W
  obtain ⟨T', X', e', st'⟩ := instY X K.1 hZ hown w eT F (g := mkF B.m pc Ls (.ref a :: st)) rfl rfl (K.dec hd)
  exact (g T' vm0 k0 locs ⟨X', e', hS, hk, hZ, hown, hF, hE, hC, hs⟩).pre st'
theorem go_instN (K : Kd G B M) {k ix : Nat} {C D : String} {a : Addr} (hd : M.P[k]? = some (pc, .instanceof ix, 3)) (w : Wd G (.classLink M.own ix C)) (E : Exa G.Z h a D) (F : ∃ c t, G.Z.vm.findClass D = some c ∧ G.Z.vm.findClass C = some t ∧ G.Z.vm.assignable c t = false)
    (g : Go G B M Q h sf cells slots (pc + 3) Ls (.int 0 :: st)) : Go G B M Q h sf cells slots pc Ls (.ref a :: st) := by
  intro T vm0 k0 locs W
  obtain ⟨X, eT, hS, hk, hZ, hown, hF, hE, hC, hs⟩ := W
  obtain ⟨T', X', e', st'⟩ := instNo X K.1 hZ hown w eT E F (g := mkF B.m pc Ls (.ref a :: st)) rfl rfl (K.dec hd)
  exact (g T' vm0 k0 locs ⟨X', e', hS, hk, hZ, hown, hF, hE, hC, hs⟩).pre st'
theorem go_inst0 (K : Kd G B M) {k ix : Nat} (hd : M.P[k]? = some (pc, .instanceof ix, 3)) (g : Go G B M Q h sf cells slots (pc + 3) Ls (.int 0 :: st)) : Go G B M Q h sf cells slots pc Ls (.null :: st) := by
  intro T vm0 k0 locs W
  exact (g T vm0 k0 locs W).pre fun target hr => W.1.instanceofNull K.1 (g := mkF B.m pc Ls (.null :: st)) rfl rfl (K.dec hd) target hr
theorem go_init0 (K : Kd G B M) {k ix : Nat} {a : Addr} (hd : M.P[k]? = some (pc, .invokespecial ix, 3)) (w1 : Wd G (.methodLink M.own ix Lib.objectInit)) (w2 : Wd G (.instanceMethod Lib.objectInit)) (w3 : Wd G (.code Lib.objectInit ⟨#[0xb1]⟩ 1 none)) (hsz : Ls.size = M.maxL)
    (hf : Nat.ble 1 M.R.frames = true) (hl : Nat.ble ((st.map fun v => v.category).sum + 12) M.R.locals = true) (g : Go G B M Q h sf cells slots (pc + 3) Ls st) : Go G B M Q h sf cells slots pc Ls (.ref a :: st) := by
  intro T vm0 k0 locs W
  obtain ⟨X, eT, hS, hk, hZ, hown, hF, hE, hC, hs⟩ := W
  obtain ⟨T', X', e', st'⟩ := initO X K.1 hZ hown w1 w2 w3 eT (g := mkF B.m pc Ls (.ref a :: st)) rfl (hsz.trans K.2.2.1.symm) rfl (K.dec hd) (Nat.le_of_ble_eq_true hf) (W := (st.map fun v => v.category).sum) (by show 2 * 0 + _ ≤ _; omega) (Nat.le_of_ble_eq_true hl)
  exact (g T' vm0 k0 locs ⟨X', e', hS, hk, hZ, hown, hF, hE, hC, hs⟩).pre st'
theorem go_ldcI (K : Kd G B M) {k ix : Nat} {v : Int32} (hd : M.P[k]? = some (pc, .ldc ix, 2)) (w : Wd G (.constant M.own ix v)) (g : Go G B M Q h sf cells slots (pc + 2) Ls (.int v :: st)) : Go G B M Q h sf cells slots pc Ls st := by
  intro T vm0 k0 locs W
  obtain ⟨X, eT, hS, hk, hZ, hown, hF, hE, hC, hs⟩ := id W
  exact (g T vm0 k0 locs W).pre (X.ldcInt K.1 hown (mv hZ w) (g := mkF B.m pc Ls st) rfl (K.dec hd))
/-- 'ldc' of a String constant, of which nothing is asked -/
theorem go_ldc (K : Kd G B M) {k ix n : Nat} {text : String} (hd : M.P[k]? = some (pc, .ldc ix, 2)) (w : Wd G (.stringLink M.own ix text)) (wS : ∀ d ∈ Bundle.stringAtoms, Wd G d) (hn : Nat.ble (4 * text.toList.length) n = true) (hb : Nat.ble n 536870912 = true) (hc : Nat.ble (cells + 2) M.R.cells = true) (hl : Nat.ble (slots + (n + 4)) M.R.slots = true)
    (g : ∀ (h' : Heap) (a : Addr), Ext h h' → Go G B M Q h' sf (cells + 2) (slots + (n + 4)) (pc + 2) Ls (.ref a :: st)) : Go G B M Q h sf cells slots pc Ls st := by
  intro T vm0 k0 locs W
  obtain ⟨X, eT, hS, hk, hZ, hown, hF, hE, hC, hs⟩ := W
  obtain ⟨a, T', h', k1, X', e', E', hS', hk', hZ', hown', hC', -, st'⟩ := ldcOH X K.1 hZ hown w wS eT hS hk K.2.2.2.2.2.2 hC.1 (g := mkF B.m pc Ls st) rfl (K.dec hd) (Nat.le_of_ble_eq_true hn) (Nat.le_of_ble_eq_true hb) (Nat.le_of_ble_eq_true hc) (Nat.le_of_ble_eq_true hl)
  exact (g h' a E' T' T'.vm k1 locs ⟨X', e', hS', hk', hZ', hown', hF, ⟨Nat.le_trans hE.1 E'.1, fun x c q => E'.2 x c (hE.2 x c q)⟩, hC.trans hC', fun x hx => ⟨hC'.safe (hs x hx).2 (hs x hx).1, Nat.lt_of_lt_of_le (hs x hx).2 E'.1⟩⟩).pre st'
/-- 'ldc' of a String constant whose text is known -/
theorem go_ldcS (K : Kd G B M) {k ix n : Nat} {text : String} (hd : M.P[k]? = some (pc, .ldc ix, 2)) (w : Wd G (.stringLink M.own ix text)) (wS : ∀ d ∈ Bundle.stringAtoms, Wd G d) (hmem : (M.own, ix) ∈ G.EL)
    {vs : List Value} {z : Int32} (ht : (∀ c ∈ text.toList, c.toNat < 256) ∧ text.toList.map (fun c => Value.int (Jvm.Lit.byteI c.toNat.toUInt16)) = vs) (hz : ¬ z < 0) (hzl : z.toNatClampNeg = vs.length)
    (hn : Nat.ble (4 * text.toList.length) n = true) (hb : Nat.ble n 536870912 = true) (hc : Nat.ble (cells + 2) M.R.cells = true) (hl : Nat.ble (slots + (n + 4)) M.R.slots = true)
    (g : ∀ (h' : Heap) (a b : Addr) (kb : ClassId), Ext h h' → Exa G.Z h' a "java/lang/String" → Fld G.Z h' a "java/lang/String" "coder" "B" (.int 0) → Fld G.Z h' a "java/lang/String" "value" "[B" (.ref b) → Arv G.Z h' b kb .byte z vs (.int 0) → (∀ x ∈ sf, x ≠ a ∧ x ≠ b) →
      Go G B M Q h' sf (cells + 2) (slots + (n + 4)) (pc + 2) Ls (.ref a :: st)) : Go G B M Q h sf cells slots pc Ls st := by
  intro T vm0 k0 locs W
  obtain ⟨X, eT, hS, hk, hZ, hown, hF, hE, hC, hs⟩ := W
  obtain ⟨a, T', h', k1, b, kb, X', e', E', hS', hk', hZ', hown', A1, A2, A3, A4, -, -, hC', -, hne, st'⟩ := ldcCH X K.1 hZ hown w wS eT hS hk K.2.2.2.2.2.2 hmem hC.1 ht hz hzl (g := mkF B.m pc Ls st) rfl (K.dec hd) (Nat.le_of_ble_eq_true hn) (Nat.le_of_ble_eq_true hb) (Nat.le_of_ble_eq_true hc) (Nat.le_of_ble_eq_true hl)
  have hsf : ∀ x ∈ sf, Safe G.Z G.EL T'.vm h' x ∧ x < h'.size := fun x hx => ⟨hC'.safe (hs x hx).2 (hs x hx).1, Nat.lt_of_lt_of_le (hs x hx).2 E'.1⟩
  exact (g h' a b kb E' A1 A2 A3 A4 (fun x hx => hne x (hsf x hx).1) T' T'.vm k1 locs ⟨X', e', hS', hk', hZ', hown', hF, ⟨Nat.le_trans hE.1 E'.1, fun x c q => E'.2 x c (hE.2 x c q)⟩, hC.trans hC', hsf⟩).pre st'
end Heap
/-! ### contracts and calls -/
section Calls
variable {G : Gb} {B : Cx} {M : Mt} {R : Room} {Q : Option Value → Heap → (Addr → Prop) → Prop} {h : Heap} {sf : List Addr} {cells slots pc : Nat} {Ls : Array Slot} {st : List Value}
theorem ctr_of (M : Mt) {ws : List Jvm.Cond} {y : MethodName} {bytes : ByteArray} {as' : Array Value} (ho : M.own = y.cls) (hnm : M.nm = y.name) (pf : plainFor y = true) (hP : ∀ q ∈ M.P, decode bytes q.1 = .ok q.2) (hEL : EW G.Z G.a0 G.EL) {Ls : Array Slot} (ef : ∀ m, entryFrame m as' M.maxL = mkF m 0 Ls [])
    (H : ∀ B : Cx, Kd G B M → Ext G.Z.heap h → Go G B M Q h sf 0 0 0 Ls []) : Ctr G ws y bytes M.maxL M.ret M.R as' h sf Q := by
  refine MetFree.of_bodySF pf hisR ?_
  intro p e s m args below meth c s₁ Bd hml hP' hK
  obtain ⟨rfl, hZ, hh, hCH, hE, hs⟩ := hP'
  have hK : Kd G ((p, e, s, m), (args, below, meth, c)) M := ⟨Bd.exec, fun q hq => by show decode c.code q.1 = _; rw [Bd.bytes]; exact hP q hq, hml, Bd.returns, Bd.notSynchronized, (name_of_methodNamed Bd.named Bd.method).1.trans hnm.symm, hEL⟩
  have X0 : Stand p G.l e M.R s m args below meth c s₁ [] 0 0 := Stand.of_body Bd
  have X1 : Stand p G.l e M.R (s.setVm s.vm) m args below meth c s₁ [] 0 0 := X0
  have e0 : s₁.heap = h := by rw [← hh, Bd.state]; rfl
  have hown : s.vm.findClass M.own = some m.cls := by rw [ho]; exact findClass_of_methodNamed Bd.named
  have hb : CHr G.Z G.EL s.vm s.heap s.vm h := by rw [hh]; exact CHr.refl hCH
  obtain ⟨t, v, L, k1, k2, k3, k4, k5, k6, k7, k8⟩ := H ((p, e, s, m), (args, below, meth, c)) hK hE s₁ s.vm 0 [] ⟨X1, e0, (State.WarmedH.refl s).since 0, Nat.zero_le _, hZ, hown, Fr.nil _, hE, hb, hs⟩
  refine ⟨t, .returned v, ?_, k2, k3, v, L, rfl, ⟨k4, k5, k6⟩, k7, k8⟩
  rw [ef m]
  exact k1
theorem backG {y : MethodName} {bytes : ByteArray} {maxL : Nat} {ret : Option FieldType} {rm : Room} {len W : Nat} {as' : Array Value} {Qc : Option Value → Heap → (Addr → Prop) → Prop} {sf' : List Addr} {p : Program} {e : Env} {below : List Frame} {s : State} {args : Array Value} {vm0 : Vm}
    (C : Ctr G [] y bytes maxL ret rm as' h sf' Qc) (hZ : G.Z.Warmed39 vm0) (wc : Wd G (.code y bytes maxL ret)) (wz : Wd G (.initialized y.cls)) (hf : rm.frames + 1 ≤ R.frames) (hl : W + (maxL + 11) + rm.locals ≤ R.locals) (hEL : EW G.Z G.a0 G.EL) (H : CHv G.Z G.EL vm0 h) (hE : Ext G.Z.heap h) (hs : ∀ x ∈ sf', Safe G.Z G.EL vm0 h x ∧ x < h.size) :
    BackS G.l R p e below (s.setVm vm0) args y len W (fun A a => a = as' ∧ A.U.heap = h ∧ A.cells + rm.cells ≤ R.cells ∧ A.slots + rm.slots ≤ R.slots)
      (fun A _ v B => ∃ L, (Qc v B.U.heap (fun x => Safe G.Z G.EL B.U.vm B.U.heap x ∧ x < B.U.heap.size) ∧ Fr G.Z.heap.size L ∧ Ext G.Z.heap B.U.heap) ∧ B.locs = A.locs ++ L ∧ B.cells = A.cells + rm.cells ∧ B.slots = A.slots + rm.slots ∧ CHr G.Z G.EL vm0 h B.U.vm B.U.heap) := by
  refine BackS.of_freeW (bytes := bytes) (maxL := maxL) (ret := ret) (E := fun _ first o t L k n => k = rm.cells ∧ n = rm.slots ∧ (∃ v, o = .returned v ∧ Qc v t.heap (fun x => Safe G.Z G.EL t.vm t.heap x ∧ x < t.heap.size) ∧ Fr G.Z.heap.size L ∧ Ext G.Z.heap t.heap) ∧ CHr G.Z G.EL first.vm first.heap t.vm t.heap) C hf hl ?_ ?_ ?_ ?_ ?_
  · intro m meth c A a Y hp
    have hU : G.Z.Warmed39 A.U.vm := wtrans (s := s.setVm vm0) hZ Y.warmed
    refine ⟨?_, mv hU wc, mv hU wz, hp.2.2.1, hp.2.2.2⟩
    show (Jvm.Cond.and _ .tt).before a A.U = true
    rw [Cond.before_and, mv hU wc]; rfl
  · intro m meth c A a g mk Y hp
    have A1 := CHv.at Y hZ hEL H
    exact ⟨hp.1, wtrans (s := s.setVm vm0) hZ Y.warmed, hp.2.1, A1.1, hE, fun x hx => ⟨A1.safe (hs x hx).2 (hs x hx).1, (hs x hx).2⟩⟩
  · intros; trivial
  · intro _ _ _ _ q
    obtain ⟨v, L, h1, h2, h3, h4⟩ := q
    exact ⟨L, _, _, h4, rfl, rfl, ⟨v, h1, h2⟩, h3⟩
  · intro m meth c A a g mk v t L k n Y hp _ _ q
    obtain ⟨e1, e2, ⟨v', e3, e4⟩, e5⟩ := q
    cases e3; subst e1 e2
    refine ⟨L, e4, rfl, rfl, rfl, (CHv.at Y hZ hEL H).trans ?_⟩
    rw [← hp.2.1]; exact e5
/-- the room that a call asks of its maker -/
def rok (R : Room) (rest : List Value) (maxL : Nat) (rm : Room) (cells slots : Nat) : Bool :=
  Nat.ble (rm.frames + 1) R.frames && (Nat.ble ((rest.map fun v => v.category).sum + (maxL + 11) + rm.locals) R.locals && (Nat.ble (cells + rm.cells) R.cells && Nat.ble (slots + rm.slots) R.slots))
theorem rok_ok {rest : List Value} {maxL : Nat} {rm : Room} (q : rok R rest maxL rm cells slots = true) : rm.frames + 1 ≤ R.frames ∧ (rest.map fun v => v.category).sum + (maxL + 11) + rm.locals ≤ R.locals ∧ cells + rm.cells ≤ R.cells ∧ slots + rm.slots ≤ R.slots := by
  simp only [rok, Bool.and_eq_true] at q
  exact ⟨Nat.le_of_ble_eq_true q.1, Nat.le_of_ble_eq_true q.2.1, Nat.le_of_ble_eq_true q.2.2.1, Nat.le_of_ble_eq_true q.2.2.2⟩
/-- behind any call: the walk goes on -/
theorem call_on {rm : Room} {Qc : Option Value → Heap → (Addr → Prop) → Prop} {pc' : Nat} {rest : List Value} {T : State} {vm0 : Vm} {k0 : Nat} {locs : List Loc} (W : Wo G B M.own M.R h sf cells slots T vm0 k0 locs)
    (call : ∃ (v : Option Value) (vm₁ : Vm) (A : Pt), (B.s.setVm vm0).WarmedH vm₁ ∧ Stand B.p G.l B.e M.R ((B.s.setVm vm0).setVm A.U.vm) B.m B.as B.bl B.mt B.c A.U A.locs A.cells A.slots ∧ (B.s.setVm vm0).Since A.U.vm A.U.heap.size ∧ T.heap.size ≤ A.U.heap.size ∧
      (∃ L, (Qc v A.U.heap (fun x => Safe G.Z G.EL A.U.vm A.U.heap x ∧ x < A.U.heap.size) ∧ Fr G.Z.heap.size L ∧ Ext G.Z.heap A.U.heap) ∧ A.locs = locs ++ L ∧ A.cells = cells + rm.cells ∧ A.slots = slots + rm.slots ∧ CHr G.Z G.EL vm0 h A.U.vm A.U.heap) ∧
      Steps B.p.tables B.e B.bl (T.setTop (mkF B.m pc Ls st)) (A.U.setTop (mkF B.m pc' Ls (v.toList ++ rest))))
    (g : ∀ (v : Option Value) (h' : Heap) (Sf : Addr → Prop), h.size ≤ h'.size → Qc v h' Sf → ∃ nw : List Addr, (∀ x ∈ nw, Sf x) ∧ Go G B M Q h' (nw ++ sf) (cells + rm.cells) (slots + rm.slots) pc' Ls (v.toList ++ rest)) : Fin G B M.R Q (T.setTop (mkF B.m pc Ls st)) := by
  obtain ⟨X, eT, hS, hk, hZ, hown, hF, hE, hC, hs⟩ := W
  obtain ⟨v, vm₁, ⟨U, L0, c0, n0⟩, -, X', hS', hgr, ⟨L, ⟨hq, hfr, hext⟩, e1, e2, e3, hC'⟩, stp⟩ := call
  dsimp only [Pt.U, Pt.locs, Pt.cells, Pt.slots] at X' hS' hgr hq hfr hext e1 e2 e3 hC' stp
  subst e1 e2 e3
  rw [eT] at hgr
  obtain ⟨nw, n1, n2⟩ := g v U.heap _ hgr hq
  refine (n2 U U.vm U.heap.size _ ⟨X', rfl, hS.trans hS' (Nat.le_trans hk hgr), Nat.le_refl _, State.Warmed39.trans (t := B.s.setVm vm0) hZ hS'.1, (hS'.1.alike.findClass _ _).trans hown, hF.app hfr, hext, hC.trans hC', fun x hx => ?_⟩).pre fun target hr => stp.trans hr
  rcases List.mem_append.mp hx with hx | hx
  · exact n1 x hx
  · exact ⟨hC'.safe (hs x hx).2 (hs x hx).1, Nat.lt_of_lt_of_le (hs x hx).2 hgr⟩
theorem go_staticN (K : Kd G B M) {k ix : Nat} {y : MethodName} {bytes : ByteArray} {maxL : Nat} {ret : Option FieldType} {rm : Room} {argsL rest : List Value} {ps : List FieldType} {rt : Option FieldType} {sf' : List Addr} {Qc : Option Value → Heap → (Addr → Prop) → Prop} (hd : M.P[k]? = some (pc, .invokestatic ix, 3))
    (w1 : Wd G (.methodLink M.own ix y)) (w2 : Wd G (.static y)) (w3 : Wd G (.initialized y.cls)) (w4 : Wd G (.code y bytes maxL ret)) (hy : y.cls ≠ "java/lang/invoke/MethodHandle" ∧ y.cls ≠ "java/lang/invoke/VarHandle") (pd : parseMethodDescriptor y.desc = some ⟨ps, rt⟩)
    (C : Ctr G [] y bytes maxL ret rm argsL.toArray h sf' Qc) (hst : st = argsL.reverse ++ rest) (hlen : argsL.length = ps.length) (hsz : Ls.size = M.maxL) (hsub : ∀ x ∈ sf', x ∈ sf) (hrm : rok M.R rest maxL rm cells slots = true)
    (g : ∀ (v : Option Value) (h' : Heap) (Sf : Addr → Prop), h.size ≤ h'.size → Qc v h' Sf → ∃ nw : List Addr, (∀ x ∈ nw, Sf x) ∧ Go G B M Q h' (nw ++ sf) (cells + rm.cells) (slots + rm.slots) (pc + 3) Ls (v.toList ++ rest)) : Go G B M Q h sf cells slots pc Ls st := by
  intro T vm0 k0 locs W
  obtain ⟨r1, r2, r3, r4⟩ := rok_ok hrm
  obtain ⟨X, eT, hS, hk, hZ, hown, hF, hE, hC, hs⟩ := id W
  subst hst
  exact call_on W (callSS X K.1 hown (mv hZ w1) (mv hZ w2) (mv hZ w3) (mv hZ w4) hy (backG (W := (rest.map fun v => v.category).sum) C hZ w4 w3 r1 r2 K.2.2.2.2.2.2 hC.1 hE (fun x hx => hs x (hsub x hx))) (g := mkF B.m pc Ls (argsL.reverse ++ rest)) rfl (hsz.trans K.2.2.1.symm) (argsL := argsL) (rest := rest) (lenOf pd hlen) rfl (by show 2 * 0 + _ ≤ _; omega) (K.dec hd) (fun vm₁ _ => ⟨rfl, eT, r3, r4⟩)) g
theorem go_static (K : Kd G B M) {k ix : Nat} {y : MethodName} {bytes : ByteArray} {maxL : Nat} {ret : Option FieldType} {rm : Room} {argsL rest : List Value} {ps : List FieldType} {rt : Option FieldType} {sf' : List Addr} {Qc : Option Value → Heap → (Addr → Prop) → Prop} (hd : M.P[k]? = some (pc, .invokestatic ix, 3))
    (w1 : Wd G (.methodLink M.own ix y)) (w2 : Wd G (.static y)) (w3 : Wd G (.initialized y.cls)) (w4 : Wd G (.code y bytes maxL ret)) (hy : y.cls ≠ "java/lang/invoke/MethodHandle" ∧ y.cls ≠ "java/lang/invoke/VarHandle") (pd : parseMethodDescriptor y.desc = some ⟨ps, rt⟩)
    (C : Ctr G [] y bytes maxL ret rm argsL.toArray h sf' Qc) (hst : st = argsL.reverse ++ rest) (hlen : argsL.length = ps.length) (hsz : Ls.size = M.maxL) (hsub : ∀ x ∈ sf', x ∈ sf) (hrm : rok M.R rest maxL rm cells slots = true)
    (g : ∀ (v : Option Value) (h' : Heap) (Sf : Addr → Prop), h.size ≤ h'.size → Qc v h' Sf → Go G B M Q h' sf (cells + rm.cells) (slots + rm.slots) (pc + 3) Ls (v.toList ++ rest)) : Go G B M Q h sf cells slots pc Ls st :=
  go_staticN K hd w1 w2 w3 w4 hy pd C hst hlen hsz hsub hrm fun v h' Sf z q => ⟨[], (fun _ u => nomatch u), g v h' Sf z q⟩
theorem go_specialN (K : Kd G B M) {k ix : Nat} {y : MethodName} {bytes : ByteArray} {maxL : Nat} {rm : Room} {a : Addr} {argsL rest : List Value} {ps : List FieldType} {rt : Option FieldType} {sf' : List Addr} {Qc : Option Value → Heap → (Addr → Prop) → Prop} (hd : M.P[k]? = some (pc, .invokespecial ix, 3)) (hy1 : y.name = "<init>")
    (w1 : Wd G (.methodLink M.own ix y)) (w2 : Wd G (.instanceMethod y)) (w3 : Wd G (.initialized y.cls)) (w4 : Wd G (.code y bytes maxL none)) (hy : y.cls ≠ "java/lang/invoke/MethodHandle" ∧ y.cls ≠ "java/lang/invoke/VarHandle") (pd : parseMethodDescriptor y.desc = some ⟨ps, rt⟩)
    (C : Ctr G [] y bytes maxL none rm (.ref a :: argsL).toArray h sf' Qc) (hst : st = argsL.reverse ++ .ref a :: rest) (hlen : argsL.length = ps.length) (hsz : Ls.size = M.maxL) (hsub : ∀ x ∈ sf', x ∈ sf) (hrm : rok M.R rest maxL rm cells slots = true)
    (g : ∀ (v : Option Value) (h' : Heap) (Sf : Addr → Prop), h.size ≤ h'.size → Qc v h' Sf → ∃ nw : List Addr, (∀ x ∈ nw, Sf x) ∧ Go G B M Q h' (nw ++ sf) (cells + rm.cells) (slots + rm.slots) (pc + 3) Ls (v.toList ++ rest)) : Go G B M Q h sf cells slots pc Ls st := by
  intro T vm0 k0 locs W
  obtain ⟨r1, r2, r3, r4⟩ := rok_ok hrm
  obtain ⟨X, eT, hS, hk, hZ, hown, hF, hE, hC, hs⟩ := id W
  subst hst
  exact call_on W (X.specialBackS K.1 hy1 hown (mv hZ w1) (mv hZ w2) (mv hZ w4) hy (backG (W := (rest.map fun v => v.category).sum) C hZ w4 w3 r1 r2 K.2.2.2.2.2.2 hC.1 hE (fun x hx => hs x (hsub x hx))) (g := mkF B.m pc Ls (argsL.reverse ++ .ref a :: rest)) rfl (hsz.trans K.2.2.1.symm) (Steps.refl _) (a := a) (argsL := argsL) (rest := rest) (lenOf pd hlen) rfl (by show 2 * 0 + _ ≤ _; omega) (K.dec hd) (fun vm₁ _ => ⟨rfl, eT, r3, r4⟩)) g
theorem go_special (K : Kd G B M) {k ix : Nat} {y : MethodName} {bytes : ByteArray} {maxL : Nat} {rm : Room} {a : Addr} {argsL rest : List Value} {ps : List FieldType} {rt : Option FieldType} {sf' : List Addr} {Qc : Option Value → Heap → (Addr → Prop) → Prop} (hd : M.P[k]? = some (pc, .invokespecial ix, 3)) (hy1 : y.name = "<init>")
    (w1 : Wd G (.methodLink M.own ix y)) (w2 : Wd G (.instanceMethod y)) (w3 : Wd G (.initialized y.cls)) (w4 : Wd G (.code y bytes maxL none)) (hy : y.cls ≠ "java/lang/invoke/MethodHandle" ∧ y.cls ≠ "java/lang/invoke/VarHandle") (pd : parseMethodDescriptor y.desc = some ⟨ps, rt⟩)
    (C : Ctr G [] y bytes maxL none rm (.ref a :: argsL).toArray h sf' Qc) (hst : st = argsL.reverse ++ .ref a :: rest) (hlen : argsL.length = ps.length) (hsz : Ls.size = M.maxL) (hsub : ∀ x ∈ sf', x ∈ sf) (hrm : rok M.R rest maxL rm cells slots = true)
    (g : ∀ (v : Option Value) (h' : Heap) (Sf : Addr → Prop), h.size ≤ h'.size → Qc v h' Sf → Go G B M Q h' sf (cells + rm.cells) (slots + rm.slots) (pc + 3) Ls (v.toList ++ rest)) : Go G B M Q h sf cells slots pc Ls st :=
  go_specialN K hd hy1 w1 w2 w3 w4 hy pd C hst hlen hsz hsub hrm fun v h' Sf z q => ⟨[], (fun _ u => nomatch u), g v h' Sf z q⟩
theorem go_virtualN (K : Kd G B M) {k ix : Nat} {y z : MethodName} {bytes : ByteArray} {maxL : Nat} {ret : Option FieldType} {rm : Room} {C : String} {a : Addr} {argsL rest : List Value} {ps : List FieldType} {rt : Option FieldType} {sf' : List Addr} {Qc : Option Value → Heap → (Addr → Prop) → Prop} (hd : M.P[k]? = some (pc, .invokevirtual ix, 3))
    (w1 : Wd G (.methodLink M.own ix y)) (w2 : Wd G (.declares y)) (w3 : Wd G (.selects C y z)) (w4 : Wd G (.instanceMethod z)) (w5 : Wd G (.initialized z.cls)) (w6 : Wd G (.code z bytes maxL ret)) (hy : y.cls ≠ "java/lang/invoke/MethodHandle" ∧ y.cls ≠ "java/lang/invoke/VarHandle") (pd : parseMethodDescriptor y.desc = some ⟨ps, rt⟩) (E : Exa G.Z h a C)
    (nf : ∀ vm0 : Vm, G.Z.Warmed39 vm0 → NotFace (B.s.setVm vm0) y)
    (Ct : Ctr G [] z bytes maxL ret rm (.ref a :: argsL).toArray h sf' Qc) (hst : st = argsL.reverse ++ .ref a :: rest) (hlen : argsL.length = ps.length) (hsz : Ls.size = M.maxL) (hsub : ∀ x ∈ sf', x ∈ sf) (hrm : rok M.R rest maxL rm cells slots = true)
    (g : ∀ (v : Option Value) (h' : Heap) (Sf : Addr → Prop), h.size ≤ h'.size → Qc v h' Sf → ∃ nw : List Addr, (∀ x ∈ nw, Sf x) ∧ Go G B M Q h' (nw ++ sf) (cells + rm.cells) (slots + rm.slots) (pc + 3) Ls (v.toList ++ rest)) : Go G B M Q h sf cells slots pc Ls st := by
  intro T vm0 k0 locs W
  obtain ⟨r1, r2, r3, r4⟩ := rok_ok hrm
  obtain ⟨X, eT, hS, hk, hZ, hown, hF, hE, hC, hs⟩ := id W
  obtain ⟨cB, kB, i1, i2, i3⟩ := isOf (s := B.s.setVm vm0) hZ eT E
  subst hst
  exact call_on W (X.virtualBackS K.1 hown (mv hZ w1) (mv hZ w2) (nf vm0 hZ) (mv hZ w3) (mv hZ w4) hy (backG (W := (rest.map fun v => v.category).sum) Ct hZ w6 w5 r1 r2 K.2.2.2.2.2.2 hC.1 hE (fun x hx => hs x (hsub x hx))) i1 i3 (g := mkF B.m pc Ls (argsL.reverse ++ .ref a :: rest)) rfl (hsz.trans K.2.2.1.symm) (Steps.refl _) (argsL := argsL) (rest := rest) (lenOf pd hlen) rfl (by show 2 * 0 + _ ≤ _; omega) (K.dec hd) (fun vm₁ _ => ⟨rfl, eT, r3, r4⟩)) g
theorem go_virtual (K : Kd G B M) {k ix : Nat} {y z : MethodName} {bytes : ByteArray} {maxL : Nat} {ret : Option FieldType} {rm : Room} {C : String} {a : Addr} {argsL rest : List Value} {ps : List FieldType} {rt : Option FieldType} {sf' : List Addr} {Qc : Option Value → Heap → (Addr → Prop) → Prop} (hd : M.P[k]? = some (pc, .invokevirtual ix, 3))
    (w1 : Wd G (.methodLink M.own ix y)) (w2 : Wd G (.declares y)) (w3 : Wd G (.selects C y z)) (w4 : Wd G (.instanceMethod z)) (w5 : Wd G (.initialized z.cls)) (w6 : Wd G (.code z bytes maxL ret)) (hy : y.cls ≠ "java/lang/invoke/MethodHandle" ∧ y.cls ≠ "java/lang/invoke/VarHandle") (pd : parseMethodDescriptor y.desc = some ⟨ps, rt⟩) (E : Exa G.Z h a C)
    (nf : ∀ vm0 : Vm, G.Z.Warmed39 vm0 → NotFace (B.s.setVm vm0) y)
    (Ct : Ctr G [] z bytes maxL ret rm (.ref a :: argsL).toArray h sf' Qc) (hst : st = argsL.reverse ++ .ref a :: rest) (hlen : argsL.length = ps.length) (hsz : Ls.size = M.maxL) (hsub : ∀ x ∈ sf', x ∈ sf) (hrm : rok M.R rest maxL rm cells slots = true)
    (g : ∀ (v : Option Value) (h' : Heap) (Sf : Addr → Prop), h.size ≤ h'.size → Qc v h' Sf → Go G B M Q h' sf (cells + rm.cells) (slots + rm.slots) (pc + 3) Ls (v.toList ++ rest)) : Go G B M Q h sf cells slots pc Ls st :=
  go_virtualN K hd w1 w2 w3 w4 w5 w6 hy pd E nf Ct hst hlen hsz hsub hrm fun v h' Sf z q => ⟨[], (fun _ u => nomatch u), g v h' Sf z q⟩
end Calls
end Jvm.OwnW
namespace Jvm.OwnW
open Sem ClassFile Op Lib Bundle Jvm.Stand Jvm.Free Jvm.LawKit Jvm.RoadKit
section Small
variable {G : Gb} {B : Cx} {M : Mt} {Q : Option Value → Heap → (Addr → Prop) → Prop} {h h0 h1 h2 : Heap} {sf : List Addr} {cells slots pc : Nat} {Ls : Array Slot} {st : List Value} {a b : Addr}
theorem Ext.rf (h : Heap) : Ext h h := ⟨Nat.le_refl _, fun _ _ q => q⟩
theorem Ext.tr (E : Ext h0 h1) (F : Ext h1 h2) : Ext h0 h2 := ⟨Nat.le_trans E.1 F.1, fun x c q => F.2 x c (E.2 x c q)⟩
theorem Ext.keepN {ws : List Addr} (E : Ext h0 h1) (K : Keep h1 h2 ws) (q : ∀ x ∈ ws, h0.size ≤ x) : Ext h0 h2 :=
  ⟨Nat.le_trans E.1 K.1, fun x c r => K.2.1 x c (E.2 x c r) fun z => absurd (Array.getElem?_eq_some_iff.mp r).1 (Nat.not_lt.mpr (q x z))⟩
theorem Ext.wrN {sl : Nat} {v : Value} (E : Ext h0 h1) (W : Wr h1 h2 a sl v) (q : h0.size ≤ a) : Ext h0 h2 := Ext.keepN E (Keep.of_wr W) (allS q all0)
theorem Ext.keep0 {ws : List Addr} (E : Ext h0 h1) : Keep h0 h1 ws := (Keep.refl h0 ws).ext E
theorem sub0 : ∀ x ∈ ([] : List Addr), x ∈ sf := fun _ q => nomatch q
theorem subS {L : List Addr} (m : a ∈ sf) (r : ∀ x ∈ L, x ∈ sf) : ∀ x ∈ a :: L, x ∈ sf := fun x q => (List.mem_cons.mp q).elim (fun u => u ▸ m) (r x)
theorem nfS {C : String} {y : MethodName} {s : State} (w : Wd G (.selects C y y)) : ∀ vm0 : Vm, G.Z.Warmed39 vm0 → NotFace (s.setVm vm0) y := fun vm0 hZ => notFace_of_selects (args := #[]) (mv (s := s.setVm vm0) hZ w)
/-- the sheet's words, the constants whose text is asked, what the String laws ask -/
def Gl (ts : List Jvm.Cond) (el : List (String × Nat)) (G : Gb) : Prop := (∀ d ∈ ts, Wd G d) ∧ G.EL = el ∧ EW G.Z G.a0 G.EL ∧ (∀ d ∈ Bundle.stringAtoms, Wd G d) ∧ ∃ z : Int32, Sta G.Z G.Z.heap "java/lang/String" "COMPACT_STRINGS" "Z" (.int z) ∧ ¬ z = 0
variable {ts : List Jvm.Cond} {es : List (String × Nat)}
theorem Gl.w (H : Gl ts es G) {d : Jvm.Cond} (k : Nat) (q : ts[k]? = some d) : Wd G d := H.1 d (List.mem_of_getElem? q)
theorem Gl.el (H : Gl ts es G) : EW G.Z G.a0 G.EL := H.2.2.1
theorem Gl.ws (H : Gl ts es G) : ∀ d ∈ Bundle.stringAtoms, Wd G d := H.2.2.2.1
theorem Gl.cs (H : Gl ts es G) : ∃ z : Int32, Sta G.Z G.Z.heap "java/lang/String" "COMPACT_STRINGS" "Z" (.int z) ∧ ¬ z = 0 := H.2.2.2.2
theorem Gl.mem (H : Gl ts es G) {p : String × Nat} (q : p ∈ es) : p ∈ G.EL := H.2.1 ▸ q
/-! ### Strings -/
def by8 (cs : List Int32) : List Value := cs.map fun c => Value.int c.toInt8.toInt32
def Lat (cs : List Int32) : Prop := cs.length ≤ 4000 ∧ ∀ c ∈ cs, ¬ c < 0 ∧ ¬ (255 : Int32) < c
def Str (G : Gb) (h : Heap) (a : Addr) (cs : List Int32) : Prop := ∃ (t : Addr) (kb : ClassId), Exa G.Z h a "java/lang/String" ∧ Fld G.Z h a "java/lang/String" "coder" "B" (.int 0) ∧ Fld G.Z h a "java/lang/String" "value" "[B" (.ref t) ∧ Arv G.Z h t kb .byte cs.length.toInt32 (by8 cs) (.int 0)
variable {cs ds : List Int32}
theorem Str.exa (S : Str G h a cs) : Exa G.Z h a "java/lang/String" := by obtain ⟨t, kb, h1, -⟩ := S; exact h1
theorem Str.lt (S : Str G h a cs) : a < h.size := S.exa.lt
theorem Str.ext (S : Str G h a cs) (E : Ext h h1) : Str G h1 a cs := by
  obtain ⟨t, kb, e1, e2, e3, e4⟩ := S
  exact ⟨t, kb, Exa.ext E e1, Fld.ext E e2, Fld.ext E e3, e4.ext E⟩
theorem by8_len : (by8 cs).length = cs.length := by simp [by8]
theorem len_nn {n : Nat} (q : n < 2 ^ 31) : ¬ n.toInt32 < 0 := by
  rw [Int32.lt_iff_toInt_lt, len_toInt q]; have : (0 : Int32).toInt = 0 := rfl
  omega
theorem len_nat {n : Nat} (q : n < 2 ^ 31) : n.toInt32.toNatClampNeg = n := by
  simp only [Int32.toNatClampNeg, len_toInt q]; rfl
theorem len_lt {i n : Nat} (hn : n < 2 ^ 31) (q : i < n) : i.toInt32 < n.toInt32 := by
  rw [Int32.lt_iff_toInt_lt, len_toInt hn, len_toInt (Nat.lt_trans q hn)]; omega
theorem len_nlt {i n : Nat} (hi : i < 2 ^ 31) (q : n ≤ i) : ¬ i.toInt32 < n.toInt32 := by
  rw [Int32.lt_iff_toInt_lt, len_toInt hi, len_toInt (Nat.lt_of_le_of_lt q hi)]; omega
theorem len_succ (i : Nat) : i.toInt32 + Int32.ofInt 1 = (i + 1).toInt32 := by
  rw [show Int32.ofInt 1 = (1 : Nat).toInt32 from rfl]
  exact (Int32.ofNat_add i 1).symm
theorem lat_lt (q : Lat cs) : cs.length < 2 ^ 31 := Nat.lt_of_le_of_lt q.1 (by decide)
/-- 'ldc' of a constant whose text is asked, as a Str -/
theorem go_ldcT (K : Kd G B M) {k ix n : Nat} {text : String} (hd : M.P[k]? = some (pc, .ldc ix, 2)) (w : Wd G (.stringLink M.own ix text)) (wS : ∀ d ∈ Bundle.stringAtoms, Wd G d) (hmem : (M.own, ix) ∈ G.EL)
    (ht : (∀ c ∈ text.toList, c.toNat < 256) ∧ text.toList.map (fun c => Value.int (Jvm.Lit.byteI c.toNat.toUInt16)) = by8 cs) (hz : cs.length < 2 ^ 31)
    (hn : Nat.ble (4 * text.toList.length) n = true) (hb : Nat.ble n 536870912 = true) (hc : Nat.ble (cells + 2) M.R.cells = true) (hl : Nat.ble (slots + (n + 4)) M.R.slots = true)
    (g : ∀ (h' : Heap) (a : Addr), Ext h h' → Str G h' a cs → Go G B M Q h' sf (cells + 2) (slots + (n + 4)) (pc + 2) Ls (.ref a :: st)) : Go G B M Q h sf cells slots pc Ls st :=
  go_ldcS K hd w wS hmem ht (len_nn hz) (by rw [len_nat hz, by8_len]) hn hb hc hl fun h' a b kb E1 e1 e2 e3 e4 _ => g h' a E1 ⟨b, kb, e1, e2, e3, e4⟩
theorem c8_lat (x : Int32) : ¬ (x &&& 255) < 0 ∧ ¬ (255 : Int32) < (x &&& 255) := by
  have q := c_and x 255 (by decide)
  simp only [Int32.lt_iff_toInt_lt]
  have e1 : (255 : Int32).toInt = 255 := by decide
  have e0 : (0 : Int32).toInt = 0 := by decide
  rw [e1] at q ⊢; rw [e0]; omega
theorem nar_c8 (x : Int32) : nar .char (x &&& 255) = x &&& 255 := i2c_mask x
theorem nar_i2c8 (x : Int32) : nar .char (x &&& 255).toUInt32.toUInt16.toUInt32.toInt32 = x &&& 255 := by rw [i2c_mask]; exact i2c_mask x
theorem i8_idem (x : Int32) : x.toInt8.toInt32.toInt8.toInt32 = x.toInt8.toInt32 := by rw [Int8.toInt8_toInt32]
theorem Arv.ty_ne {k1 k2 : ClassId} {t1 t2 : FieldType} {z1 z2 : Int32} {v1 v2 : List Value} {d1 d2 : Value} (A : Arv G.Z h a k1 t1 z1 v1 d1) (A' : Arv G.Z h b k2 t2 z2 v2 d2) (q : t1 ≠ t2) : a ≠ b := fun e => by
  subst e
  obtain ⟨c1, ⟨x1, ⟨-, kk, y1, p1, z1⟩, -⟩, -⟩ := A
  obtain ⟨c2, ⟨x2, ⟨-, kk', y2, p2, z2⟩, -⟩, -⟩ := A'
  cases x1.symm.trans x2
  cases y1.symm.trans y2
  have := z1.symm.trans z2
  injection this with _ e
  exact q e
end Small
end Jvm.OwnW
namespace Jvm.OwnW
open Sem ClassFile Op Lib Bundle Jvm.Stand Jvm.Free Jvm.LawKit Jvm.RoadKit
section Small2
variable {G : Gb} {h h1 : Heap} {a b : Addr} {cs ds : List Int32}
theorem Str.wrO {C : String} {n sl : Nat} {v : Value} (S : Str G h b cs) (E : Exa G.Z h a C) (hC : C ≠ "java/lang/String") (wi : Wd G (.instantiable C n)) (W : Wr h h1 a sl v) : Str G h1 b cs := by
  obtain ⟨t, kb, e1, e2, e3, e4⟩ := S
  have n1 : b ≠ a := fun q => (Exa.ne E e1 hC) q.symm
  have n2 : t ≠ a := (Exa.neArv E e4 wi).symm
  exact ⟨t, kb, Exa.wr W e1, Fld.other W e2 (Or.inl n1), Fld.other W e3 (Or.inl n1), e4.other W n2⟩
theorem get_map {i : Nat} (q : i < cs.length) : (cs.map Value.int).getD i (.int 0) = .int cs[i] := by
  simp [List.getD_eq_getElem?_getD, q]
theorem get_by8 {i : Nat} (q : i < cs.length) : (by8 cs).getD i (.int 0) = .int cs[i].toInt8.toInt32 := by
  simp [by8, List.getD_eq_getElem?_getD, q]
theorem set_by8 {i k : Nat} (q : i < cs.length) : (by8 (cs.take i) ++ List.replicate (k + 1) (Value.int 0)).set i (.int (nar .byte cs[i].toInt8.toInt32)) = by8 (cs.take (i + 1)) ++ List.replicate k (Value.int 0) := by
  have e : nar .byte cs[i].toInt8.toInt32 = cs[i].toInt8.toInt32 := i8_idem _
  have l : (by8 (cs.take i)).length = i := by rw [by8_len, List.length_take]; omega
  rw [e, List.set_append_right _ _ (Nat.le_of_eq l), l, Nat.sub_self, List.replicate_succ, List.set_cons_zero, List.take_succ_eq_append_getElem q]
  show _ = List.map _ (cs.take i ++ [cs[i]]) ++ _
  rw [List.map_append, List.append_assoc]
  rfl
theorem len_zero {n : Nat} (hn : n < 2 ^ 31) (q : n.toInt32 = 0) : n = 0 := by
  have e := congrArg Int32.toInt q
  rw [len_toInt hn] at e
  have : (0 : Int32).toInt = 0 := rfl
  omega
theorem len_inj {n m : Nat} (hn : n < 2 ^ 31) (hm : m < 2 ^ 31) (q : n.toInt32 = m.toInt32) : n = m := by
  have e := congrArg Int32.toInt q
  rw [len_toInt hn, len_toInt hm] at e
  omega
/-- the low byte, as signed, tells a char of 0 to 255 -/
theorem i8_inj {x y : Int32} (hx : ¬ x < 0 ∧ ¬ (255 : Int32) < x) (hy : ¬ y < 0 ∧ ¬ (255 : Int32) < y) (q : x.toInt8.toInt32 = y.toInt8.toInt32) : x = y := by
  have e := congrArg Int32.toInt q
  have a1 := c_i2b x
  have a2 := c_i2b y
  simp only [Int32.lt_iff_toInt_lt] at hx hy
  have e0 : (0 : Int32).toInt = 0 := by decide
  have e1 : (255 : Int32).toInt = 255 := by decide
  rw [e0, e1] at hx hy
  apply Int32.toInt_inj.mp
  omega
theorem by8_inj : ∀ {cs ds : List Int32}, (∀ c ∈ cs, ¬ c < 0 ∧ ¬ (255 : Int32) < c) → (∀ c ∈ ds, ¬ c < 0 ∧ ¬ (255 : Int32) < c) → by8 cs = by8 ds → cs = ds
  | [], [], _, _, _ => rfl
  | [], _ :: _, _, _, q => by cases q
  | _ :: _, [], _, _, q => by cases q
  | c :: cs, d :: ds, h1, h2, q => by
    simp only [by8, List.map_cons, List.cons.injEq, Value.int.injEq] at q
    rw [i8_inj (h1 c (List.mem_cons_self ..)) (h2 d (List.mem_cons_self ..)) q.1, by8_inj (fun x hx => h1 x (List.mem_cons_of_mem _ hx)) (fun x hx => h2 x (List.mem_cons_of_mem _ hx)) q.2]
/-- one String, one text -/
theorem Str.inj (hl : Lat cs) (hl' : Lat ds) (S : Str G h a cs) (S' : Str G h a ds) : cs = ds := by
  obtain ⟨t, kb, -, -, e3, c, A, -, z1, -, H, -⟩ := S
  obtain ⟨t', kb', -, -, f3, c', A', -, z2, -, H', -⟩ := S'
  have et : t = t' := by
    by_cases u : (Value.ref t) = .ref t'
    · exact Value.ref.inj u
    · exact absurd rfl (Fld.ne e3 f3 u)
  subst et
  cases A.1.symm.trans A'.1
  have n1 := lat_lt hl
  have n2 := lat_lt hl'
  rw [len_nat n1] at z1
  rw [len_nat n2] at z2
  refine by8_inj hl.2 hl'.2 (List.ext_getElem (by rw [by8_len, by8_len]; omega) fun i q1 q2 => ?_)
  have u1 := H i (by rw [by8_len] at q1; omega)
  have u2 := H' i (by rw [by8_len] at q1; omega)
  have := Option.some.inj (u1.symm.trans u2)
  rw [List.getD_eq_getElem?_getD, List.getD_eq_getElem?_getD, List.getElem?_eq_getElem q1, List.getElem?_eq_getElem q2] at this
  exact this
end Small2
end Jvm.OwnW
namespace Jvm.OwnW
open Sem ClassFile Op Lib Bundle Jvm.Stand Jvm.Free Jvm.LawKit Jvm.RoadKit
theorem bool_n {b : Int32} (q : b = 0 ∨ b = 1) : narrow .boolean (.int b) = .int b := by rcases q with rfl | rfl <;> rfl
theorem bool_f {b : Int32} (q : b = 0 ∨ b = 1) : fits .boolean (.int b) = true := by rcases q with rfl | rfl <;> rfl
theorem lat1 {x : Int32} (q : ¬ x < 0 ∧ ¬ (255 : Int32) < x) : Lat [x] := ⟨(by simp), fun c hc => by cases List.mem_singleton.mp hc; exact q⟩
theorem lat0 : Lat [] := ⟨(by decide), fun c hc => nomatch hc⟩
theorem latC {x : Int32} {cs : List Int32} (q : ¬ x < 0 ∧ ¬ (255 : Int32) < x) (l : Lat cs) (hn : cs.length + 1 ≤ 4000) : Lat (x :: cs) := ⟨hn, fun c hc => by
  rcases List.mem_cons.mp hc with rfl | hc
  · exact q
  · exact l.2 c hc⟩
end Jvm.OwnW
namespace Jvm.OwnW
open Sem ClassFile Op Lib Bundle Jvm.Stand Jvm.Free Jvm.LawKit Jvm.RoadKit
theorem shr0 (x : Int32) : x >>> ((0 : Int32) &&& 31) = x := by
  have e := c_ishr x 0 0 (by decide)
  apply Int32.toInt_inj.mp
  rw [e]; simp
theorem c8_id {c : Int32} (q : ¬ c < 0 ∧ ¬ (255 : Int32) < c) : c &&& 255 = c := by
  apply Int32.toInt_inj.mp
  rw [c_mask c 255 8 (by decide) (by decide)]
  simp only [Int32.lt_iff_toInt_lt] at q
  have e0 : (0 : Int32).toInt = 0 := by decide
  have e1 : (255 : Int32).toInt = 255 := by decide
  rw [e0, e1] at q
  have : ((2 ^ 8 : Nat) : Int) = 256 := by decide
  rw [this]; omega
theorem nar_id {c : Int32} (q : ¬ c < 0 ∧ ¬ (255 : Int32) < c) : nar .char c = c := by
  have e := nar_c8 c
  rw [c8_id q] at e
  exact e
theorem char_n {c : Int32} (q : ¬ c < 0 ∧ ¬ (255 : Int32) < c) : narrow .char (.int c) = .int c := congrArg Value.int (nar_id q)
theorem b8_char {c : Int32} (q : ¬ c < 0 ∧ ¬ (255 : Int32) < c) : (c.toInt8.toInt32 &&& (255 : Int32)).toUInt32.toUInt16.toUInt32.toInt32 = c := by
  rw [i2c_mask]
  apply Int32.toInt_inj.mp
  rw [c_mask _ 255 8 (by decide) (by decide)]
  have a1 := c_i2b c
  simp only [Int32.lt_iff_toInt_lt] at q
  have e0 : (0 : Int32).toInt = 0 := by decide
  have e1 : (255 : Int32).toInt = 255 := by decide
  rw [e0, e1] at q
  have : ((2 ^ 8 : Nat) : Int) = 256 := by decide
  rw [this]; omega
end Jvm.OwnW
namespace Jvm.OwnW
open Sem ClassFile Op Lib Bundle Jvm.Stand Jvm.Free Jvm.LawKit Jvm.RoadKit
theorem Str.keepO {G : Gb} {h h1 : Heap} {a b : Addr} {cs : List Int32} {C : String} {n : Nat} (S : Str G h b cs) (E : Exa G.Z h a C) (hC : C ≠ "java/lang/String") (wi : Wd G (.instantiable C n)) (K : Keep h h1 [a]) : Str G h1 b cs := by
  obtain ⟨t, kb, e1, e2, e3, e4⟩ := S
  have n1 : b ≠ a := fun q => (Exa.ne E e1 hC) q.symm
  have n2 : t ≠ a := (Exa.neArv E e4 wi).symm
  exact ⟨t, kb, e1.keep K, e2.keep K (ninS n1 nin0), e3.keep K (ninS n1 nin0), e4.keep K (ninS n2 nin0)⟩
end Jvm.OwnW
namespace Jvm.OwnW
theorem cmpL_self (x : Int64) : Jvm.Free.XT.cmpL x x = 0 := by simp [Jvm.Free.XT.cmpL]
end Jvm.OwnW
namespace Jvm.OwnW
open Sem ClassFile Op Lib Bundle Jvm.Stand Jvm.Free Jvm.LawKit Jvm.RoadKit
theorem rem3 (x : Int32) : (x &&& 3) % 3 = 0 ∨ (x &&& 3) % 3 = 1 ∨ (x &&& 3) % 3 = 2 := by
  have a := c_and x 3 (by decide)
  have b := (c_irem (x &&& 3) 3 3 (by decide)).1 a.1
  have e0 : (0 : Int32).toInt = 0 := by decide
  have e1 : (1 : Int32).toInt = 1 := by decide
  have e2 : (2 : Int32).toInt = 2 := by decide
  rcases (by omega : (x &&& 3).toInt % 3 = 0 ∨ (x &&& 3).toInt % 3 = 1 ∨ (x &&& 3).toInt % 3 = 2) with q | q | q
  · exact Or.inl (Int32.toInt_inj.mp (by rw [b, q, e0]))
  · exact Or.inr (Or.inl (Int32.toInt_inj.mp (by rw [b, q, e1])))
  · exact Or.inr (Or.inr (Int32.toInt_inj.mp (by rw [b, q, e2])))
theorem tok_fin {r kk s : Int32} {A B C : Prop} (sp : (r = 1 ∧ A ∧ B) ∨ (r = 0 ∧ ¬ (A ∧ B))) (hk : (kk = 1 ∧ C) ∨ (kk = 0 ∧ ¬ C)) (hs : (s = 1 ∧ B) ∨ (s = 0 ∧ ¬ B)) (hc : A ↔ C) : r = if kk = 0 then 0 else if s = 0 then 0 else 1 := by
  rcases hk with ⟨rfl, c⟩ | ⟨rfl, c⟩
  · rcases hs with ⟨rfl, b⟩ | ⟨rfl, b⟩
    · rcases sp with ⟨u, -⟩ | ⟨-, u⟩
      · rw [u]; simp
      · exact absurd ⟨hc.mpr c, b⟩ u
    · rcases sp with ⟨-, -, u⟩ | ⟨u, -⟩
      · exact absurd u b
      · rw [u]; simp
  · rcases sp with ⟨-, u, -⟩ | ⟨u, -⟩
    · exact absurd (hc.mp u) c
    · rw [u]; simp
/-- the text that a maker of Strings of up to two chars makes -/
def Mk2 (n c0 c1 : Int32) (cs : List Int32) : Prop := (n = 0 ∧ cs = []) ∨ (¬ n = 0 ∧ n = 1 ∧ cs = [c0]) ∨ (¬ n = 0 ∧ ¬ n = 1 ∧ cs = [c0, c1])
theorem Mk2.zero {c0 c1 : Int32} {cs : List Int32} (q : Mk2 0 c0 c1 cs) : cs = [] := by rcases q with ⟨-, q⟩ | ⟨q, -⟩ | ⟨q, -⟩ <;> first | exact q | exact absurd rfl q
theorem Mk2.one {c0 c1 : Int32} {cs : List Int32} (q : Mk2 1 c0 c1 cs) : cs = [c0] := by rcases q with ⟨q, -⟩ | ⟨-, -, q⟩ | ⟨-, q, -⟩ <;> first | exact q | exact absurd rfl q | exact absurd q (by decide)
theorem Mk2.two {c0 c1 : Int32} {cs : List Int32} (q : Mk2 2 c0 c1 cs) : cs = [c0, c1] := by rcases q with ⟨q, -⟩ | ⟨-, q, -⟩ | ⟨-, -, q⟩ <;> first | exact q | exact absurd q (by decide)
/-- two such texts -/
theorem Mk2.same {n m c0 c1 d0 d1 : Int32} {cs ds : List Int32} (hn : n = 0 ∨ n = 1 ∨ n = 2) (hm : m = 0 ∨ m = 1 ∨ m = 2) (q : Mk2 n c0 c1 cs) (r : Mk2 m d0 d1 ds) : cs = ds ↔ (n = m ∧ (n < 1 ∨ c0 = d0) ∧ (n < 2 ∨ c1 = d1)) := by
  rcases hn with rfl | rfl | rfl <;> rcases hm with rfl | rfl | rfl <;> (first | rw [q.zero] | rw [q.one] | rw [q.two]) <;> (first | rw [r.zero] | rw [r.one] | rw [r.two]) <;> simp
end Jvm.OwnW
namespace Jvm.OwnW
open Sem ClassFile Op Lib Bundle Jvm.Stand Jvm.Free Jvm.LawKit Jvm.RoadKit
theorem nar_ii {c : Int32} (q : ¬ c < 0 ∧ ¬ (255 : Int32) < c) : nar .char c.toUInt32.toUInt16.toUInt32.toInt32 = c := by
  have e : c.toUInt32.toUInt16.toUInt32.toInt32 = c := nar_id q
  rw [e]; exact nar_id q
theorem x8_lat (x y : Int32) : ¬ ((x &&& 255) ^^^ (y &&& 255)) < 0 ∧ ¬ (255 : Int32) < ((x &&& 255) ^^^ (y &&& 255)) := by
  have e : (x &&& 255) ^^^ (y &&& 255) = (x ^^^ y) &&& 255 := by
    apply Int32.toBitVec_inj.mp
    simp only [Int32.toBitVec_xor, Int32.toBitVec_and]
    apply BitVec.eq_of_getLsbD_eq
    intro i hi
    simp only [BitVec.getLsbD_and, BitVec.getLsbD_xor]
    cases x.toBitVec.getLsbD i <;> cases y.toBitVec.getLsbD i <;> cases (255 : Int32).toBitVec.getLsbD i <;> rfl
  rw [e]; exact c8_lat _
/-- a class under Object alone can't be cast to another one that is no interface -/
theorem noCast {G : Gb} {C O K : String} {n : Nat} (w : Wd G (.superclass C O)) (w0 : Wd G (.noSuperclass O)) (wi : Wd G (.instantiable K n)) (h1 : C ≠ K) (h2 : O ≠ K) : ∃ c t, G.Z.vm.findClass C = some c ∧ G.Z.vm.findClass K = some t ∧ G.Z.vm.assignable c t = false := by
  obtain ⟨c, hc⟩ := found_sup w
  obtain ⟨p, k, kp, a1, a2, a3, a4, a5, -, a7⟩ := Cond.superclass_spec hc w
  obtain ⟨o, ko, b1, b2, b3, -, -⟩ := Cond.noSuperclass_spec w0
  cases b1.symm.trans a1
  obtain ⟨t, kt, c1, c2, c3, c4, c5, -⟩ := Cond.instantiable_spec wi
  have n1 := ids_ne hc c1 h1
  have n2 := ids_ne b1 c1 h2
  have c4' := (Bool.or_eq_false_iff.mp c4).1
  refine ⟨c, t, hc, c1, ?_⟩
  show G.Z.vm.assignableAux (255 + 1) c t = false
  simp [Vm.assignableAux, n1, a2, c2, a5, c3, c4', Vm.isSubclass, Vm.isSubclassAux, a4]
  generalize G.Z.vm.classes.size = f
  cases f <;> simp [Vm.isSubclassAux, n2, b2, b3]
end Jvm.OwnW
namespace Jvm.OwnW
open Jvm.RoadKit
theorem fld_apart {args : Array Value} {s : State} {t u : Term} {C n d : String} {a b : Addr} {i j : Value} (e1 : t.eval args s none [] s = some (.ref a)) (e2 : u.eval args s none [] s = some (.ref b)) (f1 : (Term.field t C n d).eval args s none [] s = some i) (f2 : (Term.field u C n d).eval args s none [] s = some j) (q : i ≠ j) : a ≠ b := fun e => by
  subst e
  rw [fld_at e1] at f1
  rw [fld_at e2] at f2
  exact q (Option.some.inj (f1.symm.trans f2))
end Jvm.OwnW
namespace Jvm.OwnW
open Sem ClassFile Op Lib Bundle Jvm.Stand Jvm.Free Jvm.LawKit Jvm.RoadKit
section More
variable {G : Gb} {B : Cx} {M : Mt} {R : Room} {Q : Option Value → Heap → (Addr → Prop) → Prop} {h : Heap} {sf : List Addr} {cells slots pc : Nat} {Ls : Array Slot} {st : List Value}
theorem sameM {y z : MethodName} {C : String} (wd : Wd G (.declares y)) (ws : Wd G (.selects C z z)) (hc : y.cls = z.cls) (hy : y.cls ≠ "java/lang/invoke/MethodHandle" ∧ y.cls ≠ "java/lang/invoke/VarHandle") : Wd G (.sameMethod y.cls y.cls y.name y.desc) := by
  obtain ⟨r0, r, hn, -⟩ := Cond.declares_spec wd
  obtain ⟨c2, r2, m2, q1, q2, q3, q4, kP, hkP, hkPi⟩ := Cond.selects_spec ws
  have e1 := findClass_of_methodNamed hn
  have e2 := findClass_of_methodNamed q3
  rw [← hc] at e2
  have e3 : m2.cls = r0.cls := Option.some.inj (e2.symm.trans e1)
  have e4 := State.methodFound?_of_named hn hy
  have e5 : G.Z.methodNamed? ⟨y.cls, y.name, y.desc⟩ = some r0 := hn
  rw [e3] at hkP
  show (Jvm.Cond.sameMethod y.cls y.cls y.name y.desc).before G.a0 G.Z = true
  simp [Cond.before, Cond.holds, Cond.value, e1, e4, e5, hkP, hkPi]
/-- a method's class is no interface, told by another method of it -/
theorem nfO {C : String} {y z : MethodName} {s : State} (w : Wd G (.selects C z z)) (hc : y.cls = z.cls) : ∀ vm0 : Vm, G.Z.Warmed39 vm0 → NotFace (s.setVm vm0) y := fun vm0 hZ r0 h0 => by
  obtain ⟨c2, r2, m2, q1, q2, q3, q4, kP, hkP, hkPi⟩ := Cond.selects_spec (mv (s := s.setVm vm0) (args := #[]) hZ w)
  have e1 := findClass_of_methodNamed h0
  have e2 := findClass_of_methodNamed q3
  rw [hc] at e1
  have e3 : m2.cls = r0.cls := Option.some.inj (e2.symm.trans e1)
  exact ⟨kP, by rw [← e3]; exact hkP, hkPi⟩
theorem go_superN (K : Kd G B M) {k ix : Nat} {y : MethodName} {bytes : ByteArray} {maxL : Nat} {ret : Option FieldType} {rm : Room} {C : String} {a : Addr} {argsL rest : List Value} {ps : List FieldType} {rt : Option FieldType} {sf' : List Addr} {Qc : Option Value → Heap → (Addr → Prop) → Prop} (hd : M.P[k]? = some (pc, .invokespecial ix, 3))
    (w1 : Wd G (.methodLink M.own ix y)) (w2 : Wd G (.sameMethod y.cls y.cls y.name y.desc)) (w3 : Wd G (.instanceMethod y)) (w4 : Wd G (.superclass M.own y.cls)) (w5 : Wd G (.initialized y.cls)) (w6 : Wd G (.code y bytes maxL ret)) (hn : y.name ≠ "<init>") (pd : parseMethodDescriptor y.desc = some ⟨ps, rt⟩) (E : Exa G.Z h a C)
    (Ct : Ctr G [] y bytes maxL ret rm (.ref a :: argsL).toArray h sf' Qc) (hst : st = argsL.reverse ++ .ref a :: rest) (hlen : argsL.length = ps.length) (hsz : Ls.size = M.maxL) (hsub : ∀ x ∈ sf', x ∈ sf) (hrm : rok M.R rest maxL rm cells slots = true)
    (g : ∀ (v : Option Value) (h' : Heap) (Sf : Addr → Prop), h.size ≤ h'.size → Qc v h' Sf → ∃ nw : List Addr, (∀ x ∈ nw, Sf x) ∧ Go G B M Q h' (nw ++ sf) (cells + rm.cells) (slots + rm.slots) (pc + 3) Ls (v.toList ++ rest)) : Go G B M Q h sf cells slots pc Ls st := by
  intro T vm0 k0 locs W
  obtain ⟨r1, r2, r3, r4⟩ := rok_ok hrm
  obtain ⟨X, eT, hS, hk, hZ, hown, hF, hE, hC, hs⟩ := id W
  subst hst
  exact call_on W (superBackS X K.1 hZ hown w1 w2 w3 w4 hn (backG (W := (rest.map fun v => v.category).sum) Ct hZ w6 w5 r1 r2 K.2.2.2.2.2.2 hC.1 hE (fun x hx => hs x (hsub x hx))) eT (Ins.self E) (g := mkF B.m pc Ls (argsL.reverse ++ .ref a :: rest)) rfl (hsz.trans K.2.2.1.symm) w6 (argsL := argsL) (rest := rest) (lenOf pd hlen) rfl (by show 2 * 0 + _ ≤ _; omega) (K.dec hd) (fun vm₁ _ => ⟨rfl, eT, r3, r4⟩)) g
theorem go_super (K : Kd G B M) {k ix : Nat} {y : MethodName} {bytes : ByteArray} {maxL : Nat} {ret : Option FieldType} {rm : Room} {C : String} {a : Addr} {argsL rest : List Value} {ps : List FieldType} {rt : Option FieldType} {sf' : List Addr} {Qc : Option Value → Heap → (Addr → Prop) → Prop} (hd : M.P[k]? = some (pc, .invokespecial ix, 3))
    (w1 : Wd G (.methodLink M.own ix y)) (w2 : Wd G (.sameMethod y.cls y.cls y.name y.desc)) (w3 : Wd G (.instanceMethod y)) (w4 : Wd G (.superclass M.own y.cls)) (w5 : Wd G (.initialized y.cls)) (w6 : Wd G (.code y bytes maxL ret)) (hn : y.name ≠ "<init>") (pd : parseMethodDescriptor y.desc = some ⟨ps, rt⟩) (E : Exa G.Z h a C)
    (Ct : Ctr G [] y bytes maxL ret rm (.ref a :: argsL).toArray h sf' Qc) (hst : st = argsL.reverse ++ .ref a :: rest) (hlen : argsL.length = ps.length) (hsz : Ls.size = M.maxL) (hsub : ∀ x ∈ sf', x ∈ sf) (hrm : rok M.R rest maxL rm cells slots = true)
    (g : ∀ (v : Option Value) (h' : Heap) (Sf : Addr → Prop), h.size ≤ h'.size → Qc v h' Sf → Go G B M Q h' sf (cells + rm.cells) (slots + rm.slots) (pc + 3) Ls (v.toList ++ rest)) : Go G B M Q h sf cells slots pc Ls st :=
  go_superN K hd w1 w2 w3 w4 w5 w6 hn pd E Ct hst hlen hsz hsub hrm fun v h' Sf z q => ⟨[], (fun _ u => nomatch u), g v h' Sf z q⟩
/-- invokevirtual of a method that the receiver's class takes as it stands, the entry's own class declaring it: private ones too -/
theorem go_virt0N (K : Kd G B M) {k ix : Nat} {y : MethodName} {bytes : ByteArray} {maxL : Nat} {ret : Option FieldType} {rm : Room} {C : String} {a : Addr} {argsL rest : List Value} {ps : List FieldType} {rt : Option FieldType} {sf' : List Addr} {Qc : Option Value → Heap → (Addr → Prop) → Prop} (hd : M.P[k]? = some (pc, .invokevirtual ix, 3))
    (w1 : Wd G (.methodLink M.own ix y)) (w3 : Wd G (.selects C y y)) (w4 : Wd G (.instanceMethod y)) (w5 : Wd G (.initialized y.cls)) (w6 : Wd G (.code y bytes maxL ret)) (hy : y.cls ≠ "java/lang/invoke/MethodHandle" ∧ y.cls ≠ "java/lang/invoke/VarHandle") (pd : parseMethodDescriptor y.desc = some ⟨ps, rt⟩) (E : Exa G.Z h a C)
    (Ct : Ctr G [] y bytes maxL ret rm (.ref a :: argsL).toArray h sf' Qc) (hst : st = argsL.reverse ++ .ref a :: rest) (hlen : argsL.length = ps.length) (hsz : Ls.size = M.maxL) (hsub : ∀ x ∈ sf', x ∈ sf) (hrm : rok M.R rest maxL rm cells slots = true)
    (g : ∀ (v : Option Value) (h' : Heap) (Sf : Addr → Prop), h.size ≤ h'.size → Qc v h' Sf → ∃ nw : List Addr, (∀ x ∈ nw, Sf x) ∧ Go G B M Q h' (nw ++ sf) (cells + rm.cells) (slots + rm.slots) (pc + 3) Ls (v.toList ++ rest)) : Go G B M Q h sf cells slots pc Ls st := by
  intro T vm0 k0 locs W
  obtain ⟨r1, r2, r3, r4⟩ := rok_ok hrm
  obtain ⟨X, eT, hS, hk, hZ, hown, hF, hE, hC, hs⟩ := id W
  obtain ⟨cB, kB, i1, i2, cellB, i3, i4, i5⟩ := isOf (s := B.s.setVm vm0) hZ eT E
  subst hst
  have v3 : (Jvm.Cond.selects C y y).before B.as (B.s.setVm vm0) = true := mv hZ w3
  have v4 : (Jvm.Cond.instanceMethod y).before B.as (B.s.setVm vm0) = true := mv hZ w4
  have v6 : (Jvm.Cond.code y bytes maxL ret).before B.as (B.s.setVm vm0) = true := mv hZ w6
  obtain ⟨mk, methM, hnamed, hmethM, hstM, habM⟩ := Cond.instanceMethod_spec v4
  obtain ⟨methM', cM, hmethM', -, -, -, -, -, -, hsigM⟩ := Cond.code_spec hnamed v6
  cases hmethM.symm.trans hmethM'
  obtain ⟨c2, r2', m2, q1, q2, q3, q4, kP, hkP, hkPi⟩ := Cond.selects_spec v3
  cases i1.symm.trans q1
  cases (State.methodFound?_of_named hnamed hy).symm.trans q2
  cases hnamed.symm.trans q3
  have hselP : selectMethod B.e.platform (B.s.setVm vm0).vm cellB.cls mk = .method mk := by rw [Launch.admits_selectMethod X.admits, i4]; exact q4
  have hlen' : ∀ sig, parseMethodDescriptor y.desc = some sig → argsL.length = sig.parameters.length := lenOf pd hlen
  have hK := backG (R := M.R) (p := B.p) (e := B.e) (below := B.bl) (s := B.s) (args := B.as) (len := 3) (W := (rest.map fun v => v.category).sum) Ct hZ w6 w5 r1 r2 K.2.2.2.2.2.2 hC.1 hE (fun x hx => hs x (hsub x hx))
  refine call_on W ?_ g
  obtain ⟨vm₁, X₁, hstep₁⟩ := X.invokevirtual K.1 hown (mv hZ w1) hnamed hmethM hstM hkP hkPi hy (a := a) (cell := cellB) i3 (fun z u => by rw [u] at i5; cases i5) hselP hmethM habM hkP hkPi (g := mkF B.m pc Ls (argsL.reverse ++ .ref a :: rest)) rfl (argsL := argsL) (rest := rest) (hlen' _ hsigM) rfl (K.dec hd)
  obtain ⟨v, A, X', hS', hgr, hpost, hsteps⟩ := hK B.m B.mt B.c ⟨T.setVm vm₁, locs, cells, slots⟩ { mkF B.m pc Ls (argsL.reverse ++ .ref a :: rest) with stack := rest } (.invokevirtual ix) mk (.ref a :: argsL).toArray X₁ rfl (hsz.trans K.2.2.1.symm) (K.dec hd) (by show 2 * 0 + (rest.map fun v => v.category).sum ≤ _; omega) (X₁.named hnamed) ⟨rfl, eT, r3, r4⟩
  exact ⟨v, vm₁, A, X₁.warmed, X', hS', hgr, hpost, (hstep₁ _ fun acts => by rw [doInvoke_state]; exact Steps.refl _).trans hsteps⟩
theorem go_virt0 (K : Kd G B M) {k ix : Nat} {y : MethodName} {bytes : ByteArray} {maxL : Nat} {ret : Option FieldType} {rm : Room} {C : String} {a : Addr} {argsL rest : List Value} {ps : List FieldType} {rt : Option FieldType} {sf' : List Addr} {Qc : Option Value → Heap → (Addr → Prop) → Prop} (hd : M.P[k]? = some (pc, .invokevirtual ix, 3))
    (w1 : Wd G (.methodLink M.own ix y)) (w3 : Wd G (.selects C y y)) (w4 : Wd G (.instanceMethod y)) (w5 : Wd G (.initialized y.cls)) (w6 : Wd G (.code y bytes maxL ret)) (hy : y.cls ≠ "java/lang/invoke/MethodHandle" ∧ y.cls ≠ "java/lang/invoke/VarHandle") (pd : parseMethodDescriptor y.desc = some ⟨ps, rt⟩) (E : Exa G.Z h a C)
    (Ct : Ctr G [] y bytes maxL ret rm (.ref a :: argsL).toArray h sf' Qc) (hst : st = argsL.reverse ++ .ref a :: rest) (hlen : argsL.length = ps.length) (hsz : Ls.size = M.maxL) (hsub : ∀ x ∈ sf', x ∈ sf) (hrm : rok M.R rest maxL rm cells slots = true)
    (g : ∀ (v : Option Value) (h' : Heap) (Sf : Addr → Prop), h.size ≤ h'.size → Qc v h' Sf → Go G B M Q h' sf (cells + rm.cells) (slots + rm.slots) (pc + 3) Ls (v.toList ++ rest)) : Go G B M Q h sf cells slots pc Ls st :=
  go_virt0N K hd w1 w3 w4 w5 w6 hy pd E Ct hst hlen hsz hsub hrm fun v h' Sf z q => ⟨[], (fun _ u => nomatch u), g v h' Sf z q⟩
/-- System.arraycopy between arrays of one primitive kind -/
theorem go_arraycopy (K : Kd G B M) {k ix : Nat} {a b : Addr} {kA kB : ClassId} {ty : FieldType} {z z' sp dp nn : Int32} {vs vd us : List Value} {dv dd : Value} (hd : M.P[k]? = some (pc, .invokestatic ix, 3))
    (w1 : Wd G (.methodLink M.own ix Jvm.Stand.acN)) (w2 : Wd G (.native Jvm.Stand.acN)) (w3 : Wd G (.static Jvm.Stand.acN)) (w4 : Wd G (.initialized "java/lang/System")) (A : Arv G.Z h a kA ty z vs dv) (A' : Arv G.Z h b kB ty z' vd dd) (hp : refKind ty = false)
    (h1 : ¬ sp < 0) (h2 : ¬ dp < 0) (h3 : ¬ nn < 0) (h4 : sp.toNatClampNeg + nn.toNatClampNeg ≤ z.toNatClampNeg) (h5 : dp.toNatClampNeg + nn.toNatClampNeg ≤ z'.toNatClampNeg)
    (hus : us = (List.range nn.toNatClampNeg).map fun i => vs.getD (sp.toNatClampNeg + i) dv) (hl : dp.toNatClampNeg + nn.toNatClampNeg ≤ vd.length) (ge : G.Z.heap.size ≤ b) (hsf : b ∈ sf ∨ ty ≠ .byte) (hsz : Ls.size = M.maxL)
    (hf : Nat.ble 1 M.R.frames = true) (hlo : Nat.ble ((st.map fun v => v.category).sum + (nativeFrameWords "java/lang/System" "arraycopy" 5 + 11)) M.R.locals = true)
    (g : ∀ h' : Heap, Keep h h' [b] → Arv G.Z h' b kB ty z' (vd.take dp.toNatClampNeg ++ us ++ vd.drop (dp.toNatClampNeg + nn.toNatClampNeg)) dd → Go G B M Q h' sf cells slots (pc + 3) Ls st) : Go G B M Q h sf cells slots pc Ls (.int nn :: .int dp :: .ref b :: .int sp :: .ref a :: st) := by
  intro T vm0 k0 locs W
  obtain ⟨X, eT, hS, hk, hZ, hown, hF, hE, hC, hs⟩ := W
  have S : Safe G.Z G.EL vm0 h b := hsf.elim (fun q => (hs b q).1) (fun q => Safe.arv hZ.alike A' q)
  obtain ⟨T', h', L, X', e', N', K', A2, st'⟩ := cpA X K.1 hZ hown w1 w2 w3 w4 eT A A' (Or.inl ⟨rfl, hp⟩) h1 h2 h3 h4 h5 hus hl hF ge (g := mkF B.m pc Ls (.int nn :: .int dp :: .ref b :: .int sp :: .ref a :: st)) rfl (hsz.trans K.2.2.1.symm) rfl (K.dec hd) (Nat.le_of_ble_eq_true hf) (W := (st.map fun v => v.category).sum) (by show 2 * 0 + _ ≤ _; omega) (Nat.le_of_ble_eq_true hlo)
  have sa : ∀ x ∈ [b], Safe G.Z G.EL vm0 h x := allS S all0
  exact (g h' K' A2 T' vm0 k0 L ⟨X', e', hS, Nat.le_trans hk K'.1, hZ, hown, N', (Old.keep (n0 := G.Z.heap.size) ⟨rfl, hE⟩ K' (allS ge all0)).2, hC.trans (CHr.keep K' sa hC.1), fun x hx => ⟨Safe.keep K' sa hC.1 (hs x hx).1, Nat.lt_of_lt_of_le (hs x hx).2 K'.1⟩⟩).pre st'
end More
end Jvm.OwnW
namespace Jvm.OwnW
open Sem ClassFile Op Lib Bundle Jvm.Stand Jvm.Free Jvm.LawKit Jvm.RoadKit
section Bld
variable {G : Gb} {h h1 : Heap} {a t : Addr} {kb : ClassId} {cs ds : List Int32} {m : Nat}
/-- a StringBuilder a over the byte[] t of m bytes, holding the chars cs -/
def Sb (G : Gb) (h : Heap) (a t : Addr) (kb : ClassId) (cs : List Int32) (m : Nat) : Prop :=
  Exa G.Z h a "java/lang/StringBuilder" ∧ Fld G.Z h a "java/lang/AbstractStringBuilder" "value" "[B" (.ref t) ∧ Fld G.Z h a "java/lang/AbstractStringBuilder" "coder" "B" (.int 0) ∧
  Fld G.Z h a "java/lang/AbstractStringBuilder" "count" "I" (.int cs.length.toInt32) ∧ Arv G.Z h t kb .byte m.toInt32 (by8 cs ++ List.replicate (m - cs.length) (.int 0)) (.int 0) ∧ cs.length ≤ m ∧ m < 2 ^ 31
theorem Sb.ext (S : Sb G h a t kb cs m) (E : Ext h h1) : Sb G h1 a t kb cs m := by
  obtain ⟨e1, e2, e3, e4, e5, e6⟩ := S
  exact ⟨Exa.ext E e1, Fld.ext E e2, Fld.ext E e3, Fld.ext E e4, e5.ext E, e6⟩
theorem Sb.exa (S : Sb G h a t kb cs m) : Exa G.Z h a "java/lang/StringBuilder" := S.1
theorem Str.keep2 {C : String} {n : Nat} {b : Addr} (S : Str G h b cs) (E : Exa G.Z h a C) (hC : C ≠ "java/lang/String") (wi : Wd G (.instantiable C n)) (ws : Wd G (.instantiable "java/lang/String" 4)) (A : Arv G.Z h t kb .byte m.toInt32 ((by8 ds) ++ List.replicate (m - ds.length) (.int 0)) (.int 0)) (hne : ∀ u, Fld G.Z h b "java/lang/String" "value" "[B" (.ref u) → u ≠ t) (K : Keep h h1 [a, t]) : Str G h1 b cs := by
  obtain ⟨u, ku, e1, e2, e3, e4⟩ := S
  have n1 : b ≠ a := fun q => (Exa.ne E e1 hC) q.symm
  have n2 : u ≠ a := (Exa.neArv E e4 wi).symm
  have n3 : b ≠ t := Exa.neArv e1 A ws
  have n4 : u ≠ t := hne u e3
  exact ⟨u, ku, e1.keep K, e2.keep K (ninS n1 (ninS n3 nin0)), e3.keep K (ninS n1 (ninS n3 nin0)), e4.keep K (ninS n2 (ninS n4 nin0))⟩
theorem shl0 (x : Int32) : x <<< ((0 : Int32) &&& 31) = x := by
  rw [shlm (m := 1) (by decide)]; simp
theorem add_len (n k : Nat) : n.toInt32 + k.toInt32 = (n + k).toInt32 := (Int32.ofNat_add n k).symm
theorem sub_len {n k : Nat} (q : k ≤ n) : n.toInt32 - k.toInt32 = (n - k).toInt32 := by
  have e := add_len (n - k) k
  rw [Nat.sub_add_cancel q] at e
  rw [← e, Int32.add_sub_cancel]
theorem le_len {n k : Nat} (hk : k < 2 ^ 31) (q : n ≤ k) : ¬ 0 < n.toInt32 - k.toInt32 := by
  have h1 := len_toInt (Nat.lt_of_le_of_lt q hk)
  have h2 := len_toInt hk
  have h3 := c_isub n.toInt32 k.toInt32
  have h4 := rng32 (n.toInt32 - k.toInt32)
  rw [h1, h2] at h3
  rw [Int32.lt_iff_toInt_lt]
  have e0 : (0 : Int32).toInt = 0 := rfl
  rw [e0]; omega
theorem len_ge {p q : Nat} (hp : p < 2 ^ 31) (hq : q < 2 ^ 31) (h : q ≤ p) (u : ¬ q.toInt32 < p.toInt32) : p.toInt32 = q.toInt32 := by
  rcases Nat.lt_or_ge q p with v | v
  · exact absurd (len_lt hp v) u
  · rw [Nat.le_antisymm v h]
theorem map_range {vs : List Value} {d : Value} {i n : Nat} (q : i + n ≤ vs.length) : (List.range n).map (fun k => vs.getD (i + k) d) = (vs.drop i).take n := by
  apply List.ext_getElem
  · simp; omega
  · intro j p1 p2
    have hj : i + j < vs.length := by simp at p1; omega
    simp [List.getD_eq_getElem?_getD, hj]
theorem by8_app : by8 (cs ++ ds) = by8 cs ++ by8 ds := by simp [by8]
theorem by8_take {n : Nat} : by8 (cs.take n) = (by8 cs).take n := by simp [by8, List.map_take]
theorem by8_drop {n : Nat} : by8 (cs.drop n) = (by8 cs).drop n := by simp [by8, List.map_drop]
/-- the chars ds put behind cs -/
theorem sb_put (q : cs.length + ds.length ≤ m) : (by8 cs ++ List.replicate (m - cs.length) (Value.int 0)).take cs.length ++ by8 ds ++ (by8 cs ++ List.replicate (m - cs.length) (Value.int 0)).drop (cs.length + ds.length) = by8 (cs ++ ds) ++ List.replicate (m - (cs ++ ds).length) (Value.int 0) := by
  have l : (by8 cs).length = cs.length := by8_len
  rw [List.take_append_of_le_length (by omega), List.take_of_length_le (by omega), List.drop_append, List.drop_of_length_le (by omega), List.nil_append, l, by8_app, List.length_append]
  congr 1
  rw [List.drop_replicate]
  congr 1
  omega
end Bld
end Jvm.OwnW
namespace Jvm.OwnW
open Sem ClassFile Op Lib Bundle Jvm.Stand Jvm.Free Jvm.LawKit Jvm.RoadKit
section More
variable {G : Gb} {B : Cx} {M : Mt} {Q : Option Value → Heap → (Addr → Prop) → Prop} {h : Heap} {sf : List Addr} {cells slots pc : Nat} {Ls : Array Slot} {st : List Value}
/-- 'getfield' over an entry that is resolved -/
theorem go_getfieldR (K : Kd G B M) {k ix : Nat} {O n d : String} {a : Addr} {v : Value} (hd : M.P[k]? = some (pc, .getfield ix, 3)) (w : Wd G (.fieldRef M.own ix O n d)) (F : Fld G.Z h a O n d v)
    (g : Go G B M Q h sf cells slots (pc + 3) Ls (v :: st)) : Go G B M Q h sf cells slots pc Ls (.ref a :: st) := by
  intro T vm0 k0 locs W
  obtain ⟨X, eT, hS, hk, hZ, hown, hF, hE, hC, hs⟩ := W
  have hW : G.Z.Warmed39 T.vm := wtrans hZ X.warmed
  have w' := Cond.fieldRef_warmed39 hW w
  have hcur : T.vm.findClass M.own = some B.m.cls := by
    rw [X.warmed.alike.findClass]; exact hown
  obtain ⟨c, k1, i, f, hi, hr⟩ := Cond.fieldRef_spec (cur := B.m.cls) (s := G.Z.setVm T.vm) hcur w'
  obtain ⟨cell, cf, k2, i2, f2, h1, h2, h3, h4, -, -, h7⟩ := F
  obtain ⟨k', hi', -⟩ := State.fieldFound?_setVm (s := G.Z) hW.alike h2
  cases hi.symm.trans hi'
  refine (g T vm0 k0 locs ⟨X, eT, hS, hk, hZ, hown, hF, hE, hC, hs⟩).pre (fun target hrest => ?_)
  have hd' := K.dec hd
  jvm_step X.here [K.1, hd', getfield.wp_ready (e := B.e) (s := T) (f := mkF B.m pc Ls (.ref a :: st)) X.here.top hr h3 rfl (show T.heap[a]? = some cell by rw [eT]; exact h1) h4 h7]
  exact hrest
/-- invokeinterface; the entry's own interface declares the method -/
theorem go_interfaceN (K : Kd G B M) {k ix cnt : Nat} {xi y : MethodName} {bytes : ByteArray} {maxL : Nat} {ret : Option FieldType} {rm : Room} {C : String} {a : Addr} {argsL rest : List Value} {ps : List FieldType} {rt : Option FieldType} {sf' : List Addr} {Qc : Option Value → Heap → (Addr → Prop) → Prop} (hd : M.P[k]? = some (pc, .invokeinterface ix cnt, 5))
    (w1 : Wd G (.methodLink M.own ix xi)) (w2 : Wd G (.declares xi)) (w3 : Wd G (.interfaceMethod xi.cls xi.cls xi.name xi.desc)) (w4 : Wd G (.selects C xi y)) (w5 : Wd G (.instanceMethod y)) (w6 : Wd G (.publicMethod y)) (w7 : Wd G (.unhidden C xi.name xi.desc)) (w8 : Wd G (.castable C xi.cls)) (w9 : Wd G (.initialized y.cls)) (w10 : Wd G (.code y bytes maxL ret)) (hfa : ((Jvm.Cond.interfaceMethod xi.cls xi.cls xi.name xi.desc).onTables && (Jvm.Cond.interfaceMethod xi.cls xi.cls xi.name xi.desc).keepsFace) = true)
    (hy : xi.cls ≠ "java/lang/invoke/MethodHandle" ∧ xi.cls ≠ "java/lang/invoke/VarHandle") (pd : parseMethodDescriptor xi.desc = some ⟨ps, rt⟩) (E : Exa G.Z h a C)
    (Ct : Ctr G [] y bytes maxL ret rm (.ref a :: argsL).toArray h sf' Qc) (hst : st = argsL.reverse ++ .ref a :: rest) (hlen : argsL.length = ps.length) (hsz : Ls.size = M.maxL) (hsub : ∀ x ∈ sf', x ∈ sf) (hrm : rok M.R rest maxL rm cells slots = true)
    (g : ∀ (v : Option Value) (h' : Heap) (Sf : Addr → Prop), h.size ≤ h'.size → Qc v h' Sf → ∃ nw : List Addr, (∀ x ∈ nw, Sf x) ∧ Go G B M Q h' (nw ++ sf) (cells + rm.cells) (slots + rm.slots) (pc + 5) Ls (v.toList ++ rest)) : Go G B M Q h sf cells slots pc Ls st := by
  intro T vm0 k0 locs W
  obtain ⟨r1, r2, r3, r4⟩ := rok_ok hrm
  obtain ⟨X, eT, hS, hk, hZ, hown, hF, hE, hC, hs⟩ := id W
  obtain ⟨cB, kB, i1, i2, i3⟩ := isOf (s := B.s.setVm vm0) hZ eT E
  subst hst
  exact call_on W (X.interfaceBackS K.1 hown (mv hZ w1) (mv hZ w2) (mv hZ w3 hfa) (mv hZ w4) (mv hZ w5) (mv hZ w6) (mv hZ w7) (mv hZ w8) hy (backG (W := (rest.map fun v => v.category).sum) Ct hZ w10 w9 r1 r2 K.2.2.2.2.2.2 hC.1 hE (fun x hx => hs x (hsub x hx))) i1 i2 i3 (g := mkF B.m pc Ls (argsL.reverse ++ .ref a :: rest)) rfl (hsz.trans K.2.2.1.symm) (Steps.refl _) (argsL := argsL) (rest := rest) (lenOf pd hlen) rfl (by show 2 * 0 + _ ≤ _; omega) (K.dec hd) (fun vm₁ _ => ⟨rfl, eT, r3, r4⟩)) g
theorem go_interface (K : Kd G B M) {k ix cnt : Nat} {xi y : MethodName} {bytes : ByteArray} {maxL : Nat} {ret : Option FieldType} {rm : Room} {C : String} {a : Addr} {argsL rest : List Value} {ps : List FieldType} {rt : Option FieldType} {sf' : List Addr} {Qc : Option Value → Heap → (Addr → Prop) → Prop} (hd : M.P[k]? = some (pc, .invokeinterface ix cnt, 5))
    (w1 : Wd G (.methodLink M.own ix xi)) (w2 : Wd G (.declares xi)) (w3 : Wd G (.interfaceMethod xi.cls xi.cls xi.name xi.desc)) (w4 : Wd G (.selects C xi y)) (w5 : Wd G (.instanceMethod y)) (w6 : Wd G (.publicMethod y)) (w7 : Wd G (.unhidden C xi.name xi.desc)) (w8 : Wd G (.castable C xi.cls)) (w9 : Wd G (.initialized y.cls)) (w10 : Wd G (.code y bytes maxL ret)) (hfa : ((Jvm.Cond.interfaceMethod xi.cls xi.cls xi.name xi.desc).onTables && (Jvm.Cond.interfaceMethod xi.cls xi.cls xi.name xi.desc).keepsFace) = true)
    (hy : xi.cls ≠ "java/lang/invoke/MethodHandle" ∧ xi.cls ≠ "java/lang/invoke/VarHandle") (pd : parseMethodDescriptor xi.desc = some ⟨ps, rt⟩) (E : Exa G.Z h a C)
    (Ct : Ctr G [] y bytes maxL ret rm (.ref a :: argsL).toArray h sf' Qc) (hst : st = argsL.reverse ++ .ref a :: rest) (hlen : argsL.length = ps.length) (hsz : Ls.size = M.maxL) (hsub : ∀ x ∈ sf', x ∈ sf) (hrm : rok M.R rest maxL rm cells slots = true)
    (g : ∀ (v : Option Value) (h' : Heap) (Sf : Addr → Prop), h.size ≤ h'.size → Qc v h' Sf → Go G B M Q h' sf (cells + rm.cells) (slots + rm.slots) (pc + 5) Ls (v.toList ++ rest)) : Go G B M Q h sf cells slots pc Ls st :=
  go_interfaceN K hd w1 w2 w3 w4 w5 w6 w7 w8 w9 w10 hfa hy pd E Ct hst hlen hsz hsub hrm fun v h' Sf z q => ⟨[], (fun _ u => nomatch u), g v h' Sf z q⟩
end More
theorem lt_len {i n : Nat} (hn : n < 2 ^ 31) (hi : i < 2 ^ 31) (q : i.toInt32 < n.toInt32) : i < n := by
  rcases Nat.lt_or_ge i n with u | u
  · exact u
  · exact absurd q (len_nlt hi u)
theorem lat_app {cs ds : List Int32} (p : Lat cs) (q : Lat ds) (hn : cs.length + ds.length ≤ 4000) : Lat (cs ++ ds) :=
  ⟨by rw [List.length_append]; exact hn, fun c hc => (List.mem_append.mp hc).elim (p.2 c) (q.2 c)⟩
theorem out_len (n k : Nat) : (n + (k + 1)).toInt32 = n.toInt32 + 1 + k.toInt32 := by
  rw [show n.toInt32 + 1 = (n + 1).toInt32 from add_len n 1, add_len]
  congr 1
  omega
theorem and3 (x : Int32) : x &&& 3 = 0 ∨ x &&& 3 = 1 ∨ x &&& 3 = 2 ∨ x &&& 3 = 3 := by
  have q := c_and x 3 (by decide)
  have h1 := rng32 (x &&& 3)
  have e3 : (3 : Int32).toInt = 3 := by decide
  rw [e3] at q
  have h2 : (x &&& 3).toInt = 0 ∨ (x &&& 3).toInt = 1 ∨ (x &&& 3).toInt = 2 ∨ (x &&& 3).toInt = 3 := by omega
  rcases h2 with u | u | u | u
  · exact Or.inl (Int32.toInt_inj.mp (u.trans (by decide)))
  · exact Or.inr (Or.inl (Int32.toInt_inj.mp (u.trans (by decide))))
  · exact Or.inr (Or.inr (Or.inl (Int32.toInt_inj.mp (u.trans (by decide)))))
  · exact Or.inr (Or.inr (Or.inr (Int32.toInt_inj.mp (u.trans (by decide)))))
end Jvm.OwnW
namespace Jvm.OwnW
open Sem ClassFile Op Lib Bundle Jvm.Stand Jvm.Free Jvm.LawKit Jvm.RoadKit
theorem len_small {s : State} {args : Array Value} {t : Term} {x : Addr} {cl : Cell} {v : Value} (ht : t.eval args s none [] s = some (.ref x)) (ha : s.arrayAt? x = some cl) (hl : (Term.length t).eval args s none [] s = some v) : cl.slots.size < 2 ^ 31 :=
  Decidable.byContradiction fun nq => by simp [Term.eval, ht, ha, nq] at hl
/-- a String that stands in the heap at the start, as a sheet's words say it -/
theorem str_start {G : Gb} {args : Array Value} {t : Term} {a : Addr} {cs : List Int32} (hf : Fit G.Z) (ev : t.eval args G.Z none [] G.Z = some (.ref a)) (hx : (Cond.exactly t "java/lang/String").value args G.Z none G.Z [] = some true)
    (hA : (Cond.arrayOf (.field t "java/lang/String" "value" "[B") .byte).value args G.Z none G.Z [] = some true) (hl : (Term.length (.field t "java/lang/String" "value" "[B")).eval args G.Z none [] G.Z = some (.int cs.length.toInt32))
    (hc : (Term.field t "java/lang/String" "coder" "B").eval args G.Z none [] G.Z = some (.int 0)) (hm : cs.length < 2 ^ 31)
    (he : ∀ (x : Addr) (cl : Cell), (Term.field t "java/lang/String" "value" "[B").eval args G.Z none [] G.Z = some (.ref x) → G.Z.heap[x]? = some cl → HasL cl 0 (by8 cs)) : Str G G.Z.heap a cs := by
  obtain ⟨x, ex⟩ := arr_v hA
  obtain ⟨cl, A⟩ := Arr.start ex hA
  have ha : G.Z.arrayAt? x = some cl := Arr.fin (Vm.Alike.refl _) A
  have q : cl.slots.size < 2 ^ 31 := Decidable.byContradiction fun nq => nq (len_small ex ha hl)
  have e : cl.slots.size.toInt32 = cs.length.toInt32 := by
    have u := (len_f ex ha q).symm.trans hl
    exact Value.int.inj (Option.some.inj u)
  refine ⟨x, cl.cls, Exa.start ev hx, Fld.start (by rw [← fld_at ev]; exact hc), Fld.start (by rw [← fld_at ev]; exact ex), Arv.start hf A q e (len_nn hm) (by rw [len_nat hm, by8_len]) (he x cl ex A.1)⟩
end Jvm.OwnW
namespace Jvm.OwnW
open Sem ClassFile Op Lib Bundle Jvm.Stand Jvm.Free Jvm.LawKit Jvm.RoadKit
theorem ushr1_nn (x : Int32) : 0 ≤ (XT.ushr x 1).toInt := by
  have q : (XT.ushr x 1).toInt = _ := c_iushr x 1 1 (by decide) (by decide)
  rw [q]
  exact Int.ediv_nonneg (Int.emod_nonneg _ (by decide)) (by decide)
theorem i32_eq {x : Int32} (k : Int32) (q : x.toInt = k.toInt) : x = k := Int32.toInt_inj.mp q
theorem rem4 (x : Int32) : XT.ushr x 1 % 4 = 0 ∨ XT.ushr x 1 % 4 = 1 ∨ XT.ushr x 1 % 4 = 2 ∨ XT.ushr x 1 % 4 = 3 := by
  have b := (c_irem (XT.ushr x 1) 4 4 (by decide)).1 (ushr1_nn x)
  rcases (by omega : (XT.ushr x 1).toInt % 4 = 0 ∨ (XT.ushr x 1).toInt % 4 = 1 ∨ (XT.ushr x 1).toInt % 4 = 2 ∨ (XT.ushr x 1).toInt % 4 = 3) with q | q | q | q
  · exact Or.inl (i32_eq 0 (b.trans q))
  · exact Or.inr (Or.inl (i32_eq 1 (b.trans q)))
  · exact Or.inr (Or.inr (Or.inl (i32_eq 2 (b.trans q))))
  · exact Or.inr (Or.inr (Or.inr (i32_eq 3 (b.trans q))))
theorem rem5 (x : Int32) : XT.ushr x 1 % 5 = 0 ∨ XT.ushr x 1 % 5 = 1 ∨ XT.ushr x 1 % 5 = 2 ∨ XT.ushr x 1 % 5 = 3 ∨ XT.ushr x 1 % 5 = 4 := by
  have b := (c_irem (XT.ushr x 1) 5 5 (by decide)).1 (ushr1_nn x)
  rcases (by omega : (XT.ushr x 1).toInt % 5 = 0 ∨ (XT.ushr x 1).toInt % 5 = 1 ∨ (XT.ushr x 1).toInt % 5 = 2 ∨ (XT.ushr x 1).toInt % 5 = 3 ∨ (XT.ushr x 1).toInt % 5 = 4) with q | q | q | q | q
  · exact Or.inl (i32_eq 0 (b.trans q))
  · exact Or.inr (Or.inl (i32_eq 1 (b.trans q)))
  · exact Or.inr (Or.inr (Or.inl (i32_eq 2 (b.trans q))))
  · exact Or.inr (Or.inr (Or.inr (Or.inl (i32_eq 3 (b.trans q)))))
  · exact Or.inr (Or.inr (Or.inr (Or.inr (i32_eq 4 (b.trans q)))))
end Jvm.OwnW
namespace Jvm.OwnW
open Sem ClassFile Op Lib Bundle Jvm.Stand Jvm.Free Jvm.LawKit Jvm.RoadKit
theorem url_len {us fs : List Int32} : (us ++ (35 : Int32) :: fs).length.toInt32 - fs.length.toInt32 - (1 : Int32) = us.length.toInt32 := by
  rw [sub_len (n := (us ++ (35 : Int32) :: fs).length) (k := fs.length) (by simp only [List.length_append, List.length_cons]; omega)]
  rw [show ((us ++ (35 : Int32) :: fs).length - fs.length).toInt32 - (1 : Int32) = ((us ++ (35 : Int32) :: fs).length - fs.length - 1).toInt32 from sub_len (k := 1) (by simp only [List.length_append, List.length_cons]; omega)]
  congr 1
  simp only [List.length_append, List.length_cons]
  omega
end Jvm.OwnW
namespace Jvm.OwnW
open Sem ClassFile Op Lib Bundle Jvm.Stand Jvm.Free Jvm.LawKit Jvm.RoadKit
section Cl
variable {G : Gb} {B : Cx} {M : Mt} {Q : Option Value → Heap → (Addr → Prop) → Prop} {h : Heap} {sf : List Addr} {cells slots pc : Nat} {Ls : Array Slot} {st : List Value}
theorem go_cast0 (K : Kd G B M) {k ix : Nat} (hd : M.P[k]? = some (pc, .checkcast ix, 3)) (g : Go G B M Q h sf cells slots (pc + 3) Ls (.null :: st)) : Go G B M Q h sf cells slots pc Ls (.null :: st) := by
  intro T vm0 k0 locs W
  exact (g T vm0 k0 locs W).pre fun target hr => W.1.checkcastNull K.1 (g := mkF B.m pc Ls (.null :: st)) rfl rfl (K.dec hd) target hr
/-- clone() of an array -/
theorem go_clone (K : Kd G B M) {k ix cap : Nat} {ad : String} {a : Addr} {kA : ClassId} {ty : FieldType} {z : Int32} {vs : List Value} {dv : Value} (hd : M.P[k]? = some (pc, .invokevirtual ix, 3))
    (w1 : Wd G (.methodLink M.own ix ⟨ad, "clone", "()Ljava/lang/Object;"⟩)) (w2 : Wd G (.sameMethod ad "java/lang/Object" "clone" "()Ljava/lang/Object;")) (w3 : Wd G (.native ⟨"java/lang/Object", "clone", "()Ljava/lang/Object;"⟩)) (w4 : Wd G (.instanceMethod ⟨"java/lang/Object", "clone", "()Ljava/lang/Object;"⟩))
    (w5 : Wd G (.selects ad ⟨ad, "clone", "()Ljava/lang/Object;"⟩ ⟨"java/lang/Object", "clone", "()Ljava/lang/Object;"⟩)) (w6 : Wd G (.castable ad "java/lang/Cloneable")) (A : Arv G.Z h a kA ty z vs dv) (E : Exa G.Z h a ad) (hsz : Ls.size = M.maxL)
    (hf : Nat.ble 1 M.R.frames = true) (hlo : Nat.ble ((st.map fun v => v.category).sum + 14) M.R.locals = true) (hcap : z.toNatClampNeg ≤ cap) (hc : Nat.ble (cells + 1) M.R.cells = true) (hl : Nat.ble (slots + cap) M.R.slots = true)
    (g : ∀ (h' : Heap) (b : Addr), b = h.size → G.Z.heap.size ≤ b → Ext h h' → Arv G.Z h' b kA ty z vs dv → Exa G.Z h' b ad → Go G B M Q h' (b :: sf) (cells + 1) (slots + cap) (pc + 3) Ls (.ref b :: st)) : Go G B M Q h sf cells slots pc Ls (.ref a :: st) := by
  intro T vm0 k0 locs W
  obtain ⟨X, eT, hS, hk, hZ, hown, hF, hE, hC, hs⟩ := W
  obtain ⟨cl, A1, q1, S, q3, H, Gf⟩ := A
  have FC : FitC G.Z cl := fitC_of A1 fun i hi v hv => by rw [H i hi] at hv; cases hv; exact Gf i hi
  obtain ⟨T', h', X', e', E', A2, E2, st'⟩ := cloneA X K.1 hZ hown w1 w2 w3 w4 w5 w6 eT A1 E FC (g := mkF B.m pc Ls (.ref a :: st)) rfl (hsz.trans K.2.2.1.symm) rfl (K.dec hd) (Nat.le_of_ble_eq_true hf) (W := (st.map fun v => v.category).sum) (by show 2 * 0 + _ ≤ _; omega) (Nat.le_of_ble_eq_true hlo) (by rw [S]; exact hcap) (Nat.le_of_ble_eq_true hc) (Nat.le_of_ble_eq_true hl)
  refine (g h' h.size rfl hE.1 E' ⟨cloneOf cl, A2, q1, S, q3, H, Gf⟩ E2 T' vm0 k0 locs ⟨X', e', hS, Nat.le_trans hk E'.1, hZ, hown, hF, ⟨Nat.le_trans hE.1 E'.1, fun x c q => E'.2 x c (hE.2 x c q)⟩, hC.trans (CHr.ext E' hC.1), fun x hx => ?_⟩).pre st'
  rcases List.mem_cons.mp hx with rfl | hx
  · exact ⟨Safe.ext E' hC.1 (Safe.new (Nat.le_refl _)), A2.lt⟩
  · exact ⟨Safe.ext E' hC.1 (hs x hx).1, Nat.lt_of_lt_of_le (hs x hx).2 E'.1⟩
/-- a char[] of n chars below 256, whichever -/
def Cz (G : Gb) (h : Heap) (a : Addr) (kA : ClassId) (n : Nat) : Prop := ∃ xs : List Int32, xs.length = n ∧ (∀ c ∈ xs, ¬ c < 0 ∧ ¬ (255 : Int32) < c) ∧ Arv G.Z h a kA .char n.toInt32 (xs.map Value.int) (.int 0)
theorem Cz.ext {h' : Heap} {a : Addr} {kA : ClassId} {n : Nat} (C : Cz G h a kA n) (E : Ext h h') : Cz G h' a kA n := by
  obtain ⟨xs, l, r, A⟩ := C
  exact ⟨xs, l, r, A.ext E⟩
theorem go_castoreZ (K : Kd G B M) {k n : Nat} {a : Addr} {kA : ClassId} {j x : Int32} (hd : M.P[k]? = some (pc, .castore, 1)) (A : Cz G h a kA n) (hj : ¬ j < 0 ∧ j < n.toInt32) (hn : n < 2 ^ 31) (ha : G.Z.heap.size ≤ a) (hx : ¬ x < 0 ∧ ¬ (255 : Int32) < x)
    (g : ∀ h' : Heap, Wr h h' a j.toNatClampNeg (.int (nar .char x)) → Cz G h' a kA n → Go G B M Q h' sf cells slots (pc + 1) Ls st) : Go G B M Q h sf cells slots pc Ls (.int x :: .int j :: .ref a :: st) := by
  obtain ⟨xs, l, r, A⟩ := A
  have hjn : j.toNatClampNeg < n := by
    have h1 := Int32.lt_iff_toInt_lt.mp hj.2
    have h2 : ¬ j.toInt < 0 := fun q => hj.1 (Int32.lt_iff_toInt_lt.mpr q)
    rw [len_toInt hn] at h1
    simp only [Int32.toNatClampNeg]
    omega
  refine go_castore K hd A hj rfl (by rw [List.length_map, l]; exact hjn) ha fun h' W A' => g h' W ⟨xs.set j.toNatClampNeg x, by rw [List.length_set, l], fun c hc => ?_, ?_⟩
  · rcases List.mem_or_eq_of_mem_set hc with hc | rfl
    · exact r c hc
    · exact hx
  · rw [nar_id hx] at A'
    rw [List.map_set]
    exact A'
end Cl
end Jvm.OwnW
namespace Jvm.OwnW
theorem len8 {xs : List Int32} (q : xs.length = 8) : ∃ x0 x1 x2 x3 x4 x5 x6 x7, xs = [x0, x1, x2, x3, x4, x5, x6, x7] := by
  match xs, q with
  | [x0, x1, x2, x3, x4, x5, x6, x7], _ => exact ⟨x0, x1, x2, x3, x4, x5, x6, x7, rfl⟩
/-- the role that a label names -/
def lbl (W D P : List Int32) (b0 b1 b2 : Addr) (cs : List Int32) : Value := if cs = W then .ref b0 else if cs = D then .ref b1 else if cs = P then .ref b2 else .null
theorem lbl0 {W D P cs : List Int32} {b0 b1 b2 : Addr} (q : cs = W) : lbl W D P b0 b1 b2 cs = .ref b0 := if_pos q
theorem lbl1 {W D P cs : List Int32} {b0 b1 b2 : Addr} (n : ¬ cs = W) (q : cs = D) : lbl W D P b0 b1 b2 cs = .ref b1 := (if_neg n).trans (if_pos q)
theorem lbl2 {W D P cs : List Int32} {b0 b1 b2 : Addr} (n : ¬ cs = W) (n1 : ¬ cs = D) (q : cs = P) : lbl W D P b0 b1 b2 cs = .ref b2 := (if_neg n).trans ((if_neg n1).trans (if_pos q))
theorem lbl3 {W D P cs : List Int32} {b0 b1 b2 : Addr} (n : ¬ cs = W) (n1 : ¬ cs = D) (n2 : ¬ cs = P) : lbl W D P b0 b1 b2 cs = .null := (if_neg n).trans ((if_neg n1).trans (if_neg n2))
end Jvm.OwnW
namespace Jvm.OwnW
open Sem ClassFile Op Lib Bundle Jvm.Stand Jvm.Free Jvm.LawKit Jvm.RoadKit
theorem mod_in {x : Int32} {n : Nat} (h1 : 1 ≤ n) (h6 : n ≤ 6) : ¬ (x &&& 2147483647) % n.toInt32 < 0 ∧ (x &&& 2147483647) % n.toInt32 < (8 : Nat).toInt32 := by
  have a := (c_and x 2147483647 (by decide)).1
  have e : n.toInt32.toInt = n := len_toInt (by omega)
  have b := (c_irem (x &&& 2147483647) n.toInt32 n e).1 a
  have e8 : ((8 : Nat).toInt32).toInt = 8 := by decide
  have e0 : (0 : Int32).toInt = 0 := by decide
  simp only [Int32.lt_iff_toInt_lt, b, e8, e0]
  have p1 := Int.emod_nonneg (x &&& 2147483647).toInt (show (n : Int) ≠ 0 by omega)
  have p2 := Int.emod_lt_of_pos (x &&& 2147483647).toInt (show (0 : Int) < n by omega)
  omega
theorem eqv_r {Z : State} {args : Array Value} {X F : Term} {b : Addr} (hF : F.eval args Z none [] Z = some (.ref b)) (h : (Cond.eq X F).value args Z none Z [] = some true) : X.eval args Z none [] Z = some (.ref b) := by
  simp only [Cond.value, hF] at h
  cases hx : X.eval args Z none [] Z with
  | none => simp [hx] at h
  | some x => cases x <;> simp [hx] at h ⊢ <;> exact h
theorem arr3_start {G : Gb} {args : Array Value} {t : Term} {a : Addr} {ty : FieldType} {v0 v1 v2 : Value} (hf : Fit G.Z) (ev : t.eval args G.Z none [] G.Z = some (.ref a)) (hA : (Cond.arrayOf t ty).value args G.Z none G.Z [] = some true) (hl : (Term.length t).eval args G.Z none [] G.Z = some (.int 3))
    (e0 : (Term.elem t (.int 0)).eval args G.Z none [] G.Z = some v0) (e1 : (Term.elem t (.int 1)).eval args G.Z none [] G.Z = some v1) (e2 : (Term.elem t (.int 2)).eval args G.Z none [] G.Z = some v2) : ∃ k, Arv G.Z G.Z.heap a k ty (3 : Int32) [v0, v1, v2] .null := by
  obtain ⟨cl, A⟩ := Arr.start ev hA
  have ha : G.Z.arrayAt? a = some cl := Arr.fin (Vm.Alike.refl _) A
  have q : cl.slots.size < 2 ^ 31 := Decidable.byContradiction fun nq => by simp [Term.eval, ev, ha, nq] at hl
  have e : cl.slots.size.toInt32 = 3 := Value.int.inj (Option.some.inj ((len_f ev ha q).symm.trans hl))
  exact ⟨cl.cls, Arv.start hf A q e (by decide) rfl ⟨(elem_in e0 ev (Term.int_eval 0) A.1).2, (elem_in e1 ev (Term.int_eval 1) A.1).2, (elem_in e2 ev (Term.int_eval 2) A.1).2, trivial⟩⟩
end Jvm.OwnW
namespace Jvm.OwnW
open Sem ClassFile Op Lib Bundle Jvm.Stand Jvm.Free Jvm.LawKit Jvm.RoadKit
section Gr
variable {G : Gb} {B : Cx} {M : Mt} {Q : Option Value → Heap → (Addr → Prop) → Prop} {h h1 : Heap} {sf : List Addr} {cells slots pc : Nat} {Ls : Array Slot} {st : List Value} {a t : Addr} {kb : ClassId} {cs ds : List Int32} {m : Nat}
/-- 'newarray', the array's class known by its name too -/
theorem go_newarrayE (K : Kd G B M) {k cap : Nat} {aty : ArrayType} {n : Int32} {ad : String} (hd : M.P[k]? = some (pc, .newarray aty, 2)) (w : Wd G (.arrayClass (newarray.typeOf aty))) (had : "[" ++ (newarray.typeOf aty).toString = ad) (hn : ¬ n < 0) (hcap : n.toNatClampNeg ≤ cap) (hb : Nat.ble (cap * 8) 536870912 = true) (hc : Nat.ble (cells + 1) M.R.cells = true) (hl : Nat.ble (slots + cap) M.R.slots = true)
    (g : ∀ (h' : Heap) (a : Addr) (kA : ClassId), a = h.size → G.Z.heap.size ≤ a → Ext h h' → Arv G.Z h' a kA (newarray.typeOf aty) n [] (defaultValue (newarray.typeOf aty)) → Exa G.Z h' a ad → Go G B M Q h' (a :: sf) (cells + 1) (slots + cap) (pc + 2) Ls (.ref a :: st)) : Go G B M Q h sf cells slots pc Ls (.int n :: st) := by
  intro T vm0 k0 locs W
  obtain ⟨X, eT, hS, hk, hZ, hown, hF, hE, hC, hs⟩ := W
  obtain ⟨T', h', cA, X', e', E', A', E2, st'⟩ := newPE X K.1 hZ w eT (g := mkF B.m pc Ls (.int n :: st)) rfl (K.dec hd) rfl hn hcap (Nat.le_of_ble_eq_true hb) (Nat.le_of_ble_eq_true hc) (Nat.le_of_ble_eq_true hl) had
  refine (g h' h.size cA rfl hE.1 E' (Arv.new A' hn) E2 T' vm0 k0 locs ⟨X', e', hS, Nat.le_trans hk E'.1, hZ, hown, hF, ⟨Nat.le_trans hE.1 E'.1, fun x c q => E'.2 x c (hE.2 x c q)⟩, hC.trans (CHr.ext E' hC.1), fun x hx => ?_⟩).pre st'
  rcases List.mem_cons.mp hx with rfl | hx
  · exact ⟨Safe.ext E' hC.1 (Safe.new (Nat.le_refl _)), A'.lt⟩
  · exact ⟨Safe.ext E' hC.1 (hs x hx).1, Nat.lt_of_lt_of_le (hs x hx).2 E'.1⟩
/-- a builder whose array is a byte[] by its class's name -/
def Sx (G : Gb) (h : Heap) (a t : Addr) (kb : ClassId) (cs : List Int32) (m : Nat) : Prop := Sb G h a t kb cs m ∧ Exa G.Z h t "[B"
theorem Sx.ext (S : Sx G h a t kb cs m) (E : Ext h h1) : Sx G h1 a t kb cs m := ⟨S.1.ext E, Exa.ext E S.2⟩
theorem Sx.exa (S : Sx G h a t kb cs m) : Exa G.Z h a "java/lang/StringBuilder" := S.1.1
end Gr
/-- the bytes behind the grown array's first part -/
theorem grow_list {cs : List Int32} (q : cs.length ≤ 16) : (List.replicate 34 (Value.int 0)).take 0 ++ (by8 cs ++ List.replicate (16 - cs.length) (Value.int 0)) ++ (List.replicate 34 (Value.int 0)).drop (0 + 16) = by8 cs ++ List.replicate (34 - cs.length) (Value.int 0) := by
  rw [List.take_zero, List.nil_append, List.append_assoc, List.drop_replicate, List.replicate_append_replicate]
  congr 2
  omega
end Jvm.OwnW
namespace Jvm.OwnW
theorem i32_anti {x y : Int32} (p : ¬ x < y) (q : ¬ y < x) : x = y := by
  rw [Int32.lt_iff_toInt_lt] at p q
  exact Int32.toInt_inj.mp (by omega)
theorem gt_len {n k : Nat} (hn : n < 2 ^ 31) (q : k < n) : 0 < n.toInt32 - k.toInt32 := by
  rw [sub_len (Nat.le_of_lt q)]
  exact len_lt (i := 0) (by omega) (by omega)
theorem hm34 {m : Nat} (q : m = 16 ∨ m = 34) : m ≤ 34 := by omega
end Jvm.OwnW
namespace Jvm.OwnW
open Sem ClassFile Op Lib Bundle Jvm.Stand Jvm.Free Jvm.LawKit Jvm.RoadKit
section Ne
variable {G : Gb} {B : Cx} {M : Mt} {Q : Option Value → Heap → (Addr → Prop) → Prop} {h : Heap} {sf : List Addr} {cells slots pc : Nat} {Ls : Array Slot} {st : List Value}
theorem mvM {Z s : State} {a0 args : Array Value} {own host : String} {y : MethodName} {index : Nat} (hZ : Z.Warmed39 s.vm) (w : (Cond.methodLinkNest own index y host).before a0 Z = true) : (Cond.methodLinkNest own index y host).before args s = true := (Cond.methodLinkNest_wide hZ w :)
/-- invokestatic of a nest-mate's method -/
theorem go_staticM (K : Kd G B M) {k ix : Nat} {y : MethodName} {host : String} {bytes : ByteArray} {maxL : Nat} {ret : Option FieldType} {rm : Room} {argsL rest : List Value} {ps : List FieldType} {rt : Option FieldType} {sf' : List Addr} {Qc : Option Value → Heap → (Addr → Prop) → Prop} (hd : M.P[k]? = some (pc, .invokestatic ix, 3))
    (w1 : Wd G (.methodLinkNest M.own ix y host)) (w2 : Wd G (.static y)) (w3 : Wd G (.initialized y.cls)) (w4 : Wd G (.code y bytes maxL ret)) (hy : y.cls ≠ "java/lang/invoke/MethodHandle" ∧ y.cls ≠ "java/lang/invoke/VarHandle") (pd : parseMethodDescriptor y.desc = some ⟨ps, rt⟩)
    (C : Ctr G [] y bytes maxL ret rm argsL.toArray h sf' Qc) (hst : st = argsL.reverse ++ rest) (hlen : argsL.length = ps.length) (hsz : Ls.size = M.maxL) (hsub : ∀ x ∈ sf', x ∈ sf) (hrm : rok M.R rest maxL rm cells slots = true)
    (g : ∀ (v : Option Value) (h' : Heap) (Sf : Addr → Prop), h.size ≤ h'.size → Qc v h' Sf → Go G B M Q h' sf (cells + rm.cells) (slots + rm.slots) (pc + 3) Ls (v.toList ++ rest)) : Go G B M Q h sf cells slots pc Ls st := by
  intro T vm0 k0 locs W
  obtain ⟨r1, r2, r3, r4⟩ := rok_ok hrm
  obtain ⟨X, eT, hS, hk, hZ, hown, hF, hE, hC, hs⟩ := id W
  subst hst
  exact call_on W (callSNS X K.1 hown (mvM hZ w1) (mv hZ w2) (mv hZ w3) (mv hZ w4) hy (backG (W := (rest.map fun v => v.category).sum) C hZ w4 w3 r1 r2 K.2.2.2.2.2.2 hC.1 hE (fun x hx => hs x (hsub x hx))) (g := mkF B.m pc Ls (argsL.reverse ++ rest)) rfl (hsz.trans K.2.2.1.symm) (argsL := argsL) (rest := rest) (lenOf pd hlen) rfl (by show 2 * 0 + _ ≤ _; omega) (K.dec hd) (fun vm₁ _ => ⟨rfl, eT, r3, r4⟩)) (fun v h' Sf z q => ⟨[], (fun _ u => nomatch u), g v h' Sf z q⟩)
end Ne
/-- what CType.declaring gives -/
def dec (xs ds : List Int32) : List Int32 := if ds = [] then xs else xs ++ (32 : Int32) :: ds
end Jvm.OwnW
namespace Jvm.OwnW
theorem go_mono {G : Gb} {B : Cx} {M : Mt} {Q : Option Value → Heap → (Addr → Prop) → Prop} {h : Heap} {sf : List Addr} {cells slots cells' slots' pc : Nat} {Ls : Array Slot} {st : List Value} (g : Go G B M Q h sf cells' slots' pc Ls st) (hc : cells ≤ cells') (hn : slots ≤ slots') : Go G B M Q h sf cells slots pc Ls st := by
  intro T vm0 k0 locs W
  obtain ⟨X, r⟩ := W
  exact g T vm0 k0 locs ⟨X.mono hc hn, r⟩
/-- the int on the stack's top, said otherwise -/
theorem go_top {G : Gb} {B : Cx} {M : Mt} {Q : Option Value → Heap → (Addr → Prop) → Prop} {h : Heap} {sf : List Addr} {cells slots pc : Nat} {Ls : Array Slot} {st : List Value} {x y : Int32} (e : x = y) (g : Go G B M Q h sf cells slots pc Ls (.int y :: st)) : Go G B M Q h sf cells slots pc Ls (.int x :: st) := by
  rw [e]; exact g
end Jvm.OwnW

namespace Jvm.Pilot.@@N@@
open Jvm Jvm.ClassFile Sem Op Lib Jvm.Free Jvm.Stand Jvm.LawKit Jvm.RoadKit Bundle Jvm.OwnW Jvm.Pilot.@@N@@.Jvm.D
abbrev els : List (String × Nat) := consts_1
theorem pd_0 : parseMethodDescriptor "([CI[BII)I" = some ⟨[(.array .char), .int, (.array .byte), .int, .int], (some .int)⟩ := by decide +kernel
theorem pd_1 : parseMethodDescriptor "([CII)[B" = some ⟨[(.array .char), .int, .int], (some (.array .byte))⟩ := by decide +kernel
theorem pd_2 : parseMethodDescriptor "([BI)B" = some ⟨[(.array .byte), .int], (some .byte)⟩ := by decide +kernel
theorem pd_3 : parseMethodDescriptor "([CIILjava/lang/Void;)V" = some ⟨[(.array .char), .int, .int, (.object "java/lang/Void")], none⟩ := by decide +kernel
theorem pd_4 : parseMethodDescriptor "()B" = some ⟨[], (some .byte)⟩ := by decide +kernel
theorem pd_5 : parseMethodDescriptor "([B[B)Z" = some ⟨[(.array .byte), (.array .byte)], (some .boolean)⟩ := by decide +kernel
theorem pd_6 : parseMethodDescriptor "(IILjava/util/function/BiFunction;)I" = some ⟨[.int, .int, (.object "java/util/function/BiFunction")], (some .int)⟩ := by decide +kernel
theorem pd_7 : parseMethodDescriptor "(II)V" = some ⟨[.int, .int], none⟩ := by decide +kernel
theorem pd_8 : parseMethodDescriptor "()Z" = some ⟨[], (some .boolean)⟩ := by decide +kernel
theorem pd_9 : parseMethodDescriptor "([BI)C" = some ⟨[(.array .byte), .int], (some .char)⟩ := by decide +kernel
theorem pd_10 : parseMethodDescriptor "()I" = some ⟨[], (some .int)⟩ := by decide +kernel
theorem pd_11 : parseMethodDescriptor "(I)C" = some ⟨[.int], (some .char)⟩ := by decide +kernel
theorem pd_12 : parseMethodDescriptor "([C)V" = some ⟨[(.array .char)], none⟩ := by decide +kernel
theorem pd_13 : parseMethodDescriptor "(Ljava/lang/Object;)Ljava/lang/Object;" = some ⟨[(.object "java/lang/Object")], (some (.object "java/lang/Object"))⟩ := by decide +kernel
theorem pd_14 : parseMethodDescriptor "(Ljava/lang/Object;)V" = some ⟨[(.object "java/lang/Object")], none⟩ := by decide +kernel
theorem pd_15 : parseMethodDescriptor "()[Lcom/example/gentle_retry/gentleretry/rabbitmq/SubscriptionQueue$Role;" = some ⟨[], (some (.array (.object "com/example/gentle_retry/gentleretry/rabbitmq/SubscriptionQueue$Role")))⟩ := by decide +kernel
theorem pd_16 : parseMethodDescriptor "(Ljava/lang/Object;)Z" = some ⟨[(.object "java/lang/Object")], (some .boolean)⟩ := by decide +kernel
theorem pd_17 : parseMethodDescriptor "(Ljava/lang/Object;)Ljava/util/Optional;" = some ⟨[(.object "java/lang/Object")], (some (.object "java/util/Optional"))⟩ := by decide +kernel
theorem pd_18 : parseMethodDescriptor "()Ljava/util/Optional;" = some ⟨[], (some (.object "java/util/Optional"))⟩ := by decide +kernel
theorem pd_19 : parseMethodDescriptor "(Ljava/lang/String;I)C" = some ⟨[(.object "java/lang/String"), .int], (some .char)⟩ := by decide +kernel
theorem pd_20 : parseMethodDescriptor "([CI)Ljava/lang/String;" = some ⟨[(.array .char), .int], (some (.object "java/lang/String"))⟩ := by decide +kernel
theorem pd_21 : parseMethodDescriptor "(Ljava/lang/String;)Ljava/util/Optional;" = some ⟨[(.object "java/lang/String")], (some (.object "java/util/Optional"))⟩ := by decide +kernel
theorem pn_0 : plainName "java/lang/StringUTF16" = true := by first | (simp [plainName, overriddenIn]; done) | decide +kernel
def P_cfal : List (Nat × Instr × Nat) := [(0, .iload_n 1, 1), (1, .aload_n 0, 1), (2, .arraylength, 1), (3, .isub, 1), (4, .bipush 31, 2), (6, .iushr, 1), (7, .i2b, 1), (8, .ireturn, 1)]
theorem L_cfal : ∀ q ∈ P_cfal, decode jdk_52_method_15_code q.1 = .ok q.2 := by decide +kernel
def M_cfal : Mt := (("java/lang/StringUTF16", "coderFromArrayLen", ({ frames := 0, cells := 0, slots := 0, locals := 0 } : Room)), P_cfal, 2, (some .byte))
set_option maxRecDepth 65536 in
set_option maxHeartbeats 40000000 in
theorem c_cfal {G : Gb} (H : Gl tables_1 els G) {h : Heap} {t : Addr} {kb : ClassId} {n : Int32} {vs : List Value} {dv : Value} (A : Arv G.Z h t kb .byte n vs dv) :
    Ctr G [] (⟨"java/lang/StringUTF16", "coderFromArrayLen", "([BI)B"⟩ : MethodName) jdk_52_method_15_code 2 (some .byte) ({ frames := 0, cells := 0, slots := 0, locals := 0 } : Room) #[.ref t, .int n] h [] (fun v h' Sf => v = some (.int 0) ∧ h = h') := by
  refine ctr_of M_cfal rfl rfl (plainFor_of_name pn_0) L_cfal H.el (Ls := #[.val (.ref t), .val (.int n)]) (fun m => ef_ok (by show argsToLocals _ 2 = _; first | (simp [argsToLocals, Value.category]; done) | rfl)) ?_
  intro B K hE
  refine go_run K 0 2 (pc' := 2) (st' := [(.ref t), (.int n)]) rfl ?_
  refine go_arraylength K (k := 2) rfl A ?_
  refine go_run K 3 4 (pc' := 8) (st' := [(.int ((XT.ushr (n - n) (Int8.ofInt 31).toInt32)).toInt8.toInt32)]) rfl ?_
  rw [show ((XT.ushr (n - n) (Int8.ofInt 31).toInt32)).toInt8.toInt32 = (0 : Int32) from by rw [Int32.sub_self]; decide]
  refine go_ireturn K (k := 7) rfl rfl (by decide) rfl rfl rfl ?_
  intro Sf hSf
  exact ⟨rfl, rfl⟩
def P_cmp5 : List (Nat × Instr × Nat) := [(0, .iconst 0, 1), (1, .istore 5, 2), (3, .iload 5, 2), (5, .iload 4, 2), (7, .if_icmp .ge 37, 3), (10, .aload_n 0, 1), (11, .iload_n 1, 1), (12, .caload, 1), (13, .istore 6, 2), (15, .iload 6, 2), (17, .sipush 255, 3), (20, .if_icmp .le 6, 3), (23, .iload 5, 2), (25, .ireturn, 1), (26, .aload_n 2, 1), (27, .iload_n 3, 1), (28, .iload 6, 2), (30, .i2b, 1), (31, .bastore, 1), (32, .iinc 1 1, 3), (35, .iinc 3 1, 3), (38, .iinc 5 1, 3), (41, .goto (-38), 3), (44, .iload 4, 2), (46, .ireturn, 1)]
theorem L_cmp5 : ∀ q ∈ P_cmp5, decode jdk_52_method_21_code q.1 = .ok q.2 := by decide +kernel
def M_cmp5 : Mt := (("java/lang/StringUTF16", "compress", ({ frames := 0, cells := 0, slots := 0, locals := 0 } : Room)), P_cmp5, 7, (some .int))
set_option maxRecDepth 65536 in
set_option maxHeartbeats 40000000 in
theorem c_cmp5 {G : Gb} (H : Gl tables_1 els G) {h : Heap} {ca da : Addr} {kc kd : ClassId} {cs : List Int32} (hl : Lat cs) (Ac : Arv G.Z h ca kc .char cs.length.toInt32 (cs.map Value.int) (.int 0)) (Ad : Arv G.Z h da kd .byte cs.length.toInt32 (List.replicate cs.length (.int 0)) (.int 0)) (hd : G.Z.heap.size ≤ da) :
    Ctr G [] (⟨"java/lang/StringUTF16", "compress", "([CI[BII)I"⟩ : MethodName) jdk_52_method_21_code 7 (some .int) ({ frames := 0, cells := 0, slots := 0, locals := 0 } : Room) #[.ref ca, .int 0, .ref da, .int 0, .int cs.length.toInt32] h [da] (fun v h' Sf => v = some (.int cs.length.toInt32) ∧ Keep h h' [da] ∧ Arv G.Z h' da kd .byte cs.length.toInt32 (by8 cs) (.int 0)) := by
  refine ctr_of M_cmp5 rfl rfl (plainFor_of_name pn_0) L_cmp5 H.el (Ls := #[.val (.ref ca), .val (.int (0 : Int32)), .val (.ref da), .val (.int (0 : Int32)), .val (.int cs.length.toInt32), .unset, .unset]) (fun m => ef_ok (by show argsToLocals _ 7 = _; first | (simp [argsToLocals, Value.category]; done) | rfl)) ?_
  intro B K hE
  have hlt := lat_lt hl
  refine go_run K 0 2 (pc' := 3) (Ls' := #[.val (.ref ca), .val (.int (0 : Int32)), .val (.ref da), .val (.int (0 : Int32)), .val (.int cs.length.toInt32), .val (.int (0 : Int32)), .unset]) (st' := []) rfl ?_
  have loop : ∀ (k i : Nat) (h1 : Heap) (o : Slot), i + k = cs.length → Keep h h1 [da] → Arv G.Z h1 ca kc .char cs.length.toInt32 (cs.map Value.int) (.int 0) → Arv G.Z h1 da kd .byte cs.length.toInt32 (by8 (cs.take i) ++ List.replicate k (.int 0)) (.int 0) → (o = .unset ∨ ∃ w, o = .val (.int w)) →
      Go G B M_cmp5 (fun v h' Sf => v = some (.int cs.length.toInt32) ∧ Keep h h' [da] ∧ Arv G.Z h' da kd .byte cs.length.toInt32 (by8 cs) (.int 0)) h1 [da] 0 0 3 #[.val (.ref ca), .val (.int i.toInt32), .val (.ref da), .val (.int i.toInt32), .val (.int cs.length.toInt32), .val (.int i.toInt32), o] [] := by
    intro k; induction k with
    | zero =>
      intro i h1 o hi hK Ac Ad ho
      refine go_run K 2 2 (pc' := 7) (st' := [(.int cs.length.toInt32), (.int i.toInt32)]) rfl ?_
      refine go_icmpge K (k := 4) rfl (pc' := 44) (by decide) (fun _ => ?_) (fun q => absurd q (len_nlt (by omega) (by omega)))
      refine go_run K 23 1 (pc' := 46) (st' := [(.int cs.length.toInt32)]) rfl ?_
      refine go_ireturn K (k := 24) rfl rfl (by decide) rfl rfl rfl ?_
      intro Sf hSf
      refine ⟨rfl, hK, ?_⟩
      rw [List.replicate_zero, List.append_nil, List.take_of_length_le (by omega)] at Ad
      exact Ad
    | succ k ih =>
      intro i h1 o hi hK Ac Ad ho
      have hin : i < cs.length := by omega
      have hc := hl.2 _ (List.getElem_mem hin)
      refine go_run K 2 2 (pc' := 7) (st' := [(.int cs.length.toInt32), (.int i.toInt32)]) rfl ?_
      refine go_icmpge K (k := 4) rfl (pc' := 44) (by decide) (fun q => absurd (len_lt hlt hin) q) (fun _ => ?_)
      refine go_run K 5 2 (pc' := 12) (st' := [(.int i.toInt32), (.ref ca)]) rfl ?_
      refine go_caload K (k := 7) rfl Ac ⟨len_nn (by omega), len_lt hlt hin⟩ (v := .int cs[i]) (by rw [len_nat (by omega)]; exact get_map hin) ?_
      obtain rfl | ⟨w0, rfl⟩ := ho
      all_goals
        refine go_run K 8 3 (pc' := 20) (Ls' := #[.val (.ref ca), .val (.int i.toInt32), .val (.ref da), .val (.int i.toInt32), .val (.int cs.length.toInt32), .val (.int i.toInt32), .val (.int cs[i])]) (st' := [(.int (255 : Int32)), (.int cs[i])]) rfl ?_
        refine go_icmple K (k := 11) rfl (pc' := 26) (by decide) (fun _ => ?_) (fun q => absurd q hc.2)
        refine go_run K 14 4 (pc' := 31) (st' := [(.int (cs[i]).toInt8.toInt32), (.int i.toInt32), (.ref da)]) rfl ?_
        refine go_bastore K (k := 18) rfl Ad (i := i) ⟨len_nn (by omega), len_lt hlt hin⟩ (len_nat (by omega)) (by rw [List.length_append, by8_len, List.length_take, List.length_replicate]; omega) hd (List.mem_cons_self ..) ?_
        intro h1 W2 A3
        refine go_run K 19 4 (pc' := 3) (Ls' := #[.val (.ref ca), .val (.int (i.toInt32 + Int32.ofInt 1)), .val (.ref da), .val (.int (i.toInt32 + Int32.ofInt 1)), .val (.int cs.length.toInt32), .val (.int (i.toInt32 + Int32.ofInt 1)), .val (.int cs[i])]) (st' := []) rfl ?_
        rw [len_succ i]
        refine ih (i + 1) h1 _ (by omega) (hK.wr W2 (Or.inl (List.mem_cons_self ..))) (Ac.other W2 (Arv.ty_ne Ac Ad (by decide))) ?_ (Or.inr ⟨_, rfl⟩)
        rw [set_by8 hin] at A3
        exact A3
  exact loop cs.length 0 h .unset (by omega) (Keep.refl _ _) Ac Ad (Or.inl rfl)
def P_cmp3 : List (Nat × Instr × Nat) := [(0, .iload_n 2, 1), (1, .newarray .byte, 2), (3, .astore_n 3, 1), (4, .aload_n 0, 1), (5, .iload_n 1, 1), (6, .aload_n 3, 1), (7, .iconst 0, 1), (8, .iload_n 2, 1), (9, .invokestatic 115, 3), (12, .istore 4, 2), (14, .iload 4, 2), (16, .iload_n 2, 1), (17, .if_icmp .eq 40, 3), (20, .aload_n 0, 1), (21, .iload_n 1, 1), (22, .iload_n 2, 1), (23, .invokestatic 119, 3), (26, .astore 5, 2), (28, .aload 5, 2), (30, .iload 4, 2), (32, .invokestatic 71, 3), (35, .sipush 255, 3), (38, .if_icmp .gt 16, 3), (41, .aload 5, 2), (43, .iconst 0, 1), (44, .aload_n 3, 1), (45, .iconst 0, 1), (46, .iload_n 2, 1), (47, .invokestatic 123, 3), (50, .iload_n 2, 1), (51, .if_icmp .eq 6, 3), (54, .aload 5, 2), (56, .areturn, 1), (57, .aload_n 3, 1), (58, .areturn, 1)]
theorem L_cmp3 : ∀ q ∈ P_cmp3, decode jdk_52_method_16_code q.1 = .ok q.2 := by decide +kernel
def M_cmp3 : Mt := (("java/lang/StringUTF16", "compress", ({ frames := 1, cells := 1, slots := 7, locals := 18 } : Room)), P_cmp3, 6, (some (.array .byte)))
set_option maxRecDepth 65536 in
set_option maxHeartbeats 40000000 in
theorem c_cmp3 {G : Gb} (H : Gl tables_1 els G) {h : Heap} {ca : Addr} {kc : ClassId} {cs : List Int32} (hl : Lat cs) (hcap : cs.length ≤ 7) (Ac : Arv G.Z h ca kc .char cs.length.toInt32 (cs.map Value.int) (.int 0)) :
    Ctr G [] (⟨"java/lang/StringUTF16", "compress", "([CII)[B"⟩ : MethodName) jdk_52_method_16_code 6 (some (.array .byte)) ({ frames := 1, cells := 1, slots := 7, locals := 18 } : Room) #[.ref ca, .int 0, .int cs.length.toInt32] h [] (fun v h' Sf => ∃ (t : Addr) (kb : ClassId), v = some (.ref t) ∧ Ext h h' ∧ Arv G.Z h' t kb .byte cs.length.toInt32 (by8 cs) (.int 0) ∧ G.Z.heap.size ≤ t) := by
  refine ctr_of M_cmp3 rfl rfl (plainFor_of_name pn_0) L_cmp3 H.el (Ls := #[.val (.ref ca), .val (.int (0 : Int32)), .val (.int cs.length.toInt32), .unset, .unset, .unset]) (fun m => ef_ok (by show argsToLocals _ 6 = _; first | (simp [argsToLocals, Value.category]; done) | rfl)) ?_
  intro B K hE
  have hlt := lat_lt hl
  refine go_run K 0 1 (pc' := 1) (st' := [(.int cs.length.toInt32)]) rfl ?_
  refine go_newarray K (k := 1) rfl (H.w 4 rfl) (len_nn hlt) (cap := 7) (by rw [len_nat hlt]; exact hcap) rfl rfl rfl ?_
  intro h2 a1 k3 e4 g5 E6 A7
  have A7' : Arv G.Z h2 a1 k3 .byte cs.length.toInt32 (List.replicate cs.length (.int 0)) (.int 0) := Arv.pad A7 (pad_rep [] _ _)
  refine go_run K 2 6 (pc' := 9) (Ls' := #[.val (.ref ca), .val (.int (0 : Int32)), .val (.int cs.length.toInt32), .val (.ref a1), .unset, .unset]) (st' := [(.int cs.length.toInt32), (.int (0 : Int32)), (.ref a1), (.int (0 : Int32)), (.ref ca)]) rfl ?_
  have c8 := (Ac.ext E6)
  refine go_static K (k := 8) rfl (H.w 67 rfl) (H.w 68 rfl) (H.w 65 rfl) (H.w 69 rfl) (by decide) pd_0 (c_cmp5 (cs := cs) H hl c8 A7' g5) (argsL := [(.ref ca), (.int (0 : Int32)), (.ref a1), (.int (0 : Int32)), (.int cs.length.toInt32)]) (rest := []) rfl rfl rfl (subS (List.mem_cons_self ..) sub0) rfl ?_
  rintro _ h9 _ - ⟨rfl, K10, A11⟩
  show Go G B M_cmp3 _ h9 (a1 :: []) 1 7 12 #[.val (.ref ca), .val (.int (0 : Int32)), .val (.int cs.length.toInt32), .val (.ref a1), .unset, .unset] [(.int cs.length.toInt32)]
  refine go_run K 9 3 (pc' := 17) (Ls' := #[.val (.ref ca), .val (.int (0 : Int32)), .val (.int cs.length.toInt32), .val (.ref a1), .val (.int cs.length.toInt32), .unset]) (st' := [(.int cs.length.toInt32), (.int cs.length.toInt32)]) rfl ?_
  refine go_icmpeq K (k := 12) rfl (pc' := 57) (by decide) (fun _ => ?_) (fun q => absurd rfl q)
  refine go_run K 33 1 (pc' := 58) (st' := [(.ref a1)]) rfl ?_
  have X12 : Ext h h9 := (Ext.keepN E6 K10 (allS (Nat.le_trans (Nat.le_refl _) (Nat.le_of_eq e4.symm)) all0))
  refine go_areturn K (k := 34) rfl rfl rfl rfl rfl rfl rfl ?_
  intro Sf hSf
  exact ⟨_, _, rfl, X12, A11, g5⟩
theorem pn_1 : plainName "java/lang/String" = true := by first | (simp [plainName, overriddenIn]; done) | decide +kernel
def P_si4 : List (Nat × Instr × Nat) := [(0, .aload_n 0, 1), (1, .invokespecial 1, 3), (4, .iload_n 3, 1), (5, .ifCond .ne 22, 3), (8, .aload_n 0, 1), (9, .ldc 7, 2), (11, .getfield 9, 3), (14, .putfield 9, 3), (17, .aload_n 0, 1), (18, .ldc 7, 2), (20, .getfield 15, 3), (23, .putfield 15, 3), (26, .return_, 1), (27, .getstatic 38, 3), (30, .ifCond .eq 28, 3), (33, .aload_n 1, 1), (34, .iload_n 2, 1), (35, .iload_n 3, 1), (36, .invokestatic 177, 3), (39, .astore 5, 2), (41, .aload_n 0, 1), (42, .aload 5, 2), (44, .iload_n 3, 1), (45, .invokestatic 47, 3), (48, .putfield 15, 3), (51, .aload_n 0, 1), (52, .aload 5, 2), (54, .putfield 9, 3), (57, .return_, 1), (58, .aload_n 0, 1), (59, .iconst 1, 1), (60, .putfield 15, 3), (63, .aload_n 0, 1), (64, .aload_n 1, 1), (65, .iload_n 2, 1), (66, .iload_n 3, 1), (67, .invokestatic 180, 3), (70, .putfield 9, 3), (73, .return_, 1)]
theorem L_si4 : ∀ q ∈ P_si4, decode jdk_42_method_149_code q.1 = .ok q.2 := by decide +kernel
def M_si4 : Mt := (("java/lang/String", "<init>", ({ frames := 2, cells := 4, slots := 8, locals := 35 } : Room)), P_si4, 6, none)
set_option maxRecDepth 65536 in
set_option maxHeartbeats 40000000 in
theorem c_si4 {G : Gb} (H : Gl tables_1 els G) {h : Heap} {a ca : Addr} {kc : ClassId} {cs : List Int32} (hl : Lat cs) (hcap : cs.length ≤ 7) (E0 : Exa G.Z h a "java/lang/String") (V0 : Fld G.Z h a "java/lang/String" "value" "[B" .null) (C0 : Fld G.Z h a "java/lang/String" "coder" "B" (.int 0)) (g0 : G.Z.heap.size ≤ a) (Ac : Arv G.Z h ca kc .char cs.length.toInt32 (cs.map Value.int) (.int 0)) :
    Ctr G [] (⟨"java/lang/String", "<init>", "([CIILjava/lang/Void;)V"⟩ : MethodName) jdk_42_method_149_code 6 none ({ frames := 2, cells := 4, slots := 8, locals := 35 } : Room) #[.ref a, .ref ca, .int 0, .int cs.length.toInt32, .null] h [a] (fun v h' Sf => v = none ∧ Keep h h' [a] ∧ Str G h' a cs) := by
  refine ctr_of M_si4 rfl rfl (plainFor_of_name pn_1) L_si4 H.el (Ls := #[.val (.ref a), .val (.ref ca), .val (.int (0 : Int32)), .val (.int cs.length.toInt32), .val .null, .unset]) (fun m => ef_ok (by show argsToLocals _ 6 = _; first | (simp [argsToLocals, Value.category]; done) | rfl)) ?_
  intro B K hE
  have hlt := lat_lt hl
  obtain ⟨cz, hcs, hcz⟩ := H.cs
  refine go_run K 0 1 (pc' := 1) (st' := [(.ref a)]) rfl ?_
  refine go_init0 K (k := 1) rfl (H.w 60 rfl) (H.w 61 rfl) (H.w 62 rfl) rfl rfl rfl ?_
  refine go_run K 2 1 (pc' := 5) (st' := [(.int cs.length.toInt32)]) rfl ?_
  refine go_ifne K (k := 3) rfl (pc' := 27) (by decide) (fun hne1 => ?_) (fun hz2 => ?_)
  · refine go_getstatic K (k := 13) rfl (host := "") (Or.inl (H.w 25 rfl)) Via.refl hcs ?_
    refine go_ifeq K (k := 14) rfl (pc' := 58) (by decide) (fun q => absurd q hcz) (fun _ => ?_)
    refine go_run K 15 3 (pc' := 36) (st' := [(.int cs.length.toInt32), (.int (0 : Int32)), (.ref ca)]) rfl ?_
    refine go_static K (k := 18) rfl (H.w 63 rfl) (H.w 64 rfl) (H.w 65 rfl) (H.w 66 rfl) (by decide) pd_1 (c_cmp3 (cs := cs) H hl hcap Ac) (argsL := [(.ref ca), (.int (0 : Int32)), (.int cs.length.toInt32)]) (rest := []) rfl rfl rfl sub0 rfl ?_
    rintro _ h28 _ - ⟨t29, k30, rfl, E31, A32, g33⟩
    show Go G B M_si4 _ h28 (a :: []) 1 7 39 #[.val (.ref a), .val (.ref ca), .val (.int (0 : Int32)), .val (.int cs.length.toInt32), .val .null, .unset] [(.ref t29)]
    refine go_run K 19 4 (pc' := 45) (Ls' := #[.val (.ref a), .val (.ref ca), .val (.int (0 : Int32)), .val (.int cs.length.toInt32), .val .null, .val (.ref t29)]) (st' := [(.int cs.length.toInt32), (.ref t29), (.ref a)]) rfl ?_
    refine go_static K (k := 23) rfl (H.w 70 rfl) (H.w 71 rfl) (H.w 65 rfl) (H.w 72 rfl) (by decide) pd_2 (c_cfal H A32) (argsL := [(.ref t29), (.int cs.length.toInt32)]) (rest := [(.ref a)]) rfl rfl rfl sub0 rfl ?_
    rintro _ _ _ - ⟨rfl, rfl⟩
    show Go G B M_si4 _ h28 (a :: []) 1 7 48 #[.val (.ref a), .val (.ref ca), .val (.int (0 : Int32)), .val (.int cs.length.toInt32), .val .null, .val (.ref t29)] [(.int (0 : Int32)), (.ref a)]
    have c34 := (C0.ext E31)
    have c35 := (E0.ext E31)
    refine go_putfield K (k := 24) rfl (host := "") (Or.inl (H.w 26 rfl)) Via.refl c34 c35 (Or.inr ⟨(H.w 6 rfl), rfl, rfl⟩) (H.w 3 rfl) (ty := .byte) (by decide) rfl rfl g0 (Or.inl (List.mem_cons_self ..)) ?_
    intro h36 W37
    have c38 := (V0.ext E31)
    have F39 : Exa G.Z h36 a "java/lang/String" := Exa.wr W37 c35
    have F40 : Fld G.Z h36 a "java/lang/String" "value" "[B" .null := Fld.other W37 c38 (Or.inr (slot_ne (Or.inr (H.w 5 rfl)) (Or.inr (H.w 6 rfl)) (by decide) (t := (.array .byte)) (t' := .byte) (by decide) (by decide)))
    have F41 : Fld G.Z h36 a "java/lang/String" "coder" "B" (.int (0 : Int32)) := Fld.same W37 c34
    refine go_run K 25 2 (pc' := 54) (st' := [(.ref t29), (.ref a)]) rfl ?_
    refine go_putfield K (k := 27) rfl (host := "") (Or.inl (H.w 19 rfl)) Via.refl F40 F39 (Or.inr ⟨(H.w 5 rfl), rfl, rfl⟩) (H.w 3 rfl) (ty := (.array .byte)) (by decide) rfl rfl g0 (Or.inl (List.mem_cons_self ..)) ?_
    intro h42 W43
    have F44 : Exa G.Z h42 a "java/lang/String" := Exa.wr W43 F39
    have F45 : Fld G.Z h42 a "java/lang/String" "value" "[B" (.ref t29) := Fld.same W43 F40
    have F46 : Fld G.Z h42 a "java/lang/String" "coder" "B" (.int (0 : Int32)) := Fld.other W43 F41 (Or.inr (slot_ne (Or.inr (H.w 6 rfl)) (Or.inr (H.w 5 rfl)) (by decide) (t := .byte) (t' := (.array .byte)) (by decide) (by decide)))
    have c47 := (Arv.other (Arv.other A32 W37 (Exa.neArv c35 A32 (H.w 3 rfl)).symm) W43 (Exa.neArv F39 (Arv.other A32 W37 (Exa.neArv c35 A32 (H.w 3 rfl)).symm) (H.w 3 rfl)).symm)
    refine go_return K (k := 28) rfl rfl rfl rfl ?_
    intro Sf hSf
    exact ⟨rfl, ((((Keep.refl _ [a]).ext E31).wr W37 (Or.inl (List.mem_cons_self ..))).wr W43 (Or.inl (List.mem_cons_self ..))), _, _, F44, F46, F45, c47⟩
  · have hnil : cs = [] := List.eq_nil_of_length_eq_zero (len_zero hlt hz2)
    refine go_run K 4 1 (pc' := 9) (st' := [(.ref a)]) rfl ?_
    refine go_ldcT K (k := 5) rfl (H.w 121 rfl) H.ws (H.mem (by decide)) (cs := []) (by decide) (by decide) (n := 0) rfl rfl rfl rfl ?_
    intro h4 a3 E5 S6
    obtain ⟨t1, k1, e1, e2, e3, e4⟩ := S6
    refine go_getfield K (k := 6) rfl (host := "") (Or.inl (H.w 19 rfl)) Via.refl e3 ?_
    have c7 := (V0.ext E5)
    have c8 := (E0.ext E5)
    refine go_putfield K (k := 7) rfl (host := "") (Or.inl (H.w 19 rfl)) Via.refl c7 c8 (Or.inr ⟨(H.w 5 rfl), rfl, rfl⟩) (H.w 3 rfl) (ty := (.array .byte)) (by decide) rfl rfl g0 (Or.inl (List.mem_cons_self ..)) ?_
    intro h9 W10
    have c11 := (C0.ext E5)
    have F12 : Exa G.Z h9 a "java/lang/String" := Exa.wr W10 c8
    have F13 : Fld G.Z h9 a "java/lang/String" "value" "[B" (.ref t1) := Fld.same W10 c7
    have F14 : Fld G.Z h9 a "java/lang/String" "coder" "B" (.int (0 : Int32)) := Fld.other W10 c11 (Or.inr (slot_ne (Or.inr (H.w 6 rfl)) (Or.inr (H.w 5 rfl)) (by decide) (t := .byte) (t' := (.array .byte)) (by decide) (by decide)))
    refine go_run K 8 1 (pc' := 18) (st' := [(.ref a)]) rfl ?_
    refine go_ldcT K (k := 9) rfl (H.w 121 rfl) H.ws (H.mem (by decide)) (cs := []) (by decide) (by decide) (n := 0) rfl rfl rfl rfl ?_
    intro h16 a15 E17 S18
    obtain ⟨t2, k2, f1, f2, f3, f4⟩ := S18
    refine go_getfield K (k := 10) rfl (host := "") (Or.inl (H.w 26 rfl)) Via.refl f2 ?_
    have c19 := (F14.ext E17)
    have c20 := (F12.ext E17)
    refine go_putfield K (k := 11) rfl (host := "") (Or.inl (H.w 26 rfl)) Via.refl c19 c20 (Or.inr ⟨(H.w 6 rfl), rfl, rfl⟩) (H.w 3 rfl) (ty := .byte) (by decide) rfl rfl g0 (Or.inl (List.mem_cons_self ..)) ?_
    intro h21 W22
    have c23 := (F13.ext E17)
    have F24 : Exa G.Z h21 a "java/lang/String" := Exa.wr W22 c20
    have F25 : Fld G.Z h21 a "java/lang/String" "value" "[B" (.ref t1) := Fld.other W22 c23 (Or.inr (slot_ne (Or.inr (H.w 5 rfl)) (Or.inr (H.w 6 rfl)) (by decide) (t := (.array .byte)) (t' := .byte) (by decide) (by decide)))
    have F26 : Fld G.Z h21 a "java/lang/String" "coder" "B" (.int (0 : Int32)) := Fld.same W22 c19
    have c27 := (Arv.other ((Arv.other e4 W10 (Exa.neArv c8 e4 (H.w 3 rfl)).symm).ext E17) W22 (Exa.neArv c20 ((Arv.other e4 W10 (Exa.neArv c8 e4 (H.w 3 rfl)).symm).ext E17) (H.w 3 rfl)).symm)
    refine go_return K (k := 12) rfl rfl rfl rfl ?_
    intro Sf hSf
    exact ⟨rfl, (((((Keep.refl _ [a]).ext E5).wr W10 (Or.inl (List.mem_cons_self ..))).ext E17).wr W22 (Or.inl (List.mem_cons_self ..))), _, _, F24, F26, F25, (by rw [hnil]; exact c27)⟩
def P_si : List (Nat × Instr × Nat) := [(0, .aload_n 0, 1), (1, .aload_n 1, 1), (2, .iconst 0, 1), (3, .aload_n 1, 1), (4, .arraylength, 1), (5, .aconst_null, 1), (6, .invokespecial 27, 3), (9, .return_, 1)]
theorem L_si : ∀ q ∈ P_si, decode jdk_42_method_3_code q.1 = .ok q.2 := by decide +kernel
def M_si : Mt := (("java/lang/String", "<init>", ({ frames := 3, cells := 4, slots := 8, locals := 52 } : Room)), P_si, 2, none)
set_option maxRecDepth 65536 in
set_option maxHeartbeats 40000000 in
theorem c_si {G : Gb} (H : Gl tables_1 els G) {h : Heap} {a ca : Addr} {kc : ClassId} {cs : List Int32} (hl : Lat cs) (hcap : cs.length ≤ 7) (E0 : Exa G.Z h a "java/lang/String") (V0 : Fld G.Z h a "java/lang/String" "value" "[B" .null) (C0 : Fld G.Z h a "java/lang/String" "coder" "B" (.int 0)) (g0 : G.Z.heap.size ≤ a) (Ac : Arv G.Z h ca kc .char cs.length.toInt32 (cs.map Value.int) (.int 0)) :
    Ctr G [] (⟨"java/lang/String", "<init>", "([C)V"⟩ : MethodName) jdk_42_method_3_code 2 none ({ frames := 3, cells := 4, slots := 8, locals := 52 } : Room) #[.ref a, .ref ca] h [a] (fun v h' Sf => v = none ∧ Keep h h' [a] ∧ Str G h' a cs) := by
  refine ctr_of M_si rfl rfl (plainFor_of_name pn_1) L_si H.el (Ls := #[.val (.ref a), .val (.ref ca)]) (fun m => ef_ok (by show argsToLocals _ 2 = _; first | (simp [argsToLocals, Value.category]; done) | rfl)) ?_
  intro B K hE
  refine go_run K 0 4 (pc' := 4) (st' := [(.ref ca), (.int (0 : Int32)), (.ref ca), (.ref a)]) rfl ?_
  refine go_arraylength K (k := 4) rfl Ac ?_
  refine go_run K 5 1 (pc' := 6) (st' := [.null, (.int cs.length.toInt32), (.int (0 : Int32)), (.ref ca), (.ref a)]) rfl ?_
  refine go_special K (k := 6) rfl rfl (H.w 56 rfl) (H.w 57 rfl) (H.w 2 rfl) (H.w 59 rfl) (by decide) pd_3 (c_si4 (cs := cs) H hl hcap E0 V0 C0 g0 Ac) (argsL := [(.ref ca), (.int (0 : Int32)), (.int cs.length.toInt32), .null]) (rest := []) rfl rfl rfl (subS (List.mem_cons_self ..) sub0) rfl ?_
  rintro _ h1 _ - ⟨rfl, K2, S3⟩
  show Go G B M_si _ h1 (a :: []) 4 8 9 #[.val (.ref a), .val (.ref ca)] []
  refine go_return K (k := 7) rfl rfl rfl rfl ?_
  intro Sf hSf
  exact ⟨rfl, ((Keep.refl _ [a]).trans K2 (allS (Or.inl (List.mem_cons_self ..)) all0)), S3⟩
def P_cod : List (Nat × Instr × Nat) := [(0, .getstatic 38, 3), (3, .ifCond .eq 10, 3), (6, .aload_n 0, 1), (7, .getfield 15, 3), (10, .goto 4, 3), (13, .iconst 1, 1), (14, .ireturn, 1)]
theorem L_cod : ∀ q ∈ P_cod, decode jdk_42_method_152_code q.1 = .ok q.2 := by decide +kernel
def M_cod : Mt := (("java/lang/String", "coder", ({ frames := 0, cells := 0, slots := 0, locals := 0 } : Room)), P_cod, 1, (some .byte))
set_option maxRecDepth 65536 in
set_option maxHeartbeats 40000000 in
theorem c_cod {G : Gb} (H : Gl tables_1 els G) {h : Heap} {a : Addr} {cs : List Int32} (S1 : Str G h a cs) :
    Ctr G [] (⟨"java/lang/String", "coder", "()B"⟩ : MethodName) jdk_42_method_152_code 1 (some .byte) ({ frames := 0, cells := 0, slots := 0, locals := 0 } : Room) #[.ref a] h [] (fun v h' Sf => v = some (.int 0) ∧ h = h') := by
  refine ctr_of M_cod rfl rfl (plainFor_of_name pn_1) L_cod H.el (Ls := #[.val (.ref a)]) (fun m => ef_ok (by show argsToLocals _ 1 = _; first | (simp [argsToLocals, Value.category]; done) | rfl)) ?_
  intro B K hE
  obtain ⟨cz, hcs, hcz⟩ := H.cs
  obtain ⟨t1, k2, e3, e4, e5, e6⟩ := id S1
  refine go_getstatic K (k := 0) rfl (host := "") (Or.inl (H.w 25 rfl)) Via.refl hcs ?_
  refine go_ifeq K (k := 1) rfl (pc' := 13) (by decide) (fun q => absurd q hcz) (fun _ => ?_)
  refine go_run K 2 1 (pc' := 7) (st' := [(.ref a)]) rfl ?_
  refine go_getfield K (k := 3) rfl (host := "") (Or.inl (H.w 26 rfl)) Via.refl e4 ?_
  refine go_run K 4 1 (pc' := 14) (st' := [(.int (0 : Int32))]) rfl ?_
  refine go_ireturn K (k := 6) rfl rfl (by decide) rfl rfl rfl ?_
  intro Sf hSf
  exact ⟨rfl, rfl⟩
def P_isl : List (Nat × Instr × Nat) := [(0, .getstatic 38, 3), (3, .ifCond .eq 14, 3), (6, .aload_n 0, 1), (7, .getfield 15, 3), (10, .ifCond .ne 7, 3), (13, .iconst 1, 1), (14, .goto 4, 3), (17, .iconst 0, 1), (18, .ireturn, 1)]
theorem L_isl : ∀ q ∈ P_isl, decode jdk_42_method_154_code q.1 = .ok q.2 := by decide +kernel
def M_isl : Mt := (("java/lang/String", "isLatin1", ({ frames := 0, cells := 0, slots := 0, locals := 0 } : Room)), P_isl, 1, (some .boolean))
set_option maxRecDepth 65536 in
set_option maxHeartbeats 40000000 in
theorem c_isl {G : Gb} (H : Gl tables_1 els G) {h : Heap} {a : Addr} {cs : List Int32} (S1 : Str G h a cs) :
    Ctr G [] (⟨"java/lang/String", "isLatin1", "()Z"⟩ : MethodName) jdk_42_method_154_code 1 (some .boolean) ({ frames := 0, cells := 0, slots := 0, locals := 0 } : Room) #[.ref a] h [] (fun v h' Sf => v = some (.int 1) ∧ h = h') := by
  refine ctr_of M_isl rfl rfl (plainFor_of_name pn_1) L_isl H.el (Ls := #[.val (.ref a)]) (fun m => ef_ok (by show argsToLocals _ 1 = _; first | (simp [argsToLocals, Value.category]; done) | rfl)) ?_
  intro B K hE
  obtain ⟨cz, hcs, hcz⟩ := H.cs
  obtain ⟨t1, k2, e3, e4, e5, e6⟩ := id S1
  refine go_getstatic K (k := 0) rfl (host := "") (Or.inl (H.w 25 rfl)) Via.refl hcs ?_
  refine go_ifeq K (k := 1) rfl (pc' := 17) (by decide) (fun q => absurd q hcz) (fun _ => ?_)
  refine go_run K 2 1 (pc' := 7) (st' := [(.ref a)]) rfl ?_
  refine go_getfield K (k := 3) rfl (host := "") (Or.inl (H.w 26 rfl)) Via.refl e4 ?_
  refine go_ifne K (k := 4) rfl (pc' := 17) (by decide) (fun q => absurd rfl q) (fun _ => ?_)
  refine go_run K 5 2 (pc' := 18) (st' := [(.int (1 : Int32))]) rfl ?_
  refine go_ireturn K (k := 8) rfl rfl (by decide) rfl rfl rfl ?_
  intro Sf hSf
  exact ⟨rfl, rfl⟩
def P_len : List (Nat × Instr × Nat) := [(0, .aload_n 0, 1), (1, .getfield 9, 3), (4, .arraylength, 1), (5, .aload_n 0, 1), (6, .invokevirtual 335, 3), (9, .ishr, 1), (10, .ireturn, 1)]
theorem L_len : ∀ q ∈ P_len, decode jdk_42_method_54_code q.1 = .ok q.2 := by decide +kernel
def M_len : Mt := (("java/lang/String", "length", ({ frames := 1, cells := 0, slots := 0, locals := 13 } : Room)), P_len, 1, (some .int))
set_option maxRecDepth 65536 in
set_option maxHeartbeats 40000000 in
theorem c_len {G : Gb} (H : Gl tables_1 els G) {h : Heap} {a : Addr} {cs : List Int32} (S1 : Str G h a cs) :
    Ctr G [] (⟨"java/lang/String", "length", "()I"⟩ : MethodName) jdk_42_method_54_code 1 (some .int) ({ frames := 1, cells := 0, slots := 0, locals := 13 } : Room) #[.ref a] h [] (fun v h' Sf => v = some (.int cs.length.toInt32) ∧ h = h') := by
  refine ctr_of M_len rfl rfl (plainFor_of_name pn_1) L_len H.el (Ls := #[.val (.ref a)]) (fun m => ef_ok (by show argsToLocals _ 1 = _; first | (simp [argsToLocals, Value.category]; done) | rfl)) ?_
  intro B K hE
  obtain ⟨t1, k2, e3, e4, e5, e6⟩ := id S1
  refine go_run K 0 1 (pc' := 1) (st' := [(.ref a)]) rfl ?_
  refine go_getfield K (k := 1) rfl (host := "") (Or.inl (H.w 19 rfl)) Via.refl e5 ?_
  refine go_arraylength K (k := 2) rfl e6 ?_
  refine go_run K 3 1 (pc' := 6) (st' := [(.ref a), (.int cs.length.toInt32)]) rfl ?_
  refine go_virt0 K (k := 4) rfl (H.w 20 rfl) (H.w 23 rfl) (H.w 22 rfl) (H.w 2 rfl) (H.w 24 rfl) (by decide) pd_4 S1.exa (c_cod H S1) (argsL := []) (rest := [(.int cs.length.toInt32)]) rfl rfl rfl sub0 rfl ?_
  rintro _ _ _ - ⟨rfl, rfl⟩
  show Go G B M_len _ h [] 0 0 9 #[.val (.ref a)] [(.int (0 : Int32)), (.int cs.length.toInt32)]
  refine go_run K 5 1 (pc' := 10) (st' := [(.int (cs.length.toInt32 >>> ((0 : Int32) &&& 31)))]) rfl ?_
  rw [shr0]
  refine go_ireturn K (k := 6) rfl rfl (by decide) rfl rfl rfl ?_
  intro Sf hSf
  exact ⟨rfl, rfl⟩
theorem pn_2 : plainName "java/lang/StringLatin1" = true := by first | (simp [plainName, overriddenIn]; done) | decide +kernel
def P_leq : List (Nat × Instr × Nat) := [(0, .aload_n 0, 1), (1, .arraylength, 1), (2, .aload_n 1, 1), (3, .arraylength, 1), (4, .if_icmp .ne 30, 3), (7, .iconst 0, 1), (8, .istore_n 2, 1), (9, .iload_n 2, 1), (10, .aload_n 0, 1), (11, .arraylength, 1), (12, .if_icmp .ge 20, 3), (15, .aload_n 0, 1), (16, .iload_n 2, 1), (17, .baload, 1), (18, .aload_n 1, 1), (19, .iload_n 2, 1), (20, .baload, 1), (21, .if_icmp .eq 5, 3), (24, .iconst 0, 1), (25, .ireturn, 1), (26, .iinc 2 1, 3), (29, .goto (-20), 3), (32, .iconst 1, 1), (33, .ireturn, 1), (34, .iconst 0, 1), (35, .ireturn, 1)]
theorem L_leq : ∀ q ∈ P_leq, decode jdk_43_method_13_code q.1 = .ok q.2 := by decide +kernel
def M_leq : Mt := (("java/lang/StringLatin1", "equals", ({ frames := 0, cells := 0, slots := 0, locals := 0 } : Room)), P_leq, 3, (some .boolean))
set_option maxRecDepth 65536 in
set_option maxHeartbeats 40000000 in
theorem c_leq {G : Gb} (H : Gl tables_1 els G) {h : Heap} {t u : Addr} {kt ku : ClassId} {cs ds : List Int32} (l1 : Lat cs) (l2 : Lat ds) (A1 : Arv G.Z h t kt .byte cs.length.toInt32 (by8 cs) (.int 0)) (A2 : Arv G.Z h u ku .byte ds.length.toInt32 (by8 ds) (.int 0)) :
    Ctr G [] (⟨"java/lang/StringLatin1", "equals", "([B[B)Z"⟩ : MethodName) jdk_43_method_13_code 3 (some .boolean) ({ frames := 0, cells := 0, slots := 0, locals := 0 } : Room) #[.ref t, .ref u] h [] (fun v h' Sf => ∃ r : Int32, v = some (.int r) ∧ h = h' ∧ ((r = 1 ∧ cs = ds) ∨ (r = 0 ∧ ¬ cs = ds))) := by
  refine ctr_of M_leq rfl rfl (plainFor_of_name pn_2) L_leq H.el (Ls := #[.val (.ref t), .val (.ref u), .unset]) (fun m => ef_ok (by show argsToLocals _ 3 = _; first | (simp [argsToLocals, Value.category]; done) | rfl)) ?_
  intro B K hE
  have hl1 := lat_lt l1
  have hl2 := lat_lt l2
  refine go_run K 0 1 (pc' := 1) (st' := [(.ref t)]) rfl ?_
  refine go_arraylength K (k := 1) rfl A1 ?_
  refine go_run K 2 1 (pc' := 3) (st' := [(.ref u), (.int cs.length.toInt32)]) rfl ?_
  refine go_arraylength K (k := 3) rfl A2 ?_
  refine go_icmpne K (k := 4) rfl (pc' := 34) (by decide) (fun q1 => ?_) (fun q2 => ?_)
  · refine go_run K 24 1 (pc' := 35) (st' := [(.int (0 : Int32))]) rfl ?_
    refine go_ireturn K (k := 25) rfl rfl (by decide) rfl rfl rfl ?_
    intro Sf hSf
    exact ⟨0, rfl, rfl, Or.inr ⟨rfl, fun e => q1 (by rw [e])⟩⟩
  · have hlen : cs.length = ds.length := len_inj hl1 hl2 q2
    refine go_run K 5 2 (pc' := 9) (Ls' := #[.val (.ref t), .val (.ref u), .val (.int (0 : Int32))]) (st' := []) rfl ?_
    have loop : ∀ (k i : Nat), i + k = cs.length → cs.take i = ds.take i → Go G B M_leq (fun v h' Sf => ∃ r : Int32, v = some (.int r) ∧ h = h' ∧ ((r = 1 ∧ cs = ds) ∨ (r = 0 ∧ ¬ cs = ds))) h [] 0 0 9 #[.val (.ref t), .val (.ref u), .val (.int i.toInt32)] [] := by
      intro k; induction k with
      | zero =>
        intro i hi ht
        refine go_run K 7 2 (pc' := 11) (st' := [(.ref t), (.int i.toInt32)]) rfl ?_
        refine go_arraylength K (k := 9) rfl A1 ?_
        refine go_icmpge K (k := 10) rfl (pc' := 32) (by decide) (fun _ => ?_) (fun q => absurd q (len_nlt (by omega) (by omega)))
        refine go_run K 22 1 (pc' := 33) (st' := [(.int (1 : Int32))]) rfl ?_
        refine go_ireturn K (k := 23) rfl rfl (by decide) rfl rfl rfl ?_
        intro Sf hSf
        refine ⟨1, rfl, rfl, Or.inl ⟨rfl, ?_⟩⟩
        rw [List.take_of_length_le (by omega), List.take_of_length_le (by omega)] at ht
        exact ht
      | succ k ih =>
        intro i hi ht
        have p1 : i < cs.length := by omega
        have p2 : i < ds.length := by omega
        refine go_run K 7 2 (pc' := 11) (st' := [(.ref t), (.int i.toInt32)]) rfl ?_
        refine go_arraylength K (k := 9) rfl A1 ?_
        refine go_icmpge K (k := 10) rfl (pc' := 32) (by decide) (fun q => absurd (len_lt hl1 p1) q) (fun _ => ?_)
        refine go_run K 11 2 (pc' := 17) (st' := [(.int i.toInt32), (.ref t)]) rfl ?_
        refine go_baload K (k := 13) rfl A1 ⟨len_nn (by omega), len_lt hl1 p1⟩ (v := .int cs[i].toInt8.toInt32) (by rw [len_nat (by omega)]; exact get_by8 p1) ?_
        refine go_run K 14 2 (pc' := 20) (st' := [(.int i.toInt32), (.ref u), (.int cs[i].toInt8.toInt32)]) rfl ?_
        refine go_baload K (k := 16) rfl A2 ⟨len_nn (by omega), len_lt hl2 p2⟩ (v := .int ds[i].toInt8.toInt32) (by rw [len_nat (by omega)]; exact get_by8 p2) ?_
        refine go_icmpeq K (k := 17) rfl (pc' := 26) (by decide) (fun q3 => ?_) (fun q4 => ?_)
        · refine go_run K 20 2 (pc' := 9) (Ls' := #[.val (.ref t), .val (.ref u), .val (.int (i.toInt32 + Int32.ofInt 1))]) (st' := []) rfl ?_
          rw [len_succ i]
          refine ih (i + 1) (by omega) ?_
          rw [List.take_succ_eq_append_getElem p1, List.take_succ_eq_append_getElem p2, ht, i8_inj (l1.2 _ (List.getElem_mem p1)) (l2.2 _ (List.getElem_mem p2)) q3]
        · refine go_run K 18 1 (pc' := 25) (st' := [(.int (0 : Int32))]) rfl ?_
          refine go_ireturn K (k := 19) rfl rfl (by decide) rfl rfl rfl ?_
          intro Sf hSf
          refine ⟨0, rfl, rfl, Or.inr ⟨rfl, fun e => q4 ?_⟩⟩
          subst e; rfl
    exact loop cs.length 0 (by omega) rfl
def P_seq : List (Nat × Instr × Nat) := [(0, .aload_n 0, 1), (1, .aload_n 1, 1), (2, .if_acmp .ne 5, 3), (5, .iconst 1, 1), (6, .ireturn, 1), (7, .aload_n 1, 1), (8, .instanceof 10, 3), (11, .ifCond .eq 43, 3), (14, .aload_n 1, 1), (15, .checkcast 10, 3), (18, .astore_n 2, 1), (19, .getstatic 38, 3), (22, .ifCond .eq 14, 3), (25, .aload_n 0, 1), (26, .getfield 15, 3), (29, .aload_n 2, 1), (30, .getfield 15, 3), (33, .if_icmp .ne 21, 3), (36, .aload_n 0, 1), (37, .getfield 9, 3), (40, .aload_n 2, 1), (41, .getfield 9, 3), (44, .invokestatic 541, 3), (47, .ifCond .eq 7, 3), (50, .iconst 1, 1), (51, .goto 4, 3), (54, .iconst 0, 1), (55, .ireturn, 1)]
theorem L_seq : ∀ q ∈ P_seq, decode jdk_42_method_66_code q.1 = .ok q.2 := by decide +kernel
def M_seq : Mt := (("java/lang/String", "equals", ({ frames := 1, cells := 0, slots := 0, locals := 14 } : Room)), P_seq, 3, (some .boolean))
set_option maxRecDepth 65536 in
set_option maxHeartbeats 40000000 in
theorem c_seq {G : Gb} (H : Gl tables_1 els G) {h : Heap} {a b : Addr} {cs ds : List Int32} (l1 : Lat cs) (l2 : Lat ds) (S1 : Str G h a cs) (S2 : Str G h b ds) :
    Ctr G [] (⟨"java/lang/String", "equals", "(Ljava/lang/Object;)Z"⟩ : MethodName) jdk_42_method_66_code 3 (some .boolean) ({ frames := 1, cells := 0, slots := 0, locals := 14 } : Room) #[.ref a, .ref b] h [] (fun v h' Sf => ∃ r : Int32, v = some (.int r) ∧ h = h' ∧ ((r = 1 ∧ cs = ds) ∨ (r = 0 ∧ ¬ cs = ds))) := by
  refine ctr_of M_seq rfl rfl (plainFor_of_name pn_1) L_seq H.el (Ls := #[.val (.ref a), .val (.ref b), .unset]) (fun m => ef_ok (by show argsToLocals _ 3 = _; first | (simp [argsToLocals, Value.category]; done) | rfl)) ?_
  intro B K hE
  obtain ⟨cz, hcs, hcz⟩ := H.cs
  obtain ⟨t1, k2, e3, e4, e5, e6⟩ := id S1
  obtain ⟨t7, k8, e9, e10, e11, e12⟩ := id S2
  refine go_run K 0 2 (pc' := 2) (st' := [(.ref b), (.ref a)]) rfl ?_
  by_cases hab : a = b
  · refine go_acmp K (k := 2) rfl rfl rfl (same := true) (by rw [hab]; exact decide_eq_true rfl) (pc' := 5) (by decide) rfl ?_
    refine go_run K 3 1 (pc' := 6) (st' := [(.int (1 : Int32))]) rfl ?_
    refine go_ireturn K (k := 4) rfl rfl (by decide) rfl rfl rfl ?_
    intro Sf hSf
    exact ⟨1, rfl, rfl, Or.inl ⟨rfl, Str.inj l1 l2 S1 (hab ▸ S2)⟩⟩
  · refine go_acmp K (k := 2) rfl rfl rfl (same := false) (decide_eq_false fun e => hab (Value.ref.inj e)) (pc' := 7) (by decide) rfl ?_
    refine go_run K 5 1 (pc' := 8) (st' := [(.ref b)]) rfl ?_
    refine go_instY K (k := 6) rfl (H.w 78 rfl) (Ins.self e9) ?_
    refine go_ifeq K (k := 7) rfl (pc' := 54) (by decide) (fun q => absurd q (by decide)) (fun _ => ?_)
    refine go_run K 8 1 (pc' := 15) (st' := [(.ref b)]) rfl ?_
    refine go_cast K (k := 9) rfl (H.w 78 rfl) (Ins.self e9) ?_
    refine go_run K 10 1 (pc' := 19) (Ls' := #[.val (.ref a), .val (.ref b), .val (.ref b)]) (st' := []) rfl ?_
    refine go_getstatic K (k := 11) rfl (host := "") (Or.inl (H.w 25 rfl)) Via.refl hcs ?_
    refine go_ifeq K (k := 12) rfl (pc' := 36) (by decide) (fun q => absurd q hcz) (fun _ => ?_)
    refine go_run K 13 1 (pc' := 26) (st' := [(.ref a)]) rfl ?_
    refine go_getfield K (k := 14) rfl (host := "") (Or.inl (H.w 26 rfl)) Via.refl e4 ?_
    refine go_run K 15 1 (pc' := 30) (st' := [(.ref b), (.int (0 : Int32))]) rfl ?_
    refine go_getfield K (k := 16) rfl (host := "") (Or.inl (H.w 26 rfl)) Via.refl e10 ?_
    refine go_icmpne K (k := 17) rfl (pc' := 54) (by decide) (fun q => absurd rfl q) (fun _ => ?_)
    refine go_run K 18 1 (pc' := 37) (st' := [(.ref a)]) rfl ?_
    refine go_getfield K (k := 19) rfl (host := "") (Or.inl (H.w 19 rfl)) Via.refl e5 ?_
    refine go_run K 20 1 (pc' := 41) (st' := [(.ref b), (.ref t1)]) rfl ?_
    refine go_getfield K (k := 21) rfl (host := "") (Or.inl (H.w 19 rfl)) Via.refl e11 ?_
    refine go_static K (k := 22) rfl (H.w 79 rfl) (H.w 80 rfl) (H.w 39 rfl) (H.w 81 rfl) (by decide) pd_5 (c_leq H l1 l2 e6 e12) (argsL := [(.ref t1), (.ref t7)]) (rest := []) rfl rfl rfl sub0 rfl ?_
    rintro _ _ _ - ⟨r13, rfl, rfl, q14⟩
    show Go G B M_seq _ h [] 0 0 47 #[.val (.ref a), .val (.ref b), .val (.ref b)] [(.int r13)]
    refine go_ifeq K (k := 23) rfl (pc' := 54) (by decide) (fun q15 => ?_) (fun q16 => ?_)
    · refine go_run K 26 1 (pc' := 55) (st' := [(.int (0 : Int32))]) rfl ?_
      refine go_ireturn K (k := 27) rfl rfl (by decide) rfl rfl rfl ?_
      intro Sf hSf
      refine ⟨0, rfl, rfl, Or.inr ⟨rfl, ?_⟩⟩
      rcases q14 with ⟨u1, -⟩ | ⟨-, u2⟩
      · rw [u1] at q15; exact absurd q15 (by decide)
      · exact u2
    · refine go_run K 24 2 (pc' := 55) (st' := [(.int (1 : Int32))]) rfl ?_
      refine go_ireturn K (k := 27) rfl rfl (by decide) rfl rfl rfl ?_
      intro Sf hSf
      refine ⟨1, rfl, rfl, Or.inl ⟨rfl, ?_⟩⟩
      rcases q14 with ⟨-, u2⟩ | ⟨u1, -⟩
      · exact u2
      · exact absurd u1 q16
theorem pn_3 : plainName "jdk/internal/util/Preconditions" = true := by first | (simp [plainName, overriddenIn]; done) | decide +kernel
def P_pci : List (Nat × Instr × Nat) := [(0, .iload_n 0, 1), (1, .ifCond .lt 8, 3), (4, .iload_n 0, 1), (5, .iload_n 1, 1), (6, .if_icmp .lt 10, 3), (9, .aload_n 2, 1), (10, .iload_n 0, 1), (11, .iload_n 1, 1), (12, .invokestatic 95, 3), (15, .athrow, 1), (16, .iload_n 0, 1), (17, .ireturn, 1)]
theorem L_pci : ∀ q ∈ P_pci, decode jdk_41_method_11_code q.1 = .ok q.2 := by decide +kernel
def M_pci : Mt := (("jdk/internal/util/Preconditions", "checkIndex", ({ frames := 0, cells := 0, slots := 0, locals := 0 } : Room)), P_pci, 3, (some .int))
set_option maxRecDepth 65536 in
set_option maxHeartbeats 40000000 in
theorem c_pci {G : Gb} (H : Gl tables_1 els G) {h : Heap} {x n : Int32} {f : Addr} (h1 : ¬ x < 0) (h2 : x < n) :
    Ctr G [] (⟨"jdk/internal/util/Preconditions", "checkIndex", "(IILjava/util/function/BiFunction;)I"⟩ : MethodName) jdk_41_method_11_code 3 (some .int) ({ frames := 0, cells := 0, slots := 0, locals := 0 } : Room) #[.int x, .int n, .ref f] h [] (fun v h' Sf => v = some (.int x) ∧ h = h') := by
  refine ctr_of M_pci rfl rfl (plainFor_of_name pn_3) L_pci H.el (Ls := #[.val (.int x), .val (.int n), .val (.ref f)]) (fun m => ef_ok (by show argsToLocals _ 3 = _; first | (simp [argsToLocals, Value.category]; done) | rfl)) ?_
  intro B K hE
  refine go_run K 0 1 (pc' := 1) (st' := [(.int x)]) rfl ?_
  refine go_iflt K (k := 1) rfl (pc' := 9) (by decide) (fun q => absurd q h1) (fun _ => ?_)
  refine go_run K 2 2 (pc' := 6) (st' := [(.int n), (.int x)]) rfl ?_
  refine go_icmplt K (k := 4) rfl (pc' := 16) (by decide) (fun _ => ?_) (fun q => absurd h2 q)
  refine go_run K 10 1 (pc' := 17) (st' := [(.int x)]) rfl ?_
  refine go_ireturn K (k := 11) rfl rfl (by decide) rfl rfl rfl ?_
  intro Sf hSf
  exact ⟨rfl, rfl⟩
set_option maxRecDepth 65536 in
set_option maxHeartbeats 40000000 in
theorem c_pciN {G : Gb} (H : Gl tables_1 els G) {h : Heap} {x n : Int32} (h1 : ¬ x < 0) (h2 : x < n) :
    Ctr G [] (⟨"jdk/internal/util/Preconditions", "checkIndex", "(IILjava/util/function/BiFunction;)I"⟩ : MethodName) jdk_41_method_11_code 3 (some .int) ({ frames := 0, cells := 0, slots := 0, locals := 0 } : Room) #[.int x, .int n, .null] h [] (fun v h' Sf => v = some (.int x) ∧ h = h') := by
  refine ctr_of M_pci rfl rfl (plainFor_of_name pn_3) L_pci H.el (Ls := #[.val (.int x), .val (.int n), .val .null]) (fun m => ef_ok (by show argsToLocals _ 3 = _; first | (simp [argsToLocals, Value.category]; done) | rfl)) ?_
  intro B K hE
  refine go_run K 0 1 (pc' := 1) (st' := [(.int x)]) rfl ?_
  refine go_iflt K (k := 1) rfl (pc' := 9) (by decide) (fun q => absurd q h1) (fun _ => ?_)
  refine go_run K 2 2 (pc' := 6) (st' := [(.int n), (.int x)]) rfl ?_
  refine go_icmplt K (k := 4) rfl (pc' := 16) (by decide) (fun _ => ?_) (fun q => absurd h2 q)
  refine go_run K 10 1 (pc' := 17) (st' := [(.int x)]) rfl ?_
  refine go_ireturn K (k := 11) rfl rfl (by decide) rfl rfl rfl ?_
  intro Sf hSf
  exact ⟨rfl, rfl⟩
def P_sci : List (Nat × Instr × Nat) := [(0, .iload_n 0, 1), (1, .iload_n 1, 1), (2, .getstatic 1053, 3), (5, .invokestatic 1059, 3), (8, .pop, 1), (9, .return_, 1)]
theorem L_sci : ∀ q ∈ P_sci, decode jdk_42_method_155_code q.1 = .ok q.2 := by decide +kernel
def M_sci : Mt := (("java/lang/String", "checkIndex", ({ frames := 1, cells := 0, slots := 0, locals := 14 } : Room)), P_sci, 2, none)
set_option maxRecDepth 65536 in
set_option maxHeartbeats 40000000 in
theorem c_sci {G : Gb} (H : Gl tables_1 els G) {h : Heap} {x n : Int32} (hF : ∃ vf : Value, Sta G.Z G.Z.heap "jdk/internal/util/Preconditions" "SIOOBE_FORMATTER" "Ljava/util/function/BiFunction;" vf ∧ vf.isRef = true) (h1 : ¬ x < 0) (h2 : x < n) :
    Ctr G [] (⟨"java/lang/String", "checkIndex", "(II)V"⟩ : MethodName) jdk_42_method_155_code 2 none ({ frames := 1, cells := 0, slots := 0, locals := 14 } : Room) #[.int x, .int n] h [] (fun v h' Sf => v = none ∧ h = h') := by
  refine ctr_of M_sci rfl rfl (plainFor_of_name pn_1) L_sci H.el (Ls := #[.val (.int x), .val (.int n)]) (fun m => ef_ok (by show argsToLocals _ 2 = _; first | (simp [argsToLocals, Value.category]; done) | rfl)) ?_
  intro B K hE
  obtain ⟨vf, hsf, hrf⟩ := hF
  refine go_run K 0 2 (pc' := 2) (st' := [(.int n), (.int x)]) rfl ?_
  obtain rfl | ⟨f, rfl⟩ := ref_cases hrf
  · refine go_getstatic K (k := 2) rfl (host := "") (Or.inl (H.w 44 rfl)) Via.refl hsf ?_
    refine go_static K (k := 3) rfl (H.w 46 rfl) (H.w 47 rfl) (H.w 45 rfl) (H.w 48 rfl) (by decide) pd_6 (c_pciN (x := x) (n := n) H h1 h2) (argsL := [(.int x), (.int n), .null]) (rest := []) rfl rfl rfl sub0 rfl ?_
    rintro _ _ _ - ⟨rfl, rfl⟩
    show Go G B M_sci _ h [] 0 0 8 #[.val (.int x), .val (.int n)] [(.int x)]
    refine go_run K 4 1 (pc' := 9) (st' := []) rfl ?_
    refine go_return K (k := 5) rfl rfl rfl rfl ?_
    intro Sf hSf
    exact ⟨rfl, rfl⟩
  · refine go_getstatic K (k := 2) rfl (host := "") (Or.inl (H.w 44 rfl)) Via.refl hsf ?_
    refine go_static K (k := 3) rfl (H.w 46 rfl) (H.w 47 rfl) (H.w 45 rfl) (H.w 48 rfl) (by decide) pd_6 (c_pci (x := x) (n := n) (f := f) H h1 h2) (argsL := [(.int x), (.int n), (.ref f)]) (rest := []) rfl rfl rfl sub0 rfl ?_
    rintro _ _ _ - ⟨rfl, rfl⟩
    show Go G B M_sci _ h [] 0 0 8 #[.val (.int x), .val (.int n)] [(.int x)]
    refine go_run K 4 1 (pc' := 9) (st' := []) rfl ?_
    refine go_return K (k := 5) rfl rfl rfl rfl ?_
    intro Sf hSf
    exact ⟨rfl, rfl⟩
def P_lca : List (Nat × Instr × Nat) := [(0, .iload_n 1, 1), (1, .aload_n 0, 1), (2, .arraylength, 1), (3, .invokestatic 9, 3), (6, .aload_n 0, 1), (7, .iload_n 1, 1), (8, .baload, 1), (9, .sipush 255, 3), (12, .iand, 1), (13, .i2c, 1), (14, .ireturn, 1)]
theorem L_lca : ∀ q ∈ P_lca, decode jdk_43_method_2_code q.1 = .ok q.2 := by decide +kernel
def M_lca : Mt := (("java/lang/StringLatin1", "charAt", ({ frames := 2, cells := 0, slots := 0, locals := 27 } : Room)), P_lca, 2, (some .char))
set_option maxRecDepth 65536 in
set_option maxHeartbeats 40000000 in
theorem c_lca {G : Gb} (H : Gl tables_1 els G) {h : Heap} {t : Addr} {kt : ClassId} {cs : List Int32} {i : Nat} (l1 : Lat cs) (p1 : i < cs.length) (hF : ∃ vf : Value, Sta G.Z G.Z.heap "jdk/internal/util/Preconditions" "SIOOBE_FORMATTER" "Ljava/util/function/BiFunction;" vf ∧ vf.isRef = true) (A1 : Arv G.Z h t kt .byte cs.length.toInt32 (by8 cs) (.int 0)) :
    Ctr G [] (⟨"java/lang/StringLatin1", "charAt", "([BI)C"⟩ : MethodName) jdk_43_method_2_code 2 (some .char) ({ frames := 2, cells := 0, slots := 0, locals := 27 } : Room) #[.ref t, .int i.toInt32] h [] (fun v h' Sf => v = some (.int cs[i]) ∧ h = h') := by
  refine ctr_of M_lca rfl rfl (plainFor_of_name pn_2) L_lca H.el (Ls := #[.val (.ref t), .val (.int i.toInt32)]) (fun m => ef_ok (by show argsToLocals _ 2 = _; first | (simp [argsToLocals, Value.category]; done) | rfl)) ?_
  intro B K hE
  have hl1 := lat_lt l1
  refine go_run K 0 2 (pc' := 2) (st' := [(.ref t), (.int i.toInt32)]) rfl ?_
  refine go_arraylength K (k := 2) rfl A1 ?_
  refine go_static K (k := 3) rfl (H.w 41 rfl) (H.w 42 rfl) (H.w 2 rfl) (H.w 43 rfl) (by decide) pd_7 (c_sci (x := i.toInt32) (n := cs.length.toInt32) H hF (len_nn (by omega)) (len_lt hl1 p1)) (argsL := [(.int i.toInt32), (.int cs.length.toInt32)]) (rest := []) rfl rfl rfl sub0 rfl ?_
  rintro _ _ _ - ⟨rfl, rfl⟩
  show Go G B M_lca _ h [] 0 0 6 #[.val (.ref t), .val (.int i.toInt32)] []
  refine go_run K 4 2 (pc' := 8) (st' := [(.int i.toInt32), (.ref t)]) rfl ?_
  refine go_baload K (k := 6) rfl A1 ⟨len_nn (by omega), len_lt hl1 p1⟩ (v := .int cs[i].toInt8.toInt32) (by rw [len_nat (by omega)]; exact get_by8 p1) ?_
  refine go_run K 7 3 (pc' := 14) (st' := [(.int ((cs[i].toInt8.toInt32 &&& (255 : Int32))).toUInt32.toUInt16.toUInt32.toInt32)]) rfl ?_
  rw [b8_char (l1.2 _ (List.getElem_mem p1))]
  refine go_ireturn K (k := 10) rfl rfl (by decide) (char_n (l1.2 _ (List.getElem_mem p1))) rfl rfl ?_
  intro Sf hSf
  exact ⟨rfl, rfl⟩
def P_cha : List (Nat × Instr × Nat) := [(0, .aload_n 0, 1), (1, .invokevirtual 492, 3), (4, .ifCond .eq 12, 3), (7, .aload_n 0, 1), (8, .getfield 9, 3), (11, .iload_n 1, 1), (12, .invokestatic 495, 3), (15, .ireturn, 1), (16, .aload_n 0, 1), (17, .getfield 9, 3), (20, .iload_n 1, 1), (21, .invokestatic 498, 3), (24, .ireturn, 1)]
theorem L_cha : ∀ q ∈ P_cha, decode jdk_42_method_56_code q.1 = .ok q.2 := by decide +kernel
def M_cha : Mt := (("java/lang/String", "charAt", ({ frames := 3, cells := 0, slots := 0, locals := 40 } : Room)), P_cha, 2, (some .char))
set_option maxRecDepth 65536 in
set_option maxHeartbeats 40000000 in
theorem c_cha {G : Gb} (H : Gl tables_1 els G) {h : Heap} {a : Addr} {cs : List Int32} {i : Nat} (l1 : Lat cs) (p1 : i < cs.length) (hF : ∃ vf : Value, Sta G.Z G.Z.heap "jdk/internal/util/Preconditions" "SIOOBE_FORMATTER" "Ljava/util/function/BiFunction;" vf ∧ vf.isRef = true) (S1 : Str G h a cs) :
    Ctr G [] (⟨"java/lang/String", "charAt", "(I)C"⟩ : MethodName) jdk_42_method_56_code 2 (some .char) ({ frames := 3, cells := 0, slots := 0, locals := 40 } : Room) #[.ref a, .int i.toInt32] h [] (fun v h' Sf => v = some (.int cs[i]) ∧ h = h') := by
  refine ctr_of M_cha rfl rfl (plainFor_of_name pn_1) L_cha H.el (Ls := #[.val (.ref a), .val (.int i.toInt32)]) (fun m => ef_ok (by show argsToLocals _ 2 = _; first | (simp [argsToLocals, Value.category]; done) | rfl)) ?_
  intro B K hE
  obtain ⟨t1, k2, e3, e4, e5, e6⟩ := id S1
  refine go_run K 0 1 (pc' := 1) (st' := [(.ref a)]) rfl ?_
  refine go_virt0 K (k := 1) rfl (H.w 32 rfl) (H.w 35 rfl) (H.w 34 rfl) (H.w 2 rfl) (H.w 36 rfl) (by decide) pd_8 S1.exa (c_isl H S1) (argsL := []) (rest := []) rfl rfl rfl sub0 rfl ?_
  rintro _ _ _ - ⟨rfl, rfl⟩
  show Go G B M_cha _ h [] 0 0 4 #[.val (.ref a), .val (.int i.toInt32)] [(.int (1 : Int32))]
  refine go_ifeq K (k := 2) rfl (pc' := 16) (by decide) (fun q => absurd q (by decide)) (fun _ => ?_)
  refine go_run K 3 1 (pc' := 8) (st' := [(.ref a)]) rfl ?_
  refine go_getfield K (k := 4) rfl (host := "") (Or.inl (H.w 19 rfl)) Via.refl e5 ?_
  refine go_run K 5 1 (pc' := 12) (st' := [(.int i.toInt32), (.ref t1)]) rfl ?_
  refine go_static K (k := 6) rfl (H.w 37 rfl) (H.w 38 rfl) (H.w 39 rfl) (H.w 40 rfl) (by decide) pd_9 (c_lca (i := i) H l1 p1 hF e6) (argsL := [(.ref t1), (.int i.toInt32)]) (rest := []) rfl rfl rfl sub0 rfl ?_
  rintro _ _ _ - ⟨rfl, rfl⟩
  show Go G B M_cha _ h [] 0 0 15 #[.val (.ref a), .val (.int i.toInt32)] [(.int cs[i])]
  refine go_ireturn K (k := 7) rfl rfl (by decide) (char_n (l1.2 _ (List.getElem_mem p1))) rfl rfl ?_
  intro Sf hSf
  exact ⟨rfl, rfl⟩
abbrev lW : List Int32 := [(119 : Int32), (111 : Int32), (114 : Int32), (107 : Int32)]
abbrev lD : List Int32 := [(100 : Int32), (101 : Int32), (108 : Int32), (97 : Int32), (121 : Int32)]
abbrev lP : List Int32 := [(112 : Int32), (97 : Int32), (114 : Int32), (107 : Int32), (101 : Int32), (100 : Int32)]
theorem pn_4 : plainName "com/example/gentle_retry/gentleretry/rabbitmq/RoleOfLabelPinLaw" = true := by first | (simp [plainName, overriddenIn]; done) | decide +kernel
def P_at : List (Nat × Instr × Nat) := [(0, .iload_n 1, 1), (1, .aload_n 0, 1), (2, .invokevirtual 20, 3), (5, .if_icmp .ge 11, 3), (8, .aload_n 0, 1), (9, .iload_n 1, 1), (10, .invokevirtual 56, 3), (13, .goto 4, 3), (16, .iconst 0, 1), (17, .ireturn, 1)]
theorem L_at : ∀ q ∈ P_at, decode method_3_code q.1 = .ok q.2 := by decide +kernel
def M_at : Mt := (("com/example/gentle_retry/gentleretry/rabbitmq/RoleOfLabelPinLaw", "at", ({ frames := 4, cells := 0, slots := 0, locals := 53 } : Room)), P_at, 2, (some .char))
set_option maxRecDepth 65536 in
set_option maxHeartbeats 40000000 in
theorem c_at {G : Gb} (H : Gl tables_1 els G) {h : Heap} {a : Addr} {cs : List Int32} {i : Nat} (l1 : Lat cs) (hi : i < 2 ^ 31) (hF : ∃ vf : Value, Sta G.Z G.Z.heap "jdk/internal/util/Preconditions" "SIOOBE_FORMATTER" "Ljava/util/function/BiFunction;" vf ∧ vf.isRef = true) (S1 : Str G h a cs) :
    Ctr G [] (⟨"com/example/gentle_retry/gentleretry/rabbitmq/RoleOfLabelPinLaw", "at", "(Ljava/lang/String;I)C"⟩ : MethodName) method_3_code 2 (some .char) ({ frames := 4, cells := 0, slots := 0, locals := 53 } : Room) #[.ref a, .int i.toInt32] h [] (fun v h' Sf => ∃ r : Int32, v = some (.int r) ∧ h = h' ∧ (¬ r < 0 ∧ ¬ (255 : Int32) < r)) := by
  refine ctr_of M_at rfl rfl (plainFor_of_name pn_4) L_at H.el (Ls := #[.val (.ref a), .val (.int i.toInt32)]) (fun m => ef_ok (by show argsToLocals _ 2 = _; first | (simp [argsToLocals, Value.category]; done) | rfl)) ?_
  intro B K hE
  refine go_run K 0 2 (pc' := 2) (st' := [(.ref a), (.int i.toInt32)]) rfl ?_
  refine go_virt0 K (k := 2) rfl (H.w 14 rfl) (H.w 17 rfl) (H.w 16 rfl) (H.w 2 rfl) (H.w 18 rfl) (by decide) pd_10 S1.exa (c_len H S1) (argsL := []) (rest := [(.int i.toInt32)]) rfl rfl rfl sub0 rfl ?_
  rintro _ _ _ - ⟨rfl, rfl⟩
  show Go G B M_at _ h [] 0 0 5 #[.val (.ref a), .val (.int i.toInt32)] [(.int (cs).length.toInt32), (.int i.toInt32)]
  show Go G B M_at _ h [] 0 0 5 #[.val (.ref a), .val (.int i.toInt32)] [(.int cs.length.toInt32), (.int i.toInt32)]
  refine go_icmpge K (k := 3) rfl (pc' := 16) (by decide) (fun q1 => ?_) (fun q2 => ?_)
  · refine go_run K 8 1 (pc' := 17) (st' := [(.int (0 : Int32))]) rfl ?_
    refine go_ireturn K (k := 9) rfl rfl (by decide) rfl rfl rfl ?_
    intro Sf hSf
    exact ⟨_, rfl, rfl, by decide⟩
  · have p1 := lt_len (lat_lt l1) hi q2
    refine go_run K 4 2 (pc' := 10) (st' := [(.int i.toInt32), (.ref a)]) rfl ?_
    refine go_virt0 K (k := 6) rfl (H.w 27 rfl) (H.w 30 rfl) (H.w 29 rfl) (H.w 2 rfl) (H.w 31 rfl) (by decide) pd_11 S1.exa (c_cha (i := i) H l1 p1 hF S1) (argsL := [(.int i.toInt32)]) (rest := []) rfl rfl rfl sub0 rfl ?_
    rintro _ _ _ - ⟨rfl, rfl⟩
    show Go G B M_at _ h [] 0 0 13 #[.val (.ref a), .val (.int i.toInt32)] [(.int cs[i])]
    refine go_run K 7 1 (pc' := 17) (st' := [(.int cs[i])]) rfl ?_
    refine go_ireturn K (k := 9) rfl rfl (by decide) (char_n (l1.2 _ (List.getElem_mem p1))) rfl rfl ?_
    intro Sf hSf
    exact ⟨_, rfl, rfl, l1.2 _ (List.getElem_mem p1)⟩
def P_str : List (Nat × Instr × Nat) := [(0, .iload_n 1, 1), (1, .ifCond .gt 14, 3), (4, .new 21, 3), (7, .dup, 1), (8, .iconst 0, 1), (9, .newarray .char, 2), (11, .invokespecial 60, 3), (14, .areturn, 1), (15, .iload_n 1, 1), (16, .iconst 1, 1), (17, .if_icmp .ne 20, 3), (20, .new 21, 3), (23, .dup, 1), (24, .iconst 1, 1), (25, .newarray .char, 2), (27, .dup, 1), (28, .iconst 0, 1), (29, .aload_n 0, 1), (30, .iconst 0, 1), (31, .caload, 1), (32, .castore, 1), (33, .invokespecial 60, 3), (36, .areturn, 1), (37, .iload_n 1, 1), (38, .iconst 2, 1), (39, .if_icmp .ne 26, 3), (42, .new 21, 3), (45, .dup, 1), (46, .iconst 2, 1), (47, .newarray .char, 2), (49, .dup, 1), (50, .iconst 0, 1), (51, .aload_n 0, 1), (52, .iconst 0, 1), (53, .caload, 1), (54, .castore, 1), (55, .dup, 1), (56, .iconst 1, 1), (57, .aload_n 0, 1), (58, .iconst 1, 1), (59, .caload, 1), (60, .castore, 1), (61, .invokespecial 60, 3), (64, .areturn, 1), (65, .iload_n 1, 1), (66, .iconst 3, 1), (67, .if_icmp .ne 32, 3), (70, .new 21, 3), (73, .dup, 1), (74, .iconst 3, 1), (75, .newarray .char, 2), (77, .dup, 1), (78, .iconst 0, 1), (79, .aload_n 0, 1), (80, .iconst 0, 1), (81, .caload, 1), (82, .castore, 1), (83, .dup, 1), (84, .iconst 1, 1), (85, .aload_n 0, 1), (86, .iconst 1, 1), (87, .caload, 1), (88, .castore, 1), (89, .dup, 1), (90, .iconst 2, 1), (91, .aload_n 0, 1), (92, .iconst 2, 1), (93, .caload, 1), (94, .castore, 1), (95, .invokespecial 60, 3), (98, .areturn, 1), (99, .iload_n 1, 1), (100, .iconst 4, 1), (101, .if_icmp .ne 38, 3), (104, .new 21, 3), (107, .dup, 1), (108, .iconst 4, 1), (109, .newarray .char, 2), (111, .dup, 1), (112, .iconst 0, 1), (113, .aload_n 0, 1), (114, .iconst 0, 1), (115, .caload, 1), (116, .castore, 1), (117, .dup, 1), (118, .iconst 1, 1), (119, .aload_n 0, 1), (120, .iconst 1, 1), (121, .caload, 1), (122, .castore, 1), (123, .dup, 1), (124, .iconst 2, 1), (125, .aload_n 0, 1), (126, .iconst 2, 1), (127, .caload, 1), (128, .castore, 1), (129, .dup, 1), (130, .iconst 3, 1), (131, .aload_n 0, 1), (132, .iconst 3, 1), (133, .caload, 1), (134, .castore, 1), (135, .invokespecial 60, 3), (138, .areturn, 1), (139, .iload_n 1, 1), (140, .iconst 5, 1), (141, .if_icmp .ne 44, 3), (144, .new 21, 3), (147, .dup, 1), (148, .iconst 5, 1), (149, .newarray .char, 2), (151, .dup, 1), (152, .iconst 0, 1), (153, .aload_n 0, 1), (154, .iconst 0, 1), (155, .caload, 1), (156, .castore, 1), (157, .dup, 1), (158, .iconst 1, 1), (159, .aload_n 0, 1), (160, .iconst 1, 1), (161, .caload, 1), (162, .castore, 1), (163, .dup, 1), (164, .iconst 2, 1), (165, .aload_n 0, 1), (166, .iconst 2, 1), (167, .caload, 1), (168, .castore, 1), (169, .dup, 1), (170, .iconst 3, 1), (171, .aload_n 0, 1), (172, .iconst 3, 1), (173, .caload, 1), (174, .castore, 1), (175, .dup, 1), (176, .iconst 4, 1), (177, .aload_n 0, 1), (178, .iconst 4, 1), (179, .caload, 1), (180, .castore, 1), (181, .invokespecial 60, 3), (184, .areturn, 1), (185, .iload_n 1, 1), (186, .bipush 6, 2), (188, .if_icmp .ne 51, 3), (191, .new 21, 3), (194, .dup, 1), (195, .bipush 6, 2), (197, .newarray .char, 2), (199, .dup, 1), (200, .iconst 0, 1), (201, .aload_n 0, 1), (202, .iconst 0, 1), (203, .caload, 1), (204, .castore, 1), (205, .dup, 1), (206, .iconst 1, 1), (207, .aload_n 0, 1), (208, .iconst 1, 1), (209, .caload, 1), (210, .castore, 1), (211, .dup, 1), (212, .iconst 2, 1), (213, .aload_n 0, 1), (214, .iconst 2, 1), (215, .caload, 1), (216, .castore, 1), (217, .dup, 1), (218, .iconst 3, 1), (219, .aload_n 0, 1), (220, .iconst 3, 1), (221, .caload, 1), (222, .castore, 1), (223, .dup, 1), (224, .iconst 4, 1), (225, .aload_n 0, 1), (226, .iconst 4, 1), (227, .caload, 1), (228, .castore, 1), (229, .dup, 1), (230, .iconst 5, 1), (231, .aload_n 0, 1), (232, .iconst 5, 1), (233, .caload, 1), (234, .castore, 1), (235, .invokespecial 60, 3), (238, .areturn, 1), (239, .new 21, 3), (242, .dup, 1), (243, .bipush 7, 2), (245, .newarray .char, 2), (247, .dup, 1), (248, .iconst 0, 1), (249, .aload_n 0, 1), (250, .iconst 0, 1), (251, .caload, 1), (252, .castore, 1), (253, .dup, 1), (254, .iconst 1, 1), (255, .aload_n 0, 1), (256, .iconst 1, 1), (257, .caload, 1), (258, .castore, 1), (259, .dup, 1), (260, .iconst 2, 1), (261, .aload_n 0, 1), (262, .iconst 2, 1), (263, .caload, 1), (264, .castore, 1), (265, .dup, 1), (266, .iconst 3, 1), (267, .aload_n 0, 1), (268, .iconst 3, 1), (269, .caload, 1), (270, .castore, 1), (271, .dup, 1), (272, .iconst 4, 1), (273, .aload_n 0, 1), (274, .iconst 4, 1), (275, .caload, 1), (276, .castore, 1), (277, .dup, 1), (278, .iconst 5, 1), (279, .aload_n 0, 1), (280, .iconst 5, 1), (281, .caload, 1), (282, .castore, 1), (283, .dup, 1), (284, .bipush 6, 2), (286, .aload_n 0, 1), (287, .bipush 6, 2), (289, .caload, 1), (290, .castore, 1), (291, .invokespecial 60, 3), (294, .areturn, 1)]
theorem L_str : ∀ q ∈ P_str, decode method_4_code q.1 = .ok q.2 := by decide +kernel
def M_str : Mt := (("com/example/gentle_retry/gentleretry/rabbitmq/RoleOfLabelPinLaw", "str", ({ frames := 4, cells := 6, slots := 19, locals := 66 } : Room)), P_str, 2, (some (.object "java/lang/String")))
set_option maxRecDepth 65536 in
set_option maxHeartbeats 40000000 in
theorem c_str {G : Gb} (H : Gl tables_1 els G) {h : Heap} {ca : Addr} {kc : ClassId} {n : Int32} (C1 : Cz G h ca kc 8) :
    Ctr G [] (⟨"com/example/gentle_retry/gentleretry/rabbitmq/RoleOfLabelPinLaw", "str", "([CI)Ljava/lang/String;"⟩ : MethodName) method_4_code 2 (some (.object "java/lang/String")) ({ frames := 4, cells := 6, slots := 19, locals := 66 } : Room) #[.ref ca, .int n] h [] (fun v h' Sf => ∃ (a : Addr) (cs : List Int32), v = some (.ref a) ∧ Ext h h' ∧ Str G h' a cs ∧ Lat cs) := by
  refine ctr_of M_str rfl rfl (plainFor_of_name pn_4) L_str H.el (Ls := #[.val (.ref ca), .val (.int n)]) (fun m => ef_ok (by show argsToLocals _ 2 = _; first | (simp [argsToLocals, Value.category]; done) | rfl)) ?_
  intro B K hE
  obtain ⟨xs, hxl, hxr, A1⟩ := C1
  obtain ⟨x0, x1, x2, x3, x4, x5, x6, x7, rfl⟩ := len8 hxl
  have r0 := hxr x0 (by simp)
  have r1 := hxr x1 (by simp)
  have r2 := hxr x2 (by simp)
  have r3 := hxr x3 (by simp)
  have r4 := hxr x4 (by simp)
  have r5 := hxr x5 (by simp)
  have r6 := hxr x6 (by simp)
  have r7 := hxr x7 (by simp)
  refine go_run K 0 1 (pc' := 1) (st' := [(.int n)]) rfl ?_
  refine go_ifgt K (k := 1) rfl (pc' := 15) (by decide) (fun q1 => ?_) (fun q2 => ?_)
  · refine go_run K 8 2 (pc' := 17) (st' := [(.int (1 : Int32)), (.int n)]) rfl ?_
    refine go_icmpne K (k := 10) rfl (pc' := 37) (by decide) (fun q28 => ?_) (fun q29 => ?_)
    · refine go_run K 23 2 (pc' := 39) (st' := [(.int (2 : Int32)), (.int n)]) rfl ?_
      refine go_icmpne K (k := 25) rfl (pc' := 65) (by decide) (fun q61 => ?_) (fun q62 => ?_)
      · refine go_run K 44 2 (pc' := 67) (st' := [(.int (3 : Int32)), (.int n)]) rfl ?_
        refine go_icmpne K (k := 46) rfl (pc' := 99) (by decide) (fun q100 => ?_) (fun q101 => ?_)
        · refine go_run K 71 2 (pc' := 101) (st' := [(.int (4 : Int32)), (.int n)]) rfl ?_
          refine go_icmpne K (k := 73) rfl (pc' := 139) (by decide) (fun q145 => ?_) (fun q146 => ?_)
          · refine go_run K 104 2 (pc' := 141) (st' := [(.int (5 : Int32)), (.int n)]) rfl ?_
            refine go_icmpne K (k := 106) rfl (pc' := 185) (by decide) (fun q196 => ?_) (fun q197 => ?_)
            · refine go_run K 143 2 (pc' := 188) (st' := [(.int (6 : Int32)), (.int n)]) rfl ?_
              refine go_icmpne K (k := 145) rfl (pc' := 239) (by decide) (fun q253 => ?_) (fun q254 => ?_)
              · refine go_new K (k := 188) rfl (H.w 52 rfl) (H.w 3 rfl) (H.w 2 rfl) rfl rfl ?_
                intro h317 a316 e318 g319 E320 A321 D322
                have F323 : Fld G.Z h317 a316 "java/lang/String" "value" "[B" .null := D322 (Or.inr (H.w 5 rfl)) (ty := (.array .byte)) (by decide)
                have F324 : Fld G.Z h317 a316 "java/lang/String" "coder" "B" (.int (0 : Int32)) := D322 (Or.inr (H.w 6 rfl)) (ty := .byte) (by decide)
                refine go_run K 189 2 (pc' := 245) (st' := [(.int (7 : Int32)), (.ref a316), (.ref a316)]) rfl ?_
                refine go_newarray K (k := 191) rfl (H.w 9 rfl) (by decide) (cap := 7) (by decide) rfl rfl rfl ?_
                intro h326 a325 k327 e328 g329 E330 A331
                have A331' : Arv G.Z h326 a325 k327 .char (7 : Int32) [(.int (0 : Int32)), (.int (0 : Int32)), (.int (0 : Int32)), (.int (0 : Int32)), (.int (0 : Int32)), (.int (0 : Int32)), (.int (0 : Int32))] (.int (0 : Int32)) := Arv.pad A331 (pad_rep [] (.int (0 : Int32)) 7)
                refine go_run K 192 4 (pc' := 251) (st' := [(.int (0 : Int32)), (.ref ca), (.int (0 : Int32)), (.ref a325), (.ref a325), (.ref a316), (.ref a316)]) rfl ?_
                have X332 : Ext h h326 := (Ext.tr E320 E330)
                have c333 := (A1.ext X332)
                refine go_caload K (k := 196) rfl c333 (by decide) (v := .int x0) rfl ?_
                refine go_castore K (k := 197) rfl A331' (i := 0) (by decide) rfl (Nat.le_of_ble_eq_true rfl) g329 ?_
                intro h334 W335 A336
                refine go_run K 198 4 (pc' := 257) (st' := [(.int (1 : Int32)), (.ref ca), (.int (1 : Int32)), (.ref a325), (.ref a325), (.ref a316), (.ref a316)]) rfl ?_
                have X337 : Ext h h334 := (Ext.wrN X332 W335 (Nat.le_trans (E320).1 (Nat.le_of_eq e328.symm)))
                have c338 := (A1.ext X337)
                refine go_caload K (k := 202) rfl c338 (by decide) (v := .int x1) rfl ?_
                refine go_castore K (k := 203) rfl A336 (i := 1) (by decide) rfl (Nat.le_of_ble_eq_true rfl) g329 ?_
                intro h339 W340 A341
                refine go_run K 204 4 (pc' := 263) (st' := [(.int (2 : Int32)), (.ref ca), (.int (2 : Int32)), (.ref a325), (.ref a325), (.ref a316), (.ref a316)]) rfl ?_
                have X342 : Ext h h339 := (Ext.wrN X337 W340 (Nat.le_trans (E320).1 (Nat.le_of_eq e328.symm)))
                have c343 := (A1.ext X342)
                refine go_caload K (k := 208) rfl c343 (by decide) (v := .int x2) rfl ?_
                refine go_castore K (k := 209) rfl A341 (i := 2) (by decide) rfl (Nat.le_of_ble_eq_true rfl) g329 ?_
                intro h344 W345 A346
                refine go_run K 210 4 (pc' := 269) (st' := [(.int (3 : Int32)), (.ref ca), (.int (3 : Int32)), (.ref a325), (.ref a325), (.ref a316), (.ref a316)]) rfl ?_
                have X347 : Ext h h344 := (Ext.wrN X342 W345 (Nat.le_trans (E320).1 (Nat.le_of_eq e328.symm)))
                have c348 := (A1.ext X347)
                refine go_caload K (k := 214) rfl c348 (by decide) (v := .int x3) rfl ?_
                refine go_castore K (k := 215) rfl A346 (i := 3) (by decide) rfl (Nat.le_of_ble_eq_true rfl) g329 ?_
                intro h349 W350 A351
                refine go_run K 216 4 (pc' := 275) (st' := [(.int (4 : Int32)), (.ref ca), (.int (4 : Int32)), (.ref a325), (.ref a325), (.ref a316), (.ref a316)]) rfl ?_
                have X352 : Ext h h349 := (Ext.wrN X347 W350 (Nat.le_trans (E320).1 (Nat.le_of_eq e328.symm)))
                have c353 := (A1.ext X352)
                refine go_caload K (k := 220) rfl c353 (by decide) (v := .int x4) rfl ?_
                refine go_castore K (k := 221) rfl A351 (i := 4) (by decide) rfl (Nat.le_of_ble_eq_true rfl) g329 ?_
                intro h354 W355 A356
                refine go_run K 222 4 (pc' := 281) (st' := [(.int (5 : Int32)), (.ref ca), (.int (5 : Int32)), (.ref a325), (.ref a325), (.ref a316), (.ref a316)]) rfl ?_
                have X357 : Ext h h354 := (Ext.wrN X352 W355 (Nat.le_trans (E320).1 (Nat.le_of_eq e328.symm)))
                have c358 := (A1.ext X357)
                refine go_caload K (k := 226) rfl c358 (by decide) (v := .int x5) rfl ?_
                refine go_castore K (k := 227) rfl A356 (i := 5) (by decide) rfl (Nat.le_of_ble_eq_true rfl) g329 ?_
                intro h359 W360 A361
                refine go_run K 228 4 (pc' := 289) (st' := [(.int (6 : Int32)), (.ref ca), (.int (6 : Int32)), (.ref a325), (.ref a325), (.ref a316), (.ref a316)]) rfl ?_
                have X362 : Ext h h359 := (Ext.wrN X357 W360 (Nat.le_trans (E320).1 (Nat.le_of_eq e328.symm)))
                have c363 := (A1.ext X362)
                refine go_caload K (k := 232) rfl c363 (by decide) (v := .int x6) rfl ?_
                refine go_castore K (k := 233) rfl A361 (i := 6) (by decide) rfl (Nat.le_of_ble_eq_true rfl) g329 ?_
                intro h364 W365 A366
                have B367 : Arv G.Z h364 a325 k327 .char (7 : Int32) (([x0, x1, x2, x3, x4, x5, x6] : List Int32).map Value.int) (.int 0) := by
                  have u := A366
                  rw [nar_id r0, nar_id r1, nar_id r2, nar_id r3, nar_id r4, nar_id r5, nar_id r6] at u
                  exact u
                have X368 : Ext h317 h334 := (Ext.wrN E330 W335 (Nat.le_trans (Nat.le_refl _) (Nat.le_of_eq e328.symm)))
                have X369 : Ext h317 h339 := (Ext.wrN X368 W340 (Nat.le_trans (Nat.le_refl _) (Nat.le_of_eq e328.symm)))
                have X370 : Ext h317 h344 := (Ext.wrN X369 W345 (Nat.le_trans (Nat.le_refl _) (Nat.le_of_eq e328.symm)))
                have X371 : Ext h317 h349 := (Ext.wrN X370 W350 (Nat.le_trans (Nat.le_refl _) (Nat.le_of_eq e328.symm)))
                have X372 : Ext h317 h354 := (Ext.wrN X371 W355 (Nat.le_trans (Nat.le_refl _) (Nat.le_of_eq e328.symm)))
                have X373 : Ext h317 h359 := (Ext.wrN X372 W360 (Nat.le_trans (Nat.le_refl _) (Nat.le_of_eq e328.symm)))
                have X374 : Ext h317 h364 := (Ext.wrN X373 W365 (Nat.le_trans (Nat.le_refl _) (Nat.le_of_eq e328.symm)))
                have c375 := (A321.ext X374)
                have c376 := (F323.ext X374)
                have c377 := (F324.ext X374)
                refine go_special K (k := 234) rfl rfl (H.w 53 rfl) (H.w 54 rfl) (H.w 2 rfl) (H.w 55 rfl) (by decide) pd_12 (c_si (cs := [x0, x1, x2, x3, x4, x5, x6]) H (latC r0 (latC r1 (latC r2 (latC r3 (latC r4 (latC r5 (lat1 r6) (Nat.le_of_ble_eq_true rfl)) (Nat.le_of_ble_eq_true rfl)) (Nat.le_of_ble_eq_true rfl)) (Nat.le_of_ble_eq_true rfl)) (Nat.le_of_ble_eq_true rfl)) (Nat.le_of_ble_eq_true rfl)) (Nat.le_of_ble_eq_true rfl) c375 c376 c377 g319 B367) (argsL := [(.ref a325)]) (rest := [(.ref a316)]) rfl rfl rfl (subS (List.mem_cons_of_mem _ (List.mem_cons_self ..)) sub0) rfl ?_
                rintro _ h378 _ - ⟨rfl, K379, S380⟩
                show Go G B M_str _ h378 (a325 :: (a316 :: [])) 6 19 294 #[.val (.ref ca), .val (.int n)] [(.ref a316)]
                have X381 : Ext h h364 := (Ext.wrN X362 W365 (Nat.le_trans (E320).1 (Nat.le_of_eq e328.symm)))
                have X382 : Ext h h378 := (Ext.keepN X381 K379 (allS (Nat.le_trans (Nat.le_refl _) (Nat.le_of_eq e318.symm)) all0))
                refine go_areturn K (k := 235) rfl rfl rfl rfl rfl rfl rfl ?_
                intro Sf hSf
                exact ⟨a316, _, rfl, X382, S380, (latC r0 (latC r1 (latC r2 (latC r3 (latC r4 (latC r5 (lat1 r6) (Nat.le_of_ble_eq_true rfl)) (Nat.le_of_ble_eq_true rfl)) (Nat.le_of_ble_eq_true rfl)) (Nat.le_of_ble_eq_true rfl)) (Nat.le_of_ble_eq_true rfl)) (Nat.le_of_ble_eq_true rfl))⟩
              · refine go_new K (k := 146) rfl (H.w 52 rfl) (H.w 3 rfl) (H.w 2 rfl) rfl rfl ?_
                intro h256 a255 e257 g258 E259 A260 D261
                have F262 : Fld G.Z h256 a255 "java/lang/String" "value" "[B" .null := D261 (Or.inr (H.w 5 rfl)) (ty := (.array .byte)) (by decide)
                have F263 : Fld G.Z h256 a255 "java/lang/String" "coder" "B" (.int (0 : Int32)) := D261 (Or.inr (H.w 6 rfl)) (ty := .byte) (by decide)
                refine go_run K 147 2 (pc' := 197) (st' := [(.int (6 : Int32)), (.ref a255), (.ref a255)]) rfl ?_
                refine go_newarray K (k := 149) rfl (H.w 9 rfl) (by decide) (cap := 6) (by decide) rfl rfl rfl ?_
                intro h265 a264 k266 e267 g268 E269 A270
                have A270' : Arv G.Z h265 a264 k266 .char (6 : Int32) [(.int (0 : Int32)), (.int (0 : Int32)), (.int (0 : Int32)), (.int (0 : Int32)), (.int (0 : Int32)), (.int (0 : Int32))] (.int (0 : Int32)) := Arv.pad A270 (pad_rep [] (.int (0 : Int32)) 6)
                refine go_run K 150 4 (pc' := 203) (st' := [(.int (0 : Int32)), (.ref ca), (.int (0 : Int32)), (.ref a264), (.ref a264), (.ref a255), (.ref a255)]) rfl ?_
                have X271 : Ext h h265 := (Ext.tr E259 E269)
                have c272 := (A1.ext X271)
                refine go_caload K (k := 154) rfl c272 (by decide) (v := .int x0) rfl ?_
                refine go_castore K (k := 155) rfl A270' (i := 0) (by decide) rfl (Nat.le_of_ble_eq_true rfl) g268 ?_
                intro h273 W274 A275
                refine go_run K 156 4 (pc' := 209) (st' := [(.int (1 : Int32)), (.ref ca), (.int (1 : Int32)), (.ref a264), (.ref a264), (.ref a255), (.ref a255)]) rfl ?_
                have X276 : Ext h h273 := (Ext.wrN X271 W274 (Nat.le_trans (E259).1 (Nat.le_of_eq e267.symm)))
                have c277 := (A1.ext X276)
                refine go_caload K (k := 160) rfl c277 (by decide) (v := .int x1) rfl ?_
                refine go_castore K (k := 161) rfl A275 (i := 1) (by decide) rfl (Nat.le_of_ble_eq_true rfl) g268 ?_
                intro h278 W279 A280
                refine go_run K 162 4 (pc' := 215) (st' := [(.int (2 : Int32)), (.ref ca), (.int (2 : Int32)), (.ref a264), (.ref a264), (.ref a255), (.ref a255)]) rfl ?_
                have X281 : Ext h h278 := (Ext.wrN X276 W279 (Nat.le_trans (E259).1 (Nat.le_of_eq e267.symm)))
                have c282 := (A1.ext X281)
                refine go_caload K (k := 166) rfl c282 (by decide) (v := .int x2) rfl ?_
                refine go_castore K (k := 167) rfl A280 (i := 2) (by decide) rfl (Nat.le_of_ble_eq_true rfl) g268 ?_
                intro h283 W284 A285
                refine go_run K 168 4 (pc' := 221) (st' := [(.int (3 : Int32)), (.ref ca), (.int (3 : Int32)), (.ref a264), (.ref a264), (.ref a255), (.ref a255)]) rfl ?_
                have X286 : Ext h h283 := (Ext.wrN X281 W284 (Nat.le_trans (E259).1 (Nat.le_of_eq e267.symm)))
                have c287 := (A1.ext X286)
                refine go_caload K (k := 172) rfl c287 (by decide) (v := .int x3) rfl ?_
                refine go_castore K (k := 173) rfl A285 (i := 3) (by decide) rfl (Nat.le_of_ble_eq_true rfl) g268 ?_
                intro h288 W289 A290
                refine go_run K 174 4 (pc' := 227) (st' := [(.int (4 : Int32)), (.ref ca), (.int (4 : Int32)), (.ref a264), (.ref a264), (.ref a255), (.ref a255)]) rfl ?_
                have X291 : Ext h h288 := (Ext.wrN X286 W289 (Nat.le_trans (E259).1 (Nat.le_of_eq e267.symm)))
                have c292 := (A1.ext X291)
                refine go_caload K (k := 178) rfl c292 (by decide) (v := .int x4) rfl ?_
                refine go_castore K (k := 179) rfl A290 (i := 4) (by decide) rfl (Nat.le_of_ble_eq_true rfl) g268 ?_
                intro h293 W294 A295
                refine go_run K 180 4 (pc' := 233) (st' := [(.int (5 : Int32)), (.ref ca), (.int (5 : Int32)), (.ref a264), (.ref a264), (.ref a255), (.ref a255)]) rfl ?_
                have X296 : Ext h h293 := (Ext.wrN X291 W294 (Nat.le_trans (E259).1 (Nat.le_of_eq e267.symm)))
                have c297 := (A1.ext X296)
                refine go_caload K (k := 184) rfl c297 (by decide) (v := .int x5) rfl ?_
                refine go_castore K (k := 185) rfl A295 (i := 5) (by decide) rfl (Nat.le_of_ble_eq_true rfl) g268 ?_
                intro h298 W299 A300
                have B301 : Arv G.Z h298 a264 k266 .char (6 : Int32) (([x0, x1, x2, x3, x4, x5] : List Int32).map Value.int) (.int 0) := by
                  have u := A300
                  rw [nar_id r0, nar_id r1, nar_id r2, nar_id r3, nar_id r4, nar_id r5] at u
                  exact u
                have X302 : Ext h256 h273 := (Ext.wrN E269 W274 (Nat.le_trans (Nat.le_refl _) (Nat.le_of_eq e267.symm)))
                have X303 : Ext h256 h278 := (Ext.wrN X302 W279 (Nat.le_trans (Nat.le_refl _) (Nat.le_of_eq e267.symm)))
                have X304 : Ext h256 h283 := (Ext.wrN X303 W284 (Nat.le_trans (Nat.le_refl _) (Nat.le_of_eq e267.symm)))
                have X305 : Ext h256 h288 := (Ext.wrN X304 W289 (Nat.le_trans (Nat.le_refl _) (Nat.le_of_eq e267.symm)))
                have X306 : Ext h256 h293 := (Ext.wrN X305 W294 (Nat.le_trans (Nat.le_refl _) (Nat.le_of_eq e267.symm)))
                have X307 : Ext h256 h298 := (Ext.wrN X306 W299 (Nat.le_trans (Nat.le_refl _) (Nat.le_of_eq e267.symm)))
                have c308 := (A260.ext X307)
                have c309 := (F262.ext X307)
                have c310 := (F263.ext X307)
                refine go_special K (k := 186) rfl rfl (H.w 53 rfl) (H.w 54 rfl) (H.w 2 rfl) (H.w 55 rfl) (by decide) pd_12 (c_si (cs := [x0, x1, x2, x3, x4, x5]) H (latC r0 (latC r1 (latC r2 (latC r3 (latC r4 (lat1 r5) (Nat.le_of_ble_eq_true rfl)) (Nat.le_of_ble_eq_true rfl)) (Nat.le_of_ble_eq_true rfl)) (Nat.le_of_ble_eq_true rfl)) (Nat.le_of_ble_eq_true rfl)) (Nat.le_of_ble_eq_true rfl) c308 c309 c310 g258 B301) (argsL := [(.ref a264)]) (rest := [(.ref a255)]) rfl rfl rfl (subS (List.mem_cons_of_mem _ (List.mem_cons_self ..)) sub0) rfl ?_
                rintro _ h311 _ - ⟨rfl, K312, S313⟩
                show Go G B M_str _ h311 (a264 :: (a255 :: [])) 6 18 238 #[.val (.ref ca), .val (.int n)] [(.ref a255)]
                have X314 : Ext h h298 := (Ext.wrN X296 W299 (Nat.le_trans (E259).1 (Nat.le_of_eq e267.symm)))
                have X315 : Ext h h311 := (Ext.keepN X314 K312 (allS (Nat.le_trans (Nat.le_refl _) (Nat.le_of_eq e257.symm)) all0))
                refine go_areturn K (k := 187) rfl rfl rfl rfl rfl rfl rfl ?_
                intro Sf hSf
                exact ⟨a255, _, rfl, X315, S313, (latC r0 (latC r1 (latC r2 (latC r3 (latC r4 (lat1 r5) (Nat.le_of_ble_eq_true rfl)) (Nat.le_of_ble_eq_true rfl)) (Nat.le_of_ble_eq_true rfl)) (Nat.le_of_ble_eq_true rfl)) (Nat.le_of_ble_eq_true rfl))⟩
            · refine go_new K (k := 107) rfl (H.w 52 rfl) (H.w 3 rfl) (H.w 2 rfl) rfl rfl ?_
              intro h199 a198 e200 g201 E202 A203 D204
              have F205 : Fld G.Z h199 a198 "java/lang/String" "value" "[B" .null := D204 (Or.inr (H.w 5 rfl)) (ty := (.array .byte)) (by decide)
              have F206 : Fld G.Z h199 a198 "java/lang/String" "coder" "B" (.int (0 : Int32)) := D204 (Or.inr (H.w 6 rfl)) (ty := .byte) (by decide)
              refine go_run K 108 2 (pc' := 149) (st' := [(.int (5 : Int32)), (.ref a198), (.ref a198)]) rfl ?_
              refine go_newarray K (k := 110) rfl (H.w 9 rfl) (by decide) (cap := 5) (by decide) rfl rfl rfl ?_
              intro h208 a207 k209 e210 g211 E212 A213
              have A213' : Arv G.Z h208 a207 k209 .char (5 : Int32) [(.int (0 : Int32)), (.int (0 : Int32)), (.int (0 : Int32)), (.int (0 : Int32)), (.int (0 : Int32))] (.int (0 : Int32)) := Arv.pad A213 (pad_rep [] (.int (0 : Int32)) 5)
              refine go_run K 111 4 (pc' := 155) (st' := [(.int (0 : Int32)), (.ref ca), (.int (0 : Int32)), (.ref a207), (.ref a207), (.ref a198), (.ref a198)]) rfl ?_
              have X214 : Ext h h208 := (Ext.tr E202 E212)
              have c215 := (A1.ext X214)
              refine go_caload K (k := 115) rfl c215 (by decide) (v := .int x0) rfl ?_
              refine go_castore K (k := 116) rfl A213' (i := 0) (by decide) rfl (Nat.le_of_ble_eq_true rfl) g211 ?_
              intro h216 W217 A218
              refine go_run K 117 4 (pc' := 161) (st' := [(.int (1 : Int32)), (.ref ca), (.int (1 : Int32)), (.ref a207), (.ref a207), (.ref a198), (.ref a198)]) rfl ?_
              have X219 : Ext h h216 := (Ext.wrN X214 W217 (Nat.le_trans (E202).1 (Nat.le_of_eq e210.symm)))
              have c220 := (A1.ext X219)
              refine go_caload K (k := 121) rfl c220 (by decide) (v := .int x1) rfl ?_
              refine go_castore K (k := 122) rfl A218 (i := 1) (by decide) rfl (Nat.le_of_ble_eq_true rfl) g211 ?_
              intro h221 W222 A223
              refine go_run K 123 4 (pc' := 167) (st' := [(.int (2 : Int32)), (.ref ca), (.int (2 : Int32)), (.ref a207), (.ref a207), (.ref a198), (.ref a198)]) rfl ?_
              have X224 : Ext h h221 := (Ext.wrN X219 W222 (Nat.le_trans (E202).1 (Nat.le_of_eq e210.symm)))
              have c225 := (A1.ext X224)
              refine go_caload K (k := 127) rfl c225 (by decide) (v := .int x2) rfl ?_
              refine go_castore K (k := 128) rfl A223 (i := 2) (by decide) rfl (Nat.le_of_ble_eq_true rfl) g211 ?_
              intro h226 W227 A228
              refine go_run K 129 4 (pc' := 173) (st' := [(.int (3 : Int32)), (.ref ca), (.int (3 : Int32)), (.ref a207), (.ref a207), (.ref a198), (.ref a198)]) rfl ?_
              have X229 : Ext h h226 := (Ext.wrN X224 W227 (Nat.le_trans (E202).1 (Nat.le_of_eq e210.symm)))
              have c230 := (A1.ext X229)
              refine go_caload K (k := 133) rfl c230 (by decide) (v := .int x3) rfl ?_
              refine go_castore K (k := 134) rfl A228 (i := 3) (by decide) rfl (Nat.le_of_ble_eq_true rfl) g211 ?_
              intro h231 W232 A233
              refine go_run K 135 4 (pc' := 179) (st' := [(.int (4 : Int32)), (.ref ca), (.int (4 : Int32)), (.ref a207), (.ref a207), (.ref a198), (.ref a198)]) rfl ?_
              have X234 : Ext h h231 := (Ext.wrN X229 W232 (Nat.le_trans (E202).1 (Nat.le_of_eq e210.symm)))
              have c235 := (A1.ext X234)
              refine go_caload K (k := 139) rfl c235 (by decide) (v := .int x4) rfl ?_
              refine go_castore K (k := 140) rfl A233 (i := 4) (by decide) rfl (Nat.le_of_ble_eq_true rfl) g211 ?_
              intro h236 W237 A238
              have B239 : Arv G.Z h236 a207 k209 .char (5 : Int32) (([x0, x1, x2, x3, x4] : List Int32).map Value.int) (.int 0) := by
                have u := A238
                rw [nar_id r0, nar_id r1, nar_id r2, nar_id r3, nar_id r4] at u
                exact u
              have X240 : Ext h199 h216 := (Ext.wrN E212 W217 (Nat.le_trans (Nat.le_refl _) (Nat.le_of_eq e210.symm)))
              have X241 : Ext h199 h221 := (Ext.wrN X240 W222 (Nat.le_trans (Nat.le_refl _) (Nat.le_of_eq e210.symm)))
              have X242 : Ext h199 h226 := (Ext.wrN X241 W227 (Nat.le_trans (Nat.le_refl _) (Nat.le_of_eq e210.symm)))
              have X243 : Ext h199 h231 := (Ext.wrN X242 W232 (Nat.le_trans (Nat.le_refl _) (Nat.le_of_eq e210.symm)))
              have X244 : Ext h199 h236 := (Ext.wrN X243 W237 (Nat.le_trans (Nat.le_refl _) (Nat.le_of_eq e210.symm)))
              have c245 := (A203.ext X244)
              have c246 := (F205.ext X244)
              have c247 := (F206.ext X244)
              refine go_special K (k := 141) rfl rfl (H.w 53 rfl) (H.w 54 rfl) (H.w 2 rfl) (H.w 55 rfl) (by decide) pd_12 (c_si (cs := [x0, x1, x2, x3, x4]) H (latC r0 (latC r1 (latC r2 (latC r3 (lat1 r4) (Nat.le_of_ble_eq_true rfl)) (Nat.le_of_ble_eq_true rfl)) (Nat.le_of_ble_eq_true rfl)) (Nat.le_of_ble_eq_true rfl)) (Nat.le_of_ble_eq_true rfl) c245 c246 c247 g201 B239) (argsL := [(.ref a207)]) (rest := [(.ref a198)]) rfl rfl rfl (subS (List.mem_cons_of_mem _ (List.mem_cons_self ..)) sub0) rfl ?_
              rintro _ h248 _ - ⟨rfl, K249, S250⟩
              show Go G B M_str _ h248 (a207 :: (a198 :: [])) 6 17 184 #[.val (.ref ca), .val (.int n)] [(.ref a198)]
              have X251 : Ext h h236 := (Ext.wrN X234 W237 (Nat.le_trans (E202).1 (Nat.le_of_eq e210.symm)))
              have X252 : Ext h h248 := (Ext.keepN X251 K249 (allS (Nat.le_trans (Nat.le_refl _) (Nat.le_of_eq e200.symm)) all0))
              refine go_areturn K (k := 142) rfl rfl rfl rfl rfl rfl rfl ?_
              intro Sf hSf
              exact ⟨a198, _, rfl, X252, S250, (latC r0 (latC r1 (latC r2 (latC r3 (lat1 r4) (Nat.le_of_ble_eq_true rfl)) (Nat.le_of_ble_eq_true rfl)) (Nat.le_of_ble_eq_true rfl)) (Nat.le_of_ble_eq_true rfl))⟩
          · refine go_new K (k := 74) rfl (H.w 52 rfl) (H.w 3 rfl) (H.w 2 rfl) rfl rfl ?_
            intro h148 a147 e149 g150 E151 A152 D153
            have F154 : Fld G.Z h148 a147 "java/lang/String" "value" "[B" .null := D153 (Or.inr (H.w 5 rfl)) (ty := (.array .byte)) (by decide)
            have F155 : Fld G.Z h148 a147 "java/lang/String" "coder" "B" (.int (0 : Int32)) := D153 (Or.inr (H.w 6 rfl)) (ty := .byte) (by decide)
            refine go_run K 75 2 (pc' := 109) (st' := [(.int (4 : Int32)), (.ref a147), (.ref a147)]) rfl ?_
            refine go_newarray K (k := 77) rfl (H.w 9 rfl) (by decide) (cap := 4) (by decide) rfl rfl rfl ?_
            intro h157 a156 k158 e159 g160 E161 A162
            have A162' : Arv G.Z h157 a156 k158 .char (4 : Int32) [(.int (0 : Int32)), (.int (0 : Int32)), (.int (0 : Int32)), (.int (0 : Int32))] (.int (0 : Int32)) := Arv.pad A162 (pad_rep [] (.int (0 : Int32)) 4)
            refine go_run K 78 4 (pc' := 115) (st' := [(.int (0 : Int32)), (.ref ca), (.int (0 : Int32)), (.ref a156), (.ref a156), (.ref a147), (.ref a147)]) rfl ?_
            have X163 : Ext h h157 := (Ext.tr E151 E161)
            have c164 := (A1.ext X163)
            refine go_caload K (k := 82) rfl c164 (by decide) (v := .int x0) rfl ?_
            refine go_castore K (k := 83) rfl A162' (i := 0) (by decide) rfl (Nat.le_of_ble_eq_true rfl) g160 ?_
            intro h165 W166 A167
            refine go_run K 84 4 (pc' := 121) (st' := [(.int (1 : Int32)), (.ref ca), (.int (1 : Int32)), (.ref a156), (.ref a156), (.ref a147), (.ref a147)]) rfl ?_
            have X168 : Ext h h165 := (Ext.wrN X163 W166 (Nat.le_trans (E151).1 (Nat.le_of_eq e159.symm)))
            have c169 := (A1.ext X168)
            refine go_caload K (k := 88) rfl c169 (by decide) (v := .int x1) rfl ?_
            refine go_castore K (k := 89) rfl A167 (i := 1) (by decide) rfl (Nat.le_of_ble_eq_true rfl) g160 ?_
            intro h170 W171 A172
            refine go_run K 90 4 (pc' := 127) (st' := [(.int (2 : Int32)), (.ref ca), (.int (2 : Int32)), (.ref a156), (.ref a156), (.ref a147), (.ref a147)]) rfl ?_
            have X173 : Ext h h170 := (Ext.wrN X168 W171 (Nat.le_trans (E151).1 (Nat.le_of_eq e159.symm)))
            have c174 := (A1.ext X173)
            refine go_caload K (k := 94) rfl c174 (by decide) (v := .int x2) rfl ?_
            refine go_castore K (k := 95) rfl A172 (i := 2) (by decide) rfl (Nat.le_of_ble_eq_true rfl) g160 ?_
            intro h175 W176 A177
            refine go_run K 96 4 (pc' := 133) (st' := [(.int (3 : Int32)), (.ref ca), (.int (3 : Int32)), (.ref a156), (.ref a156), (.ref a147), (.ref a147)]) rfl ?_
            have X178 : Ext h h175 := (Ext.wrN X173 W176 (Nat.le_trans (E151).1 (Nat.le_of_eq e159.symm)))
            have c179 := (A1.ext X178)
            refine go_caload K (k := 100) rfl c179 (by decide) (v := .int x3) rfl ?_
            refine go_castore K (k := 101) rfl A177 (i := 3) (by decide) rfl (Nat.le_of_ble_eq_true rfl) g160 ?_
            intro h180 W181 A182
            have B183 : Arv G.Z h180 a156 k158 .char (4 : Int32) (([x0, x1, x2, x3] : List Int32).map Value.int) (.int 0) := by
              have u := A182
              rw [nar_id r0, nar_id r1, nar_id r2, nar_id r3] at u
              exact u
            have X184 : Ext h148 h165 := (Ext.wrN E161 W166 (Nat.le_trans (Nat.le_refl _) (Nat.le_of_eq e159.symm)))
            have X185 : Ext h148 h170 := (Ext.wrN X184 W171 (Nat.le_trans (Nat.le_refl _) (Nat.le_of_eq e159.symm)))
            have X186 : Ext h148 h175 := (Ext.wrN X185 W176 (Nat.le_trans (Nat.le_refl _) (Nat.le_of_eq e159.symm)))
            have X187 : Ext h148 h180 := (Ext.wrN X186 W181 (Nat.le_trans (Nat.le_refl _) (Nat.le_of_eq e159.symm)))
            have c188 := (A152.ext X187)
            have c189 := (F154.ext X187)
            have c190 := (F155.ext X187)
            refine go_special K (k := 102) rfl rfl (H.w 53 rfl) (H.w 54 rfl) (H.w 2 rfl) (H.w 55 rfl) (by decide) pd_12 (c_si (cs := [x0, x1, x2, x3]) H (latC r0 (latC r1 (latC r2 (lat1 r3) (Nat.le_of_ble_eq_true rfl)) (Nat.le_of_ble_eq_true rfl)) (Nat.le_of_ble_eq_true rfl)) (Nat.le_of_ble_eq_true rfl) c188 c189 c190 g150 B183) (argsL := [(.ref a156)]) (rest := [(.ref a147)]) rfl rfl rfl (subS (List.mem_cons_of_mem _ (List.mem_cons_self ..)) sub0) rfl ?_
            rintro _ h191 _ - ⟨rfl, K192, S193⟩
            show Go G B M_str _ h191 (a156 :: (a147 :: [])) 6 16 138 #[.val (.ref ca), .val (.int n)] [(.ref a147)]
            have X194 : Ext h h180 := (Ext.wrN X178 W181 (Nat.le_trans (E151).1 (Nat.le_of_eq e159.symm)))
            have X195 : Ext h h191 := (Ext.keepN X194 K192 (allS (Nat.le_trans (Nat.le_refl _) (Nat.le_of_eq e149.symm)) all0))
            refine go_areturn K (k := 103) rfl rfl rfl rfl rfl rfl rfl ?_
            intro Sf hSf
            exact ⟨a147, _, rfl, X195, S193, (latC r0 (latC r1 (latC r2 (lat1 r3) (Nat.le_of_ble_eq_true rfl)) (Nat.le_of_ble_eq_true rfl)) (Nat.le_of_ble_eq_true rfl))⟩
        · refine go_new K (k := 47) rfl (H.w 52 rfl) (H.w 3 rfl) (H.w 2 rfl) rfl rfl ?_
          intro h103 a102 e104 g105 E106 A107 D108
          have F109 : Fld G.Z h103 a102 "java/lang/String" "value" "[B" .null := D108 (Or.inr (H.w 5 rfl)) (ty := (.array .byte)) (by decide)
          have F110 : Fld G.Z h103 a102 "java/lang/String" "coder" "B" (.int (0 : Int32)) := D108 (Or.inr (H.w 6 rfl)) (ty := .byte) (by decide)
          refine go_run K 48 2 (pc' := 75) (st' := [(.int (3 : Int32)), (.ref a102), (.ref a102)]) rfl ?_
          refine go_newarray K (k := 50) rfl (H.w 9 rfl) (by decide) (cap := 3) (by decide) rfl rfl rfl ?_
          intro h112 a111 k113 e114 g115 E116 A117
          have A117' : Arv G.Z h112 a111 k113 .char (3 : Int32) [(.int (0 : Int32)), (.int (0 : Int32)), (.int (0 : Int32))] (.int (0 : Int32)) := Arv.pad A117 (pad_rep [] (.int (0 : Int32)) 3)
          refine go_run K 51 4 (pc' := 81) (st' := [(.int (0 : Int32)), (.ref ca), (.int (0 : Int32)), (.ref a111), (.ref a111), (.ref a102), (.ref a102)]) rfl ?_
          have X118 : Ext h h112 := (Ext.tr E106 E116)
          have c119 := (A1.ext X118)
          refine go_caload K (k := 55) rfl c119 (by decide) (v := .int x0) rfl ?_
          refine go_castore K (k := 56) rfl A117' (i := 0) (by decide) rfl (Nat.le_of_ble_eq_true rfl) g115 ?_
          intro h120 W121 A122
          refine go_run K 57 4 (pc' := 87) (st' := [(.int (1 : Int32)), (.ref ca), (.int (1 : Int32)), (.ref a111), (.ref a111), (.ref a102), (.ref a102)]) rfl ?_
          have X123 : Ext h h120 := (Ext.wrN X118 W121 (Nat.le_trans (E106).1 (Nat.le_of_eq e114.symm)))
          have c124 := (A1.ext X123)
          refine go_caload K (k := 61) rfl c124 (by decide) (v := .int x1) rfl ?_
          refine go_castore K (k := 62) rfl A122 (i := 1) (by decide) rfl (Nat.le_of_ble_eq_true rfl) g115 ?_
          intro h125 W126 A127
          refine go_run K 63 4 (pc' := 93) (st' := [(.int (2 : Int32)), (.ref ca), (.int (2 : Int32)), (.ref a111), (.ref a111), (.ref a102), (.ref a102)]) rfl ?_
          have X128 : Ext h h125 := (Ext.wrN X123 W126 (Nat.le_trans (E106).1 (Nat.le_of_eq e114.symm)))
          have c129 := (A1.ext X128)
          refine go_caload K (k := 67) rfl c129 (by decide) (v := .int x2) rfl ?_
          refine go_castore K (k := 68) rfl A127 (i := 2) (by decide) rfl (Nat.le_of_ble_eq_true rfl) g115 ?_
          intro h130 W131 A132
          have B133 : Arv G.Z h130 a111 k113 .char (3 : Int32) (([x0, x1, x2] : List Int32).map Value.int) (.int 0) := by
            have u := A132
            rw [nar_id r0, nar_id r1, nar_id r2] at u
            exact u
          have X134 : Ext h103 h120 := (Ext.wrN E116 W121 (Nat.le_trans (Nat.le_refl _) (Nat.le_of_eq e114.symm)))
          have X135 : Ext h103 h125 := (Ext.wrN X134 W126 (Nat.le_trans (Nat.le_refl _) (Nat.le_of_eq e114.symm)))
          have X136 : Ext h103 h130 := (Ext.wrN X135 W131 (Nat.le_trans (Nat.le_refl _) (Nat.le_of_eq e114.symm)))
          have c137 := (A107.ext X136)
          have c138 := (F109.ext X136)
          have c139 := (F110.ext X136)
          refine go_special K (k := 69) rfl rfl (H.w 53 rfl) (H.w 54 rfl) (H.w 2 rfl) (H.w 55 rfl) (by decide) pd_12 (c_si (cs := [x0, x1, x2]) H (latC r0 (latC r1 (lat1 r2) (Nat.le_of_ble_eq_true rfl)) (Nat.le_of_ble_eq_true rfl)) (Nat.le_of_ble_eq_true rfl) c137 c138 c139 g105 B133) (argsL := [(.ref a111)]) (rest := [(.ref a102)]) rfl rfl rfl (subS (List.mem_cons_of_mem _ (List.mem_cons_self ..)) sub0) rfl ?_
          rintro _ h140 _ - ⟨rfl, K141, S142⟩
          show Go G B M_str _ h140 (a111 :: (a102 :: [])) 6 15 98 #[.val (.ref ca), .val (.int n)] [(.ref a102)]
          have X143 : Ext h h130 := (Ext.wrN X128 W131 (Nat.le_trans (E106).1 (Nat.le_of_eq e114.symm)))
          have X144 : Ext h h140 := (Ext.keepN X143 K141 (allS (Nat.le_trans (Nat.le_refl _) (Nat.le_of_eq e104.symm)) all0))
          refine go_areturn K (k := 70) rfl rfl rfl rfl rfl rfl rfl ?_
          intro Sf hSf
          exact ⟨a102, _, rfl, X144, S142, (latC r0 (latC r1 (lat1 r2) (Nat.le_of_ble_eq_true rfl)) (Nat.le_of_ble_eq_true rfl))⟩
      · refine go_new K (k := 26) rfl (H.w 52 rfl) (H.w 3 rfl) (H.w 2 rfl) rfl rfl ?_
        intro h64 a63 e65 g66 E67 A68 D69
        have F70 : Fld G.Z h64 a63 "java/lang/String" "value" "[B" .null := D69 (Or.inr (H.w 5 rfl)) (ty := (.array .byte)) (by decide)
        have F71 : Fld G.Z h64 a63 "java/lang/String" "coder" "B" (.int (0 : Int32)) := D69 (Or.inr (H.w 6 rfl)) (ty := .byte) (by decide)
        refine go_run K 27 2 (pc' := 47) (st' := [(.int (2 : Int32)), (.ref a63), (.ref a63)]) rfl ?_
        refine go_newarray K (k := 29) rfl (H.w 9 rfl) (by decide) (cap := 2) (by decide) rfl rfl rfl ?_
        intro h73 a72 k74 e75 g76 E77 A78
        have A78' : Arv G.Z h73 a72 k74 .char (2 : Int32) [(.int (0 : Int32)), (.int (0 : Int32))] (.int (0 : Int32)) := Arv.pad A78 (pad_rep [] (.int (0 : Int32)) 2)
        refine go_run K 30 4 (pc' := 53) (st' := [(.int (0 : Int32)), (.ref ca), (.int (0 : Int32)), (.ref a72), (.ref a72), (.ref a63), (.ref a63)]) rfl ?_
        have X79 : Ext h h73 := (Ext.tr E67 E77)
        have c80 := (A1.ext X79)
        refine go_caload K (k := 34) rfl c80 (by decide) (v := .int x0) rfl ?_
        refine go_castore K (k := 35) rfl A78' (i := 0) (by decide) rfl (Nat.le_of_ble_eq_true rfl) g76 ?_
        intro h81 W82 A83
        refine go_run K 36 4 (pc' := 59) (st' := [(.int (1 : Int32)), (.ref ca), (.int (1 : Int32)), (.ref a72), (.ref a72), (.ref a63), (.ref a63)]) rfl ?_
        have X84 : Ext h h81 := (Ext.wrN X79 W82 (Nat.le_trans (E67).1 (Nat.le_of_eq e75.symm)))
        have c85 := (A1.ext X84)
        refine go_caload K (k := 40) rfl c85 (by decide) (v := .int x1) rfl ?_
        refine go_castore K (k := 41) rfl A83 (i := 1) (by decide) rfl (Nat.le_of_ble_eq_true rfl) g76 ?_
        intro h86 W87 A88
        have B89 : Arv G.Z h86 a72 k74 .char (2 : Int32) (([x0, x1] : List Int32).map Value.int) (.int 0) := by
          have u := A88
          rw [nar_id r0, nar_id r1] at u
          exact u
        have X90 : Ext h64 h81 := (Ext.wrN E77 W82 (Nat.le_trans (Nat.le_refl _) (Nat.le_of_eq e75.symm)))
        have X91 : Ext h64 h86 := (Ext.wrN X90 W87 (Nat.le_trans (Nat.le_refl _) (Nat.le_of_eq e75.symm)))
        have c92 := (A68.ext X91)
        have c93 := (F70.ext X91)
        have c94 := (F71.ext X91)
        refine go_special K (k := 42) rfl rfl (H.w 53 rfl) (H.w 54 rfl) (H.w 2 rfl) (H.w 55 rfl) (by decide) pd_12 (c_si (cs := [x0, x1]) H (latC r0 (lat1 r1) (Nat.le_of_ble_eq_true rfl)) (Nat.le_of_ble_eq_true rfl) c92 c93 c94 g66 B89) (argsL := [(.ref a72)]) (rest := [(.ref a63)]) rfl rfl rfl (subS (List.mem_cons_of_mem _ (List.mem_cons_self ..)) sub0) rfl ?_
        rintro _ h95 _ - ⟨rfl, K96, S97⟩
        show Go G B M_str _ h95 (a72 :: (a63 :: [])) 6 14 64 #[.val (.ref ca), .val (.int n)] [(.ref a63)]
        have X98 : Ext h h86 := (Ext.wrN X84 W87 (Nat.le_trans (E67).1 (Nat.le_of_eq e75.symm)))
        have X99 : Ext h h95 := (Ext.keepN X98 K96 (allS (Nat.le_trans (Nat.le_refl _) (Nat.le_of_eq e65.symm)) all0))
        refine go_areturn K (k := 43) rfl rfl rfl rfl rfl rfl rfl ?_
        intro Sf hSf
        exact ⟨a63, _, rfl, X99, S97, (latC r0 (lat1 r1) (Nat.le_of_ble_eq_true rfl))⟩
    · refine go_new K (k := 11) rfl (H.w 52 rfl) (H.w 3 rfl) (H.w 2 rfl) rfl rfl ?_
      intro h31 a30 e32 g33 E34 A35 D36
      have F37 : Fld G.Z h31 a30 "java/lang/String" "value" "[B" .null := D36 (Or.inr (H.w 5 rfl)) (ty := (.array .byte)) (by decide)
      have F38 : Fld G.Z h31 a30 "java/lang/String" "coder" "B" (.int (0 : Int32)) := D36 (Or.inr (H.w 6 rfl)) (ty := .byte) (by decide)
      refine go_run K 12 2 (pc' := 25) (st' := [(.int (1 : Int32)), (.ref a30), (.ref a30)]) rfl ?_
      refine go_newarray K (k := 14) rfl (H.w 9 rfl) (by decide) (cap := 1) (by decide) rfl rfl rfl ?_
      intro h40 a39 k41 e42 g43 E44 A45
      have A45' : Arv G.Z h40 a39 k41 .char (1 : Int32) [(.int (0 : Int32))] (.int (0 : Int32)) := Arv.pad A45 (pad_rep [] (.int (0 : Int32)) 1)
      refine go_run K 15 4 (pc' := 31) (st' := [(.int (0 : Int32)), (.ref ca), (.int (0 : Int32)), (.ref a39), (.ref a39), (.ref a30), (.ref a30)]) rfl ?_
      have X46 : Ext h h40 := (Ext.tr E34 E44)
      have c47 := (A1.ext X46)
      refine go_caload K (k := 19) rfl c47 (by decide) (v := .int x0) rfl ?_
      refine go_castore K (k := 20) rfl A45' (i := 0) (by decide) rfl (Nat.le_of_ble_eq_true rfl) g43 ?_
      intro h48 W49 A50
      have B51 : Arv G.Z h48 a39 k41 .char (1 : Int32) (([x0] : List Int32).map Value.int) (.int 0) := by
        have u := A50
        rw [nar_id r0] at u
        exact u
      have X52 : Ext h31 h48 := (Ext.wrN E44 W49 (Nat.le_trans (Nat.le_refl _) (Nat.le_of_eq e42.symm)))
      have c53 := (A35.ext X52)
      have c54 := (F37.ext X52)
      have c55 := (F38.ext X52)
      refine go_special K (k := 21) rfl rfl (H.w 53 rfl) (H.w 54 rfl) (H.w 2 rfl) (H.w 55 rfl) (by decide) pd_12 (c_si (cs := [x0]) H (lat1 r0) (Nat.le_of_ble_eq_true rfl) c53 c54 c55 g33 B51) (argsL := [(.ref a39)]) (rest := [(.ref a30)]) rfl rfl rfl (subS (List.mem_cons_of_mem _ (List.mem_cons_self ..)) sub0) rfl ?_
      rintro _ h56 _ - ⟨rfl, K57, S58⟩
      show Go G B M_str _ h56 (a39 :: (a30 :: [])) 6 13 36 #[.val (.ref ca), .val (.int n)] [(.ref a30)]
      have X59 : Ext h h48 := (Ext.wrN X46 W49 (Nat.le_trans (E34).1 (Nat.le_of_eq e42.symm)))
      have X60 : Ext h h56 := (Ext.keepN X59 K57 (allS (Nat.le_trans (Nat.le_refl _) (Nat.le_of_eq e32.symm)) all0))
      refine go_areturn K (k := 22) rfl rfl rfl rfl rfl rfl rfl ?_
      intro Sf hSf
      exact ⟨a30, _, rfl, X60, S58, (lat1 r0)⟩
  · refine go_new K (k := 2) rfl (H.w 52 rfl) (H.w 3 rfl) (H.w 2 rfl) rfl rfl ?_
    intro h4 a3 e5 g6 E7 A8 D9
    have F10 : Fld G.Z h4 a3 "java/lang/String" "value" "[B" .null := D9 (Or.inr (H.w 5 rfl)) (ty := (.array .byte)) (by decide)
    have F11 : Fld G.Z h4 a3 "java/lang/String" "coder" "B" (.int (0 : Int32)) := D9 (Or.inr (H.w 6 rfl)) (ty := .byte) (by decide)
    refine go_run K 3 2 (pc' := 9) (st' := [(.int (0 : Int32)), (.ref a3), (.ref a3)]) rfl ?_
    refine go_newarray K (k := 5) rfl (H.w 9 rfl) (by decide) (cap := 0) (by decide) rfl rfl rfl ?_
    intro h13 a12 k14 e15 g16 E17 A18
    have A18' : Arv G.Z h13 a12 k14 .char (0 : Int32) [] (.int (0 : Int32)) := Arv.pad A18 (pad_rep [] (.int (0 : Int32)) 0)
    have B19 : Arv G.Z h13 a12 k14 .char (0 : Int32) (([] : List Int32).map Value.int) (.int 0) := by
      have u := A18'
      exact u
    have c20 := (A8.ext E17)
    have c21 := (F10.ext E17)
    have c22 := (F11.ext E17)
    refine go_special K (k := 6) rfl rfl (H.w 53 rfl) (H.w 54 rfl) (H.w 2 rfl) (H.w 55 rfl) (by decide) pd_12 (c_si (cs := []) H lat0 (Nat.le_of_ble_eq_true rfl) c20 c21 c22 g6 B19) (argsL := [(.ref a12)]) (rest := [(.ref a3)]) rfl rfl rfl (subS (List.mem_cons_of_mem _ (List.mem_cons_self ..)) sub0) rfl ?_
    rintro _ h23 _ - ⟨rfl, K24, S25⟩
    show Go G B M_str _ h23 (a12 :: (a3 :: [])) 6 12 14 #[.val (.ref ca), .val (.int n)] [(.ref a3)]
    have X26 : Ext h h13 := (Ext.tr E7 E17)
    have X27 : Ext h h23 := (Ext.keepN X26 K24 (allS (Nat.le_trans (Nat.le_refl _) (Nat.le_of_eq e5.symm)) all0))
    refine go_areturn K (k := 7) rfl rfl rfl rfl rfl rfl rfl ?_
    intro Sf hSf
    exact ⟨a3, _, rfl, X27, S25, lat0⟩
theorem pn_5 : plainName "java/util/Objects" = true := by first | (simp [plainName, overriddenIn]; done) | decide +kernel
def P_rnn : List (Nat × Instr × Nat) := [(0, .aload_n 0, 1), (1, .ifnonnull 11, 3), (4, .new 84, 3), (7, .dup, 1), (8, .invokespecial 86, 3), (11, .athrow, 1), (12, .aload_n 0, 1), (13, .areturn, 1)]
theorem L_rnn : ∀ q ∈ P_rnn, decode jdk_31_method_10_code q.1 = .ok q.2 := by decide +kernel
def M_rnn : Mt := (("java/util/Objects", "requireNonNull", ({ frames := 0, cells := 0, slots := 0, locals := 0 } : Room)), P_rnn, 1, (some (.object "java/lang/Object")))
set_option maxRecDepth 65536 in
set_option maxHeartbeats 40000000 in
theorem c_rnn {G : Gb} (H : Gl tables_1 els G) {h : Heap} {a : Addr} :
    Ctr G [] (⟨"java/util/Objects", "requireNonNull", "(Ljava/lang/Object;)Ljava/lang/Object;"⟩ : MethodName) jdk_31_method_10_code 1 (some (.object "java/lang/Object")) ({ frames := 0, cells := 0, slots := 0, locals := 0 } : Room) #[.ref a] h [] (fun v h' Sf => v = some (.ref a) ∧ h = h') := by
  refine ctr_of M_rnn rfl rfl (plainFor_of_name pn_5) L_rnn H.el (Ls := #[.val (.ref a)]) (fun m => ef_ok (by show argsToLocals _ 1 = _; first | (simp [argsToLocals, Value.category]; done) | rfl)) ?_
  intro B K hE
  refine go_run K 0 1 (pc' := 1) (st' := [(.ref a)]) rfl ?_
  refine go_ifnonY K (k := 1) rfl (pc' := 12) (by decide) ?_
  refine go_run K 6 1 (pc' := 13) (st' := [(.ref a)]) rfl ?_
  refine go_areturn K (k := 7) rfl rfl rfl rfl rfl rfl rfl ?_
  intro Sf hSf
  exact ⟨rfl, rfl⟩
theorem pn_6 : plainName "java/util/Optional" = true := by first | (simp [plainName, overriddenIn]; done) | decide +kernel
def P_opi : List (Nat × Instr × Nat) := [(0, .aload_n 0, 1), (1, .invokespecial 7, 3), (4, .aload_n 0, 1), (5, .aload_n 1, 1), (6, .putfield 13, 3), (9, .return_, 1)]
theorem L_opi : ∀ q ∈ P_opi, decode jdk_32_method_2_code q.1 = .ok q.2 := by decide +kernel
def M_opi : Mt := (("java/util/Optional", "<init>", ({ frames := 1, cells := 0, slots := 0, locals := 12 } : Room)), P_opi, 2, none)
set_option maxRecDepth 65536 in
set_option maxHeartbeats 40000000 in
theorem c_opi {G : Gb} (H : Gl tables_1 els G) {h : Heap} {a : Addr} {r0 : Addr} (E0 : Exa G.Z h a "java/util/Optional") (f0 : Fld G.Z h a "java/util/Optional" "value" "Ljava/lang/Object;" .null) (g0 : G.Z.heap.size ≤ a) :
    Ctr G [] (⟨"java/util/Optional", "<init>", "(Ljava/lang/Object;)V"⟩ : MethodName) jdk_32_method_2_code 2 none ({ frames := 1, cells := 0, slots := 0, locals := 12 } : Room) #[.ref a, .ref r0] h [] (fun v h' Sf => v = none ∧ Keep h h' [a] ∧ Exa G.Z h' a "java/util/Optional" ∧ Fld G.Z h' a "java/util/Optional" "value" "Ljava/lang/Object;" (.ref r0)) := by
  refine ctr_of M_opi rfl rfl (plainFor_of_name pn_6) L_opi H.el (Ls := #[.val (.ref a), .val (.ref r0)]) (fun m => ef_ok (by show argsToLocals _ 2 = _; first | (simp [argsToLocals, Value.category]; done) | rfl)) ?_
  intro B K hE
  refine go_run K 0 1 (pc' := 1) (st' := [(.ref a)]) rfl ?_
  refine go_init0 K (k := 1) rfl (H.w 136 rfl) (H.w 61 rfl) (H.w 62 rfl) rfl rfl rfl ?_
  refine go_run K 2 2 (pc' := 6) (st' := [(.ref r0), (.ref a)]) rfl ?_
  refine go_putfield K (k := 4) rfl (host := "") (Or.inl (H.w 119 rfl)) Via.refl f0 E0 (Or.inr ⟨(H.w 120 rfl), rfl, rfl⟩) (H.w 127 rfl) (ty := (.object "java/lang/Object")) (by decide) rfl rfl g0 (Or.inr (by decide)) ?_
  intro h1 W2
  have F3 : Exa G.Z h1 a "java/util/Optional" := Exa.wr W2 E0
  have F4 : Fld G.Z h1 a "java/util/Optional" "value" "Ljava/lang/Object;" (.ref r0) := Fld.same W2 f0
  refine go_return K (k := 5) rfl rfl rfl rfl ?_
  intro Sf hSf
  exact ⟨rfl, ((Keep.refl _ [a]).wr W2 (Or.inl (List.mem_cons_self ..))), F3, F4⟩
def P_oof : List (Nat × Instr × Nat) := [(0, .new 2, 3), (3, .dup, 1), (4, .aload_n 0, 1), (5, .invokestatic 17, 3), (8, .invokespecial 23, 3), (11, .areturn, 1)]
theorem L_oof : ∀ q ∈ P_oof, decode jdk_32_method_3_code q.1 = .ok q.2 := by decide +kernel
def M_oof : Mt := (("java/util/Optional", "of", ({ frames := 2, cells := 1, slots := 1, locals := 26 } : Room)), P_oof, 1, (some (.object "java/util/Optional")))
set_option maxRecDepth 65536 in
set_option maxHeartbeats 40000000 in
theorem c_oof {G : Gb} (H : Gl tables_1 els G) {h : Heap} {x : Addr} :
    Ctr G [] (⟨"java/util/Optional", "of", "(Ljava/lang/Object;)Ljava/util/Optional;"⟩ : MethodName) jdk_32_method_3_code 1 (some (.object "java/util/Optional")) ({ frames := 2, cells := 1, slots := 1, locals := 26 } : Room) #[.ref x] h [] (fun v h' Sf => ∃ o : Addr, v = some (.ref o) ∧ Ext h h' ∧ Exa G.Z h' o "java/util/Optional" ∧ Fld G.Z h' o "java/util/Optional" "value" "Ljava/lang/Object;" (.ref x)) := by
  refine ctr_of M_oof rfl rfl (plainFor_of_name pn_6) L_oof H.el (Ls := #[.val (.ref x)]) (fun m => ef_ok (by show argsToLocals _ 1 = _; first | (simp [argsToLocals, Value.category]; done) | rfl)) ?_
  intro B K hE
  refine go_new K (k := 0) rfl (H.w 126 rfl) (H.w 127 rfl) (H.w 111 rfl) rfl rfl ?_
  intro h2 a1 e3 g4 E5 A6 D7
  have F8 : Fld G.Z h2 a1 "java/util/Optional" "value" "Ljava/lang/Object;" .null := D7 (Or.inr (H.w 120 rfl)) (ty := (.object "java/lang/Object")) (by decide)
  refine go_run K 1 2 (pc' := 5) (st' := [(.ref x), (.ref a1), (.ref a1)]) rfl ?_
  refine go_static K (k := 3) rfl (H.w 128 rfl) (H.w 129 rfl) (H.w 130 rfl) (H.w 131 rfl) (by decide) pd_13 (c_rnn (a := x) H) (argsL := [(.ref x)]) (rest := [(.ref a1), (.ref a1)]) rfl rfl rfl sub0 rfl ?_
  rintro _ _ _ - ⟨rfl, rfl⟩
  show Go G B M_oof _ h2 (a1 :: []) 1 1 8 #[.val (.ref x)] [(.ref x), (.ref a1), (.ref a1)]
  refine go_special K (k := 4) rfl rfl (H.w 132 rfl) (H.w 133 rfl) (H.w 111 rfl) (H.w 135 rfl) (by decide) pd_14 (c_opi (a := a1) (r0 := x) H A6 F8 g4) (argsL := [(.ref x)]) (rest := [(.ref a1)]) rfl rfl rfl sub0 rfl ?_
  rintro _ h9 _ - ⟨rfl, K10, E11, F12⟩
  show Go G B M_oof _ h9 (a1 :: []) 1 1 11 #[.val (.ref x)] [(.ref a1)]
  have X13 : Ext h h9 := (Ext.keepN E5 K10 (allS (Nat.le_trans (Nat.le_refl _) (Nat.le_of_eq e3.symm)) all0))
  refine go_areturn K (k := 5) rfl rfl rfl rfl rfl rfl rfl ?_
  intro Sf hSf
  exact ⟨_, rfl, X13, E11, F12⟩
def P_oem : List (Nat × Instr × Nat) := [(0, .getstatic 1, 3), (3, .astore_n 0, 1), (4, .aload_n 0, 1), (5, .areturn, 1)]
theorem L_oem : ∀ q ∈ P_oem, decode jdk_32_method_1_code q.1 = .ok q.2 := by decide +kernel
def M_oem : Mt := (("java/util/Optional", "empty", ({ frames := 0, cells := 0, slots := 0, locals := 0 } : Room)), P_oem, 1, (some (.object "java/util/Optional")))
set_option maxRecDepth 65536 in
set_option maxHeartbeats 40000000 in
theorem c_oem {G : Gb} (H : Gl tables_1 els G) {h : Heap} {oe : Addr} (sE : Sta G.Z G.Z.heap "java/util/Optional" "EMPTY" "Ljava/util/Optional;" (.ref oe)) (xE : Exa G.Z G.Z.heap oe "java/util/Optional") (fE : Fld G.Z G.Z.heap oe "java/util/Optional" "value" "Ljava/lang/Object;" .null) :
    Ctr G [] (⟨"java/util/Optional", "empty", "()Ljava/util/Optional;"⟩ : MethodName) jdk_32_method_1_code 1 (some (.object "java/util/Optional")) ({ frames := 0, cells := 0, slots := 0, locals := 0 } : Room) #[] h [] (fun v h' Sf => ∃ o : Addr, v = some (.ref o) ∧ Ext h h' ∧ Exa G.Z h' o "java/util/Optional" ∧ Fld G.Z h' o "java/util/Optional" "value" "Ljava/lang/Object;" .null) := by
  refine ctr_of M_oem rfl rfl (plainFor_of_name pn_6) L_oem H.el (Ls := #[.unset]) (fun m => ef_ok (by show argsToLocals _ 1 = _; first | (simp [argsToLocals, Value.category]; done) | rfl)) ?_
  intro B K hE
  refine go_getstatic K (k := 0) rfl (host := "") (Or.inl (H.w 113 rfl)) Via.refl sE ?_
  refine go_run K 1 2 (pc' := 5) (Ls' := #[.val (.ref oe)]) (st' := [(.ref oe)]) rfl ?_
  refine go_areturn K (k := 3) rfl rfl rfl rfl rfl rfl rfl ?_
  intro Sf hSf
  exact ⟨_, rfl, Ext.rf _, Exa.ext hE xE, Fld.ext hE fE⟩
def P_ooe : List (Nat × Instr × Nat) := [(0, .aload_n 0, 1), (1, .getfield 13, 3), (4, .ifnull 10, 3), (7, .aload_n 0, 1), (8, .getfield 13, 3), (11, .goto 4, 3), (14, .aload_n 1, 1), (15, .areturn, 1)]
theorem L_ooe : ∀ q ∈ P_ooe, decode jdk_32_method_15_code q.1 = .ok q.2 := by decide +kernel
def M_ooe : Mt := (("java/util/Optional", "orElse", ({ frames := 0, cells := 0, slots := 0, locals := 0 } : Room)), P_ooe, 2, (some (.object "java/lang/Object")))
set_option maxRecDepth 65536 in
set_option maxHeartbeats 40000000 in
theorem c_ooe {G : Gb} (H : Gl tables_1 els G) {h : Heap} {o x : Addr} (F1 : Fld G.Z h o "java/util/Optional" "value" "Ljava/lang/Object;" (.ref x)) :
    Ctr G [] (⟨"java/util/Optional", "orElse", "(Ljava/lang/Object;)Ljava/lang/Object;"⟩ : MethodName) jdk_32_method_15_code 2 (some (.object "java/lang/Object")) ({ frames := 0, cells := 0, slots := 0, locals := 0 } : Room) #[.ref o, .null] h [] (fun v h' Sf => v = some (.ref x) ∧ h = h') := by
  refine ctr_of M_ooe rfl rfl (plainFor_of_name pn_6) L_ooe H.el (Ls := #[.val (.ref o), .val .null]) (fun m => ef_ok (by show argsToLocals _ 2 = _; first | (simp [argsToLocals, Value.category]; done) | rfl)) ?_
  intro B K hE
  refine go_run K 0 1 (pc' := 1) (st' := [(.ref o)]) rfl ?_
  refine go_getfield K (k := 1) rfl (host := "") (Or.inl (H.w 119 rfl)) Via.refl F1 ?_
  refine go_ifnullN K (k := 2) rfl ?_
  refine go_run K 3 1 (pc' := 8) (st' := [(.ref o)]) rfl ?_
  refine go_getfield K (k := 4) rfl (host := "") (Or.inl (H.w 119 rfl)) Via.refl F1 ?_
  refine go_run K 5 1 (pc' := 15) (st' := [(.ref x)]) rfl ?_
  refine go_areturn K (k := 7) rfl rfl rfl rfl rfl rfl rfl ?_
  intro Sf hSf
  exact ⟨rfl, rfl⟩
set_option maxRecDepth 65536 in
set_option maxHeartbeats 40000000 in
theorem c_ooeN {G : Gb} (H : Gl tables_1 els G) {h : Heap} {o : Addr} (F1 : Fld G.Z h o "java/util/Optional" "value" "Ljava/lang/Object;" .null) :
    Ctr G [] (⟨"java/util/Optional", "orElse", "(Ljava/lang/Object;)Ljava/lang/Object;"⟩ : MethodName) jdk_32_method_15_code 2 (some (.object "java/lang/Object")) ({ frames := 0, cells := 0, slots := 0, locals := 0 } : Room) #[.ref o, .null] h [] (fun v h' Sf => v = some .null ∧ h = h') := by
  refine ctr_of M_ooe rfl rfl (plainFor_of_name pn_6) L_ooe H.el (Ls := #[.val (.ref o), .val .null]) (fun m => ef_ok (by show argsToLocals _ 2 = _; first | (simp [argsToLocals, Value.category]; done) | rfl)) ?_
  intro B K hE
  refine go_run K 0 1 (pc' := 1) (st' := [(.ref o)]) rfl ?_
  refine go_getfield K (k := 1) rfl (host := "") (Or.inl (H.w 119 rfl)) Via.refl F1 ?_
  refine go_ifnullY K (k := 2) rfl (pc' := 14) (by decide) ?_
  refine go_run K 6 1 (pc' := 15) (st' := [.null]) rfl ?_
  refine go_areturn K (k := 7) rfl rfl rfl rfl rfl rfl rfl ?_
  intro Sf hSf
  exact ⟨rfl, rfl⟩
theorem pn_7 : plainName "com/example/gentle_retry/gentleretry/rabbitmq/SubscriptionQueue$Role" = true := by first | (simp [plainName, overriddenIn]; done) | decide +kernel
def P_val : List (Nat × Instr × Nat) := [(0, .getstatic 13, 3), (3, .invokevirtual 17, 3), (6, .checkcast 18, 3), (9, .areturn, 1)]
theorem L_val : ∀ q ∈ P_val, decode prog_7_method_1_code q.1 = .ok q.2 := by decide +kernel
def M_val : Mt := (("com/example/gentle_retry/gentleretry/rabbitmq/SubscriptionQueue$Role", "values", ({ frames := 1, cells := 1, slots := 3, locals := 14 } : Room)), P_val, 0, (some (.array (.object "com/example/gentle_retry/gentleretry/rabbitmq/SubscriptionQueue$Role"))))
set_option maxRecDepth 65536 in
set_option maxHeartbeats 40000000 in
theorem c_val {G : Gb} (H : Gl tables_1 els G) {h : Heap} {va b0 b1 b2 : Addr} {kv : ClassId} (sV : Sta G.Z G.Z.heap "com/example/gentle_retry/gentleretry/rabbitmq/SubscriptionQueue$Role" "$VALUES" "[Lcom/example/gentle_retry/gentleretry/rabbitmq/SubscriptionQueue$Role;" (.ref va)) (aV : Arv G.Z G.Z.heap va kv (.object "com/example/gentle_retry/gentleretry/rabbitmq/SubscriptionQueue$Role") (3 : Int32) [.ref b0, .ref b1, .ref b2] .null) (eV : Exa G.Z G.Z.heap va "[Lcom/example/gentle_retry/gentleretry/rabbitmq/SubscriptionQueue$Role;") :
    Ctr G [] (⟨"com/example/gentle_retry/gentleretry/rabbitmq/SubscriptionQueue$Role", "values", "()[Lcom/example/gentle_retry/gentleretry/rabbitmq/SubscriptionQueue$Role;"⟩ : MethodName) prog_7_method_1_code 0 (some (.array (.object "com/example/gentle_retry/gentleretry/rabbitmq/SubscriptionQueue$Role"))) ({ frames := 1, cells := 1, slots := 3, locals := 14 } : Room) #[] h [] (fun v h' Sf => ∃ a : Addr, v = some (.ref a) ∧ Ext h h' ∧ Arv G.Z h' a kv (.object "com/example/gentle_retry/gentleretry/rabbitmq/SubscriptionQueue$Role") (3 : Int32) [.ref b0, .ref b1, .ref b2] .null) := by
  refine ctr_of M_val rfl rfl (plainFor_of_name pn_7) L_val H.el (Ls := #[]) (fun m => ef_ok (by show argsToLocals _ 0 = _; first | (simp [argsToLocals, Value.category]; done) | rfl)) ?_
  intro B K hE
  refine go_getstatic K (k := 0) rfl (host := "") (Or.inl (H.w 91 rfl)) Via.refl sV ?_
  refine go_clone K (k := 1) rfl (H.w 93 rfl) (H.w 94 rfl) (H.w 98 rfl) (H.w 96 rfl) (H.w 97 rfl) (H.w 99 rfl) (aV.ext hE) (Exa.ext hE eV) rfl rfl rfl (cap := 3) (by decide) rfl rfl ?_
  intro h1 b2 e3 g4 E5 A6 X7
  refine go_cast K (k := 2) rfl (H.w 104 rfl) (Ins.self X7) ?_
  refine go_areturn K (k := 3) rfl rfl rfl rfl rfl rfl rfl ?_
  intro Sf hSf
  exact ⟨_, rfl, E5, A6⟩
def P_ofl : List (Nat × Instr × Nat) := [(0, .invokestatic 36, 3), (3, .astore_n 1, 1), (4, .aload_n 1, 1), (5, .arraylength, 1), (6, .istore_n 2, 1), (7, .iconst 0, 1), (8, .istore_n 3, 1), (9, .iload_n 3, 1), (10, .iload_n 2, 1), (11, .if_icmp .ge 32, 3), (14, .aload_n 1, 1), (15, .iload_n 3, 1), (16, .aaload, 1), (17, .astore 4, 2), (19, .aload 4, 2), (21, .getfield 32, 3), (24, .aload_n 0, 1), (25, .invokevirtual 40, 3), (28, .ifCond .eq 9, 3), (31, .aload 4, 2), (33, .invokestatic 46, 3), (36, .areturn, 1), (37, .iinc 3 1, 3), (40, .goto (-31), 3), (43, .invokestatic 52, 3), (46, .areturn, 1)]
theorem L_ofl : ∀ q ∈ P_ofl, decode prog_7_method_5_code q.1 = .ok q.2 := by decide +kernel
def M_ofl : Mt := (("com/example/gentle_retry/gentleretry/rabbitmq/SubscriptionQueue$Role", "ofLabel", ({ frames := 3, cells := 2, slots := 4, locals := 38 } : Room)), P_ofl, 5, (some (.object "java/util/Optional")))
set_option maxRecDepth 65536 in
set_option maxHeartbeats 40000000 in
theorem c_ofl {G : Gb} (H : Gl tables_1 els G) {h : Heap} {s : Addr} {cs : List Int32} {va b0 b1 b2 m0 m1 m2 oe : Addr} {kv : ClassId} (sV : Sta G.Z G.Z.heap "com/example/gentle_retry/gentleretry/rabbitmq/SubscriptionQueue$Role" "$VALUES" "[Lcom/example/gentle_retry/gentleretry/rabbitmq/SubscriptionQueue$Role;" (.ref va)) (aV : Arv G.Z G.Z.heap va kv (.object "com/example/gentle_retry/gentleretry/rabbitmq/SubscriptionQueue$Role") (3 : Int32) [.ref b0, .ref b1, .ref b2] .null) (eV : Exa G.Z G.Z.heap va "[Lcom/example/gentle_retry/gentleretry/rabbitmq/SubscriptionQueue$Role;") (f0 : Fld G.Z G.Z.heap b0 "com/example/gentle_retry/gentleretry/rabbitmq/SubscriptionQueue$Role" "label" "Ljava/lang/String;" (.ref m0)) (t0 : Str G G.Z.heap m0 lW) (f1 : Fld G.Z G.Z.heap b1 "com/example/gentle_retry/gentleretry/rabbitmq/SubscriptionQueue$Role" "label" "Ljava/lang/String;" (.ref m1)) (t1 : Str G G.Z.heap m1 lD) (f2 : Fld G.Z G.Z.heap b2 "com/example/gentle_retry/gentleretry/rabbitmq/SubscriptionQueue$Role" "label" "Ljava/lang/String;" (.ref m2)) (t2 : Str G G.Z.heap m2 lP) (sE : Sta G.Z G.Z.heap "java/util/Optional" "EMPTY" "Ljava/util/Optional;" (.ref oe)) (xE : Exa G.Z G.Z.heap oe "java/util/Optional") (fE : Fld G.Z G.Z.heap oe "java/util/Optional" "value" "Ljava/lang/Object;" .null) (l1 : Lat cs) (S1 : Str G h s cs) :
    Ctr G [] (⟨"com/example/gentle_retry/gentleretry/rabbitmq/SubscriptionQueue$Role", "ofLabel", "(Ljava/lang/String;)Ljava/util/Optional;"⟩ : MethodName) prog_7_method_5_code 5 (some (.object "java/util/Optional")) ({ frames := 3, cells := 2, slots := 4, locals := 38 } : Room) #[.ref s] h [] (fun v h' Sf => ∃ o : Addr, v = some (.ref o) ∧ Ext h h' ∧ Exa G.Z h' o "java/util/Optional" ∧ Fld G.Z h' o "java/util/Optional" "value" "Ljava/lang/Object;" (lbl lW lD lP b0 b1 b2 cs)) := by
  refine ctr_of M_ofl rfl rfl (plainFor_of_name pn_7) L_ofl H.el (Ls := #[.val (.ref s), .unset, .unset, .unset, .unset]) (fun m => ef_ok (by show argsToLocals _ 5 = _; first | (simp [argsToLocals, Value.category]; done) | rfl)) ?_
  intro B K hE
  refine go_static K (k := 0) rfl (H.w 88 rfl) (H.w 89 rfl) (H.w 86 rfl) (H.w 90 rfl) (by decide) pd_15 (c_val H sV aV eV) (argsL := []) (rest := []) rfl rfl rfl sub0 rfl ?_
  rintro _ h1 _ - ⟨a2, rfl, E3, A4⟩
  show Go G B M_ofl _ h1 [] 1 3 3 #[.val (.ref s), .unset, .unset, .unset, .unset] [(.ref a2)]
  refine go_run K 1 2 (pc' := 5) (Ls' := #[.val (.ref s), .val (.ref a2), .unset, .unset, .unset]) (st' := [(.ref a2)]) rfl ?_
  refine go_arraylength K (k := 3) rfl A4 ?_
  refine go_run K 4 5 (pc' := 11) (Ls' := #[.val (.ref s), .val (.ref a2), .val (.int (3 : Int32)), .val (.int (0 : Int32)), .unset]) (st' := [(.int (3 : Int32)), (.int (0 : Int32))]) rfl ?_
  refine go_icmpge K (k := 9) rfl (pc' := 43) (by decide) (fun q => absurd (by decide) q) (fun _ => ?_)
  refine go_run K 10 2 (pc' := 16) (st' := [(.int (0 : Int32)), (.ref a2)]) rfl ?_
  refine go_aaload K (k := 12) rfl A4 rfl (by decide) (v := .ref b0) rfl ?_
  refine go_run K 13 2 (pc' := 21) (Ls' := #[.val (.ref s), .val (.ref a2), .val (.int (3 : Int32)), .val (.int (0 : Int32)), .val (.ref b0)]) (st' := [(.ref b0)]) rfl ?_
  have c5 := ((Fld.ext hE f0).ext E3)
  refine go_getfield K (k := 15) rfl (host := "") (Or.inl (H.w 106 rfl)) Via.refl c5 ?_
  refine go_run K 16 1 (pc' := 25) (st' := [(.ref s), (.ref m0)]) rfl ?_
  have c6 := ((t0.ext hE).ext E3)
  have c7 := (S1.ext E3)
  refine go_virt0 K (k := 17) rfl (H.w 108 rfl) (H.w 76 rfl) (H.w 75 rfl) (H.w 2 rfl) (H.w 77 rfl) (by decide) pd_16 c6.exa (c_seq H (by exact ⟨by decide, by decide⟩) l1 c6 c7) (argsL := [(.ref s)]) (rest := []) rfl rfl rfl sub0 rfl ?_
  rintro _ _ _ - ⟨r8, rfl, rfl, q9⟩
  show Go G B M_ofl _ h1 [] 1 3 28 #[.val (.ref s), .val (.ref a2), .val (.int (3 : Int32)), .val (.int (0 : Int32)), .val (.ref b0)] [(.int r8)]
  refine go_ifeq K (k := 18) rfl (pc' := 37) (by decide) (fun q10 => ?_) (fun q11 => ?_)
  · have n0 : ¬ cs = lW := by
      rcases q9 with ⟨u, -⟩ | ⟨-, u⟩
      · rw [u] at q10; exact absurd q10 (by decide)
      · exact fun e => u e.symm
    refine go_run K 22 2 (pc' := 9) (Ls' := #[.val (.ref s), .val (.ref a2), .val (.int (3 : Int32)), .val (.int (1 : Int32)), .val (.ref b0)]) (st' := []) rfl ?_
    refine go_run K 7 2 (pc' := 11) (st' := [(.int (3 : Int32)), (.int (1 : Int32))]) rfl ?_
    refine go_icmpge K (k := 9) rfl (pc' := 43) (by decide) (fun q => absurd (by decide) q) (fun _ => ?_)
    refine go_run K 10 2 (pc' := 16) (st' := [(.int (1 : Int32)), (.ref a2)]) rfl ?_
    refine go_aaload K (k := 12) rfl A4 rfl (by decide) (v := .ref b1) rfl ?_
    refine go_run K 13 2 (pc' := 21) (Ls' := #[.val (.ref s), .val (.ref a2), .val (.int (3 : Int32)), .val (.int (1 : Int32)), .val (.ref b1)]) (st' := [(.ref b1)]) rfl ?_
    have c18 := ((Fld.ext hE f1).ext E3)
    refine go_getfield K (k := 15) rfl (host := "") (Or.inl (H.w 106 rfl)) Via.refl c18 ?_
    refine go_run K 16 1 (pc' := 25) (st' := [(.ref s), (.ref m1)]) rfl ?_
    have c19 := ((t1.ext hE).ext E3)
    refine go_virt0 K (k := 17) rfl (H.w 108 rfl) (H.w 76 rfl) (H.w 75 rfl) (H.w 2 rfl) (H.w 77 rfl) (by decide) pd_16 c19.exa (c_seq H (by exact ⟨by decide, by decide⟩) l1 c19 c7) (argsL := [(.ref s)]) (rest := []) rfl rfl rfl sub0 rfl ?_
    rintro _ _ _ - ⟨r20, rfl, rfl, q21⟩
    show Go G B M_ofl _ h1 [] 1 3 28 #[.val (.ref s), .val (.ref a2), .val (.int (3 : Int32)), .val (.int (1 : Int32)), .val (.ref b1)] [(.int r20)]
    refine go_ifeq K (k := 18) rfl (pc' := 37) (by decide) (fun q22 => ?_) (fun q23 => ?_)
    · have n1 : ¬ cs = lD := by
        rcases q21 with ⟨u, -⟩ | ⟨-, u⟩
        · rw [u] at q22; exact absurd q22 (by decide)
        · exact fun e => u e.symm
      refine go_run K 22 2 (pc' := 9) (Ls' := #[.val (.ref s), .val (.ref a2), .val (.int (3 : Int32)), .val (.int (2 : Int32)), .val (.ref b1)]) (st' := []) rfl ?_
      refine go_run K 7 2 (pc' := 11) (st' := [(.int (3 : Int32)), (.int (2 : Int32))]) rfl ?_
      refine go_icmpge K (k := 9) rfl (pc' := 43) (by decide) (fun q => absurd (by decide) q) (fun _ => ?_)
      refine go_run K 10 2 (pc' := 16) (st' := [(.int (2 : Int32)), (.ref a2)]) rfl ?_
      refine go_aaload K (k := 12) rfl A4 rfl (by decide) (v := .ref b2) rfl ?_
      refine go_run K 13 2 (pc' := 21) (Ls' := #[.val (.ref s), .val (.ref a2), .val (.int (3 : Int32)), .val (.int (2 : Int32)), .val (.ref b2)]) (st' := [(.ref b2)]) rfl ?_
      have c30 := ((Fld.ext hE f2).ext E3)
      refine go_getfield K (k := 15) rfl (host := "") (Or.inl (H.w 106 rfl)) Via.refl c30 ?_
      refine go_run K 16 1 (pc' := 25) (st' := [(.ref s), (.ref m2)]) rfl ?_
      have c31 := ((t2.ext hE).ext E3)
      refine go_virt0 K (k := 17) rfl (H.w 108 rfl) (H.w 76 rfl) (H.w 75 rfl) (H.w 2 rfl) (H.w 77 rfl) (by decide) pd_16 c31.exa (c_seq H (by exact ⟨by decide, by decide⟩) l1 c31 c7) (argsL := [(.ref s)]) (rest := []) rfl rfl rfl sub0 rfl ?_
      rintro _ _ _ - ⟨r32, rfl, rfl, q33⟩
      show Go G B M_ofl _ h1 [] 1 3 28 #[.val (.ref s), .val (.ref a2), .val (.int (3 : Int32)), .val (.int (2 : Int32)), .val (.ref b2)] [(.int r32)]
      refine go_ifeq K (k := 18) rfl (pc' := 37) (by decide) (fun q34 => ?_) (fun q35 => ?_)
      · have n2 : ¬ cs = lP := by
          rcases q33 with ⟨u, -⟩ | ⟨-, u⟩
          · rw [u] at q34; exact absurd q34 (by decide)
          · exact fun e => u e.symm
        refine go_run K 22 2 (pc' := 9) (Ls' := #[.val (.ref s), .val (.ref a2), .val (.int (3 : Int32)), .val (.int (3 : Int32)), .val (.ref b2)]) (st' := []) rfl ?_
        refine go_run K 7 2 (pc' := 11) (st' := [(.int (3 : Int32)), (.int (3 : Int32))]) rfl ?_
        refine go_icmpge K (k := 9) rfl (pc' := 43) (by decide) (fun _ => ?_) (fun q => absurd q (by decide))
        refine go_static K (k := 24) rfl (H.w 109 rfl) (H.w 110 rfl) (H.w 111 rfl) (H.w 112 rfl) (by decide) pd_18 (c_oem H sE xE fE) (argsL := []) (rest := []) rfl rfl rfl sub0 rfl ?_
        rintro _ h42 _ - ⟨o43, rfl, E44, e45, F46⟩
        show Go G B M_ofl _ h42 [] 1 3 46 #[.val (.ref s), .val (.ref a2), .val (.int (3 : Int32)), .val (.int (3 : Int32)), .val (.ref b2)] [(.ref o43)]
        have X47 : Ext h h42 := (Ext.tr E3 E44)
        refine go_areturn K (k := 25) rfl rfl rfl rfl rfl rfl rfl ?_
        intro Sf hSf
        refine ⟨_, rfl, X47, e45, ?_⟩
        rw [lbl3 n0 n1 n2]
        exact F46
      · have y2 : cs = lP := by
          rcases q33 with ⟨-, u⟩ | ⟨u, -⟩
          · exact u.symm
          · exact absurd u q35
        refine go_run K 19 1 (pc' := 33) (st' := [(.ref b2)]) rfl ?_
        refine go_static K (k := 20) rfl (H.w 123 rfl) (H.w 124 rfl) (H.w 111 rfl) (H.w 125 rfl) (by decide) pd_17 (c_oof (x := b2) H) (argsL := [(.ref b2)]) (rest := []) rfl rfl rfl sub0 rfl ?_
        rintro _ h36 _ - ⟨o37, rfl, E38, e39, F40⟩
        show Go G B M_ofl _ h36 [] 2 4 36 #[.val (.ref s), .val (.ref a2), .val (.int (3 : Int32)), .val (.int (2 : Int32)), .val (.ref b2)] [(.ref o37)]
        have X41 : Ext h h36 := (Ext.tr E3 E38)
        refine go_areturn K (k := 21) rfl rfl rfl rfl rfl rfl rfl ?_
        intro Sf hSf
        refine ⟨_, rfl, X41, e39, ?_⟩
        rw [lbl2 n0 n1 y2]
        exact F40
    · have y1 : cs = lD := by
        rcases q21 with ⟨-, u⟩ | ⟨u, -⟩
        · exact u.symm
        · exact absurd u q23
      refine go_run K 19 1 (pc' := 33) (st' := [(.ref b1)]) rfl ?_
      refine go_static K (k := 20) rfl (H.w 123 rfl) (H.w 124 rfl) (H.w 111 rfl) (H.w 125 rfl) (by decide) pd_17 (c_oof (x := b1) H) (argsL := [(.ref b1)]) (rest := []) rfl rfl rfl sub0 rfl ?_
      rintro _ h24 _ - ⟨o25, rfl, E26, e27, F28⟩
      show Go G B M_ofl _ h24 [] 2 4 36 #[.val (.ref s), .val (.ref a2), .val (.int (3 : Int32)), .val (.int (1 : Int32)), .val (.ref b1)] [(.ref o25)]
      have X29 : Ext h h24 := (Ext.tr E3 E26)
      refine go_areturn K (k := 21) rfl rfl rfl rfl rfl rfl rfl ?_
      intro Sf hSf
      refine ⟨_, rfl, X29, e27, ?_⟩
      rw [lbl1 n0 y1]
      exact F28
  · have y0 : cs = lW := by
      rcases q9 with ⟨-, u⟩ | ⟨u, -⟩
      · exact u.symm
      · exact absurd u q11
    refine go_run K 19 1 (pc' := 33) (st' := [(.ref b0)]) rfl ?_
    refine go_static K (k := 20) rfl (H.w 123 rfl) (H.w 124 rfl) (H.w 111 rfl) (H.w 125 rfl) (by decide) pd_17 (c_oof (x := b0) H) (argsL := [(.ref b0)]) (rest := []) rfl rfl rfl sub0 rfl ?_
    rintro _ h12 _ - ⟨o13, rfl, E14, e15, F16⟩
    show Go G B M_ofl _ h12 [] 2 4 36 #[.val (.ref s), .val (.ref a2), .val (.int (3 : Int32)), .val (.int (0 : Int32)), .val (.ref b0)] [(.ref o13)]
    have X17 : Ext h h12 := (Ext.tr E3 E14)
    refine go_areturn K (k := 21) rfl rfl rfl rfl rfl rfl rfl ?_
    intro Sf hSf
    refine ⟨_, rfl, X17, e15, ?_⟩
    rw [lbl0 y0]
    exact F16
def P_law : List (Nat × Instr × Nat) := [(0, .iload_n 0, 1), (1, .ldc 7, 2), (3, .iand, 1), (4, .iconst 3, 1), (5, .irem, 1), (6, .istore 6, 2), (8, .iload 6, 2), (10, .ifCond .ne 8, 3), (13, .ldc 8, 2), (15, .goto 16, 3), (18, .iload 6, 2), (20, .iconst 1, 1), (21, .if_icmp .ne 8, 3), (24, .ldc 10, 2), (26, .goto 5, 3), (29, .ldc 12, 2), (31, .astore 7, 2), (33, .bipush 8, 2), (35, .newarray .char, 2), (37, .astore 8, 2), (39, .aload 8, 2), (41, .iconst 0, 1), (42, .aload 7, 2), (44, .iconst 0, 1), (45, .invokestatic 14, 3), (48, .castore, 1), (49, .aload 8, 2), (51, .iconst 1, 1), (52, .aload 7, 2), (54, .iconst 1, 1), (55, .invokestatic 14, 3), (58, .castore, 1), (59, .aload 8, 2), (61, .iconst 2, 1), (62, .aload 7, 2), (64, .iconst 2, 1), (65, .invokestatic 14, 3), (68, .castore, 1), (69, .aload 8, 2), (71, .iconst 3, 1), (72, .aload 7, 2), (74, .iconst 3, 1), (75, .invokestatic 14, 3), (78, .castore, 1), (79, .aload 8, 2), (81, .iconst 4, 1), (82, .aload 7, 2), (84, .iconst 4, 1), (85, .invokestatic 14, 3), (88, .castore, 1), (89, .aload 8, 2), (91, .iconst 5, 1), (92, .aload 7, 2), (94, .iconst 5, 1), (95, .invokestatic 14, 3), (98, .castore, 1), (99, .aload 8, 2), (101, .bipush 6, 2), (103, .aload 7, 2), (105, .bipush 6, 2), (107, .invokestatic 14, 3), (110, .castore, 1), (111, .aload 7, 2), (113, .invokevirtual 20, 3), (116, .istore 9, 2), (118, .iload_n 1, 1), (119, .bipush 7, 2), (121, .iand, 1), (122, .istore 10, 2), (124, .iload 10, 2), (126, .iconst 1, 1), (127, .if_icmp .ne 22, 3), (130, .aload 8, 2), (132, .iload_n 2, 1), (133, .ldc 7, 2), (135, .iand, 1), (136, .iload 9, 2), (138, .irem, 1), (139, .iload_n 3, 1), (140, .sipush 255, 3), (143, .iand, 1), (144, .i2c, 1), (145, .castore, 1), (146, .goto 156, 3), (149, .iload 10, 2), (151, .iconst 2, 1), (152, .if_icmp .ne 18, 3), (155, .iload 4, 2), (157, .ldc 7, 2), (159, .iand, 1), (160, .iload 9, 2), (162, .iconst 1, 1), (163, .iadd, 1), (164, .irem, 1), (165, .istore 9, 2), (167, .goto 135, 3), (170, .iload 10, 2), (172, .iconst 3, 1), (173, .if_icmp .ne 23, 3), (176, .aload 8, 2), (178, .iload 9, 2), (180, .iload_n 3, 1), (181, .sipush 255, 3), (184, .iand, 1), (185, .i2c, 1), (186, .castore, 1), (187, .iload 9, 2), (189, .iconst 1, 1), (190, .iadd, 1), (191, .istore 9, 2), (193, .goto 109, 3), (196, .iload 10, 2), (198, .iconst 4, 1), (199, .if_icmp .ne 103, 3), (202, .aload 8, 2), (204, .iconst 0, 1), (205, .iload 5, 2), (207, .sipush 255, 3), (210, .iand, 1), (211, .i2c, 1), (212, .castore, 1), (213, .aload 8, 2), (215, .iconst 1, 1), (216, .iload 5, 2), (218, .bipush 8, 2), (220, .iushr, 1), (221, .sipush 255, 3), (224, .iand, 1), (225, .i2c, 1), (226, .castore, 1), (227, .aload 8, 2), (229, .iconst 2, 1), (230, .iload 5, 2), (232, .bipush 16, 2), (234, .iushr, 1), (235, .sipush 255, 3), (238, .iand, 1), (239, .i2c, 1), (240, .castore, 1), (241, .aload 8, 2), (243, .iconst 3, 1), (244, .iload 5, 2), (246, .bipush 24, 2), (248, .iushr, 1), (249, .sipush 255, 3), (252, .iand, 1), (253, .i2c, 1), (254, .castore, 1), (255, .aload 8, 2), (257, .iconst 4, 1), (258, .iload_n 3, 1), (259, .sipush 255, 3), (262, .iand, 1), (263, .i2c, 1), (264, .castore, 1), (265, .aload 8, 2), (267, .iconst 5, 1), (268, .iload_n 3, 1), (269, .bipush 8, 2), (271, .iushr, 1), (272, .sipush 255, 3), (275, .iand, 1), (276, .i2c, 1), (277, .castore, 1), (278, .aload 8, 2), (280, .bipush 6, 2), (282, .iload_n 3, 1), (283, .bipush 16, 2), (285, .iushr, 1), (286, .sipush 255, 3), (289, .iand, 1), (290, .i2c, 1), (291, .castore, 1), (292, .iload 4, 2), (294, .ldc 7, 2), (296, .iand, 1), (297, .bipush 8, 2), (299, .irem, 1), (300, .istore 9, 2), (302, .aload 8, 2), (304, .iload 9, 2), (306, .invokestatic 26, 3), (309, .astore 11, 2), (311, .aload 11, 2), (313, .ldc 8, 2), (315, .invokevirtual 30, 3), (318, .ifCond .eq 11, 3), (321, .getstatic 34, 3), (324, .astore 12, 2), (326, .goto 42, 3), (329, .aload 11, 2), (331, .ldc 10, 2), (333, .invokevirtual 30, 3), (336, .ifCond .eq 11, 3), (339, .getstatic 40, 3), (342, .astore 12, 2), (344, .goto 24, 3), (347, .aload 11, 2), (349, .ldc 12, 2), (351, .invokevirtual 30, 3), (354, .ifCond .eq 11, 3), (357, .getstatic 43, 3), (360, .astore 12, 2), (362, .goto 6, 3), (365, .aconst_null, 1), (366, .astore 12, 2), (368, .aload 11, 2), (370, .invokestatic 46, 3), (373, .aconst_null, 1), (374, .invokevirtual 50, 3), (377, .checkcast 35, 3), (380, .astore 13, 2), (382, .aload 13, 2), (384, .aload 12, 2), (386, .if_acmp .ne 7, 3), (389, .iconst 1, 1), (390, .goto 4, 3), (393, .iconst 0, 1), (394, .ireturn, 1)]
theorem L_law : ∀ q ∈ P_law, decode code q.1 = .ok q.2 := by decide +kernel
def M_law : Mt := (("com/example/gentle_retry/gentleretry/rabbitmq/RoleOfLabelPinLaw", "law", room_1), P_law, 14, (some .boolean))
set_option maxRecDepth 65536 in
set_option maxHeartbeats 40000000 in
theorem law_ok {G : Gb} (H : Gl tables_1 els G) {h : Heap} {p0 p1 p2 p3 p4 p5 : Int32} (hF : ∃ vf : Value, Sta G.Z G.Z.heap "jdk/internal/util/Preconditions" "SIOOBE_FORMATTER" "Ljava/util/function/BiFunction;" vf ∧ vf.isRef = true) {va b0 b1 b2 m0 m1 m2 oe : Addr} {kv : ClassId} (sV : Sta G.Z G.Z.heap "com/example/gentle_retry/gentleretry/rabbitmq/SubscriptionQueue$Role" "$VALUES" "[Lcom/example/gentle_retry/gentleretry/rabbitmq/SubscriptionQueue$Role;" (.ref va)) (aV : Arv G.Z G.Z.heap va kv (.object "com/example/gentle_retry/gentleretry/rabbitmq/SubscriptionQueue$Role") (3 : Int32) [.ref b0, .ref b1, .ref b2] .null) (eV : Exa G.Z G.Z.heap va "[Lcom/example/gentle_retry/gentleretry/rabbitmq/SubscriptionQueue$Role;") (f0 : Fld G.Z G.Z.heap b0 "com/example/gentle_retry/gentleretry/rabbitmq/SubscriptionQueue$Role" "label" "Ljava/lang/String;" (.ref m0)) (t0 : Str G G.Z.heap m0 lW) (f1 : Fld G.Z G.Z.heap b1 "com/example/gentle_retry/gentleretry/rabbitmq/SubscriptionQueue$Role" "label" "Ljava/lang/String;" (.ref m1)) (t1 : Str G G.Z.heap m1 lD) (f2 : Fld G.Z G.Z.heap b2 "com/example/gentle_retry/gentleretry/rabbitmq/SubscriptionQueue$Role" "label" "Ljava/lang/String;" (.ref m2)) (t2 : Str G G.Z.heap m2 lP) (sE : Sta G.Z G.Z.heap "java/util/Optional" "EMPTY" "Ljava/util/Optional;" (.ref oe)) (xE : Exa G.Z G.Z.heap oe "java/util/Optional") (fE : Fld G.Z G.Z.heap oe "java/util/Optional" "value" "Ljava/lang/Object;" .null) (s0 : Sta G.Z G.Z.heap "com/example/gentle_retry/gentleretry/rabbitmq/SubscriptionQueue$Role" "WORK" "Lcom/example/gentle_retry/gentleretry/rabbitmq/SubscriptionQueue$Role;" (.ref b0)) (x0 : Exa G.Z G.Z.heap b0 "com/example/gentle_retry/gentleretry/rabbitmq/SubscriptionQueue$Role") (s1 : Sta G.Z G.Z.heap "com/example/gentle_retry/gentleretry/rabbitmq/SubscriptionQueue$Role" "DELAY" "Lcom/example/gentle_retry/gentleretry/rabbitmq/SubscriptionQueue$Role;" (.ref b1)) (x1 : Exa G.Z G.Z.heap b1 "com/example/gentle_retry/gentleretry/rabbitmq/SubscriptionQueue$Role") (s2 : Sta G.Z G.Z.heap "com/example/gentle_retry/gentleretry/rabbitmq/SubscriptionQueue$Role" "PARKED" "Lcom/example/gentle_retry/gentleretry/rabbitmq/SubscriptionQueue$Role;" (.ref b2)) (x2 : Exa G.Z G.Z.heap b2 "com/example/gentle_retry/gentleretry/rabbitmq/SubscriptionQueue$Role") :
    Ctr G tables_1 x code maxLocals ret room_1 #[.int p0, .int p1, .int p2, .int p3, .int p4, .int p5] h [] (fun v h' Sf => v = some (.int 1)) := by
  refine ctr_of M_law rfl rfl (plainFor_of_name pn_4) L_law H.el (Ls := #[.val (.int p0), .val (.int p1), .val (.int p2), .val (.int p3), .val (.int p4), .val (.int p5), .unset, .unset, .unset, .unset, .unset, .unset, .unset, .unset]) (fun m => ef_ok (by show argsToLocals _ 14 = _; first | (simp [argsToLocals, Value.category]; done) | rfl)) ?_
  intro B K hE
  refine go_run K 0 1 (pc' := 1) (st' := [(.int p0)]) rfl ?_
  refine go_ldcI K (k := 1) rfl (H.w 0 rfl) ?_
  refine go_run K 2 2 (pc' := 5) (st' := [(.int (3 : Int32)), (.int (p0 &&& (2147483647 : Int32)))]) rfl ?_
  refine go_irem K (k := 4) rfl (by decide) ?_
  refine go_run K 5 2 (pc' := 10) (Ls' := #[.val (.int p0), .val (.int p1), .val (.int p2), .val (.int p3), .val (.int p4), .val (.int p5), .val (.int ((p0 &&& (2147483647 : Int32)) % (3 : Int32))), .unset, .unset, .unset, .unset, .unset, .unset, .unset]) (st' := [(.int ((p0 &&& (2147483647 : Int32)) % (3 : Int32)))]) rfl ?_
  have J31 : ∀ (h1 : Heap) (ta : Addr) (ls : List Int32), (Ext G.Z.heap h1) → (Str G h1 ta ls) → (Lat ls) → (1 ≤ ls.length) → (ls.length ≤ 6) → Go G B M_law (fun v h' Sf => v = some (.int 1)) h1 [] 2 28 31 #[.val (.int p0), .val (.int p1), .val (.int p2), .val (.int p3), .val (.int p4), .val (.int p5), .val (.int ((p0 &&& (2147483647 : Int32)) % (3 : Int32))), .unset, .unset, .unset, .unset, .unset, .unset, .unset] [(.ref ta)] := by
    intro h1 ta ls hE1 Sa hl hlo hhi
    refine go_run K 16 2 (pc' := 35) (Ls' := #[.val (.int p0), .val (.int p1), .val (.int p2), .val (.int p3), .val (.int p4), .val (.int p5), .val (.int ((p0 &&& (2147483647 : Int32)) % (3 : Int32))), .val (.ref ta), .unset, .unset, .unset, .unset, .unset, .unset]) (st' := [(.int (8 : Int32))]) rfl ?_
    refine go_newarray K (k := 18) rfl (H.w 9 rfl) (by decide) (cap := 8) (by decide) rfl rfl rfl ?_
    intro h2 a1 k3 e4 g5 E6 A7
    have A7' : Arv G.Z h2 a1 k3 .char (8 : Int32) [(.int (0 : Int32)), (.int (0 : Int32)), (.int (0 : Int32)), (.int (0 : Int32)), (.int (0 : Int32)), (.int (0 : Int32)), (.int (0 : Int32)), (.int (0 : Int32))] (.int (0 : Int32)) := Arv.pad A7 (pad_rep [] (.int (0 : Int32)) 8)
    have C8 : Cz G h2 a1 k3 8 := ⟨[0, 0, 0, 0, 0, 0, 0, 0], rfl, by decide, A7'⟩
    refine go_run K 19 5 (pc' := 45) (Ls' := #[.val (.int p0), .val (.int p1), .val (.int p2), .val (.int p3), .val (.int p4), .val (.int p5), .val (.int ((p0 &&& (2147483647 : Int32)) % (3 : Int32))), .val (.ref ta), .val (.ref a1), .unset, .unset, .unset, .unset, .unset]) (st' := [(.int (0 : Int32)), (.ref ta), (.int (0 : Int32)), (.ref a1)]) rfl ?_
    have c9 := (Sa.ext E6)
    refine go_static K (k := 24) rfl (H.w 10 rfl) (H.w 11 rfl) (H.w 12 rfl) (H.w 13 rfl) (by decide) pd_19 (c_at (i := 0) H hl (by decide) hF c9) (argsL := [(.ref ta), (.int (0 : Int32))]) (rest := [(.int (0 : Int32)), (.ref a1)]) rfl rfl rfl sub0 rfl ?_
    rintro _ _ _ - ⟨r10, rfl, rfl, q11⟩
    show Go G B M_law _ h2 (a1 :: []) 3 36 48 #[.val (.int p0), .val (.int p1), .val (.int p2), .val (.int p3), .val (.int p4), .val (.int p5), .val (.int ((p0 &&& (2147483647 : Int32)) % (3 : Int32))), .val (.ref ta), .val (.ref a1), .unset, .unset, .unset, .unset, .unset] [(.int r10), (.int (0 : Int32)), (.ref a1)]
    refine go_castoreZ K (k := 25) rfl C8 (by decide) (by decide) g5 q11 ?_
    intro h12 W13 C14
    refine go_run K 26 4 (pc' := 55) (st' := [(.int (1 : Int32)), (.ref ta), (.int (1 : Int32)), (.ref a1)]) rfl ?_
    have X15 : Ext h1 h12 := (Ext.wrN E6 W13 (Nat.le_trans (Nat.le_refl _) (Nat.le_of_eq e4.symm)))
    have c16 := (Sa.ext X15)
    refine go_static K (k := 30) rfl (H.w 10 rfl) (H.w 11 rfl) (H.w 12 rfl) (H.w 13 rfl) (by decide) pd_19 (c_at (i := 1) H hl (by decide) hF c16) (argsL := [(.ref ta), (.int (1 : Int32))]) (rest := [(.int (1 : Int32)), (.ref a1)]) rfl rfl rfl sub0 rfl ?_
    rintro _ _ _ - ⟨r17, rfl, rfl, q18⟩
    show Go G B M_law _ h12 (a1 :: []) 3 36 58 #[.val (.int p0), .val (.int p1), .val (.int p2), .val (.int p3), .val (.int p4), .val (.int p5), .val (.int ((p0 &&& (2147483647 : Int32)) % (3 : Int32))), .val (.ref ta), .val (.ref a1), .unset, .unset, .unset, .unset, .unset] [(.int r17), (.int (1 : Int32)), (.ref a1)]
    refine go_castoreZ K (k := 31) rfl C14 (by decide) (by decide) g5 q18 ?_
    intro h19 W20 C21
    refine go_run K 32 4 (pc' := 65) (st' := [(.int (2 : Int32)), (.ref ta), (.int (2 : Int32)), (.ref a1)]) rfl ?_
    have X22 : Ext h1 h19 := (Ext.wrN X15 W20 (Nat.le_trans (Nat.le_refl _) (Nat.le_of_eq e4.symm)))
    have c23 := (Sa.ext X22)
    refine go_static K (k := 36) rfl (H.w 10 rfl) (H.w 11 rfl) (H.w 12 rfl) (H.w 13 rfl) (by decide) pd_19 (c_at (i := 2) H hl (by decide) hF c23) (argsL := [(.ref ta), (.int (2 : Int32))]) (rest := [(.int (2 : Int32)), (.ref a1)]) rfl rfl rfl sub0 rfl ?_
    rintro _ _ _ - ⟨r24, rfl, rfl, q25⟩
    show Go G B M_law _ h19 (a1 :: []) 3 36 68 #[.val (.int p0), .val (.int p1), .val (.int p2), .val (.int p3), .val (.int p4), .val (.int p5), .val (.int ((p0 &&& (2147483647 : Int32)) % (3 : Int32))), .val (.ref ta), .val (.ref a1), .unset, .unset, .unset, .unset, .unset] [(.int r24), (.int (2 : Int32)), (.ref a1)]
    refine go_castoreZ K (k := 37) rfl C21 (by decide) (by decide) g5 q25 ?_
    intro h26 W27 C28
    refine go_run K 38 4 (pc' := 75) (st' := [(.int (3 : Int32)), (.ref ta), (.int (3 : Int32)), (.ref a1)]) rfl ?_
    have X29 : Ext h1 h26 := (Ext.wrN X22 W27 (Nat.le_trans (Nat.le_refl _) (Nat.le_of_eq e4.symm)))
    have c30 := (Sa.ext X29)
    refine go_static K (k := 42) rfl (H.w 10 rfl) (H.w 11 rfl) (H.w 12 rfl) (H.w 13 rfl) (by decide) pd_19 (c_at (i := 3) H hl (by decide) hF c30) (argsL := [(.ref ta), (.int (3 : Int32))]) (rest := [(.int (3 : Int32)), (.ref a1)]) rfl rfl rfl sub0 rfl ?_
    rintro _ _ _ - ⟨r31, rfl, rfl, q32⟩
    show Go G B M_law _ h26 (a1 :: []) 3 36 78 #[.val (.int p0), .val (.int p1), .val (.int p2), .val (.int p3), .val (.int p4), .val (.int p5), .val (.int ((p0 &&& (2147483647 : Int32)) % (3 : Int32))), .val (.ref ta), .val (.ref a1), .unset, .unset, .unset, .unset, .unset] [(.int r31), (.int (3 : Int32)), (.ref a1)]
    refine go_castoreZ K (k := 43) rfl C28 (by decide) (by decide) g5 q32 ?_
    intro h33 W34 C35
    refine go_run K 44 4 (pc' := 85) (st' := [(.int (4 : Int32)), (.ref ta), (.int (4 : Int32)), (.ref a1)]) rfl ?_
    have X36 : Ext h1 h33 := (Ext.wrN X29 W34 (Nat.le_trans (Nat.le_refl _) (Nat.le_of_eq e4.symm)))
    have c37 := (Sa.ext X36)
    refine go_static K (k := 48) rfl (H.w 10 rfl) (H.w 11 rfl) (H.w 12 rfl) (H.w 13 rfl) (by decide) pd_19 (c_at (i := 4) H hl (by decide) hF c37) (argsL := [(.ref ta), (.int (4 : Int32))]) (rest := [(.int (4 : Int32)), (.ref a1)]) rfl rfl rfl sub0 rfl ?_
    rintro _ _ _ - ⟨r38, rfl, rfl, q39⟩
    show Go G B M_law _ h33 (a1 :: []) 3 36 88 #[.val (.int p0), .val (.int p1), .val (.int p2), .val (.int p3), .val (.int p4), .val (.int p5), .val (.int ((p0 &&& (2147483647 : Int32)) % (3 : Int32))), .val (.ref ta), .val (.ref a1), .unset, .unset, .unset, .unset, .unset] [(.int r38), (.int (4 : Int32)), (.ref a1)]
    refine go_castoreZ K (k := 49) rfl C35 (by decide) (by decide) g5 q39 ?_
    intro h40 W41 C42
    refine go_run K 50 4 (pc' := 95) (st' := [(.int (5 : Int32)), (.ref ta), (.int (5 : Int32)), (.ref a1)]) rfl ?_
    have X43 : Ext h1 h40 := (Ext.wrN X36 W41 (Nat.le_trans (Nat.le_refl _) (Nat.le_of_eq e4.symm)))
    have c44 := (Sa.ext X43)
    refine go_static K (k := 54) rfl (H.w 10 rfl) (H.w 11 rfl) (H.w 12 rfl) (H.w 13 rfl) (by decide) pd_19 (c_at (i := 5) H hl (by decide) hF c44) (argsL := [(.ref ta), (.int (5 : Int32))]) (rest := [(.int (5 : Int32)), (.ref a1)]) rfl rfl rfl sub0 rfl ?_
    rintro _ _ _ - ⟨r45, rfl, rfl, q46⟩
    show Go G B M_law _ h40 (a1 :: []) 3 36 98 #[.val (.int p0), .val (.int p1), .val (.int p2), .val (.int p3), .val (.int p4), .val (.int p5), .val (.int ((p0 &&& (2147483647 : Int32)) % (3 : Int32))), .val (.ref ta), .val (.ref a1), .unset, .unset, .unset, .unset, .unset] [(.int r45), (.int (5 : Int32)), (.ref a1)]
    refine go_castoreZ K (k := 55) rfl C42 (by decide) (by decide) g5 q46 ?_
    intro h47 W48 C49
    refine go_run K 56 4 (pc' := 107) (st' := [(.int (6 : Int32)), (.ref ta), (.int (6 : Int32)), (.ref a1)]) rfl ?_
    have X50 : Ext h1 h47 := (Ext.wrN X43 W48 (Nat.le_trans (Nat.le_refl _) (Nat.le_of_eq e4.symm)))
    have c51 := (Sa.ext X50)
    refine go_static K (k := 60) rfl (H.w 10 rfl) (H.w 11 rfl) (H.w 12 rfl) (H.w 13 rfl) (by decide) pd_19 (c_at (i := 6) H hl (by decide) hF c51) (argsL := [(.ref ta), (.int (6 : Int32))]) (rest := [(.int (6 : Int32)), (.ref a1)]) rfl rfl rfl sub0 rfl ?_
    rintro _ _ _ - ⟨r52, rfl, rfl, q53⟩
    show Go G B M_law _ h47 (a1 :: []) 3 36 110 #[.val (.int p0), .val (.int p1), .val (.int p2), .val (.int p3), .val (.int p4), .val (.int p5), .val (.int ((p0 &&& (2147483647 : Int32)) % (3 : Int32))), .val (.ref ta), .val (.ref a1), .unset, .unset, .unset, .unset, .unset] [(.int r52), (.int (6 : Int32)), (.ref a1)]
    refine go_castoreZ K (k := 61) rfl C49 (by decide) (by decide) g5 q53 ?_
    intro h54 W55 C56
    refine go_run K 62 1 (pc' := 113) (st' := [(.ref ta)]) rfl ?_
    have X57 : Ext h1 h54 := (Ext.wrN X50 W55 (Nat.le_trans (Nat.le_refl _) (Nat.le_of_eq e4.symm)))
    have c58 := (Sa.ext X57)
    refine go_virt0 K (k := 63) rfl (H.w 14 rfl) (H.w 17 rfl) (H.w 16 rfl) (H.w 2 rfl) (H.w 18 rfl) (by decide) pd_10 c58.exa (c_len H c58) (argsL := []) (rest := []) rfl rfl rfl sub0 rfl ?_
    rintro _ _ _ - ⟨rfl, rfl⟩
    show Go G B M_law _ h54 (a1 :: []) 3 36 116 #[.val (.int p0), .val (.int p1), .val (.int p2), .val (.int p3), .val (.int p4), .val (.int p5), .val (.int ((p0 &&& (2147483647 : Int32)) % (3 : Int32))), .val (.ref ta), .val (.ref a1), .unset, .unset, .unset, .unset, .unset] [(.int (ls).length.toInt32)]
    show Go G B M_law _ h54 (a1 :: []) 3 36 116 #[.val (.int p0), .val (.int p1), .val (.int p2), .val (.int p3), .val (.int p4), .val (.int p5), .val (.int ((p0 &&& (2147483647 : Int32)) % (3 : Int32))), .val (.ref ta), .val (.ref a1), .unset, .unset, .unset, .unset, .unset] [(.int ls.length.toInt32)]
    refine go_run K 64 7 (pc' := 127) (Ls' := #[.val (.int p0), .val (.int p1), .val (.int p2), .val (.int p3), .val (.int p4), .val (.int p5), .val (.int ((p0 &&& (2147483647 : Int32)) % (3 : Int32))), .val (.ref ta), .val (.ref a1), .val (.int ls.length.toInt32), .val (.int (p1 &&& (7 : Int32))), .unset, .unset, .unset]) (st' := [(.int (1 : Int32)), (.int (p1 &&& (7 : Int32)))]) rfl ?_
    have J302 : ∀ (h2 : Heap) (n9 : Int32), (Ext G.Z.heap h2) → (Cz G h2 a1 k3 8) → Go G B M_law (fun v h' Sf => v = some (.int 1)) h2 (a1 :: []) 3 36 302 #[.val (.int p0), .val (.int p1), .val (.int p2), .val (.int p3), .val (.int p4), .val (.int p5), .val (.int ((p0 &&& (2147483647 : Int32)) % (3 : Int32))), .val (.ref ta), .val (.ref a1), .val (.int n9), .val (.int (p1 &&& (7 : Int32))), .unset, .unset, .unset] [] := by
      intro h2 n9 hE2 C2
      refine go_run K 179 2 (pc' := 306) (st' := [(.int n9), (.ref a1)]) rfl ?_
      refine go_static K (k := 181) rfl (H.w 49 rfl) (H.w 50 rfl) (H.w 12 rfl) (H.w 51 rfl) (by decide) pd_20 (c_str (n := n9) H C2) (argsL := [(.ref a1), (.int n9)]) (rest := []) rfl rfl rfl sub0 rfl ?_
      rintro _ h59 _ - ⟨a60, cs61, rfl, E62, S63, l64⟩
      show Go G B M_law _ h59 (a1 :: []) 9 55 309 #[.val (.int p0), .val (.int p1), .val (.int p2), .val (.int p3), .val (.int p4), .val (.int p5), .val (.int ((p0 &&& (2147483647 : Int32)) % (3 : Int32))), .val (.ref ta), .val (.ref a1), .val (.int n9), .val (.int (p1 &&& (7 : Int32))), .unset, .unset, .unset] [(.ref a60)]
      refine go_run K 182 2 (pc' := 313) (Ls' := #[.val (.int p0), .val (.int p1), .val (.int p2), .val (.int p3), .val (.int p4), .val (.int p5), .val (.int ((p0 &&& (2147483647 : Int32)) % (3 : Int32))), .val (.ref ta), .val (.ref a1), .val (.int n9), .val (.int (p1 &&& (7 : Int32))), .val (.ref a60), .unset, .unset]) (st' := [(.ref a60)]) rfl ?_
      refine go_ldcT K (k := 184) rfl (H.w 1 rfl) H.ws (H.mem (by decide)) (cs := [(119 : Int32), (111 : Int32), (114 : Int32), (107 : Int32)]) (by decide) (by decide) (n := 24) rfl rfl rfl rfl ?_
      intro h66 a65 E67 S68
      have c69 := (S63.ext E67)
      refine go_virt0 K (k := 185) rfl (H.w 73 rfl) (H.w 76 rfl) (H.w 75 rfl) (H.w 2 rfl) (H.w 77 rfl) (by decide) pd_16 c69.exa (c_seq H l64 (by exact ⟨by decide, by decide⟩) c69 S68) (argsL := [(.ref a65)]) (rest := []) rfl rfl rfl sub0 rfl ?_
      rintro _ _ _ - ⟨r70, rfl, rfl, q71⟩
      show Go G B M_law _ h66 (a1 :: []) 11 83 318 #[.val (.int p0), .val (.int p1), .val (.int p2), .val (.int p3), .val (.int p4), .val (.int p5), .val (.int ((p0 &&& (2147483647 : Int32)) % (3 : Int32))), .val (.ref ta), .val (.ref a1), .val (.int n9), .val (.int (p1 &&& (7 : Int32))), .val (.ref a60), .unset, .unset] [(.int r70)]
      refine go_ifeq K (k := 186) rfl (pc' := 329) (by decide) (fun q72 => ?_) (fun q73 => ?_)
      · have n0 : ¬ cs61 = lW := by
          rcases q71 with ⟨u, -⟩ | ⟨-, u⟩
          · rw [u] at q72; exact absurd q72 (by decide)
          · exact u
        refine go_run K 190 1 (pc' := 331) (st' := [(.ref a60)]) rfl ?_
        refine go_ldcT K (k := 191) rfl (H.w 82 rfl) H.ws (H.mem (by decide)) (cs := [(100 : Int32), (101 : Int32), (108 : Int32), (97 : Int32), (121 : Int32)]) (by decide) (by decide) (n := 24) rfl rfl rfl rfl ?_
        intro h83 a82 E84 S85
        have c86 := (c69.ext E84)
        refine go_virt0 K (k := 192) rfl (H.w 73 rfl) (H.w 76 rfl) (H.w 75 rfl) (H.w 2 rfl) (H.w 77 rfl) (by decide) pd_16 c86.exa (c_seq H l64 (by exact ⟨by decide, by decide⟩) c86 S85) (argsL := [(.ref a82)]) (rest := []) rfl rfl rfl sub0 rfl ?_
        rintro _ _ _ - ⟨r87, rfl, rfl, q88⟩
        show Go G B M_law _ h83 (a1 :: []) 13 111 336 #[.val (.int p0), .val (.int p1), .val (.int p2), .val (.int p3), .val (.int p4), .val (.int p5), .val (.int ((p0 &&& (2147483647 : Int32)) % (3 : Int32))), .val (.ref ta), .val (.ref a1), .val (.int n9), .val (.int (p1 &&& (7 : Int32))), .val (.ref a60), .unset, .unset] [(.int r87)]
        refine go_ifeq K (k := 193) rfl (pc' := 347) (by decide) (fun q89 => ?_) (fun q90 => ?_)
        · have n1 : ¬ cs61 = lD := by
            rcases q88 with ⟨u, -⟩ | ⟨-, u⟩
            · rw [u] at q89; exact absurd q89 (by decide)
            · exact u
          refine go_run K 197 1 (pc' := 349) (st' := [(.ref a60)]) rfl ?_
          refine go_ldcT K (k := 198) rfl (H.w 83 rfl) H.ws (H.mem (by decide)) (cs := [(112 : Int32), (97 : Int32), (114 : Int32), (107 : Int32), (101 : Int32), (100 : Int32)]) (by decide) (by decide) (n := 24) rfl rfl rfl rfl ?_
          intro h101 a100 E102 S103
          have c104 := (c86.ext E102)
          refine go_virt0 K (k := 199) rfl (H.w 73 rfl) (H.w 76 rfl) (H.w 75 rfl) (H.w 2 rfl) (H.w 77 rfl) (by decide) pd_16 c104.exa (c_seq H l64 (by exact ⟨by decide, by decide⟩) c104 S103) (argsL := [(.ref a100)]) (rest := []) rfl rfl rfl sub0 rfl ?_
          rintro _ _ _ - ⟨r105, rfl, rfl, q106⟩
          show Go G B M_law _ h101 (a1 :: []) 15 139 354 #[.val (.int p0), .val (.int p1), .val (.int p2), .val (.int p3), .val (.int p4), .val (.int p5), .val (.int ((p0 &&& (2147483647 : Int32)) % (3 : Int32))), .val (.ref ta), .val (.ref a1), .val (.int n9), .val (.int (p1 &&& (7 : Int32))), .val (.ref a60), .unset, .unset] [(.int r105)]
          refine go_ifeq K (k := 200) rfl (pc' := 365) (by decide) (fun q107 => ?_) (fun q108 => ?_)
          · have n2 : ¬ cs61 = lP := by
              rcases q106 with ⟨u, -⟩ | ⟨-, u⟩
              · rw [u] at q107; exact absurd q107 (by decide)
              · exact u
            refine go_run K 204 3 (pc' := 370) (Ls' := #[.val (.int p0), .val (.int p1), .val (.int p2), .val (.int p3), .val (.int p4), .val (.int p5), .val (.int ((p0 &&& (2147483647 : Int32)) % (3 : Int32))), .val (.ref ta), .val (.ref a1), .val (.int n9), .val (.int (p1 &&& (7 : Int32))), .val (.ref a60), .val .null, .unset]) (st' := [(.ref a60)]) rfl ?_
            refine go_static K (k := 207) rfl (H.w 84 rfl) (H.w 85 rfl) (H.w 86 rfl) (H.w 87 rfl) (by decide) pd_21 (c_ofl H sV aV eV f0 t0 f1 t1 f2 t2 sE xE fE l64 c104) (argsL := [(.ref a60)]) (rest := []) rfl rfl rfl sub0 rfl ?_
            rintro _ h119 _ - ⟨o120, rfl, E121, e122, F123⟩
            rw [lbl3 n0 n1 n2] at F123
            show Go G B M_law _ h119 (a1 :: []) 17 143 373 #[.val (.int p0), .val (.int p1), .val (.int p2), .val (.int p3), .val (.int p4), .val (.int p5), .val (.int ((p0 &&& (2147483647 : Int32)) % (3 : Int32))), .val (.ref ta), .val (.ref a1), .val (.int n9), .val (.int (p1 &&& (7 : Int32))), .val (.ref a60), .val .null, .unset] [(.ref o120)]
            refine go_run K 208 1 (pc' := 374) (st' := [.null, (.ref o120)]) rfl ?_
            refine go_virt0 K (k := 209) rfl (H.w 114 rfl) (H.w 117 rfl) (H.w 116 rfl) (H.w 111 rfl) (H.w 118 rfl) (by decide) pd_13 e122 (c_ooeN H F123) (argsL := [.null]) (rest := []) rfl rfl rfl sub0 rfl ?_
            rintro _ _ _ - ⟨rfl, rfl⟩
            show Go G B M_law _ h119 (a1 :: []) 17 143 377 #[.val (.int p0), .val (.int p1), .val (.int p2), .val (.int p3), .val (.int p4), .val (.int p5), .val (.int ((p0 &&& (2147483647 : Int32)) % (3 : Int32))), .val (.ref ta), .val (.ref a1), .val (.int n9), .val (.int (p1 &&& (7 : Int32))), .val (.ref a60), .val .null, .unset] [.null]
            refine go_cast0 K (k := 210) rfl ?_
            refine go_run K 211 3 (pc' := 386) (Ls' := #[.val (.int p0), .val (.int p1), .val (.int p2), .val (.int p3), .val (.int p4), .val (.int p5), .val (.int ((p0 &&& (2147483647 : Int32)) % (3 : Int32))), .val (.ref ta), .val (.ref a1), .val (.int n9), .val (.int (p1 &&& (7 : Int32))), .val (.ref a60), .val .null, .val .null]) (st' := [.null, .null]) rfl ?_
            refine go_acmp K (k := 214) rfl rfl rfl (same := true) (decide_eq_true rfl) (pc' := 389) (by decide) rfl ?_
            refine go_run K 215 2 (pc' := 394) (st' := [(.int (1 : Int32))]) rfl ?_
            refine go_ireturn K (k := 218) rfl rfl (by decide) rfl rfl rfl ?_
            intro Sf hSf
            exact rfl
          · have y2 : cs61 = lP := by
              rcases q106 with ⟨-, u⟩ | ⟨u, -⟩
              · exact u
              · exact absurd u q108
            refine go_getstatic K (k := 201) rfl (host := "") (Or.inl (H.w 139 rfl)) Via.refl s2 ?_
            refine go_run K 202 2 (pc' := 368) (Ls' := #[.val (.int p0), .val (.int p1), .val (.int p2), .val (.int p3), .val (.int p4), .val (.int p5), .val (.int ((p0 &&& (2147483647 : Int32)) % (3 : Int32))), .val (.ref ta), .val (.ref a1), .val (.int n9), .val (.int (p1 &&& (7 : Int32))), .val (.ref a60), .val (.ref b2), .unset]) (st' := []) rfl ?_
            refine go_run K 206 1 (pc' := 370) (st' := [(.ref a60)]) rfl ?_
            refine go_static K (k := 207) rfl (H.w 84 rfl) (H.w 85 rfl) (H.w 86 rfl) (H.w 87 rfl) (by decide) pd_21 (c_ofl H sV aV eV f0 t0 f1 t1 f2 t2 sE xE fE l64 c104) (argsL := [(.ref a60)]) (rest := []) rfl rfl rfl sub0 rfl ?_
            rintro _ h109 _ - ⟨o110, rfl, E111, e112, F113⟩
            rw [lbl2 n0 n1 y2] at F113
            show Go G B M_law _ h109 (a1 :: []) 17 143 373 #[.val (.int p0), .val (.int p1), .val (.int p2), .val (.int p3), .val (.int p4), .val (.int p5), .val (.int ((p0 &&& (2147483647 : Int32)) % (3 : Int32))), .val (.ref ta), .val (.ref a1), .val (.int n9), .val (.int (p1 &&& (7 : Int32))), .val (.ref a60), .val (.ref b2), .unset] [(.ref o110)]
            refine go_run K 208 1 (pc' := 374) (st' := [.null, (.ref o110)]) rfl ?_
            refine go_virt0 K (k := 209) rfl (H.w 114 rfl) (H.w 117 rfl) (H.w 116 rfl) (H.w 111 rfl) (H.w 118 rfl) (by decide) pd_13 e112 (c_ooe H F113) (argsL := [.null]) (rest := []) rfl rfl rfl sub0 rfl ?_
            rintro _ _ _ - ⟨rfl, rfl⟩
            show Go G B M_law _ h109 (a1 :: []) 17 143 377 #[.val (.int p0), .val (.int p1), .val (.int p2), .val (.int p3), .val (.int p4), .val (.int p5), .val (.int ((p0 &&& (2147483647 : Int32)) % (3 : Int32))), .val (.ref ta), .val (.ref a1), .val (.int n9), .val (.int (p1 &&& (7 : Int32))), .val (.ref a60), .val (.ref b2), .unset] [(.ref b2)]
            have X115 : Ext h2 h66 := (Ext.tr E62 E67)
            have X116 : Ext h2 h83 := (Ext.tr X115 E84)
            have X117 : Ext h2 h101 := (Ext.tr X116 E102)
            have X118 : Ext h2 h109 := (Ext.tr X117 E111)
            have Ex114 : Exa G.Z h109 b2 "com/example/gentle_retry/gentleretry/rabbitmq/SubscriptionQueue$Role" := Exa.ext (Ext.tr hE2 X118) x2
            refine go_cast K (k := 210) rfl (H.w 137 rfl) (Ins.self Ex114) ?_
            refine go_run K 211 3 (pc' := 386) (Ls' := #[.val (.int p0), .val (.int p1), .val (.int p2), .val (.int p3), .val (.int p4), .val (.int p5), .val (.int ((p0 &&& (2147483647 : Int32)) % (3 : Int32))), .val (.ref ta), .val (.ref a1), .val (.int n9), .val (.int (p1 &&& (7 : Int32))), .val (.ref a60), .val (.ref b2), .val (.ref b2)]) (st' := [(.ref b2), (.ref b2)]) rfl ?_
            refine go_acmp K (k := 214) rfl rfl rfl (same := true) (decide_eq_true rfl) (pc' := 389) (by decide) rfl ?_
            refine go_run K 215 2 (pc' := 394) (st' := [(.int (1 : Int32))]) rfl ?_
            refine go_ireturn K (k := 218) rfl rfl (by decide) rfl rfl rfl ?_
            intro Sf hSf
            exact rfl
        · have y1 : cs61 = lD := by
            rcases q88 with ⟨-, u⟩ | ⟨u, -⟩
            · exact u
            · exact absurd u q90
          refine go_getstatic K (k := 194) rfl (host := "") (Or.inl (H.w 140 rfl)) Via.refl s1 ?_
          refine go_run K 195 2 (pc' := 368) (Ls' := #[.val (.int p0), .val (.int p1), .val (.int p2), .val (.int p3), .val (.int p4), .val (.int p5), .val (.int ((p0 &&& (2147483647 : Int32)) % (3 : Int32))), .val (.ref ta), .val (.ref a1), .val (.int n9), .val (.int (p1 &&& (7 : Int32))), .val (.ref a60), .val (.ref b1), .unset]) (st' := []) rfl ?_
          refine go_run K 206 1 (pc' := 370) (st' := [(.ref a60)]) rfl ?_
          refine go_static K (k := 207) rfl (H.w 84 rfl) (H.w 85 rfl) (H.w 86 rfl) (H.w 87 rfl) (by decide) pd_21 (c_ofl H sV aV eV f0 t0 f1 t1 f2 t2 sE xE fE l64 c86) (argsL := [(.ref a60)]) (rest := []) rfl rfl rfl sub0 rfl ?_
          rintro _ h91 _ - ⟨o92, rfl, E93, e94, F95⟩
          rw [lbl1 n0 y1] at F95
          show Go G B M_law _ h91 (a1 :: []) 15 115 373 #[.val (.int p0), .val (.int p1), .val (.int p2), .val (.int p3), .val (.int p4), .val (.int p5), .val (.int ((p0 &&& (2147483647 : Int32)) % (3 : Int32))), .val (.ref ta), .val (.ref a1), .val (.int n9), .val (.int (p1 &&& (7 : Int32))), .val (.ref a60), .val (.ref b1), .unset] [(.ref o92)]
          refine go_run K 208 1 (pc' := 374) (st' := [.null, (.ref o92)]) rfl ?_
          refine go_virt0 K (k := 209) rfl (H.w 114 rfl) (H.w 117 rfl) (H.w 116 rfl) (H.w 111 rfl) (H.w 118 rfl) (by decide) pd_13 e94 (c_ooe H F95) (argsL := [.null]) (rest := []) rfl rfl rfl sub0 rfl ?_
          rintro _ _ _ - ⟨rfl, rfl⟩
          show Go G B M_law _ h91 (a1 :: []) 15 115 377 #[.val (.int p0), .val (.int p1), .val (.int p2), .val (.int p3), .val (.int p4), .val (.int p5), .val (.int ((p0 &&& (2147483647 : Int32)) % (3 : Int32))), .val (.ref ta), .val (.ref a1), .val (.int n9), .val (.int (p1 &&& (7 : Int32))), .val (.ref a60), .val (.ref b1), .unset] [(.ref b1)]
          have X97 : Ext h2 h66 := (Ext.tr E62 E67)
          have X98 : Ext h2 h83 := (Ext.tr X97 E84)
          have X99 : Ext h2 h91 := (Ext.tr X98 E93)
          have Ex96 : Exa G.Z h91 b1 "com/example/gentle_retry/gentleretry/rabbitmq/SubscriptionQueue$Role" := Exa.ext (Ext.tr hE2 X99) x1
          refine go_cast K (k := 210) rfl (H.w 137 rfl) (Ins.self Ex96) ?_
          refine go_run K 211 3 (pc' := 386) (Ls' := #[.val (.int p0), .val (.int p1), .val (.int p2), .val (.int p3), .val (.int p4), .val (.int p5), .val (.int ((p0 &&& (2147483647 : Int32)) % (3 : Int32))), .val (.ref ta), .val (.ref a1), .val (.int n9), .val (.int (p1 &&& (7 : Int32))), .val (.ref a60), .val (.ref b1), .val (.ref b1)]) (st' := [(.ref b1), (.ref b1)]) rfl ?_
          refine go_acmp K (k := 214) rfl rfl rfl (same := true) (decide_eq_true rfl) (pc' := 389) (by decide) rfl ?_
          refine go_run K 215 2 (pc' := 394) (st' := [(.int (1 : Int32))]) rfl ?_
          refine go_ireturn K (k := 218) rfl rfl (by decide) rfl rfl rfl ?_
          intro Sf hSf
          exact rfl
      · have y0 : cs61 = lW := by
          rcases q71 with ⟨-, u⟩ | ⟨u, -⟩
          · exact u
          · exact absurd u q73
        refine go_getstatic K (k := 187) rfl (host := "") (Or.inl (H.w 122 rfl)) Via.refl s0 ?_
        refine go_run K 188 2 (pc' := 368) (Ls' := #[.val (.int p0), .val (.int p1), .val (.int p2), .val (.int p3), .val (.int p4), .val (.int p5), .val (.int ((p0 &&& (2147483647 : Int32)) % (3 : Int32))), .val (.ref ta), .val (.ref a1), .val (.int n9), .val (.int (p1 &&& (7 : Int32))), .val (.ref a60), .val (.ref b0), .unset]) (st' := []) rfl ?_
        refine go_run K 206 1 (pc' := 370) (st' := [(.ref a60)]) rfl ?_
        refine go_static K (k := 207) rfl (H.w 84 rfl) (H.w 85 rfl) (H.w 86 rfl) (H.w 87 rfl) (by decide) pd_21 (c_ofl H sV aV eV f0 t0 f1 t1 f2 t2 sE xE fE l64 c69) (argsL := [(.ref a60)]) (rest := []) rfl rfl rfl sub0 rfl ?_
        rintro _ h74 _ - ⟨o75, rfl, E76, e77, F78⟩
        rw [lbl0 y0] at F78
        show Go G B M_law _ h74 (a1 :: []) 13 87 373 #[.val (.int p0), .val (.int p1), .val (.int p2), .val (.int p3), .val (.int p4), .val (.int p5), .val (.int ((p0 &&& (2147483647 : Int32)) % (3 : Int32))), .val (.ref ta), .val (.ref a1), .val (.int n9), .val (.int (p1 &&& (7 : Int32))), .val (.ref a60), .val (.ref b0), .unset] [(.ref o75)]
        refine go_run K 208 1 (pc' := 374) (st' := [.null, (.ref o75)]) rfl ?_
        refine go_virt0 K (k := 209) rfl (H.w 114 rfl) (H.w 117 rfl) (H.w 116 rfl) (H.w 111 rfl) (H.w 118 rfl) (by decide) pd_13 e77 (c_ooe H F78) (argsL := [.null]) (rest := []) rfl rfl rfl sub0 rfl ?_
        rintro _ _ _ - ⟨rfl, rfl⟩
        show Go G B M_law _ h74 (a1 :: []) 13 87 377 #[.val (.int p0), .val (.int p1), .val (.int p2), .val (.int p3), .val (.int p4), .val (.int p5), .val (.int ((p0 &&& (2147483647 : Int32)) % (3 : Int32))), .val (.ref ta), .val (.ref a1), .val (.int n9), .val (.int (p1 &&& (7 : Int32))), .val (.ref a60), .val (.ref b0), .unset] [(.ref b0)]
        have X80 : Ext h2 h66 := (Ext.tr E62 E67)
        have X81 : Ext h2 h74 := (Ext.tr X80 E76)
        have Ex79 : Exa G.Z h74 b0 "com/example/gentle_retry/gentleretry/rabbitmq/SubscriptionQueue$Role" := Exa.ext (Ext.tr hE2 X81) x0
        refine go_cast K (k := 210) rfl (H.w 137 rfl) (Ins.self Ex79) ?_
        refine go_run K 211 3 (pc' := 386) (Ls' := #[.val (.int p0), .val (.int p1), .val (.int p2), .val (.int p3), .val (.int p4), .val (.int p5), .val (.int ((p0 &&& (2147483647 : Int32)) % (3 : Int32))), .val (.ref ta), .val (.ref a1), .val (.int n9), .val (.int (p1 &&& (7 : Int32))), .val (.ref a60), .val (.ref b0), .val (.ref b0)]) (st' := [(.ref b0), (.ref b0)]) rfl ?_
        refine go_acmp K (k := 214) rfl rfl rfl (same := true) (decide_eq_true rfl) (pc' := 389) (by decide) rfl ?_
        refine go_run K 215 2 (pc' := 394) (st' := [(.int (1 : Int32))]) rfl ?_
        refine go_ireturn K (k := 218) rfl rfl (by decide) rfl rfl rfl ?_
        intro Sf hSf
        exact rfl
    refine go_icmpne K (k := 71) rfl (pc' := 149) (by decide) (fun q124 => ?_) (fun q125 => ?_)
    · refine go_run K 84 2 (pc' := 152) (st' := [(.int (2 : Int32)), (.int (p1 &&& (7 : Int32)))]) rfl ?_
      refine go_icmpne K (k := 86) rfl (pc' := 170) (by decide) (fun q130 => ?_) (fun q131 => ?_)
      · refine go_run K 96 2 (pc' := 173) (st' := [(.int (3 : Int32)), (.int (p1 &&& (7 : Int32)))]) rfl ?_
        refine go_icmpne K (k := 98) rfl (pc' := 196) (by decide) (fun q132 => ?_) (fun q133 => ?_)
        · refine go_run K 111 2 (pc' := 199) (st' := [(.int (4 : Int32)), (.int (p1 &&& (7 : Int32)))]) rfl ?_
          refine go_icmpne K (k := 113) rfl (pc' := 302) (by decide) (fun q138 => ?_) (fun q139 => ?_)
          · exact J302 h54 _ (Ext.tr (Ext.tr hE1 (Ext.rf _)) (X57)) C56
          · refine go_run K 114 6 (pc' := 212) (st' := [(.int ((p5 &&& (255 : Int32))).toUInt32.toUInt16.toUInt32.toInt32), (.int (0 : Int32)), (.ref a1)]) rfl ?_
            refine go_top (i2c_mask p5) ?_
            refine go_castoreZ K (k := 120) rfl C56 (by decide) (by decide) g5 (c8_lat p5) ?_
            intro h140 W141 C142
            refine go_run K 121 8 (pc' := 226) (st' := [(.int (((XT.ushr p5 (Int8.ofInt 8).toInt32) &&& (255 : Int32))).toUInt32.toUInt16.toUInt32.toInt32), (.int (1 : Int32)), (.ref a1)]) rfl ?_
            refine go_top (i2c_mask (XT.ushr p5 (Int8.ofInt 8).toInt32)) ?_
            refine go_castoreZ K (k := 129) rfl C142 (by decide) (by decide) g5 (c8_lat (XT.ushr p5 (Int8.ofInt 8).toInt32)) ?_
            intro h143 W144 C145
            refine go_run K 130 8 (pc' := 240) (st' := [(.int (((XT.ushr p5 (Int8.ofInt 16).toInt32) &&& (255 : Int32))).toUInt32.toUInt16.toUInt32.toInt32), (.int (2 : Int32)), (.ref a1)]) rfl ?_
            refine go_top (i2c_mask (XT.ushr p5 (Int8.ofInt 16).toInt32)) ?_
            refine go_castoreZ K (k := 138) rfl C145 (by decide) (by decide) g5 (c8_lat (XT.ushr p5 (Int8.ofInt 16).toInt32)) ?_
            intro h146 W147 C148
            refine go_run K 139 8 (pc' := 254) (st' := [(.int (((XT.ushr p5 (Int8.ofInt 24).toInt32) &&& (255 : Int32))).toUInt32.toUInt16.toUInt32.toInt32), (.int (3 : Int32)), (.ref a1)]) rfl ?_
            refine go_top (i2c_mask (XT.ushr p5 (Int8.ofInt 24).toInt32)) ?_
            refine go_castoreZ K (k := 147) rfl C148 (by decide) (by decide) g5 (c8_lat (XT.ushr p5 (Int8.ofInt 24).toInt32)) ?_
            intro h149 W150 C151
            refine go_run K 148 6 (pc' := 264) (st' := [(.int ((p3 &&& (255 : Int32))).toUInt32.toUInt16.toUInt32.toInt32), (.int (4 : Int32)), (.ref a1)]) rfl ?_
            refine go_top (i2c_mask p3) ?_
            refine go_castoreZ K (k := 154) rfl C151 (by decide) (by decide) g5 (c8_lat p3) ?_
            intro h152 W153 C154
            refine go_run K 155 8 (pc' := 277) (st' := [(.int (((XT.ushr p3 (Int8.ofInt 8).toInt32) &&& (255 : Int32))).toUInt32.toUInt16.toUInt32.toInt32), (.int (5 : Int32)), (.ref a1)]) rfl ?_
            refine go_top (i2c_mask (XT.ushr p3 (Int8.ofInt 8).toInt32)) ?_
            refine go_castoreZ K (k := 163) rfl C154 (by decide) (by decide) g5 (c8_lat (XT.ushr p3 (Int8.ofInt 8).toInt32)) ?_
            intro h155 W156 C157
            refine go_run K 164 8 (pc' := 291) (st' := [(.int (((XT.ushr p3 (Int8.ofInt 16).toInt32) &&& (255 : Int32))).toUInt32.toUInt16.toUInt32.toInt32), (.int (6 : Int32)), (.ref a1)]) rfl ?_
            refine go_top (i2c_mask (XT.ushr p3 (Int8.ofInt 16).toInt32)) ?_
            refine go_castoreZ K (k := 172) rfl C157 (by decide) (by decide) g5 (c8_lat (XT.ushr p3 (Int8.ofInt 16).toInt32)) ?_
            intro h158 W159 C160
            refine go_run K 173 1 (pc' := 294) (st' := [(.int p4)]) rfl ?_
            refine go_ldcI K (k := 174) rfl (H.w 0 rfl) ?_
            refine go_run K 175 2 (pc' := 299) (st' := [(.int (8 : Int32)), (.int (p4 &&& (2147483647 : Int32)))]) rfl ?_
            refine go_irem K (k := 177) rfl (by decide) ?_
            refine go_run K 178 1 (pc' := 302) (Ls' := #[.val (.int p0), .val (.int p1), .val (.int p2), .val (.int p3), .val (.int p4), .val (.int p5), .val (.int ((p0 &&& (2147483647 : Int32)) % (3 : Int32))), .val (.ref ta), .val (.ref a1), .val (.int ((p4 &&& (2147483647 : Int32)) % (8 : Int32))), .val (.int (p1 &&& (7 : Int32))), .unset, .unset, .unset]) (st' := []) rfl ?_
            have X161 : Ext h1 h140 := (Ext.wrN X57 W141 (Nat.le_trans (Nat.le_refl _) (Nat.le_of_eq e4.symm)))
            have X162 : Ext h1 h143 := (Ext.wrN X161 W144 (Nat.le_trans (Nat.le_refl _) (Nat.le_of_eq e4.symm)))
            have X163 : Ext h1 h146 := (Ext.wrN X162 W147 (Nat.le_trans (Nat.le_refl _) (Nat.le_of_eq e4.symm)))
            have X164 : Ext h1 h149 := (Ext.wrN X163 W150 (Nat.le_trans (Nat.le_refl _) (Nat.le_of_eq e4.symm)))
            have X165 : Ext h1 h152 := (Ext.wrN X164 W153 (Nat.le_trans (Nat.le_refl _) (Nat.le_of_eq e4.symm)))
            have X166 : Ext h1 h155 := (Ext.wrN X165 W156 (Nat.le_trans (Nat.le_refl _) (Nat.le_of_eq e4.symm)))
            have X167 : Ext h1 h158 := (Ext.wrN X166 W159 (Nat.le_trans (Nat.le_refl _) (Nat.le_of_eq e4.symm)))
            exact J302 h158 _ (Ext.tr (Ext.tr hE1 (Ext.rf _)) (X167)) C160
        · refine go_run K 99 6 (pc' := 186) (st' := [(.int ((p3 &&& (255 : Int32))).toUInt32.toUInt16.toUInt32.toInt32), (.int ls.length.toInt32), (.ref a1)]) rfl ?_
          refine go_top (i2c_mask p3) ?_
          refine go_castoreZ K (k := 105) rfl C56 ⟨len_nn (by omega), len_lt (by decide) (by omega)⟩ (by decide) g5 (c8_lat p3) ?_
          intro h134 W135 C136
          refine go_run K 106 5 (pc' := 302) (Ls' := #[.val (.int p0), .val (.int p1), .val (.int p2), .val (.int p3), .val (.int p4), .val (.int p5), .val (.int ((p0 &&& (2147483647 : Int32)) % (3 : Int32))), .val (.ref ta), .val (.ref a1), .val (.int (ls.length.toInt32 + (1 : Int32))), .val (.int (p1 &&& (7 : Int32))), .unset, .unset, .unset]) (st' := []) rfl ?_
          have X137 : Ext h1 h134 := (Ext.wrN X57 W135 (Nat.le_trans (Nat.le_refl _) (Nat.le_of_eq e4.symm)))
          exact J302 h134 _ (Ext.tr (Ext.tr hE1 (Ext.rf _)) (X137)) C136
      · refine go_run K 87 1 (pc' := 157) (st' := [(.int p4)]) rfl ?_
        refine go_ldcI K (k := 88) rfl (H.w 0 rfl) ?_
        refine go_run K 89 4 (pc' := 164) (st' := [(.int (ls.length.toInt32 + (1 : Int32))), (.int (p4 &&& (2147483647 : Int32)))]) rfl ?_
        refine go_irem K (k := 93) rfl (fun e => absurd (len_zero (n := ls.length + 1) (by omega) ((add_len ls.length 1).symm.trans e)) (by omega)) ?_
        refine go_run K 94 2 (pc' := 302) (Ls' := #[.val (.int p0), .val (.int p1), .val (.int p2), .val (.int p3), .val (.int p4), .val (.int p5), .val (.int ((p0 &&& (2147483647 : Int32)) % (3 : Int32))), .val (.ref ta), .val (.ref a1), .val (.int ((p4 &&& (2147483647 : Int32)) % (ls.length.toInt32 + (1 : Int32)))), .val (.int (p1 &&& (7 : Int32))), .unset, .unset, .unset]) (st' := []) rfl ?_
        exact J302 h54 _ (Ext.tr (Ext.tr hE1 (Ext.rf _)) (X57)) C56
    · refine go_run K 72 2 (pc' := 133) (st' := [(.int p2), (.ref a1)]) rfl ?_
      refine go_ldcI K (k := 74) rfl (H.w 0 rfl) ?_
      refine go_run K 75 2 (pc' := 138) (st' := [(.int ls.length.toInt32), (.int (p2 &&& (2147483647 : Int32))), (.ref a1)]) rfl ?_
      refine go_irem K (k := 77) rfl (fun e => absurd (len_zero (by omega) e) (by omega)) ?_
      refine go_run K 78 4 (pc' := 145) (st' := [(.int ((p3 &&& (255 : Int32))).toUInt32.toUInt16.toUInt32.toInt32), (.int ((p2 &&& (2147483647 : Int32)) % ls.length.toInt32)), (.ref a1)]) rfl ?_
      refine go_top (i2c_mask p3) ?_
      refine go_castoreZ K (k := 82) rfl C56 (mod_in hlo hhi) (by decide) g5 (c8_lat p3) ?_
      intro h126 W127 C128
      refine go_run K 83 1 (pc' := 302) (st' := []) rfl ?_
      have X129 : Ext h1 h126 := (Ext.wrN X57 W127 (Nat.le_trans (Nat.le_refl _) (Nat.le_of_eq e4.symm)))
      exact J302 h126 _ (Ext.tr (Ext.tr hE1 (Ext.rf _)) (X129)) C128
  refine go_ifne K (k := 7) rfl (pc' := 18) (by decide) (fun q168 => ?_) (fun q169 => ?_)
  · refine go_run K 10 2 (pc' := 21) (st' := [(.int (1 : Int32)), (.int ((p0 &&& (2147483647 : Int32)) % (3 : Int32)))]) rfl ?_
    refine go_icmpne K (k := 12) rfl (pc' := 29) (by decide) (fun q174 => ?_) (fun q175 => ?_)
    · refine go_ldcT K (k := 15) rfl (H.w 83 rfl) H.ws (H.mem (by decide)) (cs := [(112 : Int32), (97 : Int32), (114 : Int32), (107 : Int32), (101 : Int32), (100 : Int32)]) (by decide) (by decide) (n := 24) rfl rfl rfl rfl ?_
      intro h181 a180 E182 S183
      exact J31 _ _ _ (Ext.tr hE E182) S183 (by exact ⟨by decide, by decide⟩) (by decide) (by decide)
    · refine go_ldcT K (k := 13) rfl (H.w 82 rfl) H.ws (H.mem (by decide)) (cs := [(100 : Int32), (101 : Int32), (108 : Int32), (97 : Int32), (121 : Int32)]) (by decide) (by decide) (n := 24) rfl rfl rfl rfl ?_
      intro h177 a176 E178 S179
      refine go_run K 14 1 (pc' := 31) (st' := [(.ref a176)]) rfl ?_
      exact J31 _ _ _ (Ext.tr hE E178) S179 (by exact ⟨by decide, by decide⟩) (by decide) (by decide)
  · refine go_ldcT K (k := 8) rfl (H.w 1 rfl) H.ws (H.mem (by decide)) (cs := [(119 : Int32), (111 : Int32), (114 : Int32), (107 : Int32)]) (by decide) (by decide) (n := 24) rfl rfl rfl rfl ?_
    intro h171 a170 E172 S173
    refine go_run K 9 1 (pc' := 31) (st' := [(.ref a170)]) rfl ?_
    exact J31 _ _ _ (Ext.tr hE E172) S173 (by exact ⟨by decide, by decide⟩) (by decide) (by decide)
set_option maxRecDepth 65536 in
set_option maxHeartbeats 40000000 in
theorem comes_1 {Post : Tables → Env → Array Value → State → Outcome → State → Prop} (hpost : ∀ tb e args s v u, (limb_1_1.after args s (.returned v) u = true ∧ limb_1_2.after args s (.returned v) u = true ∧ True) → ReturnedEndW s (.returned v) u (Jvm.fieldLocs frame_1_writes args s ++ Jvm.arrayLocs frame_1_arrays args s ++ Jvm.staticLocs frame_1_statics s) 32 4288 → Post tb e args s (.returned v) u) :
    ArmFor flags0 classFile x code maxLocals ret World_1 tables_1 room_1 Calls_1 rest_1 Pre_1 Post := by
  intro l hfl _ _ p e ha hc hk s m args below hf hA hF happ hP
  obtain ⟨hcalls, hrest, hpre⟩ := hP
  obtain ⟨-, -, -, hnamed, -, -, -, hat⟩ := (Spec.applies_iff hf).mp happ
  obtain ⟨hg, hn⟩ := and_e (Cond.before_iff.mp (show (Jvm.Cond.and given_1 narrow_1).before args s = true from hpre))
  obtain ⟨hcnt, hz0⟩ := and_e hg
  obtain ⟨hi0, hz1⟩ := and_e hz0
  obtain ⟨hi1, hz2⟩ := and_e hz1
  obtain ⟨hi2, hz3⟩ := and_e hz2
  obtain ⟨hi3, hz4⟩ := and_e hz3
  obtain ⟨hi4, hz5⟩ := and_e hz4
  have hi5 := hz5
  obtain ⟨w0, w1, w2, w3, w4, w5, rfl⟩ : ∃ w0 w1 w2 w3 w4 w5 : Value, args = #[w0, w1, w2, w3, w4, w5] := by
    have hs : args.size = 6 := by simpa [Cond.value, given_1] using hcnt
    obtain ⟨L⟩ := args
    match L, hs with
    | [w0, w1, w2, w3, w4, w5], _ => exact ⟨w0, w1, w2, w3, w4, w5, rfl⟩
  have hw := fun d (hd : d ∈ tables_1) => atoms_spec (ws := Jvm.Cond.code x code maxLocals ret :: tables_1) hat d (List.mem_cons_of_mem _ hd)
  obtain ⟨hsets, hown0⟩ := atoms_of _ (rest_1_c_eq ▸ (show rest_1_c.before _ s = true from hrest))
  obtain ⟨i0, e0⟩ := is_v hi0
  obtain rfl : w0 = (.int i0) := Option.some.inj e0
  obtain ⟨i1, e1⟩ := is_v hi1
  obtain rfl : w1 = (.int i1) := Option.some.inj e1
  obtain ⟨i2, e2⟩ := is_v hi2
  obtain rfl : w2 = (.int i2) := Option.some.inj e2
  obtain ⟨i3, e3⟩ := is_v hi3
  obtain rfl : w3 = (.int i3) := Option.some.inj e3
  obtain ⟨i4, e4⟩ := is_v hi4
  obtain rfl : w4 = (.int i4) := Option.some.inj e4
  obtain ⟨i5, e5⟩ := is_v hi5
  obtain rfl : w5 = (.int i5) := Option.some.inj e5
  have nz := not_v (Cond.before_iff.mp (hsets _ (List.mem_of_getElem? (i := 2) rfl)))
  obtain ⟨cz, ecz⟩ := is_v (Cond.before_iff.mp (hsets _ (List.mem_of_getElem? (i := 1) rfl)))
  have Scz : Sta s s.heap "java/lang/String" "COMPACT_STRINGS" "Z" (.int cz) := Sta.start ecz (Or.inl (hsets _ (List.mem_of_getElem? (i := 0) rfl)))
  have hcz : ¬ (cz = (0 : Int32)) := gotF (Cond.eq_ints ecz (Term.int_eval (0))) nz
  have hEW : EW s #[(.int i0), (.int i1), (.int i2), (.int i3), (.int i4), (.int i5)] els := by
    exact (EW.cons (hw _ (List.mem_of_getElem? (i := 1) rfl)) (by decide) (EW.cons (hw _ (List.mem_of_getElem? (i := 82) rfl)) (by decide) (EW.cons (hw _ (List.mem_of_getElem? (i := 83) rfl)) (by decide) (EW.cons (hw _ (List.mem_of_getElem? (i := 121) rfl)) (by decide) EW.nil))))
  have hCH : CHv s els s.vm s.heap := CHv.start hEW (fun p hp => hcalls.1 p hp) (hsets _ (List.mem_of_getElem? (i := 2) rfl)) (hw _ (List.mem_of_getElem? (i := 4) rfl)) (hw _ (List.mem_of_getElem? (i := 3) rfl))
  have H : Gl tables_1 els (l, s, #[(.int i0), (.int i1), (.int i2), (.int i3), (.int i4), (.int i5)], els) := ⟨hw, rfl, hEW, fun d hd => hw d ((by decide +kernel : ∀ d ∈ Bundle.stringAtoms, d ∈ tables_1) d hd), cz, Scz, hcz⟩
  obtain ⟨vf0, evf0, hvf0⟩ := isR_v (Cond.before_iff.mp (hsets _ (List.mem_of_getElem? (i := 8) rfl)))
  have hF0 : ∃ vf : Value, Sta s s.heap "jdk/internal/util/Preconditions" "SIOOBE_FORMATTER" "Ljava/util/function/BiFunction;" vf ∧ vf.isRef = true := ⟨vf0, Sta.start evf0 (Or.inl (hsets _ (List.mem_of_getElem? (i := 7) rfl))), hvf0⟩
  have hFit : Fit s := by intro x c hc i hi; exact (Jvm.heapFits'_iff s).mp hF x c hc i _ (Array.getElem?_eq_getElem hi)
  obtain ⟨n0, hn⟩ := and_e hn
  obtain ⟨n1, hn⟩ := and_e hn
  obtain ⟨n2, hn⟩ := and_e hn
  obtain ⟨n3, hn⟩ := and_e hn
  obtain ⟨n4, hn⟩ := and_e hn
  obtain ⟨n5, hn⟩ := and_e hn
  obtain ⟨n6, hn⟩ := and_e hn
  obtain ⟨n7, hn⟩ := and_e hn
  obtain ⟨n8, hn⟩ := and_e hn
  obtain ⟨n9, hn⟩ := and_e hn
  obtain ⟨n10, hn⟩ := and_e hn
  obtain ⟨n11, hn⟩ := and_e hn
  obtain ⟨n12, hn⟩ := and_e hn
  obtain ⟨n13, hn⟩ := and_e hn
  obtain ⟨n14, hn⟩ := and_e hn
  obtain ⟨n15, hn⟩ := and_e hn
  obtain ⟨n16, hn⟩ := and_e hn
  obtain ⟨n17, hn⟩ := and_e hn
  obtain ⟨n18, hn⟩ := and_e hn
  obtain ⟨n19, hn⟩ := and_e hn
  obtain ⟨n20, hn⟩ := and_e hn
  obtain ⟨n21, hn⟩ := and_e hn
  obtain ⟨n22, hn⟩ := and_e hn
  obtain ⟨n23, hn⟩ := and_e hn
  obtain ⟨n24, hn⟩ := and_e hn
  obtain ⟨n25, hn⟩ := and_e hn
  obtain ⟨n26, hn⟩ := and_e hn
  obtain ⟨n27, hn⟩ := and_e hn
  obtain ⟨n28, hn⟩ := and_e hn
  obtain ⟨n29, hn⟩ := and_e hn
  obtain ⟨n30, hn⟩ := and_e hn
  obtain ⟨n31, hn⟩ := and_e hn
  obtain ⟨n32, hn⟩ := and_e hn
  obtain ⟨n33, hn⟩ := and_e hn
  obtain ⟨n34, hn⟩ := and_e hn
  have n35 := hn
  obtain ⟨b0, ev0⟩ := exa_v n3
  have x0 := Exa.start ev0 n3
  have s0 := Sta.start ev0 (Or.inr ⟨hw _ (List.mem_of_getElem? (i := 86) rfl), hw _ (List.mem_of_getElem? (i := 100) rfl)⟩)
  obtain ⟨m0, el0⟩ := exa_v n9
  have f0 := Fld.start (by rw [← fld_at ev0]; exact el0)
  have t0 := str_start (args := #[(.int i0), (.int i1), (.int i2), (.int i3), (.int i4), (.int i5)]) (G := (l, s, #[(.int i0), (.int i1), (.int i2), (.int i3), (.int i4), (.int i5)], els)) (cs := [(119 : Int32), (111 : Int32), (114 : Int32), (107 : Int32)]) hFit el0 n9 n11 (eqv_i (Term.int_eval (4)) n12) (eqv_i (Term.int_eval (0)) n10) (by decide) (fun x cl ex hc => ⟨(elem_in (eqv_i (Term.int_eval (119)) n21) ex (Term.int_eval (0)) hc).2, ⟨(elem_in (eqv_i (Term.int_eval (111)) n22) ex (Term.int_eval (1)) hc).2, ⟨(elem_in (eqv_i (Term.int_eval (114)) n23) ex (Term.int_eval (2)) hc).2, ⟨(elem_in (eqv_i (Term.int_eval (107)) n24) ex (Term.int_eval (3)) hc).2, trivial⟩⟩⟩⟩)
  obtain ⟨b1, ev1⟩ := exa_v n5
  have x1 := Exa.start ev1 n5
  have s1 := Sta.start ev1 (Or.inr ⟨hw _ (List.mem_of_getElem? (i := 86) rfl), hw _ (List.mem_of_getElem? (i := 101) rfl)⟩)
  obtain ⟨m1, el1⟩ := exa_v n13
  have f1 := Fld.start (by rw [← fld_at ev1]; exact el1)
  have t1 := str_start (args := #[(.int i0), (.int i1), (.int i2), (.int i3), (.int i4), (.int i5)]) (G := (l, s, #[(.int i0), (.int i1), (.int i2), (.int i3), (.int i4), (.int i5)], els)) (cs := [(100 : Int32), (101 : Int32), (108 : Int32), (97 : Int32), (121 : Int32)]) hFit el1 n13 n15 (eqv_i (Term.int_eval (5)) n16) (eqv_i (Term.int_eval (0)) n14) (by decide) (fun x cl ex hc => ⟨(elem_in (eqv_i (Term.int_eval (100)) n25) ex (Term.int_eval (0)) hc).2, ⟨(elem_in (eqv_i (Term.int_eval (101)) n26) ex (Term.int_eval (1)) hc).2, ⟨(elem_in (eqv_i (Term.int_eval (108)) n27) ex (Term.int_eval (2)) hc).2, ⟨(elem_in (eqv_i (Term.int_eval (97)) n28) ex (Term.int_eval (3)) hc).2, ⟨(elem_in (eqv_i (Term.int_eval (121)) n29) ex (Term.int_eval (4)) hc).2, trivial⟩⟩⟩⟩⟩)
  obtain ⟨b2, ev2⟩ := exa_v n7
  have x2 := Exa.start ev2 n7
  have s2 := Sta.start ev2 (Or.inr ⟨hw _ (List.mem_of_getElem? (i := 86) rfl), hw _ (List.mem_of_getElem? (i := 102) rfl)⟩)
  obtain ⟨m2, el2⟩ := exa_v n17
  have f2 := Fld.start (by rw [← fld_at ev2]; exact el2)
  have t2 := str_start (args := #[(.int i0), (.int i1), (.int i2), (.int i3), (.int i4), (.int i5)]) (G := (l, s, #[(.int i0), (.int i1), (.int i2), (.int i3), (.int i4), (.int i5)], els)) (cs := [(112 : Int32), (97 : Int32), (114 : Int32), (107 : Int32), (101 : Int32), (100 : Int32)]) hFit el2 n17 n19 (eqv_i (Term.int_eval (6)) n20) (eqv_i (Term.int_eval (0)) n18) (by decide) (fun x cl ex hc => ⟨(elem_in (eqv_i (Term.int_eval (112)) n30) ex (Term.int_eval (0)) hc).2, ⟨(elem_in (eqv_i (Term.int_eval (97)) n31) ex (Term.int_eval (1)) hc).2, ⟨(elem_in (eqv_i (Term.int_eval (114)) n32) ex (Term.int_eval (2)) hc).2, ⟨(elem_in (eqv_i (Term.int_eval (107)) n33) ex (Term.int_eval (3)) hc).2, ⟨(elem_in (eqv_i (Term.int_eval (101)) n34) ex (Term.int_eval (4)) hc).2, ⟨(elem_in (eqv_i (Term.int_eval (100)) n35) ex (Term.int_eval (5)) hc).2, trivial⟩⟩⟩⟩⟩⟩)
  obtain ⟨va, evA⟩ := arr_v n0
  have sV := Sta.start evA (Or.inl (hw _ (List.mem_of_getElem? (i := 103) rfl)))
  have eV := Exa.start evA n1
  obtain ⟨kv, aV⟩ := arr3_start (args := #[(.int i0), (.int i1), (.int i2), (.int i3), (.int i4), (.int i5)]) (G := (l, s, #[(.int i0), (.int i1), (.int i2), (.int i3), (.int i4), (.int i5)], els)) hFit evA n0 (eqv_i (Term.int_eval (3)) n2) (eqv_r ev0 n4) (eqv_r ev1 n6) (eqv_r ev2 n8)
  have nE := Cond.before_iff.mp (hsets _ (List.mem_of_getElem? (i := 11) rfl))
  obtain ⟨oe, evE⟩ := exa_v nE
  have xE := Exa.start evE nE
  have sE := Sta.start evE (Or.inl (hsets _ (List.mem_of_getElem? (i := 10) rfl)))
  have fE := Fld.start (by rw [← fld_at evE]; exact null_v (Cond.before_iff.mp (hsets _ (List.mem_of_getElem? (i := 12) rfl))))
  obtain ⟨n, o, k1, k2, k3, v, L, rfl, ⟨rfl, N, hext⟩, hC, hq⟩ := law_ok (G := (l, s, #[(.int i0), (.int i1), (.int i2), (.int i3), (.int i4), (.int i5)], els)) H hF0 sV aV eV f0 t0 f1 t1 f2 t2 sE xE fE s0 x0 s1 x1 s2 x2 p e ha hc hk s m _ below hf ((Spec.applies_iff_loose hf).mp happ).1 ⟨rfl, State.Warmed39.refl s, rfl, hCH, Ext.rf _, fun _ q => nomatch q⟩ trivial
  refine ⟨n, _, k1, k2, k3, hpost _ _ _ _ _ _ ⟨Cond.after_iff.mpr rfl, Cond.after_iff.mpr (eq_i res_at (Term.int_eval (1)) rfl), trivial⟩ ?_⟩
  obtain ⟨q1, q2, q3, q4⟩ := hq
  exact ⟨q1, q2, q3, (q4.sift fun y hy => Or.inr (N y hy)).mono (by decide) (by decide)⟩
theorem main_1_1 : Claimed_1_1 := comes_1 fun _ _ _ _ _ _ h hF => ⟨h.1, hF⟩
theorem main_1_2 : Claimed_1_2 := comes_1 fun _ _ _ _ _ _ h hF => ⟨h.2.1, hF⟩
end Jvm.Pilot.@@N@@
namespace Jvm.Pilot.@@N@@
open Jvm Jvm.ClassFile Sem Op Lib Jvm.Free Jvm.Stand Jvm.Pilot.@@N@@.Jvm.D
/-! MADE BY PROGRAM (witnessworld.py) out of the Statement's table words and the real class files: 24 classes; the members and pool entries that the words name. The judged class is class 1, her method 1. -/
namespace start1
open Jvm.ClassFile
def u (s : String) : CpInfo := .utf8 (stringToUtf16 s)
/-- a pool by its gaps: so many unusable entries, then the entry; so many at the end -/
def gap : Nat → List CpInfo → List CpInfo
  | 0, r => r
  | n + 1, r => .unusable :: gap n r
def poolList (es : List (Nat × CpInfo)) (last : Nat) : List CpInfo := es.foldr (fun e r => gap e.1 (e.2 :: r)) (gap last [])
def pool (es : List (Nat × CpInfo)) (last : Nat) : Array CpInfo := ⟨poolList es last⟩
def fileOf (pool : Array CpInfo) (this : Nat) (attrs : Array Attribute := #[]) (ms : Array MethodInfo := #[]) (fl : Nat := 33) (sup : Nat := 0) (ifs : Array Nat := #[]) (fds : Array FieldInfo := #[]) : ClassFile where
  minorVersion := 0
  majorVersion := 65
  constantPool := pool
  accessFlags := fl
  thisClass := this
  superClass := sup
  interfaces := ifs
  fields := fds
  methods := ms
  attributes := attrs
def plain (name : String) (sup : Option ClassId) : Class where
  name := name
  kind := .ordinary
  loader := none
  accessFlags := 33
  super := sup
  interfaces := #[]
  cf := none
  fields := #[]
  methods := #[]
  instanceTypes := #[]
  staticTypes := #[]
  resolved := #[]
  callSites := []
  init := .initialized
  statics := none
  mirror := none

def pool0 : Array CpInfo := pool [(5, u "<init>"), (0, u "()V"), (1, .class_ 10), (1, u "java/lang/Object"), (85, u "clone"), (0, u "()Ljava/lang/Object;")] 26

def k0c0 : Code := { maxStack := 0, maxLocals := 1, code := object_method_1_code, exceptionTable := #[], attributes := #[] }
def k0m0 : Method := { name := "<init>", desc := "()V", sig := { parameters := [], returnType := none }, accessFlags := 1, code := some k0c0 }
def k0m1 : Method := { name := "clone", desc := "()Ljava/lang/Object;", sig := { parameters := [], returnType := some (.object "java/lang/Object") }, accessFlags := 260, code := none }
/-- java/lang/Object -/
def k0 : Class := { plain "java/lang/Object" none with
  accessFlags := 33
  interfaces := #[]
  cf := some (fileOf pool0 8 #[] #[{ accessFlags := 1, nameIndex := 5, descriptorIndex := 6, attributes := #[] }, { accessFlags := 260, nameIndex := 96, descriptorIndex := 97, attributes := #[] }] 33 0 #[] #[])
  fields := #[]
  methods := #[k0m0, k0m1]
  instanceTypes := #[]
  staticTypes := #[]
  resolved := Array.replicate 124 none
  statics := none }

def pool1 : Array CpInfo := pool [(2, .class_ 4), (1, u "java/lang/Object"), (0, u "<init>"), (0, u "()V"), (0, .integer 2147483647), (0, .string 9), (0, u "work"), (0, .string 11), (0, u "delay"), (0, .string 13), (0, u "parked"), (0, .methodref 15 16), (0, .class_ 17), (0, .nameAndType 18 19), (0, u "com/example/gentle_retry/gentleretry/rabbitmq/RoleOfLabelPinLaw"), (0, u "at"), (0, u "(Ljava/lang/String;I)C"), (0, .methodref 21 22), (0, .class_ 23), (0, .nameAndType 24 25), (0, u "java/lang/String"), (0, u "length"), (0, u "()I"), (0, .methodref 15 27), (0, .nameAndType 28 29), (0, u "str"), (0, u "([CI)Ljava/lang/String;"), (0, .methodref 21 31), (0, .nameAndType 32 33), (0, u "equals"), (0, u "(Ljava/lang/Object;)Z"), (0, .fieldref 35 36), (0, .class_ 37), (0, .nameAndType 38 39), (0, u "com/example/gentle_retry/gentleretry/rabbitmq/SubscriptionQueue$Role"), (0, u "WORK"), (0, u "Lcom/example/gentle_retry/gentleretry/rabbitmq/SubscriptionQueue$Role;"), (0, .fieldref 35 41), (0, .nameAndType 42 39), (0, u "DELAY"), (0, .fieldref 35 44), (0, .nameAndType 45 39), (0, u "PARKED"), (0, .methodref 35 47), (0, .nameAndType 48 49), (0, u "ofLabel"), (0, u "(Ljava/lang/String;)Ljava/util/Optional;"), (0, .methodref 51 52), (0, .class_ 53), (0, .nameAndType 54 55), (0, u "java/util/Optional"), (0, u "orElse"), (0, u "(Ljava/lang/Object;)Ljava/lang/Object;"), (0, .methodref 21 57), (0, .nameAndType 58 59), (0, u "charAt"), (0, u "(I)C"), (0, .methodref 21 61), (0, .nameAndType 5 62), (0, u "([C)V"), (2, u "law"), (0, u "(IIIIII)Z")] 9

def k1m0 : Method := { name := "<init>", desc := "()V", sig := { parameters := [], returnType := none }, accessFlags := 1, code := none }
def k1c1 : Code := { maxStack := 4, maxLocals := 14, code := code, exceptionTable := #[], attributes := #[] }
def k1m1 : Method := { name := "law", desc := "(IIIIII)Z", sig := { parameters := [.int, .int, .int, .int, .int, .int], returnType := some .boolean }, accessFlags := 9, code := some k1c1 }
def k1c2 : Code := { maxStack := 2, maxLocals := 2, code := method_3_code, exceptionTable := #[], attributes := #[] }
def k1m2 : Method := { name := "at", desc := "(Ljava/lang/String;I)C", sig := { parameters := [(.object "java/lang/String"), .int], returnType := some .char }, accessFlags := 10, code := some k1c2 }
def k1c3 : Code := { maxStack := 7, maxLocals := 2, code := method_4_code, exceptionTable := #[], attributes := #[] }
def k1m3 : Method := { name := "str", desc := "([CI)Ljava/lang/String;", sig := { parameters := [(.array .char), .int], returnType := some (.object "java/lang/String") }, accessFlags := 10, code := some k1c3 }
/-- com/example/gentle_retry/gentleretry/rabbitmq/RoleOfLabelPinLaw -/
def k1 : Class := { plain "com/example/gentle_retry/gentleretry/rabbitmq/RoleOfLabelPinLaw" (some 0) with
  accessFlags := 49
  interfaces := #[]
  cf := some (fileOf pool1 15 #[] #[{ accessFlags := 1, nameIndex := 5, descriptorIndex := 6, attributes := #[] }, { accessFlags := 9, nameIndex := 65, descriptorIndex := 66, attributes := #[] }, { accessFlags := 10, nameIndex := 18, descriptorIndex := 19, attributes := #[] }, { accessFlags := 10, nameIndex := 28, descriptorIndex := 29, attributes := #[] }] 49 2 #[] #[])
  fields := #[]
  methods := #[k1m0, k1m1, k1m2, k1m3]
  instanceTypes := #[]
  staticTypes := #[]
  resolved := Array.replicate 76 none
  statics := none }

def pool2 : Array CpInfo := pool [(1, .class_ 2), (0, u "java/io/Serializable"), (0, .class_ 4), (0, u "java/lang/Object")] 2

/-- java/io/Serializable -/
def k2 : Class := { plain "java/io/Serializable" (some 0) with
  accessFlags := 1537
  interfaces := #[]
  cf := some (fileOf pool2 1 #[] #[] 1537 3 #[] #[])
  fields := #[]
  methods := #[]
  instanceTypes := #[]
  staticTypes := #[]
  resolved := Array.replicate 7 none
  statics := none }

def pool3 : Array CpInfo := pool [(1, .class_ 2), (0, u "java/lang/Comparable"), (0, .class_ 4), (0, u "java/lang/Object")] 7

/-- java/lang/Comparable -/
def k3 : Class := { plain "java/lang/Comparable" (some 0) with
  accessFlags := 1537
  interfaces := #[]
  cf := some (fileOf pool3 1 #[] #[] 1537 3 #[] #[])
  fields := #[]
  methods := #[]
  instanceTypes := #[]
  staticTypes := #[]
  resolved := Array.replicate 12 none
  statics := none }

def pool4 : Array CpInfo := pool [(2, .class_ 4), (1, u "java/lang/CharSequence"), (42, .class_ 48), (0, u "java/lang/CharSequence$1CodePointIterator"), (10, .class_ 60), (0, u "java/lang/CharSequence$1CharIterator"), (5, .class_ 67), (0, u "java/lang/Object")] 63

/-- java/lang/CharSequence -/
def k4 : Class := { plain "java/lang/CharSequence" (some 0) with
  accessFlags := 1537
  interfaces := #[]
  cf := some (fileOf pool4 2 #[.nestMembers #[47, 59]] #[] 1537 66 #[] #[])
  fields := #[]
  methods := #[]
  instanceTypes := #[]
  staticTypes := #[]
  resolved := Array.replicate 131 none
  statics := none }

def pool5 : Array CpInfo := pool [(1, .class_ 2), (0, u "java/lang/constant/Constable"), (0, .class_ 4), (0, u "java/lang/Object")] 6

/-- java/lang/constant/Constable -/
def k5 : Class := { plain "java/lang/constant/Constable" (some 0) with
  accessFlags := 1537
  interfaces := #[]
  cf := some (fileOf pool5 1 #[] #[] 1537 3 #[] #[])
  fields := #[]
  methods := #[]
  instanceTypes := #[]
  staticTypes := #[]
  resolved := Array.replicate 11 none
  statics := none }

def pool6 : Array CpInfo := pool [(1, .class_ 2), (0, u "java/lang/constant/ConstantDesc"), (0, .class_ 4), (0, u "java/lang/Object")] 32

/-- java/lang/constant/ConstantDesc -/
def k6 : Class := { plain "java/lang/constant/ConstantDesc" (some 0) with
  accessFlags := 1537
  interfaces := #[]
  cf := some (fileOf pool6 1 #[] #[] 1537 3 #[] #[])
  fields := #[]
  methods := #[]
  instanceTypes := #[]
  staticTypes := #[]
  resolved := Array.replicate 37 none
  statics := none }

def pool7 : Array CpInfo := pool [(1, .methodref 2 3), (0, .class_ 4), (0, .nameAndType 5 6), (0, u "java/lang/Object"), (0, u "<init>"), (0, u "()V"), (0, .string 8), (0, u ""), (0, .fieldref 10 11), (0, .class_ 12), (0, .nameAndType 13 14), (0, u "java/lang/String"), (0, u "value"), (0, u "[B"), (0, .fieldref 10 16), (0, .nameAndType 17 18), (0, u "coder"), (0, u "B"), (2, u "hash"), (0, u "I"), (2, u "hashIsZero"), (0, u "Z"), (0, .methodref 10 28), (0, .nameAndType 5 29), (0, u "([CIILjava/lang/Void;)V"), (8, .fieldref 10 39), (0, .nameAndType 40 26), (0, u "COMPACT_STRINGS"), (1, .class_ 44), (1, u "java/lang/StringUTF16"), (0, u "compress"), (1, .methodref 42 48), (0, .nameAndType 49 50), (0, u "coderFromArrayLen"), (0, u "([BI)B"), (56, .class_ 109), (1, u "java/lang/StringLatin1"), (32, u "()Z"), (34, .methodref 42 178), (0, .nameAndType 45 179), (0, u "([CII)[B"), (154, u "()I"), (0, .methodref 10 336), (0, .nameAndType 17 337), (0, u "()B"), (25, u "([BI)C"), (27, u "(II)V"), (35, u "(I)C"), (64, .methodref 10 493), (0, .nameAndType 494 142), (0, u "isLatin1"), (0, .methodref 107 496), (0, .nameAndType 497 363), (0, u "charAt"), (3, u "checkIndex"), (5, u "length"), (33, .methodref 107 542), (0, .nameAndType 543 544), (0, u "equals"), (0, u "([B[B)Z"), (28, u "(Ljava/lang/Object;)Z"), (1, .class_ 576), (0, u "java/lang/CharSequence"), (22, u "CASE_INSENSITIVE_ORDER"), (0, u "Ljava/util/Comparator;"), (409, u "([C)V"), (42, .fieldref 1054 1055), (0, .class_ 1056), (0, .nameAndType 1057 1058), (0, u "jdk/internal/util/Preconditions"), (0, u "SIOOBE_FORMATTER"), (0, u "Ljava/util/function/BiFunction;"), (0, .methodref 1054 1060), (0, .nameAndType 501 1061), (0, u "(IILjava/util/function/BiFunction;)I"), (39, u "serialPersistentFields"), (0, u "[Ljava/io/ObjectStreamField;"), (0, .class_ 1104), (0, u "java/lang/String$CaseInsensitiveComparator"), (1, .class_ 1107), (0, u "java/io/Serializable"), (0, .class_ 1109), (0, u "java/lang/Comparable"), (0, .class_ 1111), (0, u "java/lang/constant/Constable"), (0, .class_ 1113), (0, u "java/lang/constant/ConstantDesc"), (2, u "serialVersionUID"), (0, u "J"), (3, u "REPL"), (0, u "C"), (2, u "LATIN1"), (1, u "UTF16")] 323

def k7m0 : Method := { name := "<init>", desc := "()V", sig := { parameters := [], returnType := none }, accessFlags := 1, code := none }
def k7c1 : Code := { maxStack := 5, maxLocals := 2, code := jdk_42_method_3_code, exceptionTable := #[], attributes := #[] }
def k7m1 : Method := { name := "<init>", desc := "([C)V", sig := { parameters := [(.array .char)], returnType := none }, accessFlags := 1, code := some k7c1 }
def k7c2 : Code := { maxStack := 2, maxLocals := 1, code := jdk_42_method_54_code, exceptionTable := #[], attributes := #[] }
def k7m2 : Method := { name := "length", desc := "()I", sig := { parameters := [], returnType := some .int }, accessFlags := 1, code := some k7c2 }
def k7c3 : Code := { maxStack := 2, maxLocals := 2, code := jdk_42_method_56_code, exceptionTable := #[], attributes := #[] }
def k7m3 : Method := { name := "charAt", desc := "(I)C", sig := { parameters := [.int], returnType := some .char }, accessFlags := 1, code := some k7c3 }
def k7c4 : Code := { maxStack := 2, maxLocals := 3, code := jdk_42_method_66_code, exceptionTable := #[], attributes := #[] }
def k7m4 : Method := { name := "equals", desc := "(Ljava/lang/Object;)Z", sig := { parameters := [(.object "java/lang/Object")], returnType := some .boolean }, accessFlags := 1, code := some k7c4 }
def k7c5 : Code := { maxStack := 4, maxLocals := 6, code := jdk_42_method_149_code, exceptionTable := #[], attributes := #[] }
def k7m5 : Method := { name := "<init>", desc := "([CIILjava/lang/Void;)V", sig := { parameters := [(.array .char), .int, .int, (.object "java/lang/Void")], returnType := none }, accessFlags := 2, code := some k7c5 }
def k7c6 : Code := { maxStack := 1, maxLocals := 1, code := jdk_42_method_152_code, exceptionTable := #[], attributes := #[] }
def k7m6 : Method := { name := "coder", desc := "()B", sig := { parameters := [], returnType := some .byte }, accessFlags := 0, code := some k7c6 }
def k7c7 : Code := { maxStack := 1, maxLocals := 1, code := jdk_42_method_154_code, exceptionTable := #[], attributes := #[] }
def k7m7 : Method := { name := "isLatin1", desc := "()Z", sig := { parameters := [], returnType := some .boolean }, accessFlags := 0, code := some k7c7 }
def k7c8 : Code := { maxStack := 3, maxLocals := 2, code := jdk_42_method_155_code, exceptionTable := #[], attributes := #[] }
def k7m8 : Method := { name := "checkIndex", desc := "(II)V", sig := { parameters := [.int, .int], returnType := none }, accessFlags := 8, code := some k7c8 }
/-- java/lang/String -/
def k7 : Class := { plain "java/lang/String" (some 0) with
  accessFlags := 49
  interfaces := #[2, 3, 4, 5, 6]
  cf := some (fileOf pool7 10 #[.nestMembers #[1103]] #[{ accessFlags := 1, nameIndex := 5, descriptorIndex := 6, attributes := #[] }, { accessFlags := 1, nameIndex := 5, descriptorIndex := 1010, attributes := #[] }, { accessFlags := 1, nameIndex := 507, descriptorIndex := 334, attributes := #[] }, { accessFlags := 1, nameIndex := 497, descriptorIndex := 427, attributes := #[] }, { accessFlags := 1, nameIndex := 543, descriptorIndex := 573, attributes := #[] }, { accessFlags := 2, nameIndex := 5, descriptorIndex := 29, attributes := #[] }, { accessFlags := 0, nameIndex := 17, descriptorIndex := 337, attributes := #[] }, { accessFlags := 0, nameIndex := 494, descriptorIndex := 142, attributes := #[] }, { accessFlags := 8, nameIndex := 501, descriptorIndex := 391, attributes := #[] }] 49 2 #[1106, 1108, 575, 1110, 1112] #[{ accessFlags := 18, nameIndex := 13, descriptorIndex := 14, attributes := #[] }, { accessFlags := 18, nameIndex := 17, descriptorIndex := 18, attributes := #[] }, { accessFlags := 2, nameIndex := 21, descriptorIndex := 22, attributes := #[] }, { accessFlags := 2, nameIndex := 25, descriptorIndex := 26, attributes := #[] }, { accessFlags := 26, nameIndex := 1116, descriptorIndex := 1117, attributes := #[] }, { accessFlags := 24, nameIndex := 40, descriptorIndex := 26, attributes := #[] }, { accessFlags := 26, nameIndex := 1101, descriptorIndex := 1102, attributes := #[] }, { accessFlags := 26, nameIndex := 1121, descriptorIndex := 1122, attributes := #[] }, { accessFlags := 25, nameIndex := 599, descriptorIndex := 600, attributes := #[] }, { accessFlags := 24, nameIndex := 1125, descriptorIndex := 18, attributes := #[] }, { accessFlags := 24, nameIndex := 1127, descriptorIndex := 18, attributes := #[] }])
  fields := #[{ name := "value", type := (.array .byte), accessFlags := 18, slot := 0, constantValue := 0 }, { name := "coder", type := .byte, accessFlags := 18, slot := 1, constantValue := 0 }, { name := "hash", type := .int, accessFlags := 2, slot := 2, constantValue := 0 }, { name := "hashIsZero", type := .boolean, accessFlags := 2, slot := 3, constantValue := 0 }, { name := "serialVersionUID", type := .long, accessFlags := 26, slot := 0, constantValue := 0 }, { name := "COMPACT_STRINGS", type := .boolean, accessFlags := 24, slot := 1, constantValue := 0 }, { name := "serialPersistentFields", type := (.array (.object "java/io/ObjectStreamField")), accessFlags := 26, slot := 2, constantValue := 0 }, { name := "REPL", type := .char, accessFlags := 26, slot := 3, constantValue := 0 }, { name := "CASE_INSENSITIVE_ORDER", type := (.object "java/util/Comparator"), accessFlags := 25, slot := 4, constantValue := 0 }, { name := "LATIN1", type := .byte, accessFlags := 24, slot := 5, constantValue := 0 }, { name := "UTF16", type := .byte, accessFlags := 24, slot := 6, constantValue := 0 }]
  methods := #[k7m0, k7m1, k7m2, k7m3, k7m4, k7m5, k7m6, k7m7, k7m8]
  instanceTypes := #[(.array .byte), .byte, .int, .boolean]
  staticTypes := #[.long, .boolean, (.array (.object "java/io/ObjectStreamField")), .char, (.object "java/util/Comparator"), .byte, .byte]
  resolved := Array.replicate 1451 none
  statics := some 0 }

def pool8 : Array CpInfo := pool [(1, .class_ 2), (0, u "java/lang/String"), (1, .class_ 6), (1, u "java/lang/Object"), (0, u "<init>"), (0, u "()V"), (0, .methodref 1 10), (0, .nameAndType 11 12), (0, u "checkIndex"), (0, u "(II)V"), (1, .class_ 16), (1, u "java/lang/StringLatin1"), (36, u "([BI)C"), (67, u "$assertionsDisabled"), (0, u "Z"), (98, .class_ 223), (1, u "java/lang/StringLatin1$LinesSpliterator"), (28, u "charAt"), (28, u "equals"), (0, u "([B[B)Z"), (107, .class_ 391), (0, u "java/lang/StringLatin1$CharsSpliterator")] 3

def k8m0 : Method := { name := "<init>", desc := "()V", sig := { parameters := [], returnType := none }, accessFlags := 0, code := none }
def k8c1 : Code := { maxStack := 2, maxLocals := 2, code := jdk_43_method_2_code, exceptionTable := #[], attributes := #[] }
def k8m1 : Method := { name := "charAt", desc := "([BI)C", sig := { parameters := [(.array .byte), .int], returnType := some .char }, accessFlags := 9, code := some k8c1 }
def k8c2 : Code := { maxStack := 3, maxLocals := 3, code := jdk_43_method_13_code, exceptionTable := #[], attributes := #[] }
def k8m2 : Method := { name := "equals", desc := "([B[B)Z", sig := { parameters := [(.array .byte), (.array .byte)], returnType := some .boolean }, accessFlags := 9, code := some k8c2 }
/-- java/lang/StringLatin1 -/
def k8 : Class := { plain "java/lang/StringLatin1" (some 0) with
  accessFlags := 48
  interfaces := #[]
  cf := some (fileOf pool8 14 #[.nestMembers #[390, 221]] #[{ accessFlags := 0, nameIndex := 7, descriptorIndex := 8, attributes := #[] }, { accessFlags := 9, nameIndex := 252, descriptorIndex := 53, attributes := #[] }, { accessFlags := 9, nameIndex := 281, descriptorIndex := 282, attributes := #[] }] 48 4 #[] #[{ accessFlags := 4120, nameIndex := 121, descriptorIndex := 122, attributes := #[] }])
  fields := #[{ name := "$assertionsDisabled", type := .boolean, accessFlags := 4120, slot := 0, constantValue := 0 }]
  methods := #[k8m0, k8m1, k8m2]
  instanceTypes := #[]
  staticTypes := #[.boolean]
  resolved := Array.replicate 395 none
  statics := none }

def pool9 : Array CpInfo := pool [(2, .class_ 4), (1, u "java/lang/Object"), (0, u "<init>"), (0, u "()V"), (17, .class_ 26), (1, u "jdk/internal/util/Preconditions"), (6, u "checkIndex"), (21, .class_ 56), (0, u "jdk/internal/util/Preconditions$4"), (57, .class_ 115), (0, u "jdk/internal/util/Preconditions$1"), (7, u "SIOOBE_FORMATTER"), (0, u "Ljava/util/function/BiFunction;"), (0, .class_ 126), (0, u "jdk/internal/util/Preconditions$2"), (3, u "AIOOBE_FORMATTER"), (0, .class_ 132), (0, u "jdk/internal/util/Preconditions$3"), (3, u "IOOBE_FORMATTER"), (41, u "(IILjava/util/function/BiFunction;)I")] 15

def k9m0 : Method := { name := "<init>", desc := "()V", sig := { parameters := [], returnType := none }, accessFlags := 1, code := none }
def k9c1 : Code := { maxStack := 3, maxLocals := 3, code := jdk_41_method_11_code, exceptionTable := #[], attributes := #[] }
def k9m1 : Method := { name := "checkIndex", desc := "(IILjava/util/function/BiFunction;)I", sig := { parameters := [.int, .int, (.object "java/util/function/BiFunction")], returnType := some .int }, accessFlags := 9, code := some k9c1 }
/-- jdk/internal/util/Preconditions -/
def k9 : Class := { plain "jdk/internal/util/Preconditions" (some 0) with
  accessFlags := 33
  interfaces := #[]
  cf := some (fileOf pool9 24 #[.nestMembers #[55, 131, 125, 114]] #[{ accessFlags := 1, nameIndex := 5, descriptorIndex := 6, attributes := #[] }, { accessFlags := 9, nameIndex := 33, descriptorIndex := 178, attributes := #[] }] 33 2 #[] #[{ accessFlags := 25, nameIndex := 123, descriptorIndex := 124, attributes := #[] }, { accessFlags := 25, nameIndex := 130, descriptorIndex := 124, attributes := #[] }, { accessFlags := 25, nameIndex := 136, descriptorIndex := 124, attributes := #[] }])
  fields := #[{ name := "SIOOBE_FORMATTER", type := (.object "java/util/function/BiFunction"), accessFlags := 25, slot := 0, constantValue := 0 }, { name := "AIOOBE_FORMATTER", type := (.object "java/util/function/BiFunction"), accessFlags := 25, slot := 1, constantValue := 0 }, { name := "IOOBE_FORMATTER", type := (.object "java/util/function/BiFunction"), accessFlags := 25, slot := 2, constantValue := 0 }]
  methods := #[k9m0, k9m1]
  instanceTypes := #[]
  staticTypes := #[(.object "java/util/function/BiFunction"), (.object "java/util/function/BiFunction"), (.object "java/util/function/BiFunction")]
  resolved := Array.replicate 194 none
  statics := some 1 }

def pool10 : Array CpInfo := pool [(6, .class_ 8), (1, u "java/lang/Object"), (0, u "<init>"), (0, u "()V"), (1, .class_ 14), (1, u "java/lang/StringUTF16"), (31, u "$assertionsDisabled"), (0, u "Z"), (13, u "HI_BYTE_SHIFT"), (0, u "I"), (2, u "LO_BYTE_SHIFT"), (49, .methodref 12 116), (0, .nameAndType 117 118), (0, u "compress"), (0, u "([CI[BII)I"), (3, u "([CII)[B"), (138, u "coderFromArrayLen"), (0, u "([BI)B"), (106, .class_ 371), (1, u "java/lang/StringUTF16$LinesSpliterator"), (58, u "MAX_LENGTH"), (196, .class_ 628), (0, u "java/lang/StringUTF16$CodePointsSpliterator"), (0, .class_ 630), (0, u "java/lang/StringUTF16$CharsSpliterator")] 4

def k10m0 : Method := { name := "<init>", desc := "()V", sig := { parameters := [], returnType := none }, accessFlags := 0, code := none }
def k10c1 : Code := { maxStack := 2, maxLocals := 2, code := jdk_52_method_15_code, exceptionTable := #[], attributes := #[] }
def k10m1 : Method := { name := "coderFromArrayLen", desc := "([BI)B", sig := { parameters := [(.array .byte), .int], returnType := some .byte }, accessFlags := 8, code := some k10c1 }
def k10c2 : Code := { maxStack := 5, maxLocals := 6, code := jdk_52_method_16_code, exceptionTable := #[], attributes := #[] }
def k10m2 : Method := { name := "compress", desc := "([CII)[B", sig := { parameters := [(.array .char), .int, .int], returnType := some (.array .byte) }, accessFlags := 9, code := some k10c2 }
def k10c3 : Code := { maxStack := 3, maxLocals := 7, code := jdk_52_method_21_code, exceptionTable := #[], attributes := #[] }
def k10m3 : Method := { name := "compress", desc := "([CI[BII)I", sig := { parameters := [(.array .char), .int, (.array .byte), .int, .int], returnType := some .int }, accessFlags := 9, code := some k10c3 }
/-- java/lang/StringUTF16 -/
def k10 : Class := { plain "java/lang/StringUTF16" (some 0) with
  accessFlags := 48
  interfaces := #[]
  cf := some (fileOf pool10 12 #[.nestMembers #[627, 629, 369]] #[{ accessFlags := 0, nameIndex := 9, descriptorIndex := 10, attributes := #[] }, { accessFlags := 8, nameIndex := 261, descriptorIndex := 262, attributes := #[] }, { accessFlags := 9, nameIndex := 117, descriptorIndex := 122, attributes := #[] }, { accessFlags := 9, nameIndex := 117, descriptorIndex := 118, attributes := #[] }] 48 6 #[] #[{ accessFlags := 26, nameIndex := 61, descriptorIndex := 62, attributes := #[] }, { accessFlags := 26, nameIndex := 65, descriptorIndex := 62, attributes := #[] }, { accessFlags := 24, nameIndex := 430, descriptorIndex := 62, attributes := #[] }, { accessFlags := 4120, nameIndex := 46, descriptorIndex := 47, attributes := #[] }])
  fields := #[{ name := "HI_BYTE_SHIFT", type := .int, accessFlags := 26, slot := 0, constantValue := 0 }, { name := "LO_BYTE_SHIFT", type := .int, accessFlags := 26, slot := 1, constantValue := 0 }, { name := "MAX_LENGTH", type := .int, accessFlags := 24, slot := 2, constantValue := 0 }, { name := "$assertionsDisabled", type := .boolean, accessFlags := 4120, slot := 3, constantValue := 0 }]
  methods := #[k10m0, k10m1, k10m2, k10m3]
  instanceTypes := #[]
  staticTypes := #[.int, .int, .int, .boolean]
  resolved := Array.replicate 635 none
  statics := none }

def pool11 : Array CpInfo := pool [(2, .class_ 4), (1, u "java/lang/Enum"), (0, u "name"), (0, u "Ljava/lang/String;"), (2, u "ordinal"), (0, u "I"), (1, .class_ 14), (1, u "java/lang/Object"), (4, u "hash"), (86, .class_ 108), (1, u "java/lang/Enum$EnumDesc"), (2, .class_ 112), (0, u "java/lang/constant/Constable"), (0, .class_ 114), (0, u "java/lang/Comparable"), (0, .class_ 116), (0, u "java/io/Serializable")] 87

/-- java/lang/Enum -/
def k11 : Class := { plain "java/lang/Enum" (some 0) with
  accessFlags := 1057
  interfaces := #[5, 3, 2]
  cf := some (fileOf pool11 2 #[.nestMembers #[106]] #[] 1057 12 #[111, 113, 115] #[{ accessFlags := 18, nameIndex := 5, descriptorIndex := 6, attributes := #[] }, { accessFlags := 18, nameIndex := 9, descriptorIndex := 10, attributes := #[] }, { accessFlags := 2, nameIndex := 19, descriptorIndex := 10, attributes := #[] }])
  fields := #[{ name := "name", type := (.object "java/lang/String"), accessFlags := 18, slot := 0, constantValue := 0 }, { name := "ordinal", type := .int, accessFlags := 18, slot := 1, constantValue := 0 }, { name := "hash", type := .int, accessFlags := 2, slot := 2, constantValue := 0 }]
  methods := #[]
  instanceTypes := #[(.object "java/lang/String"), .int, .int]
  staticTypes := #[]
  resolved := Array.replicate 204 none
  statics := none }

def pool12 : Array CpInfo := pool [(1, .class_ 2), (0, u "com/example/gentle_retry/gentleretry/rabbitmq/SubscriptionQueue$Role"), (2, u "WORK"), (0, u "Lcom/example/gentle_retry/gentleretry/rabbitmq/SubscriptionQueue$Role;"), (2, u "DELAY"), (2, u "PARKED"), (0, .fieldref 1 14), (0, .nameAndType 15 16), (0, u "$VALUES"), (0, u "[Lcom/example/gentle_retry/gentleretry/rabbitmq/SubscriptionQueue$Role;"), (0, .methodref 18 19), (0, .class_ 16), (0, .nameAndType 20 21), (0, u "clone"), (0, u "()Ljava/lang/Object;"), (1, .class_ 25), (1, u "java/lang/Enum"), (6, .fieldref 1 33), (0, .nameAndType 34 35), (0, u "label"), (0, u "Ljava/lang/String;"), (0, .methodref 1 37), (0, .nameAndType 38 39), (0, u "values"), (0, u "()[Lcom/example/gentle_retry/gentleretry/rabbitmq/SubscriptionQueue$Role;"), (0, .methodref 41 42), (0, .class_ 43), (0, .nameAndType 44 45), (0, u "java/lang/String"), (0, u "equals"), (0, u "(Ljava/lang/Object;)Z"), (0, .methodref 47 48), (0, .class_ 49), (0, .nameAndType 50 51), (0, u "java/util/Optional"), (0, u "of"), (0, u "(Ljava/lang/Object;)Ljava/util/Optional;"), (0, .methodref 47 53), (0, .nameAndType 54 55), (0, u "empty"), (0, u "()Ljava/util/Optional;"), (22, u "ofLabel"), (0, u "(Ljava/lang/String;)Ljava/util/Optional;"), (8, .class_ 89), (0, u "com/example/gentle_retry/gentleretry/rabbitmq/SubscriptionQueue")] 2

def k12c0 : Code := { maxStack := 1, maxLocals := 0, code := prog_7_method_1_code, exceptionTable := #[], attributes := #[] }
def k12m0 : Method := { name := "values", desc := "()[Lcom/example/gentle_retry/gentleretry/rabbitmq/SubscriptionQueue$Role;", sig := { parameters := [], returnType := some (.array (.object "com/example/gentle_retry/gentleretry/rabbitmq/SubscriptionQueue$Role")) }, accessFlags := 9, code := some k12c0 }
def k12c1 : Code := { maxStack := 2, maxLocals := 5, code := prog_7_method_5_code, exceptionTable := #[], attributes := #[] }
def k12m1 : Method := { name := "ofLabel", desc := "(Ljava/lang/String;)Ljava/util/Optional;", sig := { parameters := [(.object "java/lang/String")], returnType := some (.object "java/util/Optional") }, accessFlags := 8, code := some k12c1 }
/-- com/example/gentle_retry/gentleretry/rabbitmq/SubscriptionQueue$Role -/
def k12 : Class := { plain "com/example/gentle_retry/gentleretry/rabbitmq/SubscriptionQueue$Role" (some 11) with
  accessFlags := 16433
  interfaces := #[]
  cf := some (fileOf pool12 1 #[.nestHost 88] #[{ accessFlags := 9, nameIndex := 38, descriptorIndex := 39, attributes := #[] }, { accessFlags := 8, nameIndex := 78, descriptorIndex := 79, attributes := #[] }] 16433 23 #[] #[{ accessFlags := 16409, nameIndex := 5, descriptorIndex := 6, attributes := #[] }, { accessFlags := 16409, nameIndex := 9, descriptorIndex := 6, attributes := #[] }, { accessFlags := 16409, nameIndex := 12, descriptorIndex := 6, attributes := #[] }, { accessFlags := 18, nameIndex := 34, descriptorIndex := 35, attributes := #[] }, { accessFlags := 4122, nameIndex := 15, descriptorIndex := 16, attributes := #[] }])
  fields := #[{ name := "WORK", type := (.object "com/example/gentle_retry/gentleretry/rabbitmq/SubscriptionQueue$Role"), accessFlags := 16409, slot := 0, constantValue := 0 }, { name := "DELAY", type := (.object "com/example/gentle_retry/gentleretry/rabbitmq/SubscriptionQueue$Role"), accessFlags := 16409, slot := 1, constantValue := 0 }, { name := "PARKED", type := (.object "com/example/gentle_retry/gentleretry/rabbitmq/SubscriptionQueue$Role"), accessFlags := 16409, slot := 2, constantValue := 0 }, { name := "label", type := (.object "java/lang/String"), accessFlags := 18, slot := 3, constantValue := 0 }, { name := "$VALUES", type := (.array (.object "com/example/gentle_retry/gentleretry/rabbitmq/SubscriptionQueue$Role")), accessFlags := 4122, slot := 3, constantValue := 0 }]
  methods := #[k12m0, k12m1]
  instanceTypes := #[(.object "java/lang/String"), .int, .int, (.object "java/lang/String")]
  staticTypes := #[(.object "com/example/gentle_retry/gentleretry/rabbitmq/SubscriptionQueue$Role"), (.object "com/example/gentle_retry/gentleretry/rabbitmq/SubscriptionQueue$Role"), (.object "com/example/gentle_retry/gentleretry/rabbitmq/SubscriptionQueue$Role"), (.array (.object "com/example/gentle_retry/gentleretry/rabbitmq/SubscriptionQueue$Role"))]
  resolved := Array.replicate 92 none
  statics := some 2 }

def pool13 : Array CpInfo := pool [(1, .class_ 2), (0, u "java/lang/Cloneable"), (0, .class_ 4), (0, u "java/lang/Object")] 2

/-- java/lang/Cloneable -/
def k13 : Class := { plain "java/lang/Cloneable" (some 0) with
  accessFlags := 1537
  interfaces := #[]
  cf := some (fileOf pool13 1 #[] #[] 1537 3 #[] #[])
  fields := #[]
  methods := #[]
  instanceTypes := #[]
  staticTypes := #[]
  resolved := Array.replicate 7 none
  statics := none }

def pool14 : Array CpInfo := pool [(1, .fieldref 2 3), (0, .class_ 4), (0, .nameAndType 5 6), (0, u "java/util/Optional"), (0, u "EMPTY"), (0, u "Ljava/util/Optional;"), (0, .methodref 8 9), (0, .class_ 10), (0, .nameAndType 11 12), (0, u "java/lang/Object"), (0, u "<init>"), (0, u "()V"), (0, .fieldref 2 14), (0, .nameAndType 15 16), (0, u "value"), (0, u "Ljava/lang/Object;"), (0, .methodref 18 19), (0, .class_ 20), (0, .nameAndType 21 22), (0, u "java/util/Objects"), (0, u "requireNonNull"), (0, u "(Ljava/lang/Object;)Ljava/lang/Object;"), (0, .methodref 2 24), (0, .nameAndType 11 25), (0, u "(Ljava/lang/Object;)V"), (29, u "empty"), (0, u "()Ljava/util/Optional;"), (8, u "(Ljava/lang/Object;)Ljava/util/Optional;"), (16, u "of"), (82, u "orElse")] 21

def k14c0 : Code := { maxStack := 1, maxLocals := 1, code := jdk_32_method_1_code, exceptionTable := #[], attributes := #[] }
def k14m0 : Method := { name := "empty", desc := "()Ljava/util/Optional;", sig := { parameters := [], returnType := some (.object "java/util/Optional") }, accessFlags := 9, code := some k14c0 }
def k14c1 : Code := { maxStack := 2, maxLocals := 2, code := jdk_32_method_2_code, exceptionTable := #[], attributes := #[] }
def k14m1 : Method := { name := "<init>", desc := "(Ljava/lang/Object;)V", sig := { parameters := [(.object "java/lang/Object")], returnType := none }, accessFlags := 2, code := some k14c1 }
def k14c2 : Code := { maxStack := 3, maxLocals := 1, code := jdk_32_method_3_code, exceptionTable := #[], attributes := #[] }
def k14m2 : Method := { name := "of", desc := "(Ljava/lang/Object;)Ljava/util/Optional;", sig := { parameters := [(.object "java/lang/Object")], returnType := some (.object "java/util/Optional") }, accessFlags := 9, code := some k14c2 }
def k14c3 : Code := { maxStack := 1, maxLocals := 2, code := jdk_32_method_15_code, exceptionTable := #[], attributes := #[] }
def k14m3 : Method := { name := "orElse", desc := "(Ljava/lang/Object;)Ljava/lang/Object;", sig := { parameters := [(.object "java/lang/Object")], returnType := some (.object "java/lang/Object") }, accessFlags := 1, code := some k14c3 }
/-- java/util/Optional -/
def k14 : Class := { plain "java/util/Optional" (some 0) with
  accessFlags := 49
  interfaces := #[]
  cf := some (fileOf pool14 2 #[] #[{ accessFlags := 9, nameIndex := 55, descriptorIndex := 56, attributes := #[] }, { accessFlags := 2, nameIndex := 11, descriptorIndex := 25, attributes := #[] }, { accessFlags := 9, nameIndex := 82, descriptorIndex := 65, attributes := #[] }, { accessFlags := 1, nameIndex := 165, descriptorIndex := 22, attributes := #[] }] 49 8 #[] #[{ accessFlags := 26, nameIndex := 5, descriptorIndex := 6, attributes := #[] }, { accessFlags := 18, nameIndex := 15, descriptorIndex := 16, attributes := #[] }])
  fields := #[{ name := "EMPTY", type := (.object "java/util/Optional"), accessFlags := 26, slot := 0, constantValue := 0 }, { name := "value", type := (.object "java/lang/Object"), accessFlags := 18, slot := 0, constantValue := 0 }]
  methods := #[k14m0, k14m1, k14m2, k14m3]
  instanceTypes := #[(.object "java/lang/Object")]
  staticTypes := #[(.object "java/util/Optional")]
  resolved := Array.replicate 187 none
  statics := some 3 }

def pool15 : Array CpInfo := pool [(2, .class_ 4), (1, u "java/lang/Object"), (0, u "<init>"), (0, u "()V"), (35, .class_ 44), (1, u "java/util/Objects"), (0, u "requireNonNull"), (0, u "(Ljava/lang/Object;)Ljava/lang/Object;")] 137

def k15m0 : Method := { name := "<init>", desc := "()V", sig := { parameters := [], returnType := none }, accessFlags := 2, code := none }
def k15c1 : Code := { maxStack := 2, maxLocals := 1, code := jdk_31_method_10_code, exceptionTable := #[], attributes := #[] }
def k15m1 : Method := { name := "requireNonNull", desc := "(Ljava/lang/Object;)Ljava/lang/Object;", sig := { parameters := [(.object "java/lang/Object")], returnType := some (.object "java/lang/Object") }, accessFlags := 9, code := some k15c1 }
/-- java/util/Objects -/
def k15 : Class := { plain "java/util/Objects" (some 0) with
  accessFlags := 49
  interfaces := #[]
  cf := some (fileOf pool15 42 #[] #[{ accessFlags := 2, nameIndex := 5, descriptorIndex := 6, attributes := #[] }, { accessFlags := 9, nameIndex := 45, descriptorIndex := 46, attributes := #[] }] 49 2 #[] #[])
  fields := #[]
  methods := #[k15m0, k15m1]
  instanceTypes := #[]
  staticTypes := #[]
  resolved := Array.replicate 184 none
  statics := none }

def pool16 : Array CpInfo := pool [(9, u "<init>"), (6, .class_ 18), (1, u "java/lang/Object"), (0, u "()V"), (1, .class_ 23), (1, u "jdk/internal/util/ArraysSupport"), (0, u "LOG2_ARRAY_LONG_INDEX_SCALE"), (0, u "I"), (2, u "U"), (0, u "Ljdk/internal/misc/Unsafe;"), (8, u "BIG_ENDIAN"), (0, u "Z"), (8, u "LOG2_BYTE_BIT_SIZE"), (4, u "LOG2_ARRAY_INT_INDEX_SCALE"), (54, u "JLA"), (0, u "Ljdk/internal/access/JavaLangAccess;"), (11, u "LOG2_ARRAY_BOOLEAN_INDEX_SCALE"), (9, u "LOG2_ARRAY_BYTE_INDEX_SCALE"), (5, u "LOG2_ARRAY_CHAR_INDEX_SCALE"), (5, u "LOG2_ARRAY_SHORT_INDEX_SCALE"), (18, u "LOG2_ARRAY_FLOAT_INDEX_SCALE"), (24, u "LOG2_ARRAY_DOUBLE_INDEX_SCALE"), (89, u "T_BOOLEAN"), (2, u "T_CHAR"), (1, u "T_FLOAT"), (1, u "T_DOUBLE"), (1, u "T_BYTE"), (1, u "T_SHORT"), (1, u "T_INT"), (1, u "T_LONG"), (1, u "SOFT_MAX_ARRAY_LENGTH")] 83

def k16m0 : Method := { name := "<init>", desc := "()V", sig := { parameters := [], returnType := none }, accessFlags := 2, code := none }
/-- jdk/internal/util/ArraysSupport -/
def k16 : Class := { plain "jdk/internal/util/ArraysSupport" (some 0) with
  accessFlags := 33
  interfaces := #[]
  cf := some (fileOf pool16 21 #[] #[{ accessFlags := 2, nameIndex := 9, descriptorIndex := 19, attributes := #[] }] 33 16 #[] #[{ accessFlags := 24, nameIndex := 28, descriptorIndex := 29, attributes := #[] }, { accessFlags := 26, nameIndex := 38, descriptorIndex := 39, attributes := #[] }, { accessFlags := 25, nameIndex := 121, descriptorIndex := 25, attributes := #[] }, { accessFlags := 25, nameIndex := 131, descriptorIndex := 25, attributes := #[] }, { accessFlags := 25, nameIndex := 137, descriptorIndex := 25, attributes := #[] }, { accessFlags := 25, nameIndex := 143, descriptorIndex := 25, attributes := #[] }, { accessFlags := 25, nameIndex := 53, descriptorIndex := 25, attributes := #[] }, { accessFlags := 25, nameIndex := 24, descriptorIndex := 25, attributes := #[] }, { accessFlags := 25, nameIndex := 162, descriptorIndex := 25, attributes := #[] }, { accessFlags := 25, nameIndex := 187, descriptorIndex := 25, attributes := #[] }, { accessFlags := 26, nameIndex := 48, descriptorIndex := 25, attributes := #[] }, { accessFlags := 25, nameIndex := 277, descriptorIndex := 25, attributes := #[] }, { accessFlags := 25, nameIndex := 280, descriptorIndex := 25, attributes := #[] }, { accessFlags := 25, nameIndex := 282, descriptorIndex := 25, attributes := #[] }, { accessFlags := 25, nameIndex := 284, descriptorIndex := 25, attributes := #[] }, { accessFlags := 25, nameIndex := 286, descriptorIndex := 25, attributes := #[] }, { accessFlags := 25, nameIndex := 288, descriptorIndex := 25, attributes := #[] }, { accessFlags := 25, nameIndex := 290, descriptorIndex := 25, attributes := #[] }, { accessFlags := 25, nameIndex := 292, descriptorIndex := 25, attributes := #[] }, { accessFlags := 26, nameIndex := 108, descriptorIndex := 109, attributes := #[] }, { accessFlags := 25, nameIndex := 294, descriptorIndex := 25, attributes := #[] }])
  fields := #[{ name := "U", type := (.object "jdk/internal/misc/Unsafe"), accessFlags := 24, slot := 0, constantValue := 0 }, { name := "BIG_ENDIAN", type := .boolean, accessFlags := 26, slot := 1, constantValue := 0 }, { name := "LOG2_ARRAY_BOOLEAN_INDEX_SCALE", type := .int, accessFlags := 25, slot := 2, constantValue := 0 }, { name := "LOG2_ARRAY_BYTE_INDEX_SCALE", type := .int, accessFlags := 25, slot := 3, constantValue := 0 }, { name := "LOG2_ARRAY_CHAR_INDEX_SCALE", type := .int, accessFlags := 25, slot := 4, constantValue := 0 }, { name := "LOG2_ARRAY_SHORT_INDEX_SCALE", type := .int, accessFlags := 25, slot := 5, constantValue := 0 }, { name := "LOG2_ARRAY_INT_INDEX_SCALE", type := .int, accessFlags := 25, slot := 6, constantValue := 0 }, { name := "LOG2_ARRAY_LONG_INDEX_SCALE", type := .int, accessFlags := 25, slot := 7, constantValue := 0 }, { name := "LOG2_ARRAY_FLOAT_INDEX_SCALE", type := .int, accessFlags := 25, slot := 8, constantValue := 0 }, { name := "LOG2_ARRAY_DOUBLE_INDEX_SCALE", type := .int, accessFlags := 25, slot := 9, constantValue := 0 }, { name := "LOG2_BYTE_BIT_SIZE", type := .int, accessFlags := 26, slot := 10, constantValue := 0 }, { name := "T_BOOLEAN", type := .int, accessFlags := 25, slot := 11, constantValue := 0 }, { name := "T_CHAR", type := .int, accessFlags := 25, slot := 12, constantValue := 0 }, { name := "T_FLOAT", type := .int, accessFlags := 25, slot := 13, constantValue := 0 }, { name := "T_DOUBLE", type := .int, accessFlags := 25, slot := 14, constantValue := 0 }, { name := "T_BYTE", type := .int, accessFlags := 25, slot := 15, constantValue := 0 }, { name := "T_SHORT", type := .int, accessFlags := 25, slot := 16, constantValue := 0 }, { name := "T_INT", type := .int, accessFlags := 25, slot := 17, constantValue := 0 }, { name := "T_LONG", type := .int, accessFlags := 25, slot := 18, constantValue := 0 }, { name := "JLA", type := (.object "jdk/internal/access/JavaLangAccess"), accessFlags := 26, slot := 19, constantValue := 0 }, { name := "SOFT_MAX_ARRAY_LENGTH", type := .int, accessFlags := 25, slot := 20, constantValue := 0 }]
  methods := #[k16m0]
  instanceTypes := #[]
  staticTypes := #[(.object "jdk/internal/misc/Unsafe"), .boolean, .int, .int, .int, .int, .int, .int, .int, .int, .int, .int, .int, .int, .int, .int, .int, .int, .int, (.object "jdk/internal/access/JavaLangAccess"), .int]
  resolved := Array.replicate 378 none
  statics := none }

/-- the primitive byte -/
def k17 : Class := { plain "byte" none with kind := .primitive 'B', accessFlags := 0x411 }
/-- [B -/
def k18 : Class := { plain "[B" (some 0) with kind := .array 17 .byte, interfaces := #[13, 2], accessFlags := 1041 }

/-- the primitive char -/
def k19 : Class := { plain "char" none with kind := .primitive 'C', accessFlags := 0x411 }
/-- [C -/
def k20 : Class := { plain "[C" (some 0) with kind := .array 19 .char, interfaces := #[13, 2], accessFlags := 1041 }

/-- the primitive int -/
def k21 : Class := { plain "int" none with kind := .primitive 'I', accessFlags := 0x411 }
/-- [I -/
def k22 : Class := { plain "[I" (some 0) with kind := .array 21 .int, interfaces := #[13, 2], accessFlags := 1041 }

/-- [Lcom/example/gentle_retry/gentleretry/rabbitmq/SubscriptionQueue$Role; -/
def k23 : Class := { plain "[Lcom/example/gentle_retry/gentleretry/rabbitmq/SubscriptionQueue$Role;" (some 0) with kind := .array 12 (.object "com/example/gentle_retry/gentleretry/rabbitmq/SubscriptionQueue$Role"), interfaces := #[13, 2], accessFlags := 1041 }

def heap : Heap := #[{ cls := 7, slots := #[.long 0, .int 1, .null, .int 0, .null, .int 0, .int 0], vm := .statics 7 },
  { cls := 9, slots := #[.null, .null, .null], vm := .statics 9 },
  { cls := 12, slots := #[.ref 7, .ref 10, .ref 13, .ref 4], vm := .statics 12 },
  { cls := 14, slots := #[.ref 14], vm := .statics 14 },
  { cls := 23, slots := #[.ref 7, .ref 10, .ref 13], vm := .none },
  { cls := 18, slots := #[.int 119, .int 111, .int 114, .int 107], vm := .none },
  { cls := 7, slots := #[.ref 5, .int 0, .int 0, .int 0], vm := .none },
  { cls := 12, slots := #[.null, .int 0, .int 0, .ref 6], vm := .none },
  { cls := 18, slots := #[.int 100, .int 101, .int 108, .int 97, .int 121], vm := .none },
  { cls := 7, slots := #[.ref 8, .int 0, .int 0, .int 0], vm := .none },
  { cls := 12, slots := #[.null, .int 1, .int 0, .ref 9], vm := .none },
  { cls := 18, slots := #[.int 112, .int 97, .int 114, .int 107, .int 101, .int 100], vm := .none },
  { cls := 7, slots := #[.ref 11, .int 0, .int 0, .int 0], vm := .none },
  { cls := 12, slots := #[.null, .int 2, .int 0, .ref 12], vm := .none },
  { cls := 14, slots := #[.null], vm := .none }]
def classes : Array Class := #[k0, k1, k2, k3, k4, k5, k6, k7, k8, k9, k10, k11, k12, k13, k14, k15, k16, k17, k18, k19, k20, k21, k22, k23]
def interned : List (Array UInt16 × Addr) := []
def slotsUsed : Nat := 58
def theMethod : MethodId := ⟨1, 1⟩
def args0 : Array Value := #[.int 5, .int 5, .int 5, .int 5, .int 5, .int 5]
def aboutOver (below : List Frame) : State where
  vm := { classes := classes, interned := interned.toArray }
  heap := heap
  slotsUsed := slotsUsed
  threads := #[{ frames := .invoking theMethod args0 :: below }]
def below0 : List Frame := [.native { method := ⟨0, 0⟩, args := #[] }]
def about1 : State := aboutOver below0
def p0 : Program := .bare "" "" ""
def e0 : Env := launch0.env 0 0 0
theorem w_frames : about1.frames = Frame.invoking theMethod args0 :: below0 := rfl
set_option maxRecDepth 65536 in
theorem w_args : argsFit about1.vm theMethod args0 = true := by decide +kernel
set_option maxRecDepth 65536 in
theorem w_heap : heapFits about1 = true := by decide +kernel
set_option maxRecDepth 65536 in
theorem w_runnable : about1.curStatus? = some .runnable := by decide +kernel
set_option maxRecDepth 65536 in
theorem w_alone : about1.alone = true := by decide +kernel
set_option maxRecDepth 65536 in
theorem w_named : about1.methodNamed? x = some theMethod := by decide +kernel
set_option maxRecDepth 65536 in
theorem w_hears : about1.hears theMethod below0 = true := by decide +kernel
set_option maxRecDepth 65536 in
theorem w_ripe : about1.ripe theMethod args0 below0 = true := by decide +kernel
theorem w_running : about1.status = .running := rfl
set_option maxRecDepth 65536 in
theorem w_room : about1.hasRoom e0.platform room_1 = true :=
  launch0.hasRoom_least _ room_1 (by decide +kernel) (by decide +kernel) (by decide +kernel) (by decide +kernel) (by decide +kernel) (by decide +kernel)
theorem allAtoms_all (ts : List Jvm.Cond) (a : Array Jvm.Value) (st : Jvm.State) : (allAtoms ts).before a st = ts.all (fun c => c.before a st) := by
  induction ts with
  | nil => rfl
  | cons c t ih =>
    show (Jvm.Cond.and c (allAtoms t)).before a st = _
    rw [Jvm.Cond.before_and, ih, List.all_cons]
def words1 : List Jvm.Cond := Jvm.Cond.code x code maxLocals ret :: tables_1
/-- a 'code' word, met by the world's own term for the bytes: nothing is compared byte by byte -/
theorem code_word {y : MethodName} {bytes : ByteArray} {mx : Nat} {rt : Option FieldType} {a : Array Value} {s : State} {m : MethodId} {meth : Method} {c : Code} (h1 : s.methodNamed? y = some m) (h2 : s.vm.method? m = some meth) (h3 : meth.code = some c) (h4 : c.code = bytes)
    (h5 : (c.maxLocals == mx && c.exceptionTable.isEmpty && decide (c.maxStack ≤ mostOperands) && decide (meth.sig.returnType = rt) && !meth.locks && decide (parseMethodDescriptor y.desc = some meth.sig)) = true) : (Jvm.Cond.code y bytes mx rt).before a s = true := by
  simp only [Bool.and_eq_true, beq_iff_eq, Bool.not_eq_true', decide_eq_true_eq] at h5
  obtain ⟨⟨⟨⟨⟨g1, g2⟩, g3⟩, g4⟩, g5⟩, g6⟩ := h5
  simp [Cond.before, Cond.holds, Cond.value, h1, h2, h3, h4, g1, g2, g3, g4, g5, g6]
def isCode : Jvm.Cond → Bool
  | .code _ _ _ _ => true
  | _ => false
theorem all_split {L : List Jvm.Cond} {P : Jvm.Cond → Bool} (h1 : L.all (fun c => isCode c || P c) = true) (h2 : ∀ c ∈ L.filter isCode, P c = true) : L.all P = true := by
  refine List.all_eq_true.mpr fun c hc => ?_
  have h := List.all_eq_true.mp h1 c hc
  rcases Bool.eq_false_or_eq_true (isCode c) with hi | hi
  · exact h2 c (List.mem_filter.mpr ⟨hc, hi⟩)
  · simpa [hi] using h
set_option maxRecDepth 65536 in
theorem w_c0 : (Jvm.Cond.code x code maxLocals ret).before args0 about1 = true := code_word (m := ⟨1, 1⟩) (meth := k1m1) (c := k1c1) (by decide +kernel) rfl rfl rfl (by decide +kernel)
set_option maxRecDepth 65536 in
theorem w_c1 : (Jvm.Cond.code ({ cls := "com/example/gentle_retry/gentleretry/rabbitmq/RoleOfLabelPinLaw", name := "at", desc := "(Ljava/lang/String;I)C" } : Jvm.MethodName) method_3_code (2 : Nat) (Option.some Jvm.ClassFile.FieldType.char)).before args0 about1 = true := code_word (m := ⟨1, 2⟩) (meth := k1m2) (c := k1c2) (by decide +kernel) rfl rfl rfl (by decide +kernel)
set_option maxRecDepth 65536 in
theorem w_c2 : (Jvm.Cond.code ({ cls := "java/lang/String", name := "length", desc := "()I" } : Jvm.MethodName) jdk_42_method_54_code (1 : Nat) (Option.some Jvm.ClassFile.FieldType.int)).before args0 about1 = true := code_word (m := ⟨7, 2⟩) (meth := k7m2) (c := k7c2) (by decide +kernel) rfl rfl rfl (by decide +kernel)
set_option maxRecDepth 65536 in
theorem w_c3 : (Jvm.Cond.code ({ cls := "java/lang/String", name := "coder", desc := "()B" } : Jvm.MethodName) jdk_42_method_152_code (1 : Nat) (Option.some Jvm.ClassFile.FieldType.byte)).before args0 about1 = true := code_word (m := ⟨7, 6⟩) (meth := k7m6) (c := k7c6) (by decide +kernel) rfl rfl rfl (by decide +kernel)
set_option maxRecDepth 65536 in
theorem w_c4 : (Jvm.Cond.code ({ cls := "java/lang/String", name := "charAt", desc := "(I)C" } : Jvm.MethodName) jdk_42_method_56_code (2 : Nat) (Option.some Jvm.ClassFile.FieldType.char)).before args0 about1 = true := code_word (m := ⟨7, 3⟩) (meth := k7m3) (c := k7c3) (by decide +kernel) rfl rfl rfl (by decide +kernel)
set_option maxRecDepth 65536 in
theorem w_c5 : (Jvm.Cond.code ({ cls := "java/lang/String", name := "isLatin1", desc := "()Z" } : Jvm.MethodName) jdk_42_method_154_code (1 : Nat) (Option.some Jvm.ClassFile.FieldType.boolean)).before args0 about1 = true := code_word (m := ⟨7, 7⟩) (meth := k7m7) (c := k7c7) (by decide +kernel) rfl rfl rfl (by decide +kernel)
set_option maxRecDepth 65536 in
theorem w_c6 : (Jvm.Cond.code ({ cls := "java/lang/StringLatin1", name := "charAt", desc := "([BI)C" } : Jvm.MethodName) jdk_43_method_2_code (2 : Nat) (Option.some Jvm.ClassFile.FieldType.char)).before args0 about1 = true := code_word (m := ⟨8, 1⟩) (meth := k8m1) (c := k8c1) (by decide +kernel) rfl rfl rfl (by decide +kernel)
set_option maxRecDepth 65536 in
theorem w_c7 : (Jvm.Cond.code ({ cls := "java/lang/String", name := "checkIndex", desc := "(II)V" } : Jvm.MethodName) jdk_42_method_155_code (2 : Nat) (Option.none : Option Jvm.ClassFile.FieldType)).before args0 about1 = true := code_word (m := ⟨7, 8⟩) (meth := k7m8) (c := k7c8) (by decide +kernel) rfl rfl rfl (by decide +kernel)
set_option maxRecDepth 65536 in
theorem w_c8 : (Jvm.Cond.code ({ cls := "jdk/internal/util/Preconditions", name := "checkIndex", desc := "(IILjava/util/function/BiFunction;)I" } : Jvm.MethodName) jdk_41_method_11_code (3 : Nat) (Option.some Jvm.ClassFile.FieldType.int)).before args0 about1 = true := code_word (m := ⟨9, 1⟩) (meth := k9m1) (c := k9c1) (by decide +kernel) rfl rfl rfl (by decide +kernel)
set_option maxRecDepth 65536 in
theorem w_c9 : (Jvm.Cond.code ({ cls := "com/example/gentle_retry/gentleretry/rabbitmq/RoleOfLabelPinLaw", name := "str", desc := "([CI)Ljava/lang/String;" } : Jvm.MethodName) method_4_code (2 : Nat) (Option.some (Jvm.ClassFile.FieldType.object "java/lang/String"))).before args0 about1 = true := code_word (m := ⟨1, 3⟩) (meth := k1m3) (c := k1c3) (by decide +kernel) rfl rfl rfl (by decide +kernel)
set_option maxRecDepth 65536 in
theorem w_c10 : (Jvm.Cond.code ({ cls := "java/lang/String", name := "<init>", desc := "([C)V" } : Jvm.MethodName) jdk_42_method_3_code (2 : Nat) (Option.none : Option Jvm.ClassFile.FieldType)).before args0 about1 = true := code_word (m := ⟨7, 1⟩) (meth := k7m1) (c := k7c1) (by decide +kernel) rfl rfl rfl (by decide +kernel)
set_option maxRecDepth 65536 in
theorem w_c11 : (Jvm.Cond.code ({ cls := "java/lang/String", name := "<init>", desc := "([CIILjava/lang/Void;)V" } : Jvm.MethodName) jdk_42_method_149_code (6 : Nat) (Option.none : Option Jvm.ClassFile.FieldType)).before args0 about1 = true := code_word (m := ⟨7, 5⟩) (meth := k7m5) (c := k7c5) (by decide +kernel) rfl rfl rfl (by decide +kernel)
set_option maxRecDepth 65536 in
theorem w_c12 : (Jvm.Cond.code ({ cls := "java/lang/Object", name := "<init>", desc := "()V" } : Jvm.MethodName) object_method_1_code (1 : Nat) (Option.none : Option Jvm.ClassFile.FieldType)).before args0 about1 = true := code_word (m := ⟨0, 0⟩) (meth := k0m0) (c := k0c0) (by decide +kernel) rfl rfl rfl (by decide +kernel)
set_option maxRecDepth 65536 in
theorem w_c13 : (Jvm.Cond.code ({ cls := "java/lang/StringUTF16", name := "compress", desc := "([CII)[B" } : Jvm.MethodName) jdk_52_method_16_code (6 : Nat) (Option.some (Jvm.ClassFile.FieldType.array Jvm.ClassFile.FieldType.byte))).before args0 about1 = true := code_word (m := ⟨10, 2⟩) (meth := k10m2) (c := k10c2) (by decide +kernel) rfl rfl rfl (by decide +kernel)
set_option maxRecDepth 65536 in
theorem w_c14 : (Jvm.Cond.code ({ cls := "java/lang/StringUTF16", name := "compress", desc := "([CI[BII)I" } : Jvm.MethodName) jdk_52_method_21_code (7 : Nat) (Option.some Jvm.ClassFile.FieldType.int)).before args0 about1 = true := code_word (m := ⟨10, 3⟩) (meth := k10m3) (c := k10c3) (by decide +kernel) rfl rfl rfl (by decide +kernel)
set_option maxRecDepth 65536 in
theorem w_c15 : (Jvm.Cond.code ({ cls := "java/lang/StringUTF16", name := "coderFromArrayLen", desc := "([BI)B" } : Jvm.MethodName) jdk_52_method_15_code (2 : Nat) (Option.some Jvm.ClassFile.FieldType.byte)).before args0 about1 = true := code_word (m := ⟨10, 1⟩) (meth := k10m1) (c := k10c1) (by decide +kernel) rfl rfl rfl (by decide +kernel)
set_option maxRecDepth 65536 in
theorem w_c16 : (Jvm.Cond.code ({ cls := "java/lang/String", name := "equals", desc := "(Ljava/lang/Object;)Z" } : Jvm.MethodName) jdk_42_method_66_code (3 : Nat) (Option.some Jvm.ClassFile.FieldType.boolean)).before args0 about1 = true := code_word (m := ⟨7, 4⟩) (meth := k7m4) (c := k7c4) (by decide +kernel) rfl rfl rfl (by decide +kernel)
set_option maxRecDepth 65536 in
theorem w_c17 : (Jvm.Cond.code ({ cls := "java/lang/StringLatin1", name := "equals", desc := "([B[B)Z" } : Jvm.MethodName) jdk_43_method_13_code (3 : Nat) (Option.some Jvm.ClassFile.FieldType.boolean)).before args0 about1 = true := code_word (m := ⟨8, 2⟩) (meth := k8m2) (c := k8c2) (by decide +kernel) rfl rfl rfl (by decide +kernel)
set_option maxRecDepth 65536 in
theorem w_c18 : (Jvm.Cond.code ({ cls := "com/example/gentle_retry/gentleretry/rabbitmq/SubscriptionQueue$Role", name := "ofLabel", desc := "(Ljava/lang/String;)Ljava/util/Optional;" } : Jvm.MethodName) prog_7_method_5_code (5 : Nat) (Option.some (Jvm.ClassFile.FieldType.object "java/util/Optional"))).before args0 about1 = true := code_word (m := ⟨12, 1⟩) (meth := k12m1) (c := k12c1) (by decide +kernel) rfl rfl rfl (by decide +kernel)
set_option maxRecDepth 65536 in
theorem w_c19 : (Jvm.Cond.code ({ cls := "com/example/gentle_retry/gentleretry/rabbitmq/SubscriptionQueue$Role", name := "values", desc := "()[Lcom/example/gentle_retry/gentleretry/rabbitmq/SubscriptionQueue$Role;" } : Jvm.MethodName) prog_7_method_1_code (0 : Nat) (Option.some (Jvm.ClassFile.FieldType.array (Jvm.ClassFile.FieldType.object "com/example/gentle_retry/gentleretry/rabbitmq/SubscriptionQueue$Role")))).before args0 about1 = true := code_word (m := ⟨12, 0⟩) (meth := k12m0) (c := k12c0) (by decide +kernel) rfl rfl rfl (by decide +kernel)
set_option maxRecDepth 65536 in
theorem w_c20 : (Jvm.Cond.code ({ cls := "java/util/Optional", name := "empty", desc := "()Ljava/util/Optional;" } : Jvm.MethodName) jdk_32_method_1_code (1 : Nat) (Option.some (Jvm.ClassFile.FieldType.object "java/util/Optional"))).before args0 about1 = true := code_word (m := ⟨14, 0⟩) (meth := k14m0) (c := k14c0) (by decide +kernel) rfl rfl rfl (by decide +kernel)
set_option maxRecDepth 65536 in
theorem w_c21 : (Jvm.Cond.code ({ cls := "java/util/Optional", name := "orElse", desc := "(Ljava/lang/Object;)Ljava/lang/Object;" } : Jvm.MethodName) jdk_32_method_15_code (2 : Nat) (Option.some (Jvm.ClassFile.FieldType.object "java/lang/Object"))).before args0 about1 = true := code_word (m := ⟨14, 3⟩) (meth := k14m3) (c := k14c3) (by decide +kernel) rfl rfl rfl (by decide +kernel)
set_option maxRecDepth 65536 in
theorem w_c22 : (Jvm.Cond.code ({ cls := "java/util/Optional", name := "of", desc := "(Ljava/lang/Object;)Ljava/util/Optional;" } : Jvm.MethodName) jdk_32_method_3_code (1 : Nat) (Option.some (Jvm.ClassFile.FieldType.object "java/util/Optional"))).before args0 about1 = true := code_word (m := ⟨14, 2⟩) (meth := k14m2) (c := k14c2) (by decide +kernel) rfl rfl rfl (by decide +kernel)
set_option maxRecDepth 65536 in
theorem w_c23 : (Jvm.Cond.code ({ cls := "java/util/Objects", name := "requireNonNull", desc := "(Ljava/lang/Object;)Ljava/lang/Object;" } : Jvm.MethodName) jdk_31_method_10_code (1 : Nat) (Option.some (Jvm.ClassFile.FieldType.object "java/lang/Object"))).before args0 about1 = true := code_word (m := ⟨15, 1⟩) (meth := k15m1) (c := k15c1) (by decide +kernel) rfl rfl rfl (by decide +kernel)
set_option maxRecDepth 65536 in
theorem w_c24 : (Jvm.Cond.code ({ cls := "java/util/Optional", name := "<init>", desc := "(Ljava/lang/Object;)V" } : Jvm.MethodName) jdk_32_method_2_code (2 : Nat) (Option.none : Option Jvm.ClassFile.FieldType)).before args0 about1 = true := code_word (m := ⟨14, 1⟩) (meth := k14m1) (c := k14c1) (by decide +kernel) rfl rfl rfl (by decide +kernel)
def codes1 : List Jvm.Cond := [Jvm.Cond.code x code maxLocals ret, Jvm.Cond.code ({ cls := "com/example/gentle_retry/gentleretry/rabbitmq/RoleOfLabelPinLaw", name := "at", desc := "(Ljava/lang/String;I)C" } : Jvm.MethodName) method_3_code (2 : Nat) (Option.some Jvm.ClassFile.FieldType.char), Jvm.Cond.code ({ cls := "java/lang/String", name := "length", desc := "()I" } : Jvm.MethodName) jdk_42_method_54_code (1 : Nat) (Option.some Jvm.ClassFile.FieldType.int), Jvm.Cond.code ({ cls := "java/lang/String", name := "coder", desc := "()B" } : Jvm.MethodName) jdk_42_method_152_code (1 : Nat) (Option.some Jvm.ClassFile.FieldType.byte), Jvm.Cond.code ({ cls := "java/lang/String", name := "charAt", desc := "(I)C" } : Jvm.MethodName) jdk_42_method_56_code (2 : Nat) (Option.some Jvm.ClassFile.FieldType.char), Jvm.Cond.code ({ cls := "java/lang/String", name := "isLatin1", desc := "()Z" } : Jvm.MethodName) jdk_42_method_154_code (1 : Nat) (Option.some Jvm.ClassFile.FieldType.boolean), Jvm.Cond.code ({ cls := "java/lang/StringLatin1", name := "charAt", desc := "([BI)C" } : Jvm.MethodName) jdk_43_method_2_code (2 : Nat) (Option.some Jvm.ClassFile.FieldType.char), Jvm.Cond.code ({ cls := "java/lang/String", name := "checkIndex", desc := "(II)V" } : Jvm.MethodName) jdk_42_method_155_code (2 : Nat) (Option.none : Option Jvm.ClassFile.FieldType), Jvm.Cond.code ({ cls := "jdk/internal/util/Preconditions", name := "checkIndex", desc := "(IILjava/util/function/BiFunction;)I" } : Jvm.MethodName) jdk_41_method_11_code (3 : Nat) (Option.some Jvm.ClassFile.FieldType.int), Jvm.Cond.code ({ cls := "com/example/gentle_retry/gentleretry/rabbitmq/RoleOfLabelPinLaw", name := "str", desc := "([CI)Ljava/lang/String;" } : Jvm.MethodName) method_4_code (2 : Nat) (Option.some (Jvm.ClassFile.FieldType.object "java/lang/String")), Jvm.Cond.code ({ cls := "java/lang/String", name := "<init>", desc := "([C)V" } : Jvm.MethodName) jdk_42_method_3_code (2 : Nat) (Option.none : Option Jvm.ClassFile.FieldType), Jvm.Cond.code ({ cls := "java/lang/String", name := "<init>", desc := "([CIILjava/lang/Void;)V" } : Jvm.MethodName) jdk_42_method_149_code (6 : Nat) (Option.none : Option Jvm.ClassFile.FieldType), Jvm.Cond.code ({ cls := "java/lang/Object", name := "<init>", desc := "()V" } : Jvm.MethodName) object_method_1_code (1 : Nat) (Option.none : Option Jvm.ClassFile.FieldType), Jvm.Cond.code ({ cls := "java/lang/StringUTF16", name := "compress", desc := "([CII)[B" } : Jvm.MethodName) jdk_52_method_16_code (6 : Nat) (Option.some (Jvm.ClassFile.FieldType.array Jvm.ClassFile.FieldType.byte)), Jvm.Cond.code ({ cls := "java/lang/StringUTF16", name := "compress", desc := "([CI[BII)I" } : Jvm.MethodName) jdk_52_method_21_code (7 : Nat) (Option.some Jvm.ClassFile.FieldType.int), Jvm.Cond.code ({ cls := "java/lang/StringUTF16", name := "coderFromArrayLen", desc := "([BI)B" } : Jvm.MethodName) jdk_52_method_15_code (2 : Nat) (Option.some Jvm.ClassFile.FieldType.byte), Jvm.Cond.code ({ cls := "java/lang/String", name := "equals", desc := "(Ljava/lang/Object;)Z" } : Jvm.MethodName) jdk_42_method_66_code (3 : Nat) (Option.some Jvm.ClassFile.FieldType.boolean), Jvm.Cond.code ({ cls := "java/lang/StringLatin1", name := "equals", desc := "([B[B)Z" } : Jvm.MethodName) jdk_43_method_13_code (3 : Nat) (Option.some Jvm.ClassFile.FieldType.boolean), Jvm.Cond.code ({ cls := "com/example/gentle_retry/gentleretry/rabbitmq/SubscriptionQueue$Role", name := "ofLabel", desc := "(Ljava/lang/String;)Ljava/util/Optional;" } : Jvm.MethodName) prog_7_method_5_code (5 : Nat) (Option.some (Jvm.ClassFile.FieldType.object "java/util/Optional")), Jvm.Cond.code ({ cls := "com/example/gentle_retry/gentleretry/rabbitmq/SubscriptionQueue$Role", name := "values", desc := "()[Lcom/example/gentle_retry/gentleretry/rabbitmq/SubscriptionQueue$Role;" } : Jvm.MethodName) prog_7_method_1_code (0 : Nat) (Option.some (Jvm.ClassFile.FieldType.array (Jvm.ClassFile.FieldType.object "com/example/gentle_retry/gentleretry/rabbitmq/SubscriptionQueue$Role"))), Jvm.Cond.code ({ cls := "java/util/Optional", name := "empty", desc := "()Ljava/util/Optional;" } : Jvm.MethodName) jdk_32_method_1_code (1 : Nat) (Option.some (Jvm.ClassFile.FieldType.object "java/util/Optional")), Jvm.Cond.code ({ cls := "java/util/Optional", name := "orElse", desc := "(Ljava/lang/Object;)Ljava/lang/Object;" } : Jvm.MethodName) jdk_32_method_15_code (2 : Nat) (Option.some (Jvm.ClassFile.FieldType.object "java/lang/Object")), Jvm.Cond.code ({ cls := "java/util/Optional", name := "of", desc := "(Ljava/lang/Object;)Ljava/util/Optional;" } : Jvm.MethodName) jdk_32_method_3_code (1 : Nat) (Option.some (Jvm.ClassFile.FieldType.object "java/util/Optional")), Jvm.Cond.code ({ cls := "java/util/Objects", name := "requireNonNull", desc := "(Ljava/lang/Object;)Ljava/lang/Object;" } : Jvm.MethodName) jdk_31_method_10_code (1 : Nat) (Option.some (Jvm.ClassFile.FieldType.object "java/lang/Object")), Jvm.Cond.code ({ cls := "java/util/Optional", name := "<init>", desc := "(Ljava/lang/Object;)V" } : Jvm.MethodName) jdk_32_method_2_code (2 : Nat) (Option.none : Option Jvm.ClassFile.FieldType)]
set_option maxRecDepth 65536 in
theorem codes_eq : words1.filter isCode = codes1 := rfl
theorem w_codes : ∀ c ∈ words1.filter isCode, c.before args0 about1 = true := by
  rw [codes_eq]
  intro c hc
  simp only [codes1, List.mem_cons, List.not_mem_nil, or_false] at hc
  rcases hc with rfl | rfl | rfl | rfl | rfl | rfl | rfl | rfl | rfl | rfl | rfl | rfl | rfl | rfl | rfl | rfl | rfl | rfl | rfl | rfl | rfl | rfl | rfl | rfl | rfl
  · exact w_c0
  · exact w_c1
  · exact w_c2
  · exact w_c3
  · exact w_c4
  · exact w_c5
  · exact w_c6
  · exact w_c7
  · exact w_c8
  · exact w_c9
  · exact w_c10
  · exact w_c11
  · exact w_c12
  · exact w_c13
  · exact w_c14
  · exact w_c15
  · exact w_c16
  · exact w_c17
  · exact w_c18
  · exact w_c19
  · exact w_c20
  · exact w_c21
  · exact w_c22
  · exact w_c23
  · exact w_c24
set_option maxRecDepth 65536 in
theorem w_t1 : (words1.take 24).all (fun c => isCode c || c.before args0 about1) = true := by decide +kernel
set_option maxRecDepth 65536 in
theorem w_t2 : ((words1.drop 24).take 24).all (fun c => isCode c || c.before args0 about1) = true := by decide +kernel
set_option maxRecDepth 65536 in
theorem w_t3 : (((words1.drop 24).drop 24).take 24).all (fun c => isCode c || c.before args0 about1) = true := by decide +kernel
set_option maxRecDepth 65536 in
theorem w_t4 : ((((words1.drop 24).drop 24).drop 24).take 24).all (fun c => isCode c || c.before args0 about1) = true := by decide +kernel
set_option maxRecDepth 65536 in
theorem w_t5 : (((((words1.drop 24).drop 24).drop 24).drop 24).take 24).all (fun c => isCode c || c.before args0 about1) = true := by decide +kernel
set_option maxRecDepth 65536 in
theorem w_t6 : (((((words1.drop 24).drop 24).drop 24).drop 24).drop 24).all (fun c => isCode c || c.before args0 about1) = true := by decide +kernel
theorem w_tables : (allAtoms (Jvm.Cond.code x code maxLocals ret :: tables_1)).before args0 about1 = true := by
  rw [allAtoms_all]
  show words1.all (fun c => c.before args0 about1) = true
  refine all_split ?_ w_codes
  rw [← List.take_append_drop 24 words1, List.all_append, w_t1, ← List.take_append_drop 24 (words1.drop 24), List.all_append, w_t2, ← List.take_append_drop 24 ((words1.drop 24).drop 24), List.all_append, w_t3, ← List.take_append_drop 24 (((words1.drop 24).drop 24).drop 24), List.all_append, w_t4, ← List.take_append_drop 24 ((((words1.drop 24).drop 24).drop 24).drop 24), List.all_append, w_t5, w_t6]
  rfl
set_option maxRecDepth 65536 in
theorem w_rest : rest_1_c.before args0 about1 = true := by decide +kernel
set_option maxRecDepth 65536 in
theorem w_case : (Jvm.Cond.and given_1 narrow_1).before args0 about1 = true := by decide +kernel
set_option maxRecDepth 65536 in
theorem w_consts : constsHeld consts_1 about1 := Jvm.Lit.constsHeldB_iff.mp (by decide +kernel)
theorem w_applies : (headSpec (Jvm.Cond.code x code maxLocals ret :: tables_1) room_1).applies x e0.platform about1 = true :=
  (Spec.applies_iff w_frames).mpr ⟨w_running, w_runnable, w_alone, w_named, w_hears, w_ripe, w_room, w_tables⟩
theorem atStart : AtStart classFile x code maxLocals ret World_1 tables_1 room_1 Calls_1 rest_1 Pre_1 launch0 p0 e0 about1 theMethod args0 below0 :=
  ⟨lists_1, trivial, launch0.admits_env _ _ _, launch0.least_env, fairChoices_fair.cas, fairChoices_fair.clock, w_frames, w_args, w_heap, w_applies, ⟨w_consts, trivial⟩, w_rest, w_case⟩
end start1
theorem witness_1 : WitnessClaimed_1 := ⟨start1.p0, start1.e0, start1.about1, start1.theMethod, start1.args0, start1.below0, start1.atStart⟩
end Jvm.Pilot.@@N@@
