import JvmDerived
import JvmDerived.Pilot.@@N@@Statement
import JvmDerived.Pilot.@@N@@Code
set_option linter.unusedVariables false
set_option linter.unusedSimpArgs false
namespace Jvm.OwnW
open Sem ClassFile Op Lib Bundle Jvm.Stand Jvm.Free Jvm.LawKit Jvm.RoadKit
/-! OwnW: a walk as one goal. Go: 'from every state of the walk that stands over this heap, with this frame, the method comes to its end with Q'. Each step is one lemma; tables, written places, rebased starts and booked constants ride inside. -/
abbrev Gb : Type := Launch × State × Array Value × List (String × Nat)
abbrev Gb.l (G : Gb) : Launch := G.1
abbrev Gb.Z (G : Gb) : State := G.2.1
abbrev Gb.a0 (G : Gb) : Array Value := G.2.2.1
abbrev Gb.EL (G : Gb) : List (String × Nat) := G.2.2.2
abbrev Cx : Type := (Program × Env × State × MethodId) × (Array Value × List Frame × Method × Code)
abbrev Cx.p (B : Cx) : Program := B.1.1
abbrev Cx.e (B : Cx) : Env := B.1.2.1
abbrev Cx.s (B : Cx) : State := B.1.2.2.1
abbrev Cx.m (B : Cx) : MethodId := B.1.2.2.2
abbrev Cx.as (B : Cx) : Array Value := B.2.1
abbrev Cx.bl (B : Cx) : List Frame := B.2.2.1
abbrev Cx.mt (B : Cx) : Method := B.2.2.2.1
abbrev Cx.c (B : Cx) : Code := B.2.2.2.2
abbrev Mt : Type := (String × String × Room) × (List (Nat × Instr × Nat) × Nat × Option FieldType)
abbrev Mt.own (M : Mt) : String := M.1.1
abbrev Mt.nm (M : Mt) : String := M.1.2.1
abbrev Mt.R (M : Mt) : Room := M.1.2.2
abbrev Mt.P (M : Mt) : List (Nat × Instr × Nat) := M.2.1
abbrev Mt.maxL (M : Mt) : Nat := M.2.2.1
abbrev Mt.ret (M : Mt) : Option FieldType := M.2.2.2
abbrev Wd (G : Gb) (d : Jvm.Cond) : Prop := d.before G.a0 G.Z = true
def Wo (G : Gb) (B : Cx) (own : String) (R : Room) (h : Heap) (sf : List Addr) (cells slots : Nat) (T : State) (vm0 : Vm) (k0 : Nat) (locs : List Loc) : Prop :=
  Stand B.p G.l B.e R (B.s.setVm vm0) B.m B.as B.bl B.mt B.c T locs cells slots ∧ T.heap = h ∧ B.s.Since vm0 k0 ∧ k0 ≤ h.size ∧
  G.Z.Warmed39 vm0 ∧ vm0.findClass own = some B.m.cls ∧ Fr G.Z.heap.size locs ∧ Ext G.Z.heap h ∧ CHr G.Z G.EL B.s.vm B.s.heap vm0 h ∧
  ∀ x ∈ sf, Safe G.Z G.EL vm0 h x ∧ x < h.size
def Fin (G : Gb) (B : Cx) (R : Room) (Q : Option Value → Heap → (Addr → Prop) → Prop) (u : State) : Prop :=
  ∃ (t : State) (v : Option Value) (L : List Loc), Steps B.p.tables B.e B.bl u t ∧ t.status = .running ∧ Ended t B.bl (.returned v) ∧ Q v t.heap (fun x => Safe G.Z G.EL t.vm t.heap x ∧ x < t.heap.size) ∧ Fr G.Z.heap.size L ∧ Ext G.Z.heap t.heap ∧
    CHr G.Z G.EL B.s.vm B.s.heap t.vm t.heap ∧ ReturnedEndW B.s (.returned v) t L R.cells R.slots
def Go (G : Gb) (B : Cx) (M : Mt) (Q : Option Value → Heap → (Addr → Prop) → Prop) (h : Heap) (sf : List Addr) (cells slots pc : Nat) (Ls : Array Slot) (st : List Value) : Prop :=
  ∀ T vm0 k0 locs, Wo G B M.own M.R h sf cells slots T vm0 k0 locs → Fin G B M.R Q (T.setTop (mkF B.m pc Ls st))
def Kd (G : Gb) (B : Cx) (M : Mt) : Prop :=
  B.p.tables.exec = Jvm.exec ∧ (∀ q ∈ M.P, decode B.c.code q.1 = .ok q.2) ∧ B.c.maxLocals = M.maxL ∧ B.mt.sig.returnType = M.ret ∧ B.mt.locks = false ∧ B.mt.name = M.nm ∧ EW G.Z G.a0 G.EL
/-- a contract: from these arguments over this heap it returns, and Q holds of what is returned and of the heap behind -/
def Ctr (G : Gb) (ws : List Jvm.Cond) (y : MethodName) (bytes : ByteArray) (maxL : Nat) (ret : Option FieldType) (rm : Room) (as' : Array Value) (h : Heap) (sf : List Addr) (Q : Option Value → Heap → (Addr → Prop) → Prop) : Prop :=
  MetFree G.l y (head1 (Jvm.Cond.code y bytes maxL ret :: ws) rm)
    (fun a U => a = as' ∧ G.Z.Warmed39 U.vm ∧ U.heap = h ∧ CHv G.Z G.EL U.vm h ∧ Ext G.Z.heap h ∧ ∀ x ∈ sf, Safe G.Z G.EL U.vm h x ∧ x < h.size) (fun _ _ _ _ _ => True)
    (fun _ U o U' => ∃ v L, o = .returned v ∧ (Q v U'.heap (fun x => Safe G.Z G.EL U'.vm U'.heap x ∧ x < U'.heap.size) ∧ Fr G.Z.heap.size L ∧ Ext G.Z.heap U'.heap) ∧ CHr G.Z G.EL U.vm U.heap U'.vm U'.heap ∧ ReturnedEndW U o U' L rm.cells rm.slots)
section Base
variable {G : Gb} {B : Cx} {M : Mt} {R : Room} {Q : Option Value → Heap → (Addr → Prop) → Prop} {h : Heap} {sf : List Addr} {cells slots pc : Nat} {Ls : Array Slot} {st : List Value}
theorem Fin.pre {u u' : State} (f : Fin G B R Q u') (k : ∀ target, Steps B.p.tables B.e B.bl u' target → Steps B.p.tables B.e B.bl u target) : Fin G B R Q u := by
  obtain ⟨t, v, L, s, r⟩ := f
  exact ⟨t, v, L, k _ s, r⟩
theorem ef_ok {m : MethodId} {as' : Array Value} {n : Nat} {Ls : Array Slot} (q : argsToLocals as' n = Ls) : entryFrame m as' n = mkF m 0 Ls [] := by
  subst q
  rfl
theorem Kd.dec (K : Kd G B M) {k : Nat} {i : Instr} {len : Nat} (hd : M.P[k]? = some (pc, i, len)) : decode B.c.code pc = .ok (i, len) := K.2.1 (pc, i, len) (List.mem_of_getElem? hd)
/-! ### plain steps -/
def intAt (Ls : Array Slot) (k : Nat) : Option Int32 := match Ls[k]? with | some (.val (.int v)) => some v | _ => none
def longAt (Ls : Array Slot) (k : Nat) : Option Int64 := match Ls[k]? with | some (.val (.long v)) => some v | _ => none
def refAt (Ls : Array Slot) (k : Nat) : Option Value := match Ls[k]? with | some (.val (.ref a)) => some (.ref a) | some (.val .null) => some .null | _ => none
theorem intAt_ok {k : Nat} {v : Int32} (q : intAt Ls k = some v) : Ls[k]? = some (.val (.int v)) := by
  unfold intAt at q; split at q
  · rename_i u; cases q; exact u
  · cases q
theorem longAt_ok {k : Nat} {v : Int64} (q : longAt Ls k = some v) : Ls[k]? = some (.val (.long v)) := by
  unfold longAt at q; split at q
  · rename_i u; cases q; exact u
  · cases q
theorem refAt_ok {k : Nat} {v : Value} (q : refAt Ls k = some v) : Ls[k]? = some (.val v) ∧ v.isRef = true := by
  unfold refAt at q; split at q
  · rename_i u; cases q; exact ⟨u, rfl⟩
  · rename_i u; cases q; exact ⟨u, rfl⟩
  · cases q
def sem1 (i : Instr) (n pc : Nat) (Ls : Array Slot) (st : List Value) : Option (Nat × Array Slot × List Value) :=
  match i, n, st with
  | .aconst_null, 1, st => some (pc + 1, Ls, .null :: st)
  | .iconst z, 1, st => some (pc + 1, Ls, .int (Int32.ofInt z) :: st)
  | .bipush z, 2, st => some (pc + 2, Ls, .int (Int8.ofInt z).toInt32 :: st)
  | .sipush z, 3, st => some (pc + 3, Ls, .int (Int16.ofInt z).toInt32 :: st)
  | .iload k, 2, st => (intAt Ls k).map fun v => (pc + 2, Ls, .int v :: st)
  | .iload_n k, 1, st => (intAt Ls k.val).map fun v => (pc + 1, Ls, .int v :: st)
  | .lload k, 2, st => (longAt Ls k).map fun v => (pc + 2, Ls, .long v :: st)
  | .lload_n k, 1, st => (longAt Ls k.val).map fun v => (pc + 1, Ls, .long v :: st)
  | .aload k, 2, st => (refAt Ls k).map fun v => (pc + 2, Ls, v :: st)
  | .aload_n k, 1, st => (refAt Ls k.val).map fun v => (pc + 1, Ls, v :: st)
  | .istore k, 2, .int x :: st => (storeLocals Ls k (.int x)).map fun l => (pc + 2, l, st)
  | .istore_n k, 1, .int x :: st => (storeLocals Ls k.val (.int x)).map fun l => (pc + 1, l, st)
  | .astore k, 2, .ref x :: st => (storeLocals Ls k (.ref x)).map fun l => (pc + 2, l, st)
  | .astore k, 2, .null :: st => (storeLocals Ls k .null).map fun l => (pc + 2, l, st)
  | .astore_n k, 1, .ref x :: st => (storeLocals Ls k.val (.ref x)).map fun l => (pc + 1, l, st)
  | .astore_n k, 1, .null :: st => (storeLocals Ls k.val .null).map fun l => (pc + 1, l, st)
  | .pop, 1, x :: st => if x.category = 1 then some (pc + 1, Ls, st) else none
  | .dup, 1, x :: st => if x.category = 1 then some (pc + 1, Ls, x :: x :: st) else none
  | .dup_x1, 1, x :: y :: st => if x.category = 1 then (if y.category = 1 then some (pc + 1, Ls, x :: y :: x :: st) else none) else none
  | .iadd, 1, .int y :: .int x :: st => some (pc + 1, Ls, .int (x + y) :: st)
  | .isub, 1, .int y :: .int x :: st => some (pc + 1, Ls, .int (x - y) :: st)
  | .imul, 1, .int y :: .int x :: st => some (pc + 1, Ls, .int (x * y) :: st)
  | .iand, 1, .int y :: .int x :: st => some (pc + 1, Ls, .int (x &&& y) :: st)
  | .ior, 1, .int y :: .int x :: st => some (pc + 1, Ls, .int (x ||| y) :: st)
  | .ixor, 1, .int y :: .int x :: st => some (pc + 1, Ls, .int (x ^^^ y) :: st)
  | .ishl, 1, .int y :: .int x :: st => some (pc + 1, Ls, .int (x <<< (y &&& 31)) :: st)
  | .ishr, 1, .int y :: .int x :: st => some (pc + 1, Ls, .int (x >>> (y &&& 31)) :: st)
  | .iushr, 1, .int y :: .int x :: st => some (pc + 1, Ls, .int (XT.ushr x y) :: st)
  | .lushr, 1, .int y :: .long x :: st => some (pc + 1, Ls, .long (XT.ushrL x y) :: st)
  | .i2l, 1, .int x :: st => some (pc + 1, Ls, .long x.toInt64 :: st)
  | .l2i, 1, .long x :: st => some (pc + 1, Ls, .int x.toInt32 :: st)
  | .i2b, 1, .int x :: st => some (pc + 1, Ls, .int x.toInt8.toInt32 :: st)
  | .i2c, 1, .int x :: st => some (pc + 1, Ls, .int x.toUInt32.toUInt16.toUInt32.toInt32 :: st)
  | .lcmp, 1, .long y :: .long x :: st => some (pc + 1, Ls, .int (XT.cmpL x y) :: st)
  | .iinc k z, 3, st => (intAt Ls k).bind fun x => (storeLocals Ls k (.int (x + Int32.ofInt z))).map fun l => (pc + 3, l, st)
  | .goto o, 3, st => if 0 ≤ (pc : Int) + o then some (((pc : Int) + o).toNat, Ls, st) else none
  | _, _, _ => none
theorem sem1_ok {tb : Tables} [Ours tb] {e : Env} {below : List Frame} {T target : State} {m : MethodId} {c : Code} (h : At T m c below) (hx : tb.exec = Jvm.exec) {i : Instr} {n : Nat} {f : Nat × Array Slot × List Value}
    (hd : decode c.code pc = .ok (i, n)) (hs : sem1 i n pc Ls st = some f) (hr : Steps tb e below (T.setTop (mkF m f.1 f.2.1 f.2.2)) target) : Steps tb e below (T.setTop (mkF m pc Ls st)) target := by
  unfold sem1 at hs
  split at hs
  · cases hs; exact XS.aconstNull h hx rfl hd hr
  · cases hs; exact XS.iconst h hx rfl hd hr
  · cases hs; exact XS.bipush h hx rfl hd hr
  · cases hs; exact XS.sipush h hx rfl hd hr
  · obtain ⟨v, q, rfl⟩ := Option.map_eq_some_iff.mp hs; exact XS.iload h hx rfl hd (intAt_ok q) hr
  · obtain ⟨v, q, rfl⟩ := Option.map_eq_some_iff.mp hs; exact XS.iloadN h hx rfl hd (intAt_ok q) hr
  · obtain ⟨v, q, rfl⟩ := Option.map_eq_some_iff.mp hs; exact XT.lload h hx rfl hd (longAt_ok q) hr
  · obtain ⟨v, q, rfl⟩ := Option.map_eq_some_iff.mp hs; exact XT.lloadN h hx rfl hd (longAt_ok q) hr
  · obtain ⟨v, q, rfl⟩ := Option.map_eq_some_iff.mp hs; exact XS.aload h hx rfl hd (refAt_ok q).1 (refAt_ok q).2 hr
  · obtain ⟨v, q, rfl⟩ := Option.map_eq_some_iff.mp hs; exact XS.aloadN h hx rfl hd (refAt_ok q).1 (refAt_ok q).2 hr
  · obtain ⟨v, q, rfl⟩ := Option.map_eq_some_iff.mp hs; exact XS.istore h hx rfl hd rfl q hr
  · obtain ⟨v, q, rfl⟩ := Option.map_eq_some_iff.mp hs; exact XS.istoreN h hx rfl hd rfl q hr
  · obtain ⟨v, q, rfl⟩ := Option.map_eq_some_iff.mp hs; exact XS.astore h hx rfl hd rfl rfl q hr
  · obtain ⟨v, q, rfl⟩ := Option.map_eq_some_iff.mp hs; exact XS.astore h hx rfl hd rfl rfl q hr
  · obtain ⟨v, q, rfl⟩ := Option.map_eq_some_iff.mp hs; exact XS.astoreN h hx rfl hd rfl rfl q hr
  · obtain ⟨v, q, rfl⟩ := Option.map_eq_some_iff.mp hs; exact XS.astoreN h hx rfl hd rfl rfl q hr
  · split at hs
    · rename_i q; cases hs; exact XT.pop h hx rfl hd rfl q hr
    · cases hs
  · split at hs
    · rename_i q; cases hs; exact XS.dup h hx rfl hd rfl q hr
    · cases hs
  · split at hs
    · rename_i q
      split at hs
      · rename_i q'; cases hs; exact XT.dupX1 h hx rfl hd rfl q q' hr
      · cases hs
    · cases hs
  · cases hs; exact XS.iadd h hx rfl hd rfl hr
  · cases hs; exact XS.isub h hx rfl hd rfl hr
  · cases hs; exact XS.imul h hx rfl hd rfl hr
  · cases hs; exact XS.iand h hx rfl hd rfl hr
  · cases hs; exact XT.ior h hx rfl hd rfl hr
  · cases hs; exact XT.ixor h hx rfl hd rfl hr
  · cases hs; exact XT.ishl h hx rfl hd rfl hr
  · cases hs; exact XT.ishr h hx rfl hd rfl hr
  · cases hs; exact XT.iushr h hx rfl hd rfl hr
  · cases hs; exact XT.lushr h hx rfl hd rfl hr
  · cases hs; exact XT.i2l h hx rfl hd rfl hr
  · cases hs; exact XT.l2i h hx rfl hd rfl hr
  · cases hs; exact XT.i2b h hx rfl hd rfl hr
  · cases hs; exact XT.i2c h hx rfl hd rfl hr
  · cases hs; exact XT.lcmp h hx rfl hd rfl hr
  · obtain ⟨x, q, hs⟩ := Option.bind_eq_some_iff.mp hs
    obtain ⟨v, q', rfl⟩ := Option.map_eq_some_iff.mp hs; exact XS.iinc h hx rfl hd (intAt_ok q) q' hr
  · split at hs
    · rename_i q; cases hs; exact XS.goto h hx rfl (pc0 := pc) rfl hd q rfl hr
    · cases hs
  · cases hs
def runs : Nat → List (Nat × Instr × Nat) → Nat × Array Slot × List Value → Option (Nat × Array Slot × List Value)
  | 0, _, f => some f
  | _ + 1, [], _ => none
  | n + 1, q :: P, f => if q.1 = f.1 then (sem1 q.2.1 q.2.2 f.1 f.2.1 f.2.2).bind fun f' => runs n P f' else none
theorem runs_ok {tb : Tables} [Ours tb] {e : Env} {below : List Frame} {T target : State} {m : MethodId} {c : Code} (h : At T m c below) (hx : tb.exec = Jvm.exec) : ∀ (n : Nat) (P : List (Nat × Instr × Nat)) (f f' : Nat × Array Slot × List Value),
    (∀ q ∈ P, decode c.code q.1 = .ok q.2) → runs n P f = some f' → Steps tb e below (T.setTop (mkF m f'.1 f'.2.1 f'.2.2)) target → Steps tb e below (T.setTop (mkF m f.1 f.2.1 f.2.2)) target
  | 0, _, f, f', _, hs, hr => by cases hs; exact hr
  | _ + 1, [], _, _, _, hs, _ => by cases hs
  | n + 1, q :: P, f, f', hP, hs, hr => by
    simp only [runs] at hs
    split at hs
    · rename_i u
      obtain ⟨g, q1, q2⟩ := Option.bind_eq_some_iff.mp hs
      exact sem1_ok h hx (by rw [← u]; exact hP q (List.mem_cons_self ..)) q1 (runs_ok h hx n P g f' (fun z hz => hP z (List.mem_cons_of_mem _ hz)) q2 hr)
    · cases hs
theorem go_run (K : Kd G B M) (k n : Nat) {pc' : Nat} {Ls' : Array Slot} {st' : List Value} (hr : runs n (M.P.drop k) (pc, Ls, st) = some (pc', Ls', st')) (g : Go G B M Q h sf cells slots pc' Ls' st') : Go G B M Q h sf cells slots pc Ls st := by
  intro T vm0 k0 locs W
  exact (g T vm0 k0 locs W).pre fun target q => runs_ok W.1.here K.1 n _ (pc, Ls, st) (pc', Ls', st') (fun z hz => K.2.1 z (List.mem_of_mem_drop hz)) hr q
/-! ### branches -/
theorem go_if2 (K : Kd G B M) {k : Nat} {cd : ClassFile.Cond} {o : Int} {x : Int32} (hd : M.P[k]? = some (pc, .ifCond cd o, 3)) {pc' : Nat} (ho : 0 ≤ (pc : Int) + o ∧ ((pc : Int) + o).toNat = pc') {A : Prop} [Decidable A] (hA : A → ifCond.holds cd x = true) (hN : ¬ A → ifCond.holds cd x = false)
    (gT : A → Go G B M Q h sf cells slots pc' Ls st) (gF : ¬ A → Go G B M Q h sf cells slots (pc + 3) Ls st) : Go G B M Q h sf cells slots pc Ls (.int x :: st) := by
  intro T vm0 k0 locs W
  by_cases a : A
  · exact (gT a T vm0 k0 locs W).pre fun target hr => XS.ifYes W.1.here K.1 rfl (pc0 := pc) (pc' := pc') rfl (K.dec hd) rfl (hA a) ho.1 ho.2 hr
  · exact (gF a T vm0 k0 locs W).pre fun target hr => XS.ifNo W.1.here K.1 rfl (K.dec hd) rfl (hN a) hr
theorem go_icmp2 (K : Kd G B M) {k : Nat} {cd : ClassFile.Cond} {o : Int} {x y : Int32} (hd : M.P[k]? = some (pc, .if_icmp cd o, 3)) {pc' : Nat} (ho : 0 ≤ (pc : Int) + o ∧ ((pc : Int) + o).toNat = pc') {A : Prop} [Decidable A] (hA : A → if_icmp.holds cd x y = true) (hN : ¬ A → if_icmp.holds cd x y = false)
    (gT : A → Go G B M Q h sf cells slots pc' Ls st) (gF : ¬ A → Go G B M Q h sf cells slots (pc + 3) Ls st) : Go G B M Q h sf cells slots pc Ls (.int y :: .int x :: st) := by
  intro T vm0 k0 locs W
  by_cases a : A
  · exact (gT a T vm0 k0 locs W).pre fun target hr => XS.icmpYes W.1.here K.1 rfl (pc0 := pc) (pc' := pc') rfl (K.dec hd) rfl (hA a) ho.1 ho.2 hr
  · exact (gF a T vm0 k0 locs W).pre fun target hr => XS.icmpNo W.1.here K.1 rfl (K.dec hd) rfl (hN a) hr
theorem go_ifeq (K : Kd G B M) {k : Nat} {o : Int} {x : Int32} (hd : M.P[k]? = some (pc, .ifCond .eq o, 3)) {pc' : Nat} (ho : 0 ≤ (pc : Int) + o ∧ ((pc : Int) + o).toNat = pc') (gT : x = 0 → Go G B M Q h sf cells slots pc' Ls st) (gF : ¬ x = 0 → Go G B M Q h sf cells slots (pc + 3) Ls st) : Go G B M Q h sf cells slots pc Ls (.int x :: st) :=
  go_if2 K hd ho (fun q => by rw [if0]; exact (teq q).1) (fun q => by rw [if0]; exact (feq q).1) gT gF
theorem go_ifne (K : Kd G B M) {k : Nat} {o : Int} {x : Int32} (hd : M.P[k]? = some (pc, .ifCond .ne o, 3)) {pc' : Nat} (ho : 0 ≤ (pc : Int) + o ∧ ((pc : Int) + o).toNat = pc') (gT : ¬ x = 0 → Go G B M Q h sf cells slots pc' Ls st) (gF : x = 0 → Go G B M Q h sf cells slots (pc + 3) Ls st) : Go G B M Q h sf cells slots pc Ls (.int x :: st) :=
  go_if2 K hd ho (A := ¬ x = 0) (fun q => by rw [if0]; exact (feq q).2) (fun q => by rw [if0]; exact (teq (Decidable.not_not.mp q)).2) gT (fun q => gF (Decidable.not_not.mp q))
theorem go_iflt (K : Kd G B M) {k : Nat} {o : Int} {x : Int32} (hd : M.P[k]? = some (pc, .ifCond .lt o, 3)) {pc' : Nat} (ho : 0 ≤ (pc : Int) + o ∧ ((pc : Int) + o).toNat = pc') (gT : x < 0 → Go G B M Q h sf cells slots pc' Ls st) (gF : ¬ x < 0 → Go G B M Q h sf cells slots (pc + 3) Ls st) : Go G B M Q h sf cells slots pc Ls (.int x :: st) :=
  go_if2 K hd ho (fun q => by rw [if0]; exact (tlt q).1) (fun q => by rw [if0]; exact (flt q).1) gT gF
theorem go_ifge (K : Kd G B M) {k : Nat} {o : Int} {x : Int32} (hd : M.P[k]? = some (pc, .ifCond .ge o, 3)) {pc' : Nat} (ho : 0 ≤ (pc : Int) + o ∧ ((pc : Int) + o).toNat = pc') (gT : ¬ x < 0 → Go G B M Q h sf cells slots pc' Ls st) (gF : x < 0 → Go G B M Q h sf cells slots (pc + 3) Ls st) : Go G B M Q h sf cells slots pc Ls (.int x :: st) :=
  go_if2 K hd ho (A := ¬ x < 0) (fun q => by rw [if0]; exact (flt q).2.1) (fun q => by rw [if0]; exact (tlt (Decidable.not_not.mp q)).2.1) gT (fun q => gF (Decidable.not_not.mp q))
theorem go_ifgt (K : Kd G B M) {k : Nat} {o : Int} {x : Int32} (hd : M.P[k]? = some (pc, .ifCond .gt o, 3)) {pc' : Nat} (ho : 0 ≤ (pc : Int) + o ∧ ((pc : Int) + o).toNat = pc') (gT : 0 < x → Go G B M Q h sf cells slots pc' Ls st) (gF : ¬ 0 < x → Go G B M Q h sf cells slots (pc + 3) Ls st) : Go G B M Q h sf cells slots pc Ls (.int x :: st) :=
  go_if2 K hd ho (fun q => by rw [if0]; exact (tlt q).2.2.1) (fun q => by rw [if0]; exact (flt q).2.2.1) gT gF
theorem go_ifle (K : Kd G B M) {k : Nat} {o : Int} {x : Int32} (hd : M.P[k]? = some (pc, .ifCond .le o, 3)) {pc' : Nat} (ho : 0 ≤ (pc : Int) + o ∧ ((pc : Int) + o).toNat = pc') (gT : ¬ 0 < x → Go G B M Q h sf cells slots pc' Ls st) (gF : 0 < x → Go G B M Q h sf cells slots (pc + 3) Ls st) : Go G B M Q h sf cells slots pc Ls (.int x :: st) :=
  go_if2 K hd ho (A := ¬ 0 < x) (fun q => by rw [if0]; exact (flt q).2.2.2) (fun q => by rw [if0]; exact (tlt (Decidable.not_not.mp q)).2.2.2) gT (fun q => gF (Decidable.not_not.mp q))
theorem go_icmpeq (K : Kd G B M) {k : Nat} {o : Int} {x y : Int32} (hd : M.P[k]? = some (pc, .if_icmp .eq o, 3)) {pc' : Nat} (ho : 0 ≤ (pc : Int) + o ∧ ((pc : Int) + o).toNat = pc') (gT : x = y → Go G B M Q h sf cells slots pc' Ls st) (gF : ¬ x = y → Go G B M Q h sf cells slots (pc + 3) Ls st) : Go G B M Q h sf cells slots pc Ls (.int y :: .int x :: st) :=
  go_icmp2 K hd ho (fun q => (teq q).1) (fun q => (feq q).1) gT gF
theorem go_icmpne (K : Kd G B M) {k : Nat} {o : Int} {x y : Int32} (hd : M.P[k]? = some (pc, .if_icmp .ne o, 3)) {pc' : Nat} (ho : 0 ≤ (pc : Int) + o ∧ ((pc : Int) + o).toNat = pc') (gT : ¬ x = y → Go G B M Q h sf cells slots pc' Ls st) (gF : x = y → Go G B M Q h sf cells slots (pc + 3) Ls st) : Go G B M Q h sf cells slots pc Ls (.int y :: .int x :: st) :=
  go_icmp2 K hd ho (A := ¬ x = y) (fun q => (feq q).2) (fun q => (teq (Decidable.not_not.mp q)).2) gT (fun q => gF (Decidable.not_not.mp q))
theorem go_icmplt (K : Kd G B M) {k : Nat} {o : Int} {x y : Int32} (hd : M.P[k]? = some (pc, .if_icmp .lt o, 3)) {pc' : Nat} (ho : 0 ≤ (pc : Int) + o ∧ ((pc : Int) + o).toNat = pc') (gT : x < y → Go G B M Q h sf cells slots pc' Ls st) (gF : ¬ x < y → Go G B M Q h sf cells slots (pc + 3) Ls st) : Go G B M Q h sf cells slots pc Ls (.int y :: .int x :: st) :=
  go_icmp2 K hd ho (fun q => (tlt q).1) (fun q => (flt q).1) gT gF
theorem go_icmpge (K : Kd G B M) {k : Nat} {o : Int} {x y : Int32} (hd : M.P[k]? = some (pc, .if_icmp .ge o, 3)) {pc' : Nat} (ho : 0 ≤ (pc : Int) + o ∧ ((pc : Int) + o).toNat = pc') (gT : ¬ x < y → Go G B M Q h sf cells slots pc' Ls st) (gF : x < y → Go G B M Q h sf cells slots (pc + 3) Ls st) : Go G B M Q h sf cells slots pc Ls (.int y :: .int x :: st) :=
  go_icmp2 K hd ho (A := ¬ x < y) (fun q => (flt q).2.1) (fun q => (tlt (Decidable.not_not.mp q)).2.1) gT (fun q => gF (Decidable.not_not.mp q))
theorem go_icmpgt (K : Kd G B M) {k : Nat} {o : Int} {x y : Int32} (hd : M.P[k]? = some (pc, .if_icmp .gt o, 3)) {pc' : Nat} (ho : 0 ≤ (pc : Int) + o ∧ ((pc : Int) + o).toNat = pc') (gT : y < x → Go G B M Q h sf cells slots pc' Ls st) (gF : ¬ y < x → Go G B M Q h sf cells slots (pc + 3) Ls st) : Go G B M Q h sf cells slots pc Ls (.int y :: .int x :: st) :=
  go_icmp2 K hd ho (fun q => (tlt q).2.2.1) (fun q => (flt q).2.2.1) gT gF
theorem go_icmple (K : Kd G B M) {k : Nat} {o : Int} {x y : Int32} (hd : M.P[k]? = some (pc, .if_icmp .le o, 3)) {pc' : Nat} (ho : 0 ≤ (pc : Int) + o ∧ ((pc : Int) + o).toNat = pc') (gT : ¬ y < x → Go G B M Q h sf cells slots pc' Ls st) (gF : y < x → Go G B M Q h sf cells slots (pc + 3) Ls st) : Go G B M Q h sf cells slots pc Ls (.int y :: .int x :: st) :=
  go_icmp2 K hd ho (A := ¬ y < x) (fun q => (flt q).2.2.2) (fun q => (tlt (Decidable.not_not.mp q)).2.2.2) gT (fun q => gF (Decidable.not_not.mp q))
theorem go_ifnullY (K : Kd G B M) {k : Nat} {o : Int} (hd : M.P[k]? = some (pc, .ifnull o, 3)) {pc' : Nat} (ho : 0 ≤ (pc : Int) + o ∧ ((pc : Int) + o).toNat = pc') (g : Go G B M Q h sf cells slots pc' Ls st) : Go G B M Q h sf cells slots pc Ls (.null :: st) := by
  intro T vm0 k0 locs W
  exact (g T vm0 k0 locs W).pre fun target hr => XS.ifnullYes W.1.here K.1 rfl (pc0 := pc) (pc' := pc') rfl (K.dec hd) rfl ho.1 ho.2 hr
theorem go_ifnullN (K : Kd G B M) {k : Nat} {o : Int} {a : Addr} (hd : M.P[k]? = some (pc, .ifnull o, 3)) (g : Go G B M Q h sf cells slots (pc + 3) Ls st) : Go G B M Q h sf cells slots pc Ls (.ref a :: st) := by
  intro T vm0 k0 locs W
  exact (g T vm0 k0 locs W).pre fun target hr => XS.ifnullNo W.1.here K.1 rfl (K.dec hd) rfl hr
theorem go_ifnonY (K : Kd G B M) {k : Nat} {o : Int} {a : Addr} (hd : M.P[k]? = some (pc, .ifnonnull o, 3)) {pc' : Nat} (ho : 0 ≤ (pc : Int) + o ∧ ((pc : Int) + o).toNat = pc') (g : Go G B M Q h sf cells slots pc' Ls st) : Go G B M Q h sf cells slots pc Ls (.ref a :: st) := by
  intro T vm0 k0 locs W
  exact (g T vm0 k0 locs W).pre fun target hr => XT.ifnonnullYes W.1.here K.1 rfl (pc0 := pc) (pc' := pc') rfl (K.dec hd) rfl ho.1 ho.2 hr
theorem go_ifnonN (K : Kd G B M) {k : Nat} {o : Int} (hd : M.P[k]? = some (pc, .ifnonnull o, 3)) (g : Go G B M Q h sf cells slots (pc + 3) Ls st) : Go G B M Q h sf cells slots pc Ls (.null :: st) := by
  intro T vm0 k0 locs W
  exact (g T vm0 k0 locs W).pre fun target hr => XT.ifnonnullNo W.1.here K.1 rfl (K.dec hd) rfl hr
theorem go_acmp (K : Kd G B M) {k : Nat} {cd : ACond} {o : Int} {x y : Value} (hd : M.P[k]? = some (pc, .if_acmp cd o, 3)) (h1 : x.isRef = true) (h2 : y.isRef = true) {same : Bool} (hq : decide (x = y) = same) {pc' : Nat} (ho : 0 ≤ (pc : Int) + o) (hp : pc' = if acV cd same = true then ((pc : Int) + o).toNat else pc + 3)
    (g : Go G B M Q h sf cells slots pc' Ls st) : Go G B M Q h sf cells slots pc Ls (y :: x :: st) := by
  intro T vm0 k0 locs W
  exact (g T vm0 k0 locs W).pre fun target hr => RoadKit.acmp W.1 K.1 rfl h1 h2 (pc0 := pc) rfl (K.dec hd) rfl hq ho hp hr
theorem go_irem (K : Kd G B M) {k : Nat} {x y : Int32} (hd : M.P[k]? = some (pc, .irem, 1)) (hy : y ≠ 0) (g : Go G B M Q h sf cells slots (pc + 1) Ls (.int (x % y) :: st)) : Go G B M Q h sf cells slots pc Ls (.int y :: .int x :: st) := by
  intro T vm0 k0 locs W
  exact (g T vm0 k0 locs W).pre fun target hr => iremM W.1 K.1 rfl (K.dec hd) rfl hy hr
/-! ### the end -/
theorem go_leave (K : Kd G B M) {v : Option Value} (hv : M.ret = none → v = none) (q : ∀ Sf : Addr → Prop, (∀ x ∈ sf, Sf x) → Q v h Sf)
    (rt : ∀ (T : State) (vm0 : Vm) (locs : List Loc) (fs : List Frame), Stand B.p G.l B.e M.R (B.s.setVm vm0) B.m B.as B.bl B.mt B.c T locs cells slots →
      (∀ (f : JFrame) (acts : List Action), f.method = B.m → f.locked = none → f.entered = [] → (doReturn B.e (T.setTop f) acts v).1 = T.setFrames fs) → Steps B.p.tables B.e B.bl (T.setTop (mkF B.m pc Ls st)) (T.setFrames fs))
    (hc : cells ≤ M.R.cells) (hs : slots ≤ M.R.slots) : Go G B M Q h sf cells slots pc Ls st := by
  intro T vm0 k0 locs W
  obtain ⟨X, eT, hS, hk, hZ, hown, hF, hE, hC, hs0⟩ := W
  obtain ⟨fs, hr, hrun, hend, hW⟩ := X.leaveW hS (by rw [eT]; exact hk) (v := v) (fun z => hv (by rw [← K.2.2.2.1]; exact z)) K.2.2.2.2.1
  obtain ⟨w1, w2, w3, w4⟩ := hW
  have A := CHv.at X hZ K.2.2.2.2.2.2 hC.1
  refine ⟨_, v, locs, rt T vm0 locs fs X hr, hrun, hend, ?_, hF, ?_, ?_, w1, w2, w3, w4.mono hc hs⟩
  · show Q v T.heap (fun x => Safe G.Z G.EL T.vm T.heap x ∧ x < T.heap.size)
    rw [eT]
    exact q _ fun x hx => ⟨A.safe (hs0 x hx).2 (hs0 x hx).1, (hs0 x hx).2⟩
  · show Ext G.Z.heap T.heap
    rw [eT]; exact hE
  · show CHr G.Z G.EL B.s.vm B.s.heap T.vm T.heap
    rw [eT]; exact hC.trans A
theorem go_return (K : Kd G B M) {k : Nat} (hd : M.P[k]? = some (pc, .return_, 1)) (hr : M.ret = none) (hc : Nat.ble cells M.R.cells = true) (hs : Nat.ble slots M.R.slots = true) (q : ∀ Sf : Addr → Prop, (∀ x ∈ sf, Sf x) → Q none h Sf) : Go G B M Q h sf cells slots pc Ls [] :=
  go_leave K (fun _ => rfl) q (fun T vm0 locs fs X hl => X.returnOut K.1 (K.2.2.2.1.trans hr) (K.dec hd) hl) (Nat.le_of_ble_eq_true hc) (Nat.le_of_ble_eq_true hs)
theorem go_ret (K : Kd G B M) {k : Nat} {i : Instr} {t : FieldType} {w : Value} (hd : M.P[k]? = some (pc, i, 1)) (hr : M.ret = some t) (hn : narrow t w = w)
    (hi : (i = .ireturn ∧ (t = .int ∨ t = .boolean ∨ t = .byte ∨ t = .char ∨ t = .short) ∧ ∃ z, w = .int z) ∨ (i = .lreturn ∧ t = .long ∧ ∃ z, w = .long z) ∨ (i = .dreturn ∧ t = .double ∧ ∃ z, w = .double z) ∨ (i = .freturn ∧ t = .float ∧ ∃ z, w = .float z) ∨ (i = .areturn ∧ t.isReference = true ∧ w.isRef = true))
    (hc : Nat.ble cells M.R.cells = true) (hs : Nat.ble slots M.R.slots = true) (q : ∀ Sf : Addr → Prop, (∀ x ∈ sf, Sf x) → Q (some w) h Sf) : Go G B M Q h sf cells slots pc Ls (w :: st) :=
  go_leave K (fun z => by rw [hr] at z; cases z) q (fun T vm0 locs fs X hl => retOut X K.1 (K.2.2.2.1.trans hr) hn hi (K.dec hd) hl) (Nat.le_of_ble_eq_true hc) (Nat.le_of_ble_eq_true hs)
theorem go_ireturn (K : Kd G B M) {k : Nat} {t : FieldType} {z : Int32} (hd : M.P[k]? = some (pc, .ireturn, 1)) (hr : M.ret = some t) (ht : t = .int ∨ t = .boolean ∨ t = .byte ∨ t = .char ∨ t = .short) (hn : narrow t (.int z) = .int z) (hc : Nat.ble cells M.R.cells = true) (hs : Nat.ble slots M.R.slots = true) (q : ∀ Sf : Addr → Prop, (∀ x ∈ sf, Sf x) → Q (some (.int z)) h Sf) : Go G B M Q h sf cells slots pc Ls (.int z :: st) :=
  go_ret K hd hr hn (Or.inl ⟨rfl, ht, z, rfl⟩) hc hs q
theorem go_areturn (K : Kd G B M) {k : Nat} {t : FieldType} {w : Value} (hd : M.P[k]? = some (pc, .areturn, 1)) (hr : M.ret = some t) (ht : t.isReference = true) (hw : w.isRef = true) (hn : narrow t w = w) (hc : Nat.ble cells M.R.cells = true) (hs : Nat.ble slots M.R.slots = true) (q : ∀ Sf : Addr → Prop, (∀ x ∈ sf, Sf x) → Q (some w) h Sf) : Go G B M Q h sf cells slots pc Ls (w :: st) :=
  go_ret K hd hr hn (Or.inr (Or.inr (Or.inr (Or.inr ⟨rfl, ht, hw⟩)))) hc hs q
theorem go_lreturn (K : Kd G B M) {k : Nat} {z : Int64} (hd : M.P[k]? = some (pc, .lreturn, 1)) (hr : M.ret = some .long) (hc : Nat.ble cells M.R.cells = true) (hs : Nat.ble slots M.R.slots = true) (q : ∀ Sf : Addr → Prop, (∀ x ∈ sf, Sf x) → Q (some (.long z)) h Sf) : Go G B M Q h sf cells slots pc Ls (.long z :: st) :=
  go_ret K hd hr rfl (Or.inr (Or.inl ⟨rfl, rfl, z, rfl⟩)) hc hs q
end Base
end Jvm.OwnW
namespace Jvm.OwnW
open Sem ClassFile Op Lib Bundle Jvm.Stand Jvm.Free Jvm.LawKit Jvm.RoadKit
section Heap
variable {G : Gb} {B : Cx} {M : Mt} {R : Room} {Q : Option Value → Heap → (Addr → Prop) → Prop} {h : Heap} {sf : List Addr} {cells slots pc : Nat} {Ls : Array Slot} {st : List Value}
theorem go_getfield (K : Kd G B M) {k ix : Nat} {R0 O n d host : String} {a : Addr} {v : Value} (hd : M.P[k]? = some (pc, .getfield ix, 3)) (w : Wd G (.fieldLink M.own ix R0 n d) ∨ Wd G (.fieldLinkNest M.own ix R0 n d host)) (via : Via G.Z R0 O n d) (F : Fld G.Z h a O n d v)
    (g : Go G B M Q h sf cells slots (pc + 3) Ls (v :: st)) : Go G B M Q h sf cells slots pc Ls (.ref a :: st) := by
  intro T vm0 k0 locs W
  obtain ⟨X, eT, hS, hk, hZ, hown, hF, hE, hC, hs⟩ := W
  obtain ⟨T', X', e', st'⟩ := RoadKit.getF X K.1 hZ hown w via eT F (g := mkF B.m pc Ls (.ref a :: st)) rfl rfl (K.dec hd)
  exact (g T' vm0 k0 locs ⟨X', e', hS, hk, hZ, hown, hF, hE, hC, hs⟩).pre st'
theorem go_getstatic (K : Kd G B M) {k ix : Nat} {R0 O n d host : String} {v : Value} (hd : M.P[k]? = some (pc, .getstatic ix, 3)) (w : Wd G (.fieldLink M.own ix R0 n d) ∨ Wd G (.fieldLinkNest M.own ix R0 n d host)) (via : Via G.Z R0 O n d) (F : Sta G.Z G.Z.heap O n d v)
    (g : Go G B M Q h sf cells slots (pc + 3) Ls (v :: st)) : Go G B M Q h sf cells slots pc Ls st := by
  intro T vm0 k0 locs W
  obtain ⟨X, eT, hS, hk, hZ, hown, hF, hE, hC, hs⟩ := W
  obtain ⟨T', X', e', st'⟩ := getS2 X K.1 hZ hown w via eT (F.ext hE) (g := mkF B.m pc Ls st) rfl (K.dec hd)
  exact (g T' vm0 k0 locs ⟨X', e', hS, hk, hZ, hown, hF, hE, hC, hs⟩).pre st'
theorem go_new (K : Kd G B M) {k ix n : Nat} {C : String} (hd : M.P[k]? = some (pc, .new ix, 3)) (w : Wd G (.classLink M.own ix C)) (wi : Wd G (.instantiable C n)) (wz : Wd G (.initialized C)) (hc : Nat.ble (cells + 1) M.R.cells = true) (hl : Nat.ble (slots + n) M.R.slots = true)
    (g : ∀ (h' : Heap) (a : Addr), a = h.size → G.Z.heap.size ≤ a → Ext h h' → Exa G.Z h' a C → (∀ {O nm d : String} {ty : FieldType}, Laid G.Z G.a0 C O nm d → parseFieldDescriptor d = some ty → Fld G.Z h' a O nm d (defaultValue ty)) → Go G B M Q h' (a :: sf) (cells + 1) (slots + n) (pc + 3) Ls (.ref a :: st)) : Go G B M Q h sf cells slots pc Ls st := by
  intro T vm0 k0 locs W
  obtain ⟨X, eT, hS, hk, hZ, hown, hF, hE, hC, hs⟩ := W
  obtain ⟨T', h', X', e', E', A', D', -, st'⟩ := newO X K.1 hZ hown w wi wz eT (g := mkF B.m pc Ls st) rfl (K.dec hd) (Nat.le_of_ble_eq_true hc) (Nat.le_of_ble_eq_true hl)
  refine (g h' h.size rfl hE.1 E' A' D' T' vm0 k0 locs ⟨X', e', hS, Nat.le_trans hk E'.1, hZ, hown, hF, ⟨Nat.le_trans hE.1 E'.1, fun x c q => E'.2 x c (hE.2 x c q)⟩, hC.trans (CHr.ext E' hC.1), fun x hx => ?_⟩).pre st'
  rcases List.mem_cons.mp hx with rfl | hx
  · exact ⟨Safe.ext E' hC.1 (Safe.new (Nat.le_refl _)), A'.lt⟩
  · exact ⟨Safe.ext E' hC.1 (hs x hx).1, Nat.lt_of_lt_of_le (hs x hx).2 E'.1⟩
theorem go_wr (K : Kd G B M) {a : Addr} {sl pc' : Nat} {v : Value} {st' : List Value} (ha : G.Z.heap.size ≤ a) (hsf : a ∈ sf ∨ ∀ vm0 : Vm, G.Z.vm.Alike vm0 → Safe G.Z G.EL vm0 h a)
    (law : ∀ (T : State) (vm0 : Vm) (locs : List Loc), Stand B.p G.l B.e M.R (B.s.setVm vm0) B.m B.as B.bl B.mt B.c T locs cells slots → T.heap = h → G.Z.Warmed39 vm0 → vm0.findClass M.own = some B.m.cls →
      ∃ (T' : State) (h' : Heap), Stand B.p G.l B.e M.R (B.s.setVm vm0) B.m B.as B.bl B.mt B.c T' (locs ++ [⟨a, sl⟩]) cells slots ∧ T'.heap = h' ∧ Wr h h' a sl v ∧ ∀ target, Steps B.p.tables B.e B.bl (T'.setTop (mkF B.m pc' Ls st')) target → Steps B.p.tables B.e B.bl (T.setTop (mkF B.m pc Ls st)) target)
    (g : ∀ h' : Heap, Wr h h' a sl v → Go G B M Q h' sf cells slots pc' Ls st') : Go G B M Q h sf cells slots pc Ls st := by
  intro T vm0 k0 locs W
  obtain ⟨X, eT, hS, hk, hZ, hown, hF, hE, hC, hs⟩ := W
  obtain ⟨T', h', X', e', W', st''⟩ := law T vm0 locs X eT hZ hown
  have S : Safe G.Z G.EL vm0 h a := hsf.elim (fun q => (hs a q).1) (fun q => q vm0 hZ.alike)
  exact (g h' W' T' vm0 k0 _ ⟨X', e', hS, by rw [W'.size]; exact hk, hZ, hown, Fr.snoc X' hF ha, (Old.wr (n0 := G.Z.heap.size) ⟨rfl, hE⟩ W' ha).2, hC.trans (CHr.wr W' S hC.1), fun x hx => ⟨Safe.wr W' S hC.1 (hs x hx).1, by rw [W'.size]; exact (hs x hx).2⟩⟩).pre st''
theorem go_putfield (K : Kd G B M) {k ix kk : Nat} {R0 O n d host C : String} {ty : FieldType} {a : Addr} {v old : Value} (hd : M.P[k]? = some (pc, .putfield ix, 3)) (w : Wd G (.fieldLink M.own ix R0 n d) ∨ Wd G (.fieldLinkNest M.own ix R0 n d host)) (via : Via G.Z R0 O n d) (F : Fld G.Z h a O n d old) (E : Exa G.Z h a C)
    (L : Wd G (.lays C O n d) ∨ (Wd G (.laysFinal C O n d) ∧ M.own = O ∧ M.nm = "<init>")) (wi : Wd G (.instantiable C kk)) (hty : parseFieldDescriptor d = some ty) (hn : narrow ty v = v) (hf : fits ty v = true) (ha : G.Z.heap.size ≤ a) (hsf : a ∈ sf ∨ (C ≠ "java/lang/String" ∧ C ≠ "[B"))
    (g : ∀ h' : Heap, Wr h h' a (RoadKit.slotOf G.Z O n d) v → Go G B M Q h' sf cells slots (pc + 3) Ls st) : Go G B M Q h sf cells slots pc Ls (v :: .ref a :: st) :=
  go_wr K ha (hsf.imp id fun q vm0 hal => Safe.exa hal E q.1 q.2) (fun T vm0 locs X eT hZ hown => RoadKit.putF X K.1 hZ hown w via eT F E (L.imp id fun q => ⟨q.1, q.2.1, K.2.2.2.2.2.1.trans q.2.2⟩) wi hty hn hf (g := mkF B.m pc Ls (v :: .ref a :: st)) rfl rfl (K.dec hd)) g
theorem go_newarray (K : Kd G B M) {k cap : Nat} {aty : ArrayType} {n : Int32} (hd : M.P[k]? = some (pc, .newarray aty, 2)) (w : Wd G (.arrayClass (newarray.typeOf aty))) (hn : ¬ n < 0) (hcap : n.toNatClampNeg ≤ cap) (hb : Nat.ble (cap * 8) 536870912 = true) (hc : Nat.ble (cells + 1) M.R.cells = true) (hl : Nat.ble (slots + cap) M.R.slots = true)
    (g : ∀ (h' : Heap) (a : Addr) (kA : ClassId), a = h.size → G.Z.heap.size ≤ a → Ext h h' → Arv G.Z h' a kA (newarray.typeOf aty) n [] (defaultValue (newarray.typeOf aty)) → Go G B M Q h' (a :: sf) (cells + 1) (slots + cap) (pc + 2) Ls (.ref a :: st)) : Go G B M Q h sf cells slots pc Ls (.int n :: st) := by
  intro T vm0 k0 locs W
  obtain ⟨X, eT, hS, hk, hZ, hown, hF, hE, hC, hs⟩ := W
  obtain ⟨T', h', cA, X', e', E', A', st'⟩ := newP X K.1 hZ w eT (g := mkF B.m pc Ls (.int n :: st)) rfl (K.dec hd) rfl hn hcap (Nat.le_of_ble_eq_true hb) (Nat.le_of_ble_eq_true hc) (Nat.le_of_ble_eq_true hl)
  refine (g h' h.size cA rfl hE.1 E' (Arv.new A' hn) T' vm0 k0 locs ⟨X', e', hS, Nat.le_trans hk E'.1, hZ, hown, hF, ⟨Nat.le_trans hE.1 E'.1, fun x c q => E'.2 x c (hE.2 x c q)⟩, hC.trans (CHr.ext E' hC.1), fun x hx => ?_⟩).pre st'
  rcases List.mem_cons.mp hx with rfl | hx
  · exact ⟨Safe.ext E' hC.1 (Safe.new (Nat.le_refl _)), A'.lt⟩
  · exact ⟨Safe.ext E' hC.1 (hs x hx).1, Nat.lt_of_lt_of_le (hs x hx).2 E'.1⟩
theorem go_castore (K : Kd G B M) {k i : Nat} {a : Addr} {kA : ClassId} {z j x : Int32} {vs : List Value} {dv : Value} (hd : M.P[k]? = some (pc, .castore, 1)) (A : Arv G.Z h a kA .char z vs dv) (hj : ¬ j < 0 ∧ j < z) (hi : j.toNatClampNeg = i) (hl : i < vs.length) (ha : G.Z.heap.size ≤ a)
    (g : ∀ h' : Heap, Wr h h' a j.toNatClampNeg (.int (nar .char x)) → Arv G.Z h' a kA .char z (vs.set i (.int (nar .char x))) dv → Go G B M Q h' sf cells slots (pc + 1) Ls st) : Go G B M Q h sf cells slots pc Ls (.int x :: .int j :: .ref a :: st) := by
  obtain ⟨c, A1, q1, S, q3, H, Gf⟩ := A
  exact go_wr K ha (Or.inr fun vm0 hal => Safe.arr hal A1 (by decide)) (fun T vm0 locs X eT hZ hown => stC X K.1 hZ eT A1 (inb_of S hj) (g := mkF B.m pc Ls (.int x :: .int j :: .ref a :: st)) rfl rfl (K.dec hd)) fun h' W => g h' W (Arv.set A1 q1 S q3 H Gf (fits_nar_char _) W i hi hl)
theorem go_bastore (K : Kd G B M) {k i : Nat} {a : Addr} {kA : ClassId} {z j x : Int32} {vs : List Value} {dv : Value} (hd : M.P[k]? = some (pc, .bastore, 1)) (A : Arv G.Z h a kA .byte z vs dv) (hj : ¬ j < 0 ∧ j < z) (hi : j.toNatClampNeg = i) (hl : i < vs.length) (ha : G.Z.heap.size ≤ a) (hsf : a ∈ sf)
    (g : ∀ h' : Heap, Wr h h' a j.toNatClampNeg (.int (nar .byte x)) → Arv G.Z h' a kA .byte z (vs.set i (.int (nar .byte x))) dv → Go G B M Q h' sf cells slots (pc + 1) Ls st) : Go G B M Q h sf cells slots pc Ls (.int x :: .int j :: .ref a :: st) := by
  obtain ⟨c, A1, q1, S, q3, H, Gf⟩ := A
  exact go_wr K ha (Or.inl hsf) (fun T vm0 locs X eT hZ hown => stB X K.1 hZ eT A1 (inb_of S hj) (g := mkF B.m pc Ls (.int x :: .int j :: .ref a :: st)) rfl rfl (K.dec hd)) fun h' W => g h' W (Arv.set A1 q1 S q3 H Gf (fits_nar_byte _) W i hi hl)
theorem go_iastore (K : Kd G B M) {k i : Nat} {a : Addr} {kA : ClassId} {z j x : Int32} {vs : List Value} {dv : Value} (hd : M.P[k]? = some (pc, .iastore, 1)) (A : Arv G.Z h a kA .int z vs dv) (hj : ¬ j < 0 ∧ j < z) (hi : j.toNatClampNeg = i) (hl : i < vs.length) (ha : G.Z.heap.size ≤ a)
    (g : ∀ h' : Heap, Wr h h' a j.toNatClampNeg (.int x) → Arv G.Z h' a kA .int z (vs.set i (.int x)) dv → Go G B M Q h' sf cells slots (pc + 1) Ls st) : Go G B M Q h sf cells slots pc Ls (.int x :: .int j :: .ref a :: st) := by
  obtain ⟨c, A1, q1, S, q3, H, Gf⟩ := A
  exact go_wr K ha (Or.inr fun vm0 hal => Safe.arr hal A1 (by decide)) (fun T vm0 locs X eT hZ hown => stI X K.1 hZ eT A1 (inb_of S hj) (g := mkF B.m pc Ls (.int x :: .int j :: .ref a :: st)) rfl rfl (K.dec hd)) fun h' W => g h' W (Arv.set A1 q1 S q3 H Gf rfl W i hi hl)
theorem go_caload (K : Kd G B M) {k : Nat} {a : Addr} {kA : ClassId} {z j : Int32} {vs : List Value} {v dv : Value} (hd : M.P[k]? = some (pc, .caload, 1)) (A : Arv G.Z h a kA .char z vs dv) (hj : ¬ j < 0 ∧ j < z) (hv : vs.getD j.toNatClampNeg dv = v)
    (g : Go G B M Q h sf cells slots (pc + 1) Ls (v :: st)) : Go G B M Q h sf cells slots pc Ls (.int j :: .ref a :: st) := by
  intro T vm0 k0 locs W
  obtain ⟨c, A1, q1, S, q3, H, Gf⟩ := A
  have X := W.1
  exact (g T vm0 k0 locs W).pre fun target hr => X.caload K.1 (j := j) (v := v) (by rw [W.2.1]; exact A1.1) (State.isArrayOf_alike W.2.2.2.2.1.alike A1.2.1) A1.2.2 (inb_of S hj) (H.at (inb_of S hj) hv) (g := mkF B.m pc Ls (.int j :: .ref a :: st)) rfl rfl (K.dec hd) _ hr
theorem go_baload (K : Kd G B M) {k : Nat} {a : Addr} {kA : ClassId} {z j : Int32} {vs : List Value} {v dv : Value} (hd : M.P[k]? = some (pc, .baload, 1)) (A : Arv G.Z h a kA .byte z vs dv) (hj : ¬ j < 0 ∧ j < z) (hv : vs.getD j.toNatClampNeg dv = v)
    (g : Go G B M Q h sf cells slots (pc + 1) Ls (v :: st)) : Go G B M Q h sf cells slots pc Ls (.int j :: .ref a :: st) := by
  intro T vm0 k0 locs W
  obtain ⟨c, A1, q1, S, q3, H, Gf⟩ := A
  have X := W.1
  exact (g T vm0 k0 locs W).pre fun target hr => X.baloadBytes K.1 (j := j) (v := v) (by rw [W.2.1]; exact A1.1) (State.isArrayOf_alike W.2.2.2.2.1.alike A1.2.1) A1.2.2 (inb_of S hj) (H.at (inb_of S hj) hv) (g := mkF B.m pc Ls (.int j :: .ref a :: st)) rfl rfl (K.dec hd) _ hr
theorem go_iaload (K : Kd G B M) {k : Nat} {a : Addr} {kA : ClassId} {z j : Int32} {vs : List Value} {v dv : Value} (hd : M.P[k]? = some (pc, .iaload, 1)) (A : Arv G.Z h a kA .int z vs dv) (hj : ¬ j < 0 ∧ j < z) (hv : vs.getD j.toNatClampNeg dv = v)
    (g : Go G B M Q h sf cells slots (pc + 1) Ls (v :: st)) : Go G B M Q h sf cells slots pc Ls (.int j :: .ref a :: st) := by
  intro T vm0 k0 locs W
  obtain ⟨c, A1, q1, S, q3, H, Gf⟩ := A
  have X := W.1
  exact (g T vm0 k0 locs W).pre fun target hr => X.iaload K.1 (j := j) (v := v) (by rw [W.2.1]; exact A1.1) (State.isArrayOf_alike W.2.2.2.2.1.alike A1.2.1) A1.2.2 (inb_of S hj) (H.at (inb_of S hj) hv) (g := mkF B.m pc Ls (.int j :: .ref a :: st)) rfl rfl (K.dec hd) _ hr
theorem go_aaload (K : Kd G B M) {k : Nat} {a : Addr} {kA : ClassId} {ty : FieldType} {z j : Int32} {vs : List Value} {v dv : Value} (hd : M.P[k]? = some (pc, .aaload, 1)) (A : Arv G.Z h a kA ty z vs dv) (hty : ty.isReference = true) (hj : ¬ j < 0 ∧ j < z) (hv : vs.getD j.toNatClampNeg dv = v)
    (g : Go G B M Q h sf cells slots (pc + 1) Ls (v :: st)) : Go G B M Q h sf cells slots pc Ls (.int j :: .ref a :: st) := by
  intro T vm0 k0 locs W
  obtain ⟨c, A1, q1, S, q3, H, Gf⟩ := A
  have X := W.1
  exact (g T vm0 k0 locs W).pre fun target hr => X.aaload K.1 (j := j) (v := v) (by rw [W.2.1]; exact A1.1) (State.isArrayOf_alike W.2.2.2.2.1.alike A1.2.1) hty A1.2.2 (inb_of S hj) (H.at (inb_of S hj) hv) (g := mkF B.m pc Ls (.int j :: .ref a :: st)) rfl rfl (K.dec hd) _ hr
theorem go_arraylength (K : Kd G B M) {k : Nat} {a : Addr} {kA : ClassId} {ty : FieldType} {z : Int32} {vs : List Value} {dv : Value} (hd : M.P[k]? = some (pc, .arraylength, 1)) (A : Arv G.Z h a kA ty z vs dv)
    (g : Go G B M Q h sf cells slots (pc + 1) Ls (.int z :: st)) : Go G B M Q h sf cells slots pc Ls (.ref a :: st) := by
  intro T vm0 k0 locs W
  obtain ⟨c, A1, q1, S, q3, H, Gf⟩ := A
  have X := W.1
  exact (g T vm0 k0 locs W).pre fun target hr => X.arraylength K.1 (by rw [W.2.1]; exact A1.1) (State.isArrayOf_alike W.2.2.2.2.1.alike A1.2.1) (g := mkF B.m pc Ls (.ref a :: st)) rfl rfl (K.dec hd) _ (by rw [len_of S q3]; exact hr)
theorem go_cast (K : Kd G B M) {k ix : Nat} {C : String} {a : Addr} (hd : M.P[k]? = some (pc, .checkcast ix, 3)) (w : Wd G (.classLink M.own ix C)) (F : Ins G.Z h a C true)
    (g : Go G B M Q h sf cells slots (pc + 3) Ls (.ref a :: st)) : Go G B M Q h sf cells slots pc Ls (.ref a :: st) := by
  intro T vm0 k0 locs W
  obtain ⟨X, eT, hS, hk, hZ, hown, hF, hE, hC, hs⟩ := W
  obtain ⟨T', X', e', st'⟩ := castY X K.1 hZ hown w eT F (g := mkF B.m pc Ls (.ref a :: st)) rfl rfl (K.dec hd)
  exact (g T' vm0 k0 locs ⟨X', e', hS, hk, hZ, hown, hF, hE, hC, hs⟩).pre st'
theorem go_instY (K : Kd G B M) {k ix : Nat} {C : String} {a : Addr} (hd : M.P[k]? = some (pc, .instanceof ix, 3)) (w : Wd G (.classLink M.own ix C)) (F : Ins G.Z h a C true)
    (g : Go G B M Q h sf cells slots (pc + 3) Ls (.int 1 :: st)) : Go G B M Q h sf cells slots pc Ls (.ref a :: st) := by
  intro T vm0 k0 locs W
  obtain ⟨X, eT, hS, hk, hZ, hown, hF, hE, hC, hs⟩ := W
  obtain ⟨T', X', e', st'⟩ := instY X K.1 hZ hown w eT F (g := mkF B.m pc Ls (.ref a :: st)) rfl rfl (K.dec hd)
  exact (g T' vm0 k0 locs ⟨X', e', hS, hk, hZ, hown, hF, hE, hC, hs⟩).pre st'
theorem go_instN (K : Kd G B M) {k ix : Nat} {C D : String} {a : Addr} (hd : M.P[k]? = some (pc, .instanceof ix, 3)) (w : Wd G (.classLink M.own ix C)) (E : Exa G.Z h a D) (F : ∃ c t, G.Z.vm.findClass D = some c ∧ G.Z.vm.findClass C = some t ∧ G.Z.vm.assignable c t = false)
    (g : Go G B M Q h sf cells slots (pc + 3) Ls (.int 0 :: st)) : Go G B M Q h sf cells slots pc Ls (.ref a :: st) := by
  intro T vm0 k0 locs W
  obtain ⟨X, eT, hS, hk, hZ, hown, hF, hE, hC, hs⟩ := W
  obtain ⟨T', X', e', st'⟩ := instNo X K.1 hZ hown w eT E F (g := mkF B.m pc Ls (.ref a :: st)) rfl rfl (K.dec hd)
  exact (g T' vm0 k0 locs ⟨X', e', hS, hk, hZ, hown, hF, hE, hC, hs⟩).pre st'
theorem go_inst0 (K : Kd G B M) {k ix : Nat} (hd : M.P[k]? = some (pc, .instanceof ix, 3)) (g : Go G B M Q h sf cells slots (pc + 3) Ls (.int 0 :: st)) : Go G B M Q h sf cells slots pc Ls (.null :: st) := by
  intro T vm0 k0 locs W
  exact (g T vm0 k0 locs W).pre fun target hr => W.1.instanceofNull K.1 (g := mkF B.m pc Ls (.null :: st)) rfl rfl (K.dec hd) target hr
theorem go_init0 (K : Kd G B M) {k ix : Nat} {a : Addr} (hd : M.P[k]? = some (pc, .invokespecial ix, 3)) (w1 : Wd G (.methodLink M.own ix Lib.objectInit)) (w2 : Wd G (.instanceMethod Lib.objectInit)) (w3 : Wd G (.code Lib.objectInit ⟨#[0xb1]⟩ 1 none)) (hsz : Ls.size = M.maxL)
    (hf : Nat.ble 1 M.R.frames = true) (hl : Nat.ble ((st.map fun v => v.category).sum + 12) M.R.locals = true) (g : Go G B M Q h sf cells slots (pc + 3) Ls st) : Go G B M Q h sf cells slots pc Ls (.ref a :: st) := by
  intro T vm0 k0 locs W
  obtain ⟨X, eT, hS, hk, hZ, hown, hF, hE, hC, hs⟩ := W
  obtain ⟨T', X', e', st'⟩ := initO X K.1 hZ hown w1 w2 w3 eT (g := mkF B.m pc Ls (.ref a :: st)) rfl (hsz.trans K.2.2.1.symm) rfl (K.dec hd) (Nat.le_of_ble_eq_true hf) (W := (st.map fun v => v.category).sum) (by show 2 * 0 + _ ≤ _; omega) (Nat.le_of_ble_eq_true hl)
  exact (g T' vm0 k0 locs ⟨X', e', hS, hk, hZ, hown, hF, hE, hC, hs⟩).pre st'
theorem go_ldcI (K : Kd G B M) {k ix : Nat} {v : Int32} (hd : M.P[k]? = some (pc, .ldc ix, 2)) (w : Wd G (.constant M.own ix v)) (g : Go G B M Q h sf cells slots (pc + 2) Ls (.int v :: st)) : Go G B M Q h sf cells slots pc Ls st := by
  intro T vm0 k0 locs W
  obtain ⟨X, eT, hS, hk, hZ, hown, hF, hE, hC, hs⟩ := id W
  exact (g T vm0 k0 locs W).pre (X.ldcInt K.1 hown (mv hZ w) (g := mkF B.m pc Ls st) rfl (K.dec hd))
/-- 'ldc' of a String constant, of which nothing is asked -/
theorem go_ldc (K : Kd G B M) {k ix n : Nat} {text : String} (hd : M.P[k]? = some (pc, .ldc ix, 2)) (w : Wd G (.stringLink M.own ix text)) (wS : ∀ d ∈ Bundle.stringAtoms, Wd G d) (hn : Nat.ble (4 * text.toList.length) n = true) (hb : Nat.ble n 536870912 = true) (hc : Nat.ble (cells + 2) M.R.cells = true) (hl : Nat.ble (slots + (n + 4)) M.R.slots = true)
    (g : ∀ (h' : Heap) (a : Addr), Ext h h' → Go G B M Q h' sf (cells + 2) (slots + (n + 4)) (pc + 2) Ls (.ref a :: st)) : Go G B M Q h sf cells slots pc Ls st := by
  intro T vm0 k0 locs W
  obtain ⟨X, eT, hS, hk, hZ, hown, hF, hE, hC, hs⟩ := W
  obtain ⟨a, T', h', k1, X', e', E', hS', hk', hZ', hown', hC', -, st'⟩ := ldcOH X K.1 hZ hown w wS eT hS hk K.2.2.2.2.2.2 hC.1 (g := mkF B.m pc Ls st) rfl (K.dec hd) (Nat.le_of_ble_eq_true hn) (Nat.le_of_ble_eq_true hb) (Nat.le_of_ble_eq_true hc) (Nat.le_of_ble_eq_true hl)
  exact (g h' a E' T' T'.vm k1 locs ⟨X', e', hS', hk', hZ', hown', hF, ⟨Nat.le_trans hE.1 E'.1, fun x c q => E'.2 x c (hE.2 x c q)⟩, hC.trans hC', fun x hx => ⟨hC'.safe (hs x hx).2 (hs x hx).1, Nat.lt_of_lt_of_le (hs x hx).2 E'.1⟩⟩).pre st'
/-- 'ldc' of a String constant whose text is known -/
theorem go_ldcS (K : Kd G B M) {k ix n : Nat} {text : String} (hd : M.P[k]? = some (pc, .ldc ix, 2)) (w : Wd G (.stringLink M.own ix text)) (wS : ∀ d ∈ Bundle.stringAtoms, Wd G d) (hmem : (M.own, ix) ∈ G.EL)
    {vs : List Value} {z : Int32} (ht : (∀ c ∈ text.toList, c.toNat < 256) ∧ text.toList.map (fun c => Value.int (Jvm.Lit.byteI c.toNat.toUInt16)) = vs) (hz : ¬ z < 0) (hzl : z.toNatClampNeg = vs.length)
    (hn : Nat.ble (4 * text.toList.length) n = true) (hb : Nat.ble n 536870912 = true) (hc : Nat.ble (cells + 2) M.R.cells = true) (hl : Nat.ble (slots + (n + 4)) M.R.slots = true)
    (g : ∀ (h' : Heap) (a b : Addr) (kb : ClassId), Ext h h' → Exa G.Z h' a "java/lang/String" → Fld G.Z h' a "java/lang/String" "coder" "B" (.int 0) → Fld G.Z h' a "java/lang/String" "value" "[B" (.ref b) → Arv G.Z h' b kb .byte z vs (.int 0) → (∀ x ∈ sf, x ≠ a ∧ x ≠ b) →
      Go G B M Q h' sf (cells + 2) (slots + (n + 4)) (pc + 2) Ls (.ref a :: st)) : Go G B M Q h sf cells slots pc Ls st := by
  intro T vm0 k0 locs W
  obtain ⟨X, eT, hS, hk, hZ, hown, hF, hE, hC, hs⟩ := W
  obtain ⟨a, T', h', k1, b, kb, X', e', E', hS', hk', hZ', hown', A1, A2, A3, A4, -, -, hC', -, hne, st'⟩ := ldcCH X K.1 hZ hown w wS eT hS hk K.2.2.2.2.2.2 hmem hC.1 ht hz hzl (g := mkF B.m pc Ls st) rfl (K.dec hd) (Nat.le_of_ble_eq_true hn) (Nat.le_of_ble_eq_true hb) (Nat.le_of_ble_eq_true hc) (Nat.le_of_ble_eq_true hl)
  have hsf : ∀ x ∈ sf, Safe G.Z G.EL T'.vm h' x ∧ x < h'.size := fun x hx => ⟨hC'.safe (hs x hx).2 (hs x hx).1, Nat.lt_of_lt_of_le (hs x hx).2 E'.1⟩
  exact (g h' a b kb E' A1 A2 A3 A4 (fun x hx => hne x (hsf x hx).1) T' T'.vm k1 locs ⟨X', e', hS', hk', hZ', hown', hF, ⟨Nat.le_trans hE.1 E'.1, fun x c q => E'.2 x c (hE.2 x c q)⟩, hC.trans hC', hsf⟩).pre st'
end Heap
/-! ### contracts and calls -/
section Calls
variable {G : Gb} {B : Cx} {M : Mt} {R : Room} {Q : Option Value → Heap → (Addr → Prop) → Prop} {h : Heap} {sf : List Addr} {cells slots pc : Nat} {Ls : Array Slot} {st : List Value}
theorem ctr_of (M : Mt) {ws : List Jvm.Cond} {y : MethodName} {bytes : ByteArray} {as' : Array Value} (ho : M.own = y.cls) (hnm : M.nm = y.name) (pf : plainFor y = true) (hP : ∀ q ∈ M.P, decode bytes q.1 = .ok q.2) (hEL : EW G.Z G.a0 G.EL) {Ls : Array Slot} (ef : ∀ m, entryFrame m as' M.maxL = mkF m 0 Ls [])
    (H : ∀ B : Cx, Kd G B M → Ext G.Z.heap h → Go G B M Q h sf 0 0 0 Ls []) : Ctr G ws y bytes M.maxL M.ret M.R as' h sf Q := by
  refine MetFree.of_bodySF pf hisR ?_
  intro p e s m args below meth c s₁ Bd hml hP' hK
  obtain ⟨rfl, hZ, hh, hCH, hE, hs⟩ := hP'
  have hK : Kd G ((p, e, s, m), (args, below, meth, c)) M := ⟨Bd.exec, fun q hq => by show decode c.code q.1 = _; rw [Bd.bytes]; exact hP q hq, hml, Bd.returns, Bd.notSynchronized, (name_of_methodNamed Bd.named Bd.method).1.trans hnm.symm, hEL⟩
  have X0 : Stand p G.l e M.R s m args below meth c s₁ [] 0 0 := Stand.of_body Bd
  have X1 : Stand p G.l e M.R (s.setVm s.vm) m args below meth c s₁ [] 0 0 := X0
  have e0 : s₁.heap = h := by rw [← hh, Bd.state]; rfl
  have hown : s.vm.findClass M.own = some m.cls := by rw [ho]; exact findClass_of_methodNamed Bd.named
  have hb : CHr G.Z G.EL s.vm s.heap s.vm h := by rw [hh]; exact CHr.refl hCH
  obtain ⟨t, v, L, k1, k2, k3, k4, k5, k6, k7, k8⟩ := H ((p, e, s, m), (args, below, meth, c)) hK hE s₁ s.vm 0 [] ⟨X1, e0, (State.WarmedH.refl s).since 0, Nat.zero_le _, hZ, hown, Fr.nil _, hE, hb, hs⟩
  refine ⟨t, .returned v, ?_, k2, k3, v, L, rfl, ⟨k4, k5, k6⟩, k7, k8⟩
  rw [ef m]
  exact k1
theorem backG {y : MethodName} {bytes : ByteArray} {maxL : Nat} {ret : Option FieldType} {rm : Room} {len W : Nat} {as' : Array Value} {Qc : Option Value → Heap → (Addr → Prop) → Prop} {sf' : List Addr} {p : Program} {e : Env} {below : List Frame} {s : State} {args : Array Value} {vm0 : Vm}
    (C : Ctr G [] y bytes maxL ret rm as' h sf' Qc) (hZ : G.Z.Warmed39 vm0) (wc : Wd G (.code y bytes maxL ret)) (wz : Wd G (.initialized y.cls)) (hf : rm.frames + 1 ≤ R.frames) (hl : W + (maxL + 11) + rm.locals ≤ R.locals) (hEL : EW G.Z G.a0 G.EL) (H : CHv G.Z G.EL vm0 h) (hE : Ext G.Z.heap h) (hs : ∀ x ∈ sf', Safe G.Z G.EL vm0 h x ∧ x < h.size) :
    BackS G.l R p e below (s.setVm vm0) args y len W (fun A a => a = as' ∧ A.U.heap = h ∧ A.cells + rm.cells ≤ R.cells ∧ A.slots + rm.slots ≤ R.slots)
      (fun A _ v B => ∃ L, (Qc v B.U.heap (fun x => Safe G.Z G.EL B.U.vm B.U.heap x ∧ x < B.U.heap.size) ∧ Fr G.Z.heap.size L ∧ Ext G.Z.heap B.U.heap) ∧ B.locs = A.locs ++ L ∧ B.cells = A.cells + rm.cells ∧ B.slots = A.slots + rm.slots ∧ CHr G.Z G.EL vm0 h B.U.vm B.U.heap) := by
  refine BackS.of_freeW (bytes := bytes) (maxL := maxL) (ret := ret) (E := fun _ first o t L k n => k = rm.cells ∧ n = rm.slots ∧ (∃ v, o = .returned v ∧ Qc v t.heap (fun x => Safe G.Z G.EL t.vm t.heap x ∧ x < t.heap.size) ∧ Fr G.Z.heap.size L ∧ Ext G.Z.heap t.heap) ∧ CHr G.Z G.EL first.vm first.heap t.vm t.heap) C hf hl ?_ ?_ ?_ ?_ ?_
  · intro m meth c A a Y hp
    have hU : G.Z.Warmed39 A.U.vm := wtrans (s := s.setVm vm0) hZ Y.warmed
    refine ⟨?_, mv hU wc, mv hU wz, hp.2.2.1, hp.2.2.2⟩
    show (Jvm.Cond.and _ .tt).before a A.U = true
    rw [Cond.before_and, mv hU wc]; rfl
  · intro m meth c A a g mk Y hp
    have A1 := CHv.at Y hZ hEL H
    exact ⟨hp.1, wtrans (s := s.setVm vm0) hZ Y.warmed, hp.2.1, A1.1, hE, fun x hx => ⟨A1.safe (hs x hx).2 (hs x hx).1, (hs x hx).2⟩⟩
  · intros; trivial
  · intro _ _ _ _ q
    obtain ⟨v, L, h1, h2, h3, h4⟩ := q
    exact ⟨L, _, _, h4, rfl, rfl, ⟨v, h1, h2⟩, h3⟩
  · intro m meth c A a g mk v t L k n Y hp _ _ q
    obtain ⟨e1, e2, ⟨v', e3, e4⟩, e5⟩ := q
    cases e3; subst e1 e2
    refine ⟨L, e4, rfl, rfl, rfl, (CHv.at Y hZ hEL H).trans ?_⟩
    rw [← hp.2.1]; exact e5
/-- the room that a call asks of its maker -/
def rok (R : Room) (rest : List Value) (maxL : Nat) (rm : Room) (cells slots : Nat) : Bool :=
  Nat.ble (rm.frames + 1) R.frames && (Nat.ble ((rest.map fun v => v.category).sum + (maxL + 11) + rm.locals) R.locals && (Nat.ble (cells + rm.cells) R.cells && Nat.ble (slots + rm.slots) R.slots))
theorem rok_ok {rest : List Value} {maxL : Nat} {rm : Room} (q : rok R rest maxL rm cells slots = true) : rm.frames + 1 ≤ R.frames ∧ (rest.map fun v => v.category).sum + (maxL + 11) + rm.locals ≤ R.locals ∧ cells + rm.cells ≤ R.cells ∧ slots + rm.slots ≤ R.slots := by
  simp only [rok, Bool.and_eq_true] at q
  exact ⟨Nat.le_of_ble_eq_true q.1, Nat.le_of_ble_eq_true q.2.1, Nat.le_of_ble_eq_true q.2.2.1, Nat.le_of_ble_eq_true q.2.2.2⟩
/-- behind any call: the walk goes on -/
theorem call_on {rm : Room} {Qc : Option Value → Heap → (Addr → Prop) → Prop} {pc' : Nat} {rest : List Value} {T : State} {vm0 : Vm} {k0 : Nat} {locs : List Loc} (W : Wo G B M.own M.R h sf cells slots T vm0 k0 locs)
    (call : ∃ (v : Option Value) (vm₁ : Vm) (A : Pt), (B.s.setVm vm0).WarmedH vm₁ ∧ Stand B.p G.l B.e M.R ((B.s.setVm vm0).setVm A.U.vm) B.m B.as B.bl B.mt B.c A.U A.locs A.cells A.slots ∧ (B.s.setVm vm0).Since A.U.vm A.U.heap.size ∧ T.heap.size ≤ A.U.heap.size ∧
      (∃ L, (Qc v A.U.heap (fun x => Safe G.Z G.EL A.U.vm A.U.heap x ∧ x < A.U.heap.size) ∧ Fr G.Z.heap.size L ∧ Ext G.Z.heap A.U.heap) ∧ A.locs = locs ++ L ∧ A.cells = cells + rm.cells ∧ A.slots = slots + rm.slots ∧ CHr G.Z G.EL vm0 h A.U.vm A.U.heap) ∧
      Steps B.p.tables B.e B.bl (T.setTop (mkF B.m pc Ls st)) (A.U.setTop (mkF B.m pc' Ls (v.toList ++ rest))))
    (g : ∀ (v : Option Value) (h' : Heap) (Sf : Addr → Prop), h.size ≤ h'.size → Qc v h' Sf → ∃ nw : List Addr, (∀ x ∈ nw, Sf x) ∧ Go G B M Q h' (nw ++ sf) (cells + rm.cells) (slots + rm.slots) pc' Ls (v.toList ++ rest)) : Fin G B M.R Q (T.setTop (mkF B.m pc Ls st)) := by
  obtain ⟨X, eT, hS, hk, hZ, hown, hF, hE, hC, hs⟩ := W
  obtain ⟨v, vm₁, ⟨U, L0, c0, n0⟩, -, X', hS', hgr, ⟨L, ⟨hq, hfr, hext⟩, e1, e2, e3, hC'⟩, stp⟩ := call
  dsimp only [Pt.U, Pt.locs, Pt.cells, Pt.slots] at X' hS' hgr hq hfr hext e1 e2 e3 hC' stp
  subst e1 e2 e3
  rw [eT] at hgr
  obtain ⟨nw, n1, n2⟩ := g v U.heap _ hgr hq
  refine (n2 U U.vm U.heap.size _ ⟨X', rfl, hS.trans hS' (Nat.le_trans hk hgr), Nat.le_refl _, State.Warmed39.trans (t := B.s.setVm vm0) hZ hS'.1, (hS'.1.alike.findClass _ _).trans hown, hF.app hfr, hext, hC.trans hC', fun x hx => ?_⟩).pre fun target hr => stp.trans hr
  rcases List.mem_append.mp hx with hx | hx
  · exact n1 x hx
  · exact ⟨hC'.safe (hs x hx).2 (hs x hx).1, Nat.lt_of_lt_of_le (hs x hx).2 hgr⟩
theorem go_staticN (K : Kd G B M) {k ix : Nat} {y : MethodName} {bytes : ByteArray} {maxL : Nat} {ret : Option FieldType} {rm : Room} {argsL rest : List Value} {ps : List FieldType} {rt : Option FieldType} {sf' : List Addr} {Qc : Option Value → Heap → (Addr → Prop) → Prop} (hd : M.P[k]? = some (pc, .invokestatic ix, 3))
    (w1 : Wd G (.methodLink M.own ix y)) (w2 : Wd G (.static y)) (w3 : Wd G (.initialized y.cls)) (w4 : Wd G (.code y bytes maxL ret)) (hy : y.cls ≠ "java/lang/invoke/MethodHandle" ∧ y.cls ≠ "java/lang/invoke/VarHandle") (pd : parseMethodDescriptor y.desc = some ⟨ps, rt⟩)
    (C : Ctr G [] y bytes maxL ret rm argsL.toArray h sf' Qc) (hst : st = argsL.reverse ++ rest) (hlen : argsL.length = ps.length) (hsz : Ls.size = M.maxL) (hsub : ∀ x ∈ sf', x ∈ sf) (hrm : rok M.R rest maxL rm cells slots = true)
    (g : ∀ (v : Option Value) (h' : Heap) (Sf : Addr → Prop), h.size ≤ h'.size → Qc v h' Sf → ∃ nw : List Addr, (∀ x ∈ nw, Sf x) ∧ Go G B M Q h' (nw ++ sf) (cells + rm.cells) (slots + rm.slots) (pc + 3) Ls (v.toList ++ rest)) : Go G B M Q h sf cells slots pc Ls st := by
  intro T vm0 k0 locs W
  obtain ⟨r1, r2, r3, r4⟩ := rok_ok hrm
  obtain ⟨X, eT, hS, hk, hZ, hown, hF, hE, hC, hs⟩ := id W
  subst hst
  exact call_on W (callSS X K.1 hown (mv hZ w1) (mv hZ w2) (mv hZ w3) (mv hZ w4) hy (backG (W := (rest.map fun v => v.category).sum) C hZ w4 w3 r1 r2 K.2.2.2.2.2.2 hC.1 hE (fun x hx => hs x (hsub x hx))) (g := mkF B.m pc Ls (argsL.reverse ++ rest)) rfl (hsz.trans K.2.2.1.symm) (argsL := argsL) (rest := rest) (lenOf pd hlen) rfl (by show 2 * 0 + _ ≤ _; omega) (K.dec hd) (fun vm₁ _ => ⟨rfl, eT, r3, r4⟩)) g
theorem go_static (K : Kd G B M) {k ix : Nat} {y : MethodName} {bytes : ByteArray} {maxL : Nat} {ret : Option FieldType} {rm : Room} {argsL rest : List Value} {ps : List FieldType} {rt : Option FieldType} {sf' : List Addr} {Qc : Option Value → Heap → (Addr → Prop) → Prop} (hd : M.P[k]? = some (pc, .invokestatic ix, 3))
    (w1 : Wd G (.methodLink M.own ix y)) (w2 : Wd G (.static y)) (w3 : Wd G (.initialized y.cls)) (w4 : Wd G (.code y bytes maxL ret)) (hy : y.cls ≠ "java/lang/invoke/MethodHandle" ∧ y.cls ≠ "java/lang/invoke/VarHandle") (pd : parseMethodDescriptor y.desc = some ⟨ps, rt⟩)
    (C : Ctr G [] y bytes maxL ret rm argsL.toArray h sf' Qc) (hst : st = argsL.reverse ++ rest) (hlen : argsL.length = ps.length) (hsz : Ls.size = M.maxL) (hsub : ∀ x ∈ sf', x ∈ sf) (hrm : rok M.R rest maxL rm cells slots = true)
    (g : ∀ (v : Option Value) (h' : Heap) (Sf : Addr → Prop), h.size ≤ h'.size → Qc v h' Sf → Go G B M Q h' sf (cells + rm.cells) (slots + rm.slots) (pc + 3) Ls (v.toList ++ rest)) : Go G B M Q h sf cells slots pc Ls st :=
  go_staticN K hd w1 w2 w3 w4 hy pd C hst hlen hsz hsub hrm fun v h' Sf z q => ⟨[], (fun _ u => nomatch u), g v h' Sf z q⟩
theorem go_specialN (K : Kd G B M) {k ix : Nat} {y : MethodName} {bytes : ByteArray} {maxL : Nat} {rm : Room} {a : Addr} {argsL rest : List Value} {ps : List FieldType} {rt : Option FieldType} {sf' : List Addr} {Qc : Option Value → Heap → (Addr → Prop) → Prop} (hd : M.P[k]? = some (pc, .invokespecial ix, 3)) (hy1 : y.name = "<init>")
    (w1 : Wd G (.methodLink M.own ix y)) (w2 : Wd G (.instanceMethod y)) (w3 : Wd G (.initialized y.cls)) (w4 : Wd G (.code y bytes maxL none)) (hy : y.cls ≠ "java/lang/invoke/MethodHandle" ∧ y.cls ≠ "java/lang/invoke/VarHandle") (pd : parseMethodDescriptor y.desc = some ⟨ps, rt⟩)
    (C : Ctr G [] y bytes maxL none rm (.ref a :: argsL).toArray h sf' Qc) (hst : st = argsL.reverse ++ .ref a :: rest) (hlen : argsL.length = ps.length) (hsz : Ls.size = M.maxL) (hsub : ∀ x ∈ sf', x ∈ sf) (hrm : rok M.R rest maxL rm cells slots = true)
    (g : ∀ (v : Option Value) (h' : Heap) (Sf : Addr → Prop), h.size ≤ h'.size → Qc v h' Sf → ∃ nw : List Addr, (∀ x ∈ nw, Sf x) ∧ Go G B M Q h' (nw ++ sf) (cells + rm.cells) (slots + rm.slots) (pc + 3) Ls (v.toList ++ rest)) : Go G B M Q h sf cells slots pc Ls st := by
  intro T vm0 k0 locs W
  obtain ⟨r1, r2, r3, r4⟩ := rok_ok hrm
  obtain ⟨X, eT, hS, hk, hZ, hown, hF, hE, hC, hs⟩ := id W
  subst hst
  exact call_on W (X.specialBackS K.1 hy1 hown (mv hZ w1) (mv hZ w2) (mv hZ w4) hy (backG (W := (rest.map fun v => v.category).sum) C hZ w4 w3 r1 r2 K.2.2.2.2.2.2 hC.1 hE (fun x hx => hs x (hsub x hx))) (g := mkF B.m pc Ls (argsL.reverse ++ .ref a :: rest)) rfl (hsz.trans K.2.2.1.symm) (Steps.refl _) (a := a) (argsL := argsL) (rest := rest) (lenOf pd hlen) rfl (by show 2 * 0 + _ ≤ _; omega) (K.dec hd) (fun vm₁ _ => ⟨rfl, eT, r3, r4⟩)) g
theorem go_special (K : Kd G B M) {k ix : Nat} {y : MethodName} {bytes : ByteArray} {maxL : Nat} {rm : Room} {a : Addr} {argsL rest : List Value} {ps : List FieldType} {rt : Option FieldType} {sf' : List Addr} {Qc : Option Value → Heap → (Addr → Prop) → Prop} (hd : M.P[k]? = some (pc, .invokespecial ix, 3)) (hy1 : y.name = "<init>")
    (w1 : Wd G (.methodLink M.own ix y)) (w2 : Wd G (.instanceMethod y)) (w3 : Wd G (.initialized y.cls)) (w4 : Wd G (.code y bytes maxL none)) (hy : y.cls ≠ "java/lang/invoke/MethodHandle" ∧ y.cls ≠ "java/lang/invoke/VarHandle") (pd : parseMethodDescriptor y.desc = some ⟨ps, rt⟩)
    (C : Ctr G [] y bytes maxL none rm (.ref a :: argsL).toArray h sf' Qc) (hst : st = argsL.reverse ++ .ref a :: rest) (hlen : argsL.length = ps.length) (hsz : Ls.size = M.maxL) (hsub : ∀ x ∈ sf', x ∈ sf) (hrm : rok M.R rest maxL rm cells slots = true)
    (g : ∀ (v : Option Value) (h' : Heap) (Sf : Addr → Prop), h.size ≤ h'.size → Qc v h' Sf → Go G B M Q h' sf (cells + rm.cells) (slots + rm.slots) (pc + 3) Ls (v.toList ++ rest)) : Go G B M Q h sf cells slots pc Ls st :=
  go_specialN K hd hy1 w1 w2 w3 w4 hy pd C hst hlen hsz hsub hrm fun v h' Sf z q => ⟨[], (fun _ u => nomatch u), g v h' Sf z q⟩
theorem go_virtualN (K : Kd G B M) {k ix : Nat} {y z : MethodName} {bytes : ByteArray} {maxL : Nat} {ret : Option FieldType} {rm : Room} {C : String} {a : Addr} {argsL rest : List Value} {ps : List FieldType} {rt : Option FieldType} {sf' : List Addr} {Qc : Option Value → Heap → (Addr → Prop) → Prop} (hd : M.P[k]? = some (pc, .invokevirtual ix, 3))
    (w1 : Wd G (.methodLink M.own ix y)) (w2 : Wd G (.declares y)) (w3 : Wd G (.selects C y z)) (w4 : Wd G (.instanceMethod z)) (w5 : Wd G (.initialized z.cls)) (w6 : Wd G (.code z bytes maxL ret)) (hy : y.cls ≠ "java/lang/invoke/MethodHandle" ∧ y.cls ≠ "java/lang/invoke/VarHandle") (pd : parseMethodDescriptor y.desc = some ⟨ps, rt⟩) (E : Exa G.Z h a C)
    (nf : ∀ vm0 : Vm, G.Z.Warmed39 vm0 → NotFace (B.s.setVm vm0) y)
    (Ct : Ctr G [] z bytes maxL ret rm (.ref a :: argsL).toArray h sf' Qc) (hst : st = argsL.reverse ++ .ref a :: rest) (hlen : argsL.length = ps.length) (hsz : Ls.size = M.maxL) (hsub : ∀ x ∈ sf', x ∈ sf) (hrm : rok M.R rest maxL rm cells slots = true)
    (g : ∀ (v : Option Value) (h' : Heap) (Sf : Addr → Prop), h.size ≤ h'.size → Qc v h' Sf → ∃ nw : List Addr, (∀ x ∈ nw, Sf x) ∧ Go G B M Q h' (nw ++ sf) (cells + rm.cells) (slots + rm.slots) (pc + 3) Ls (v.toList ++ rest)) : Go G B M Q h sf cells slots pc Ls st := by
  intro T vm0 k0 locs W
  obtain ⟨r1, r2, r3, r4⟩ := rok_ok hrm
  obtain ⟨X, eT, hS, hk, hZ, hown, hF, hE, hC, hs⟩ := id W
  obtain ⟨cB, kB, i1, i2, i3⟩ := isOf (s := B.s.setVm vm0) hZ eT E
  subst hst
  exact call_on W (X.virtualBackS K.1 hown (mv hZ w1) (mv hZ w2) (nf vm0 hZ) (mv hZ w3) (mv hZ w4) hy (backG (W := (rest.map fun v => v.category).sum) Ct hZ w6 w5 r1 r2 K.2.2.2.2.2.2 hC.1 hE (fun x hx => hs x (hsub x hx))) i1 i3 (g := mkF B.m pc Ls (argsL.reverse ++ .ref a :: rest)) rfl (hsz.trans K.2.2.1.symm) (Steps.refl _) (argsL := argsL) (rest := rest) (lenOf pd hlen) rfl (by show 2 * 0 + _ ≤ _; omega) (K.dec hd) (fun vm₁ _ => ⟨rfl, eT, r3, r4⟩)) g
theorem go_virtual (K : Kd G B M) {k ix : Nat} {y z : MethodName} {bytes : ByteArray} {maxL : Nat} {ret : Option FieldType} {rm : Room} {C : String} {a : Addr} {argsL rest : List Value} {ps : List FieldType} {rt : Option FieldType} {sf' : List Addr} {Qc : Option Value → Heap → (Addr → Prop) → Prop} (hd : M.P[k]? = some (pc, .invokevirtual ix, 3))
    (w1 : Wd G (.methodLink M.own ix y)) (w2 : Wd G (.declares y)) (w3 : Wd G (.selects C y z)) (w4 : Wd G (.instanceMethod z)) (w5 : Wd G (.initialized z.cls)) (w6 : Wd G (.code z bytes maxL ret)) (hy : y.cls ≠ "java/lang/invoke/MethodHandle" ∧ y.cls ≠ "java/lang/invoke/VarHandle") (pd : parseMethodDescriptor y.desc = some ⟨ps, rt⟩) (E : Exa G.Z h a C)
    (nf : ∀ vm0 : Vm, G.Z.Warmed39 vm0 → NotFace (B.s.setVm vm0) y)
    (Ct : Ctr G [] z bytes maxL ret rm (.ref a :: argsL).toArray h sf' Qc) (hst : st = argsL.reverse ++ .ref a :: rest) (hlen : argsL.length = ps.length) (hsz : Ls.size = M.maxL) (hsub : ∀ x ∈ sf', x ∈ sf) (hrm : rok M.R rest maxL rm cells slots = true)
    (g : ∀ (v : Option Value) (h' : Heap) (Sf : Addr → Prop), h.size ≤ h'.size → Qc v h' Sf → Go G B M Q h' sf (cells + rm.cells) (slots + rm.slots) (pc + 3) Ls (v.toList ++ rest)) : Go G B M Q h sf cells slots pc Ls st :=
  go_virtualN K hd w1 w2 w3 w4 w5 w6 hy pd E nf Ct hst hlen hsz hsub hrm fun v h' Sf z q => ⟨[], (fun _ u => nomatch u), g v h' Sf z q⟩
end Calls
end Jvm.OwnW
namespace Jvm.OwnW
open Sem ClassFile Op Lib Bundle Jvm.Stand Jvm.Free Jvm.LawKit Jvm.RoadKit
section Small
variable {G : Gb} {B : Cx} {M : Mt} {Q : Option Value → Heap → (Addr → Prop) → Prop} {h h0 h1 h2 : Heap} {sf : List Addr} {cells slots pc : Nat} {Ls : Array Slot} {st : List Value} {a b : Addr}
theorem Ext.rf (h : Heap) : Ext h h := ⟨Nat.le_refl _, fun _ _ q => q⟩
theorem Ext.tr (E : Ext h0 h1) (F : Ext h1 h2) : Ext h0 h2 := ⟨Nat.le_trans E.1 F.1, fun x c q => F.2 x c (E.2 x c q)⟩
theorem Ext.keepN {ws : List Addr} (E : Ext h0 h1) (K : Keep h1 h2 ws) (q : ∀ x ∈ ws, h0.size ≤ x) : Ext h0 h2 :=
  ⟨Nat.le_trans E.1 K.1, fun x c r => K.2.1 x c (E.2 x c r) fun z => absurd (Array.getElem?_eq_some_iff.mp r).1 (Nat.not_lt.mpr (q x z))⟩
theorem Ext.wrN {sl : Nat} {v : Value} (E : Ext h0 h1) (W : Wr h1 h2 a sl v) (q : h0.size ≤ a) : Ext h0 h2 := Ext.keepN E (Keep.of_wr W) (allS q all0)
theorem Ext.keep0 {ws : List Addr} (E : Ext h0 h1) : Keep h0 h1 ws := (Keep.refl h0 ws).ext E
theorem sub0 : ∀ x ∈ ([] : List Addr), x ∈ sf := fun _ q => nomatch q
theorem subS {L : List Addr} (m : a ∈ sf) (r : ∀ x ∈ L, x ∈ sf) : ∀ x ∈ a :: L, x ∈ sf := fun x q => (List.mem_cons.mp q).elim (fun u => u ▸ m) (r x)
theorem nfS {C : String} {y : MethodName} {s : State} (w : Wd G (.selects C y y)) : ∀ vm0 : Vm, G.Z.Warmed39 vm0 → NotFace (s.setVm vm0) y := fun vm0 hZ => notFace_of_selects (args := #[]) (mv (s := s.setVm vm0) hZ w)
/-- the sheet's words, the constants whose text is asked, what the String laws ask -/
def Gl (ts : List Jvm.Cond) (el : List (String × Nat)) (G : Gb) : Prop := (∀ d ∈ ts, Wd G d) ∧ G.EL = el ∧ EW G.Z G.a0 G.EL ∧ (∀ d ∈ Bundle.stringAtoms, Wd G d) ∧ ∃ z : Int32, Sta G.Z G.Z.heap "java/lang/String" "COMPACT_STRINGS" "Z" (.int z) ∧ ¬ z = 0
variable {ts : List Jvm.Cond} {es : List (String × Nat)}
theorem Gl.w (H : Gl ts es G) {d : Jvm.Cond} (k : Nat) (q : ts[k]? = some d) : Wd G d := H.1 d (List.mem_of_getElem? q)
theorem Gl.el (H : Gl ts es G) : EW G.Z G.a0 G.EL := H.2.2.1
theorem Gl.ws (H : Gl ts es G) : ∀ d ∈ Bundle.stringAtoms, Wd G d := H.2.2.2.1
theorem Gl.cs (H : Gl ts es G) : ∃ z : Int32, Sta G.Z G.Z.heap "java/lang/String" "COMPACT_STRINGS" "Z" (.int z) ∧ ¬ z = 0 := H.2.2.2.2
theorem Gl.mem (H : Gl ts es G) {p : String × Nat} (q : p ∈ es) : p ∈ G.EL := H.2.1 ▸ q
/-! ### Strings -/
def by8 (cs : List Int32) : List Value := cs.map fun c => Value.int c.toInt8.toInt32
def Lat (cs : List Int32) : Prop := cs.length ≤ 4000 ∧ ∀ c ∈ cs, ¬ c < 0 ∧ ¬ (255 : Int32) < c
def Str (G : Gb) (h : Heap) (a : Addr) (cs : List Int32) : Prop := ∃ (t : Addr) (kb : ClassId), Exa G.Z h a "java/lang/String" ∧ Fld G.Z h a "java/lang/String" "coder" "B" (.int 0) ∧ Fld G.Z h a "java/lang/String" "value" "[B" (.ref t) ∧ Arv G.Z h t kb .byte cs.length.toInt32 (by8 cs) (.int 0)
variable {cs ds : List Int32}
theorem Str.exa (S : Str G h a cs) : Exa G.Z h a "java/lang/String" := by obtain ⟨t, kb, h1, -⟩ := S; exact h1
theorem Str.lt (S : Str G h a cs) : a < h.size := S.exa.lt
theorem Str.ext (S : Str G h a cs) (E : Ext h h1) : Str G h1 a cs := by
  obtain ⟨t, kb, e1, e2, e3, e4⟩ := S
  exact ⟨t, kb, Exa.ext E e1, Fld.ext E e2, Fld.ext E e3, e4.ext E⟩
theorem by8_len : (by8 cs).length = cs.length := by simp [by8]
theorem len_nn {n : Nat} (q : n < 2 ^ 31) : ¬ n.toInt32 < 0 := by
  rw [Int32.lt_iff_toInt_lt, len_toInt q]; have : (0 : Int32).toInt = 0 := rfl
  omega
theorem len_nat {n : Nat} (q : n < 2 ^ 31) : n.toInt32.toNatClampNeg = n := by
  simp only [Int32.toNatClampNeg, len_toInt q]; rfl
theorem len_lt {i n : Nat} (hn : n < 2 ^ 31) (q : i < n) : i.toInt32 < n.toInt32 := by
  rw [Int32.lt_iff_toInt_lt, len_toInt hn, len_toInt (Nat.lt_trans q hn)]; omega
theorem len_nlt {i n : Nat} (hi : i < 2 ^ 31) (q : n ≤ i) : ¬ i.toInt32 < n.toInt32 := by
  rw [Int32.lt_iff_toInt_lt, len_toInt hi, len_toInt (Nat.lt_of_le_of_lt q hi)]; omega
theorem len_succ (i : Nat) : i.toInt32 + Int32.ofInt 1 = (i + 1).toInt32 := by
  rw [show Int32.ofInt 1 = (1 : Nat).toInt32 from rfl]
  exact (Int32.ofNat_add i 1).symm
theorem lat_lt (q : Lat cs) : cs.length < 2 ^ 31 := Nat.lt_of_le_of_lt q.1 (by decide)
/-- 'ldc' of a constant whose text is asked, as a Str -/
theorem go_ldcT (K : Kd G B M) {k ix n : Nat} {text : String} (hd : M.P[k]? = some (pc, .ldc ix, 2)) (w : Wd G (.stringLink M.own ix text)) (wS : ∀ d ∈ Bundle.stringAtoms, Wd G d) (hmem : (M.own, ix) ∈ G.EL)
    (ht : (∀ c ∈ text.toList, c.toNat < 256) ∧ text.toList.map (fun c => Value.int (Jvm.Lit.byteI c.toNat.toUInt16)) = by8 cs) (hz : cs.length < 2 ^ 31)
    (hn : Nat.ble (4 * text.toList.length) n = true) (hb : Nat.ble n 536870912 = true) (hc : Nat.ble (cells + 2) M.R.cells = true) (hl : Nat.ble (slots + (n + 4)) M.R.slots = true)
    (g : ∀ (h' : Heap) (a : Addr), Ext h h' → Str G h' a cs → Go G B M Q h' sf (cells + 2) (slots + (n + 4)) (pc + 2) Ls (.ref a :: st)) : Go G B M Q h sf cells slots pc Ls st :=
  go_ldcS K hd w wS hmem ht (len_nn hz) (by rw [len_nat hz, by8_len]) hn hb hc hl fun h' a b kb E1 e1 e2 e3 e4 _ => g h' a E1 ⟨b, kb, e1, e2, e3, e4⟩
theorem c8_lat (x : Int32) : ¬ (x &&& 255) < 0 ∧ ¬ (255 : Int32) < (x &&& 255) := by
  have q := c_and x 255 (by decide)
  simp only [Int32.lt_iff_toInt_lt]
  have e1 : (255 : Int32).toInt = 255 := by decide
  have e0 : (0 : Int32).toInt = 0 := by decide
  rw [e1] at q ⊢; rw [e0]; omega
theorem nar_c8 (x : Int32) : nar .char (x &&& 255) = x &&& 255 := i2c_mask x
theorem nar_i2c8 (x : Int32) : nar .char (x &&& 255).toUInt32.toUInt16.toUInt32.toInt32 = x &&& 255 := by rw [i2c_mask]; exact i2c_mask x
theorem i8_idem (x : Int32) : x.toInt8.toInt32.toInt8.toInt32 = x.toInt8.toInt32 := by rw [Int8.toInt8_toInt32]
theorem Arv.ty_ne {k1 k2 : ClassId} {t1 t2 : FieldType} {z1 z2 : Int32} {v1 v2 : List Value} {d1 d2 : Value} (A : Arv G.Z h a k1 t1 z1 v1 d1) (A' : Arv G.Z h b k2 t2 z2 v2 d2) (q : t1 ≠ t2) : a ≠ b := fun e => by
  subst e
  obtain ⟨c1, ⟨x1, ⟨-, kk, y1, p1, z1⟩, -⟩, -⟩ := A
  obtain ⟨c2, ⟨x2, ⟨-, kk', y2, p2, z2⟩, -⟩, -⟩ := A'
  cases x1.symm.trans x2
  cases y1.symm.trans y2
  have := z1.symm.trans z2
  injection this with _ e
  exact q e
end Small
end Jvm.OwnW
namespace Jvm.OwnW
open Sem ClassFile Op Lib Bundle Jvm.Stand Jvm.Free Jvm.LawKit Jvm.RoadKit
section Small2
variable {G : Gb} {h h1 : Heap} {a b : Addr} {cs ds : List Int32}
theorem Str.wrO {C : String} {n sl : Nat} {v : Value} (S : Str G h b cs) (E : Exa G.Z h a C) (hC : C ≠ "java/lang/String") (wi : Wd G (.instantiable C n)) (W : Wr h h1 a sl v) : Str G h1 b cs := by
  obtain ⟨t, kb, e1, e2, e3, e4⟩ := S
  have n1 : b ≠ a := fun q => (Exa.ne E e1 hC) q.symm
  have n2 : t ≠ a := (Exa.neArv E e4 wi).symm
  exact ⟨t, kb, Exa.wr W e1, Fld.other W e2 (Or.inl n1), Fld.other W e3 (Or.inl n1), e4.other W n2⟩
theorem get_map {i : Nat} (q : i < cs.length) : (cs.map Value.int).getD i (.int 0) = .int cs[i] := by
  simp [List.getD_eq_getElem?_getD, q]
theorem get_by8 {i : Nat} (q : i < cs.length) : (by8 cs).getD i (.int 0) = .int cs[i].toInt8.toInt32 := by
  simp [by8, List.getD_eq_getElem?_getD, q]
theorem set_by8 {i k : Nat} (q : i < cs.length) : (by8 (cs.take i) ++ List.replicate (k + 1) (Value.int 0)).set i (.int (nar .byte cs[i].toInt8.toInt32)) = by8 (cs.take (i + 1)) ++ List.replicate k (Value.int 0) := by
  have e : nar .byte cs[i].toInt8.toInt32 = cs[i].toInt8.toInt32 := i8_idem _
  have l : (by8 (cs.take i)).length = i := by rw [by8_len, List.length_take]; omega
  rw [e, List.set_append_right _ _ (Nat.le_of_eq l), l, Nat.sub_self, List.replicate_succ, List.set_cons_zero, List.take_succ_eq_append_getElem q]
  show _ = List.map _ (cs.take i ++ [cs[i]]) ++ _
  rw [List.map_append, List.append_assoc]
  rfl
theorem len_zero {n : Nat} (hn : n < 2 ^ 31) (q : n.toInt32 = 0) : n = 0 := by
  have e := congrArg Int32.toInt q
  rw [len_toInt hn] at e
  have : (0 : Int32).toInt = 0 := rfl
  omega
theorem len_inj {n m : Nat} (hn : n < 2 ^ 31) (hm : m < 2 ^ 31) (q : n.toInt32 = m.toInt32) : n = m := by
  have e := congrArg Int32.toInt q
  rw [len_toInt hn, len_toInt hm] at e
  omega
/-- the low byte, as signed, tells a char of 0 to 255 -/
theorem i8_inj {x y : Int32} (hx : ¬ x < 0 ∧ ¬ (255 : Int32) < x) (hy : ¬ y < 0 ∧ ¬ (255 : Int32) < y) (q : x.toInt8.toInt32 = y.toInt8.toInt32) : x = y := by
  have e := congrArg Int32.toInt q
  have a1 := c_i2b x
  have a2 := c_i2b y
  simp only [Int32.lt_iff_toInt_lt] at hx hy
  have e0 : (0 : Int32).toInt = 0 := by decide
  have e1 : (255 : Int32).toInt = 255 := by decide
  rw [e0, e1] at hx hy
  apply Int32.toInt_inj.mp
  omega
theorem by8_inj : ∀ {cs ds : List Int32}, (∀ c ∈ cs, ¬ c < 0 ∧ ¬ (255 : Int32) < c) → (∀ c ∈ ds, ¬ c < 0 ∧ ¬ (255 : Int32) < c) → by8 cs = by8 ds → cs = ds
  | [], [], _, _, _ => rfl
  | [], _ :: _, _, _, q => by cases q
  | _ :: _, [], _, _, q => by cases q
  | c :: cs, d :: ds, h1, h2, q => by
    simp only [by8, List.map_cons, List.cons.injEq, Value.int.injEq] at q
    rw [i8_inj (h1 c (List.mem_cons_self ..)) (h2 d (List.mem_cons_self ..)) q.1, by8_inj (fun x hx => h1 x (List.mem_cons_of_mem _ hx)) (fun x hx => h2 x (List.mem_cons_of_mem _ hx)) q.2]
/-- one String, one text -/
theorem Str.inj (hl : Lat cs) (hl' : Lat ds) (S : Str G h a cs) (S' : Str G h a ds) : cs = ds := by
  obtain ⟨t, kb, -, -, e3, c, A, -, z1, -, H, -⟩ := S
  obtain ⟨t', kb', -, -, f3, c', A', -, z2, -, H', -⟩ := S'
  have et : t = t' := by
    by_cases u : (Value.ref t) = .ref t'
    · exact Value.ref.inj u
    · exact absurd rfl (Fld.ne e3 f3 u)
  subst et
  cases A.1.symm.trans A'.1
  have n1 := lat_lt hl
  have n2 := lat_lt hl'
  rw [len_nat n1] at z1
  rw [len_nat n2] at z2
  refine by8_inj hl.2 hl'.2 (List.ext_getElem (by rw [by8_len, by8_len]; omega) fun i q1 q2 => ?_)
  have u1 := H i (by rw [by8_len] at q1; omega)
  have u2 := H' i (by rw [by8_len] at q1; omega)
  have := Option.some.inj (u1.symm.trans u2)
  rw [List.getD_eq_getElem?_getD, List.getD_eq_getElem?_getD, List.getElem?_eq_getElem q1, List.getElem?_eq_getElem q2] at this
  exact this
end Small2
end Jvm.OwnW
namespace Jvm.OwnW
open Sem ClassFile Op Lib Bundle Jvm.Stand Jvm.Free Jvm.LawKit Jvm.RoadKit
theorem bool_n {b : Int32} (q : b = 0 ∨ b = 1) : narrow .boolean (.int b) = .int b := by rcases q with rfl | rfl <;> rfl
theorem bool_f {b : Int32} (q : b = 0 ∨ b = 1) : fits .boolean (.int b) = true := by rcases q with rfl | rfl <;> rfl
theorem lat1 {x : Int32} (q : ¬ x < 0 ∧ ¬ (255 : Int32) < x) : Lat [x] := ⟨(by simp), fun c hc => by cases List.mem_singleton.mp hc; exact q⟩
theorem lat0 : Lat [] := ⟨(by decide), fun c hc => nomatch hc⟩
theorem latC {x : Int32} {cs : List Int32} (q : ¬ x < 0 ∧ ¬ (255 : Int32) < x) (l : Lat cs) (hn : cs.length + 1 ≤ 4000) : Lat (x :: cs) := ⟨hn, fun c hc => by
  rcases List.mem_cons.mp hc with rfl | hc
  · exact q
  · exact l.2 c hc⟩
end Jvm.OwnW
namespace Jvm.OwnW
open Sem ClassFile Op Lib Bundle Jvm.Stand Jvm.Free Jvm.LawKit Jvm.RoadKit
theorem shr0 (x : Int32) : x >>> ((0 : Int32) &&& 31) = x := by
  have e := c_ishr x 0 0 (by decide)
  apply Int32.toInt_inj.mp
  rw [e]; simp
theorem c8_id {c : Int32} (q : ¬ c < 0 ∧ ¬ (255 : Int32) < c) : c &&& 255 = c := by
  apply Int32.toInt_inj.mp
  rw [c_mask c 255 8 (by decide) (by decide)]
  simp only [Int32.lt_iff_toInt_lt] at q
  have e0 : (0 : Int32).toInt = 0 := by decide
  have e1 : (255 : Int32).toInt = 255 := by decide
  rw [e0, e1] at q
  have : ((2 ^ 8 : Nat) : Int) = 256 := by decide
  rw [this]; omega
theorem nar_id {c : Int32} (q : ¬ c < 0 ∧ ¬ (255 : Int32) < c) : nar .char c = c := by
  have e := nar_c8 c
  rw [c8_id q] at e
  exact e
theorem char_n {c : Int32} (q : ¬ c < 0 ∧ ¬ (255 : Int32) < c) : narrow .char (.int c) = .int c := congrArg Value.int (nar_id q)
theorem b8_char {c : Int32} (q : ¬ c < 0 ∧ ¬ (255 : Int32) < c) : (c.toInt8.toInt32 &&& (255 : Int32)).toUInt32.toUInt16.toUInt32.toInt32 = c := by
  rw [i2c_mask]
  apply Int32.toInt_inj.mp
  rw [c_mask _ 255 8 (by decide) (by decide)]
  have a1 := c_i2b c
  simp only [Int32.lt_iff_toInt_lt] at q
  have e0 : (0 : Int32).toInt = 0 := by decide
  have e1 : (255 : Int32).toInt = 255 := by decide
  rw [e0, e1] at q
  have : ((2 ^ 8 : Nat) : Int) = 256 := by decide
  rw [this]; omega
end Jvm.OwnW
namespace Jvm.OwnW
open Sem ClassFile Op Lib Bundle Jvm.Stand Jvm.Free Jvm.LawKit Jvm.RoadKit
theorem Str.keepO {G : Gb} {h h1 : Heap} {a b : Addr} {cs : List Int32} {C : String} {n : Nat} (S : Str G h b cs) (E : Exa G.Z h a C) (hC : C ≠ "java/lang/String") (wi : Wd G (.instantiable C n)) (K : Keep h h1 [a]) : Str G h1 b cs := by
  obtain ⟨t, kb, e1, e2, e3, e4⟩ := S
  have n1 : b ≠ a := fun q => (Exa.ne E e1 hC) q.symm
  have n2 : t ≠ a := (Exa.neArv E e4 wi).symm
  exact ⟨t, kb, e1.keep K, e2.keep K (ninS n1 nin0), e3.keep K (ninS n1 nin0), e4.keep K (ninS n2 nin0)⟩
end Jvm.OwnW
namespace Jvm.OwnW
theorem cmpL_self (x : Int64) : Jvm.Free.XT.cmpL x x = 0 := by simp [Jvm.Free.XT.cmpL]
end Jvm.OwnW
namespace Jvm.OwnW
open Sem ClassFile Op Lib Bundle Jvm.Stand Jvm.Free Jvm.LawKit Jvm.RoadKit
theorem rem3 (x : Int32) : (x &&& 3) % 3 = 0 ∨ (x &&& 3) % 3 = 1 ∨ (x &&& 3) % 3 = 2 := by
  have a := c_and x 3 (by decide)
  have b := (c_irem (x &&& 3) 3 3 (by decide)).1 a.1
  have e0 : (0 : Int32).toInt = 0 := by decide
  have e1 : (1 : Int32).toInt = 1 := by decide
  have e2 : (2 : Int32).toInt = 2 := by decide
  rcases (by omega : (x &&& 3).toInt % 3 = 0 ∨ (x &&& 3).toInt % 3 = 1 ∨ (x &&& 3).toInt % 3 = 2) with q | q | q
  · exact Or.inl (Int32.toInt_inj.mp (by rw [b, q, e0]))
  · exact Or.inr (Or.inl (Int32.toInt_inj.mp (by rw [b, q, e1])))
  · exact Or.inr (Or.inr (Int32.toInt_inj.mp (by rw [b, q, e2])))
theorem tok_fin {r kk s : Int32} {A B C : Prop} (sp : (r = 1 ∧ A ∧ B) ∨ (r = 0 ∧ ¬ (A ∧ B))) (hk : (kk = 1 ∧ C) ∨ (kk = 0 ∧ ¬ C)) (hs : (s = 1 ∧ B) ∨ (s = 0 ∧ ¬ B)) (hc : A ↔ C) : r = if kk = 0 then 0 else if s = 0 then 0 else 1 := by
  rcases hk with ⟨rfl, c⟩ | ⟨rfl, c⟩
  · rcases hs with ⟨rfl, b⟩ | ⟨rfl, b⟩
    · rcases sp with ⟨u, -⟩ | ⟨-, u⟩
      · rw [u]; simp
      · exact absurd ⟨hc.mpr c, b⟩ u
    · rcases sp with ⟨-, -, u⟩ | ⟨u, -⟩
      · exact absurd u b
      · rw [u]; simp
  · rcases sp with ⟨-, u, -⟩ | ⟨u, -⟩
    · exact absurd (hc.mp u) c
    · rw [u]; simp
/-- the text that a maker of Strings of up to two chars makes -/
def Mk2 (n c0 c1 : Int32) (cs : List Int32) : Prop := (n = 0 ∧ cs = []) ∨ (¬ n = 0 ∧ n = 1 ∧ cs = [c0]) ∨ (¬ n = 0 ∧ ¬ n = 1 ∧ cs = [c0, c1])
theorem Mk2.zero {c0 c1 : Int32} {cs : List Int32} (q : Mk2 0 c0 c1 cs) : cs = [] := by rcases q with ⟨-, q⟩ | ⟨q, -⟩ | ⟨q, -⟩ <;> first | exact q | exact absurd rfl q
theorem Mk2.one {c0 c1 : Int32} {cs : List Int32} (q : Mk2 1 c0 c1 cs) : cs = [c0] := by rcases q with ⟨q, -⟩ | ⟨-, -, q⟩ | ⟨-, q, -⟩ <;> first | exact q | exact absurd rfl q | exact absurd q (by decide)
theorem Mk2.two {c0 c1 : Int32} {cs : List Int32} (q : Mk2 2 c0 c1 cs) : cs = [c0, c1] := by rcases q with ⟨q, -⟩ | ⟨-, q, -⟩ | ⟨-, -, q⟩ <;> first | exact q | exact absurd q (by decide)
/-- two such texts -/
theorem Mk2.same {n m c0 c1 d0 d1 : Int32} {cs ds : List Int32} (hn : n = 0 ∨ n = 1 ∨ n = 2) (hm : m = 0 ∨ m = 1 ∨ m = 2) (q : Mk2 n c0 c1 cs) (r : Mk2 m d0 d1 ds) : cs = ds ↔ (n = m ∧ (n < 1 ∨ c0 = d0) ∧ (n < 2 ∨ c1 = d1)) := by
  rcases hn with rfl | rfl | rfl <;> rcases hm with rfl | rfl | rfl <;> (first | rw [q.zero] | rw [q.one] | rw [q.two]) <;> (first | rw [r.zero] | rw [r.one] | rw [r.two]) <;> simp
end Jvm.OwnW
namespace Jvm.OwnW
open Sem ClassFile Op Lib Bundle Jvm.Stand Jvm.Free Jvm.LawKit Jvm.RoadKit
theorem nar_ii {c : Int32} (q : ¬ c < 0 ∧ ¬ (255 : Int32) < c) : nar .char c.toUInt32.toUInt16.toUInt32.toInt32 = c := by
  have e : c.toUInt32.toUInt16.toUInt32.toInt32 = c := nar_id q
  rw [e]; exact nar_id q
theorem x8_lat (x y : Int32) : ¬ ((x &&& 255) ^^^ (y &&& 255)) < 0 ∧ ¬ (255 : Int32) < ((x &&& 255) ^^^ (y &&& 255)) := by
  have e : (x &&& 255) ^^^ (y &&& 255) = (x ^^^ y) &&& 255 := by
    apply Int32.toBitVec_inj.mp
    simp only [Int32.toBitVec_xor, Int32.toBitVec_and]
    apply BitVec.eq_of_getLsbD_eq
    intro i hi
    simp only [BitVec.getLsbD_and, BitVec.getLsbD_xor]
    cases x.toBitVec.getLsbD i <;> cases y.toBitVec.getLsbD i <;> cases (255 : Int32).toBitVec.getLsbD i <;> rfl
  rw [e]; exact c8_lat _
/-- a class under Object alone can't be cast to another one that is no interface -/
theorem noCast {G : Gb} {C O K : String} {n : Nat} (w : Wd G (.superclass C O)) (w0 : Wd G (.noSuperclass O)) (wi : Wd G (.instantiable K n)) (h1 : C ≠ K) (h2 : O ≠ K) : ∃ c t, G.Z.vm.findClass C = some c ∧ G.Z.vm.findClass K = some t ∧ G.Z.vm.assignable c t = false := by
  obtain ⟨c, hc⟩ := found_sup w
  obtain ⟨p, k, kp, a1, a2, a3, a4, a5, -, a7⟩ := Cond.superclass_spec hc w
  obtain ⟨o, ko, b1, b2, b3, -, -⟩ := Cond.noSuperclass_spec w0
  cases b1.symm.trans a1
  obtain ⟨t, kt, c1, c2, c3, c4, c5, -⟩ := Cond.instantiable_spec wi
  have n1 := ids_ne hc c1 h1
  have n2 := ids_ne b1 c1 h2
  have c4' := (Bool.or_eq_false_iff.mp c4).1
  refine ⟨c, t, hc, c1, ?_⟩
  show G.Z.vm.assignableAux (255 + 1) c t = false
  simp [Vm.assignableAux, n1, a2, c2, a5, c3, c4', Vm.isSubclass, Vm.isSubclassAux, a4]
  generalize G.Z.vm.classes.size = f
  cases f <;> simp [Vm.isSubclassAux, n2, b2, b3]
end Jvm.OwnW
namespace Jvm.OwnW
open Jvm.RoadKit
theorem fld_apart {args : Array Value} {s : State} {t u : Term} {C n d : String} {a b : Addr} {i j : Value} (e1 : t.eval args s none [] s = some (.ref a)) (e2 : u.eval args s none [] s = some (.ref b)) (f1 : (Term.field t C n d).eval args s none [] s = some i) (f2 : (Term.field u C n d).eval args s none [] s = some j) (q : i ≠ j) : a ≠ b := fun e => by
  subst e
  rw [fld_at e1] at f1
  rw [fld_at e2] at f2
  exact q (Option.some.inj (f1.symm.trans f2))
end Jvm.OwnW
namespace Jvm.OwnW
open Sem ClassFile Op Lib Bundle Jvm.Stand Jvm.Free Jvm.LawKit Jvm.RoadKit
section More
variable {G : Gb} {B : Cx} {M : Mt} {R : Room} {Q : Option Value → Heap → (Addr → Prop) → Prop} {h : Heap} {sf : List Addr} {cells slots pc : Nat} {Ls : Array Slot} {st : List Value}
theorem sameM {y z : MethodName} {C : String} (wd : Wd G (.declares y)) (ws : Wd G (.selects C z z)) (hc : y.cls = z.cls) (hy : y.cls ≠ "java/lang/invoke/MethodHandle" ∧ y.cls ≠ "java/lang/invoke/VarHandle") : Wd G (.sameMethod y.cls y.cls y.name y.desc) := by
  obtain ⟨r0, r, hn, -⟩ := Cond.declares_spec wd
  obtain ⟨c2, r2, m2, q1, q2, q3, q4, kP, hkP, hkPi⟩ := Cond.selects_spec ws
  have e1 := findClass_of_methodNamed hn
  have e2 := findClass_of_methodNamed q3
  rw [← hc] at e2
  have e3 : m2.cls = r0.cls := Option.some.inj (e2.symm.trans e1)
  have e4 := State.methodFound?_of_named hn hy
  have e5 : G.Z.methodNamed? ⟨y.cls, y.name, y.desc⟩ = some r0 := hn
  rw [e3] at hkP
  show (Jvm.Cond.sameMethod y.cls y.cls y.name y.desc).before G.a0 G.Z = true
  simp [Cond.before, Cond.holds, Cond.value, e1, e4, e5, hkP, hkPi]
/-- a method's class is no interface, told by another method of it -/
theorem nfO {C : String} {y z : MethodName} {s : State} (w : Wd G (.selects C z z)) (hc : y.cls = z.cls) : ∀ vm0 : Vm, G.Z.Warmed39 vm0 → NotFace (s.setVm vm0) y := fun vm0 hZ r0 h0 => by
  obtain ⟨c2, r2, m2, q1, q2, q3, q4, kP, hkP, hkPi⟩ := Cond.selects_spec (mv (s := s.setVm vm0) (args := #[]) hZ w)
  have e1 := findClass_of_methodNamed h0
  have e2 := findClass_of_methodNamed q3
  rw [hc] at e1
  have e3 : m2.cls = r0.cls := Option.some.inj (e2.symm.trans e1)
  exact ⟨kP, by rw [← e3]; exact hkP, hkPi⟩
theorem go_superN (K : Kd G B M) {k ix : Nat} {y : MethodName} {bytes : ByteArray} {maxL : Nat} {ret : Option FieldType} {rm : Room} {C : String} {a : Addr} {argsL rest : List Value} {ps : List FieldType} {rt : Option FieldType} {sf' : List Addr} {Qc : Option Value → Heap → (Addr → Prop) → Prop} (hd : M.P[k]? = some (pc, .invokespecial ix, 3))
    (w1 : Wd G (.methodLink M.own ix y)) (w2 : Wd G (.sameMethod y.cls y.cls y.name y.desc)) (w3 : Wd G (.instanceMethod y)) (w4 : Wd G (.superclass M.own y.cls)) (w5 : Wd G (.initialized y.cls)) (w6 : Wd G (.code y bytes maxL ret)) (hn : y.name ≠ "<init>") (pd : parseMethodDescriptor y.desc = some ⟨ps, rt⟩) (E : Exa G.Z h a C)
    (Ct : Ctr G [] y bytes maxL ret rm (.ref a :: argsL).toArray h sf' Qc) (hst : st = argsL.reverse ++ .ref a :: rest) (hlen : argsL.length = ps.length) (hsz : Ls.size = M.maxL) (hsub : ∀ x ∈ sf', x ∈ sf) (hrm : rok M.R rest maxL rm cells slots = true)
    (g : ∀ (v : Option Value) (h' : Heap) (Sf : Addr → Prop), h.size ≤ h'.size → Qc v h' Sf → ∃ nw : List Addr, (∀ x ∈ nw, Sf x) ∧ Go G B M Q h' (nw ++ sf) (cells + rm.cells) (slots + rm.slots) (pc + 3) Ls (v.toList ++ rest)) : Go G B M Q h sf cells slots pc Ls st := by
  intro T vm0 k0 locs W
  obtain ⟨r1, r2, r3, r4⟩ := rok_ok hrm
  obtain ⟨X, eT, hS, hk, hZ, hown, hF, hE, hC, hs⟩ := id W
  subst hst
  exact call_on W (superBackS X K.1 hZ hown w1 w2 w3 w4 hn (backG (W := (rest.map fun v => v.category).sum) Ct hZ w6 w5 r1 r2 K.2.2.2.2.2.2 hC.1 hE (fun x hx => hs x (hsub x hx))) eT (Ins.self E) (g := mkF B.m pc Ls (argsL.reverse ++ .ref a :: rest)) rfl (hsz.trans K.2.2.1.symm) w6 (argsL := argsL) (rest := rest) (lenOf pd hlen) rfl (by show 2 * 0 + _ ≤ _; omega) (K.dec hd) (fun vm₁ _ => ⟨rfl, eT, r3, r4⟩)) g
theorem go_super (K : Kd G B M) {k ix : Nat} {y : MethodName} {bytes : ByteArray} {maxL : Nat} {ret : Option FieldType} {rm : Room} {C : String} {a : Addr} {argsL rest : List Value} {ps : List FieldType} {rt : Option FieldType} {sf' : List Addr} {Qc : Option Value → Heap → (Addr → Prop) → Prop} (hd : M.P[k]? = some (pc, .invokespecial ix, 3))
    (w1 : Wd G (.methodLink M.own ix y)) (w2 : Wd G (.sameMethod y.cls y.cls y.name y.desc)) (w3 : Wd G (.instanceMethod y)) (w4 : Wd G (.superclass M.own y.cls)) (w5 : Wd G (.initialized y.cls)) (w6 : Wd G (.code y bytes maxL ret)) (hn : y.name ≠ "<init>") (pd : parseMethodDescriptor y.desc = some ⟨ps, rt⟩) (E : Exa G.Z h a C)
    (Ct : Ctr G [] y bytes maxL ret rm (.ref a :: argsL).toArray h sf' Qc) (hst : st = argsL.reverse ++ .ref a :: rest) (hlen : argsL.length = ps.length) (hsz : Ls.size = M.maxL) (hsub : ∀ x ∈ sf', x ∈ sf) (hrm : rok M.R rest maxL rm cells slots = true)
    (g : ∀ (v : Option Value) (h' : Heap) (Sf : Addr → Prop), h.size ≤ h'.size → Qc v h' Sf → Go G B M Q h' sf (cells + rm.cells) (slots + rm.slots) (pc + 3) Ls (v.toList ++ rest)) : Go G B M Q h sf cells slots pc Ls st :=
  go_superN K hd w1 w2 w3 w4 w5 w6 hn pd E Ct hst hlen hsz hsub hrm fun v h' Sf z q => ⟨[], (fun _ u => nomatch u), g v h' Sf z q⟩
/-- invokevirtual of a method that the receiver's class takes as it stands, the entry's own class declaring it: private ones too -/
theorem go_virt0N (K : Kd G B M) {k ix : Nat} {y : MethodName} {bytes : ByteArray} {maxL : Nat} {ret : Option FieldType} {rm : Room} {C : String} {a : Addr} {argsL rest : List Value} {ps : List FieldType} {rt : Option FieldType} {sf' : List Addr} {Qc : Option Value → Heap → (Addr → Prop) → Prop} (hd : M.P[k]? = some (pc, .invokevirtual ix, 3))
    (w1 : Wd G (.methodLink M.own ix y)) (w3 : Wd G (.selects C y y)) (w4 : Wd G (.instanceMethod y)) (w5 : Wd G (.initialized y.cls)) (w6 : Wd G (.code y bytes maxL ret)) (hy : y.cls ≠ "java/lang/invoke/MethodHandle" ∧ y.cls ≠ "java/lang/invoke/VarHandle") (pd : parseMethodDescriptor y.desc = some ⟨ps, rt⟩) (E : Exa G.Z h a C)
    (Ct : Ctr G [] y bytes maxL ret rm (.ref a :: argsL).toArray h sf' Qc) (hst : st = argsL.reverse ++ .ref a :: rest) (hlen : argsL.length = ps.length) (hsz : Ls.size = M.maxL) (hsub : ∀ x ∈ sf', x ∈ sf) (hrm : rok M.R rest maxL rm cells slots = true)
    (g : ∀ (v : Option Value) (h' : Heap) (Sf : Addr → Prop), h.size ≤ h'.size → Qc v h' Sf → ∃ nw : List Addr, (∀ x ∈ nw, Sf x) ∧ Go G B M Q h' (nw ++ sf) (cells + rm.cells) (slots + rm.slots) (pc + 3) Ls (v.toList ++ rest)) : Go G B M Q h sf cells slots pc Ls st := by
  intro T vm0 k0 locs W
  obtain ⟨r1, r2, r3, r4⟩ := rok_ok hrm
  obtain ⟨X, eT, hS, hk, hZ, hown, hF, hE, hC, hs⟩ := id W
  obtain ⟨cB, kB, i1, i2, cellB, i3, i4, i5⟩ := isOf (s := B.s.setVm vm0) hZ eT E
  subst hst
  have v3 : (Jvm.Cond.selects C y y).before B.as (B.s.setVm vm0) = true := mv hZ w3
  have v4 : (Jvm.Cond.instanceMethod y).before B.as (B.s.setVm vm0) = true := mv hZ w4
  have v6 : (Jvm.Cond.code y bytes maxL ret).before B.as (B.s.setVm vm0) = true := mv hZ w6
  obtain ⟨mk, methM, hnamed, hmethM, hstM, habM⟩ := Cond.instanceMethod_spec v4
  obtain ⟨methM', cM, hmethM', -, -, -, -, -, -, hsigM⟩ := Cond.code_spec hnamed v6
  cases hmethM.symm.trans hmethM'
  obtain ⟨c2, r2', m2, q1, q2, q3, q4, kP, hkP, hkPi⟩ := Cond.selects_spec v3
  cases i1.symm.trans q1
  cases (State.methodFound?_of_named hnamed hy).symm.trans q2
  cases hnamed.symm.trans q3
  have hselP : selectMethod B.e.platform (B.s.setVm vm0).vm cellB.cls mk = .method mk := by rw [Launch.admits_selectMethod X.admits, i4]; exact q4
  have hlen' : ∀ sig, parseMethodDescriptor y.desc = some sig → argsL.length = sig.parameters.length := lenOf pd hlen
  have hK := backG (R := M.R) (p := B.p) (e := B.e) (below := B.bl) (s := B.s) (args := B.as) (len := 3) (W := (rest.map fun v => v.category).sum) Ct hZ w6 w5 r1 r2 K.2.2.2.2.2.2 hC.1 hE (fun x hx => hs x (hsub x hx))
  refine call_on W ?_ g
  obtain ⟨vm₁, X₁, hstep₁⟩ := X.invokevirtual K.1 hown (mv hZ w1) hnamed hmethM hstM hkP hkPi hy (a := a) (cell := cellB) i3 (fun z u => by rw [u] at i5; cases i5) hselP hmethM habM hkP hkPi (g := mkF B.m pc Ls (argsL.reverse ++ .ref a :: rest)) rfl (argsL := argsL) (rest := rest) (hlen' _ hsigM) rfl (K.dec hd)
  obtain ⟨v, A, X', hS', hgr, hpost, hsteps⟩ := hK B.m B.mt B.c ⟨T.setVm vm₁, locs, cells, slots⟩ { mkF B.m pc Ls (argsL.reverse ++ .ref a :: rest) with stack := rest } (.invokevirtual ix) mk (.ref a :: argsL).toArray X₁ rfl (hsz.trans K.2.2.1.symm) (K.dec hd) (by show 2 * 0 + (rest.map fun v => v.category).sum ≤ _; omega) (X₁.named hnamed) ⟨rfl, eT, r3, r4⟩
  exact ⟨v, vm₁, A, X₁.warmed, X', hS', hgr, hpost, (hstep₁ _ fun acts => by rw [doInvoke_state]; exact Steps.refl _).trans hsteps⟩
theorem go_virt0 (K : Kd G B M) {k ix : Nat} {y : MethodName} {bytes : ByteArray} {maxL : Nat} {ret : Option FieldType} {rm : Room} {C : String} {a : Addr} {argsL rest : List Value} {ps : List FieldType} {rt : Option FieldType} {sf' : List Addr} {Qc : Option Value → Heap → (Addr → Prop) → Prop} (hd : M.P[k]? = some (pc, .invokevirtual ix, 3))
    (w1 : Wd G (.methodLink M.own ix y)) (w3 : Wd G (.selects C y y)) (w4 : Wd G (.instanceMethod y)) (w5 : Wd G (.initialized y.cls)) (w6 : Wd G (.code y bytes maxL ret)) (hy : y.cls ≠ "java/lang/invoke/MethodHandle" ∧ y.cls ≠ "java/lang/invoke/VarHandle") (pd : parseMethodDescriptor y.desc = some ⟨ps, rt⟩) (E : Exa G.Z h a C)
    (Ct : Ctr G [] y bytes maxL ret rm (.ref a :: argsL).toArray h sf' Qc) (hst : st = argsL.reverse ++ .ref a :: rest) (hlen : argsL.length = ps.length) (hsz : Ls.size = M.maxL) (hsub : ∀ x ∈ sf', x ∈ sf) (hrm : rok M.R rest maxL rm cells slots = true)
    (g : ∀ (v : Option Value) (h' : Heap) (Sf : Addr → Prop), h.size ≤ h'.size → Qc v h' Sf → Go G B M Q h' sf (cells + rm.cells) (slots + rm.slots) (pc + 3) Ls (v.toList ++ rest)) : Go G B M Q h sf cells slots pc Ls st :=
  go_virt0N K hd w1 w3 w4 w5 w6 hy pd E Ct hst hlen hsz hsub hrm fun v h' Sf z q => ⟨[], (fun _ u => nomatch u), g v h' Sf z q⟩
/-- System.arraycopy between arrays of one primitive kind -/
theorem go_arraycopy (K : Kd G B M) {k ix : Nat} {a b : Addr} {kA kB : ClassId} {ty : FieldType} {z z' sp dp nn : Int32} {vs vd us : List Value} {dv dd : Value} (hd : M.P[k]? = some (pc, .invokestatic ix, 3))
    (w1 : Wd G (.methodLink M.own ix Jvm.Stand.acN)) (w2 : Wd G (.native Jvm.Stand.acN)) (w3 : Wd G (.static Jvm.Stand.acN)) (w4 : Wd G (.initialized "java/lang/System")) (A : Arv G.Z h a kA ty z vs dv) (A' : Arv G.Z h b kB ty z' vd dd) (hp : refKind ty = false)
    (h1 : ¬ sp < 0) (h2 : ¬ dp < 0) (h3 : ¬ nn < 0) (h4 : sp.toNatClampNeg + nn.toNatClampNeg ≤ z.toNatClampNeg) (h5 : dp.toNatClampNeg + nn.toNatClampNeg ≤ z'.toNatClampNeg)
    (hus : us = (List.range nn.toNatClampNeg).map fun i => vs.getD (sp.toNatClampNeg + i) dv) (hl : dp.toNatClampNeg + nn.toNatClampNeg ≤ vd.length) (ge : G.Z.heap.size ≤ b) (hsf : b ∈ sf ∨ ty ≠ .byte) (hsz : Ls.size = M.maxL)
    (hf : Nat.ble 1 M.R.frames = true) (hlo : Nat.ble ((st.map fun v => v.category).sum + (nativeFrameWords "java/lang/System" "arraycopy" 5 + 11)) M.R.locals = true)
    (g : ∀ h' : Heap, Keep h h' [b] → Arv G.Z h' b kB ty z' (vd.take dp.toNatClampNeg ++ us ++ vd.drop (dp.toNatClampNeg + nn.toNatClampNeg)) dd → Go G B M Q h' sf cells slots (pc + 3) Ls st) : Go G B M Q h sf cells slots pc Ls (.int nn :: .int dp :: .ref b :: .int sp :: .ref a :: st) := by
  intro T vm0 k0 locs W
  obtain ⟨X, eT, hS, hk, hZ, hown, hF, hE, hC, hs⟩ := W
  have S : Safe G.Z G.EL vm0 h b := hsf.elim (fun q => (hs b q).1) (fun q => Safe.arv hZ.alike A' q)
  obtain ⟨T', h', L, X', e', N', K', A2, st'⟩ := cpA X K.1 hZ hown w1 w2 w3 w4 eT A A' (Or.inl ⟨rfl, hp⟩) h1 h2 h3 h4 h5 hus hl hF ge (g := mkF B.m pc Ls (.int nn :: .int dp :: .ref b :: .int sp :: .ref a :: st)) rfl (hsz.trans K.2.2.1.symm) rfl (K.dec hd) (Nat.le_of_ble_eq_true hf) (W := (st.map fun v => v.category).sum) (by show 2 * 0 + _ ≤ _; omega) (Nat.le_of_ble_eq_true hlo)
  have sa : ∀ x ∈ [b], Safe G.Z G.EL vm0 h x := allS S all0
  exact (g h' K' A2 T' vm0 k0 L ⟨X', e', hS, Nat.le_trans hk K'.1, hZ, hown, N', (Old.keep (n0 := G.Z.heap.size) ⟨rfl, hE⟩ K' (allS ge all0)).2, hC.trans (CHr.keep K' sa hC.1), fun x hx => ⟨Safe.keep K' sa hC.1 (hs x hx).1, Nat.lt_of_lt_of_le (hs x hx).2 K'.1⟩⟩).pre st'
end More
end Jvm.OwnW
namespace Jvm.OwnW
open Sem ClassFile Op Lib Bundle Jvm.Stand Jvm.Free Jvm.LawKit Jvm.RoadKit
section Bld
variable {G : Gb} {h h1 : Heap} {a t : Addr} {kb : ClassId} {cs ds : List Int32} {m : Nat}
/-- a StringBuilder a over the byte[] t of m bytes, holding the chars cs -/
def Sb (G : Gb) (h : Heap) (a t : Addr) (kb : ClassId) (cs : List Int32) (m : Nat) : Prop :=
  Exa G.Z h a "java/lang/StringBuilder" ∧ Fld G.Z h a "java/lang/AbstractStringBuilder" "value" "[B" (.ref t) ∧ Fld G.Z h a "java/lang/AbstractStringBuilder" "coder" "B" (.int 0) ∧
  Fld G.Z h a "java/lang/AbstractStringBuilder" "count" "I" (.int cs.length.toInt32) ∧ Arv G.Z h t kb .byte m.toInt32 (by8 cs ++ List.replicate (m - cs.length) (.int 0)) (.int 0) ∧ cs.length ≤ m ∧ m < 2 ^ 31
theorem Sb.ext (S : Sb G h a t kb cs m) (E : Ext h h1) : Sb G h1 a t kb cs m := by
  obtain ⟨e1, e2, e3, e4, e5, e6⟩ := S
  exact ⟨Exa.ext E e1, Fld.ext E e2, Fld.ext E e3, Fld.ext E e4, e5.ext E, e6⟩
theorem Sb.exa (S : Sb G h a t kb cs m) : Exa G.Z h a "java/lang/StringBuilder" := S.1
theorem Str.keep2 {C : String} {n : Nat} {b : Addr} (S : Str G h b cs) (E : Exa G.Z h a C) (hC : C ≠ "java/lang/String") (wi : Wd G (.instantiable C n)) (ws : Wd G (.instantiable "java/lang/String" 4)) (A : Arv G.Z h t kb .byte m.toInt32 ((by8 ds) ++ List.replicate (m - ds.length) (.int 0)) (.int 0)) (hne : ∀ u, Fld G.Z h b "java/lang/String" "value" "[B" (.ref u) → u ≠ t) (K : Keep h h1 [a, t]) : Str G h1 b cs := by
  obtain ⟨u, ku, e1, e2, e3, e4⟩ := S
  have n1 : b ≠ a := fun q => (Exa.ne E e1 hC) q.symm
  have n2 : u ≠ a := (Exa.neArv E e4 wi).symm
  have n3 : b ≠ t := Exa.neArv e1 A ws
  have n4 : u ≠ t := hne u e3
  exact ⟨u, ku, e1.keep K, e2.keep K (ninS n1 (ninS n3 nin0)), e3.keep K (ninS n1 (ninS n3 nin0)), e4.keep K (ninS n2 (ninS n4 nin0))⟩
theorem shl0 (x : Int32) : x <<< ((0 : Int32) &&& 31) = x := by
  rw [shlm (m := 1) (by decide)]; simp
theorem add_len (n k : Nat) : n.toInt32 + k.toInt32 = (n + k).toInt32 := (Int32.ofNat_add n k).symm
theorem sub_len {n k : Nat} (q : k ≤ n) : n.toInt32 - k.toInt32 = (n - k).toInt32 := by
  have e := add_len (n - k) k
  rw [Nat.sub_add_cancel q] at e
  rw [← e, Int32.add_sub_cancel]
theorem le_len {n k : Nat} (hk : k < 2 ^ 31) (q : n ≤ k) : ¬ 0 < n.toInt32 - k.toInt32 := by
  have h1 := len_toInt (Nat.lt_of_le_of_lt q hk)
  have h2 := len_toInt hk
  have h3 := c_isub n.toInt32 k.toInt32
  have h4 := rng32 (n.toInt32 - k.toInt32)
  rw [h1, h2] at h3
  rw [Int32.lt_iff_toInt_lt]
  have e0 : (0 : Int32).toInt = 0 := rfl
  rw [e0]; omega
theorem len_ge {p q : Nat} (hp : p < 2 ^ 31) (hq : q < 2 ^ 31) (h : q ≤ p) (u : ¬ q.toInt32 < p.toInt32) : p.toInt32 = q.toInt32 := by
  rcases Nat.lt_or_ge q p with v | v
  · exact absurd (len_lt hp v) u
  · rw [Nat.le_antisymm v h]
theorem map_range {vs : List Value} {d : Value} {i n : Nat} (q : i + n ≤ vs.length) : (List.range n).map (fun k => vs.getD (i + k) d) = (vs.drop i).take n := by
  apply List.ext_getElem
  · simp; omega
  · intro j p1 p2
    have hj : i + j < vs.length := by simp at p1; omega
    simp [List.getD_eq_getElem?_getD, hj]
theorem by8_app : by8 (cs ++ ds) = by8 cs ++ by8 ds := by simp [by8]
theorem by8_take {n : Nat} : by8 (cs.take n) = (by8 cs).take n := by simp [by8, List.map_take]
theorem by8_drop {n : Nat} : by8 (cs.drop n) = (by8 cs).drop n := by simp [by8, List.map_drop]
/-- the chars ds put behind cs -/
theorem sb_put (q : cs.length + ds.length ≤ m) : (by8 cs ++ List.replicate (m - cs.length) (Value.int 0)).take cs.length ++ by8 ds ++ (by8 cs ++ List.replicate (m - cs.length) (Value.int 0)).drop (cs.length + ds.length) = by8 (cs ++ ds) ++ List.replicate (m - (cs ++ ds).length) (Value.int 0) := by
  have l : (by8 cs).length = cs.length := by8_len
  rw [List.take_append_of_le_length (by omega), List.take_of_length_le (by omega), List.drop_append, List.drop_of_length_le (by omega), List.nil_append, l, by8_app, List.length_append]
  congr 1
  rw [List.drop_replicate]
  congr 1
  omega
end Bld
end Jvm.OwnW
namespace Jvm.OwnW
open Sem ClassFile Op Lib Bundle Jvm.Stand Jvm.Free Jvm.LawKit Jvm.RoadKit
section More
variable {G : Gb} {B : Cx} {M : Mt} {Q : Option Value → Heap → (Addr → Prop) → Prop} {h : Heap} {sf : List Addr} {cells slots pc : Nat} {Ls : Array Slot} {st : List Value}
/-- 'getfield' over an entry that is resolved -/
theorem go_getfieldR (K : Kd G B M) {k ix : Nat} {O n d : String} {a : Addr} {v : Value} (hd : M.P[k]? = some (pc, .getfield ix, 3)) (w : Wd G (.fieldRef M.own ix O n d)) (F : Fld G.Z h a O n d v)
    (g : Go G B M Q h sf cells slots (pc + 3) Ls (v :: st)) : Go G B M Q h sf cells slots pc Ls (.ref a :: st) := by
  intro T vm0 k0 locs W
  obtain ⟨X, eT, hS, hk, hZ, hown, hF, hE, hC, hs⟩ := W
  have hW : G.Z.Warmed39 T.vm := wtrans hZ X.warmed
  have w' := Cond.fieldRef_warmed39 hW w
  have hcur : T.vm.findClass M.own = some B.m.cls := by
    rw [X.warmed.alike.findClass]; exact hown
  obtain ⟨c, k1, i, f, hi, hr⟩ := Cond.fieldRef_spec (cur := B.m.cls) (s := G.Z.setVm T.vm) hcur w'
  obtain ⟨cell, cf, k2, i2, f2, h1, h2, h3, h4, -, -, h7⟩ := F
  obtain ⟨k', hi', -⟩ := State.fieldFound?_setVm (s := G.Z) hW.alike h2
  cases hi.symm.trans hi'
  refine (g T vm0 k0 locs ⟨X, eT, hS, hk, hZ, hown, hF, hE, hC, hs⟩).pre (fun target hrest => ?_)
  have hd' := K.dec hd
  jvm_step X.here [K.1, hd', getfield.wp_ready (e := B.e) (s := T) (f := mkF B.m pc Ls (.ref a :: st)) X.here.top hr h3 rfl (show T.heap[a]? = some cell by rw [eT]; exact h1) h4 h7]
  exact hrest
/-- invokeinterface; the entry's own interface declares the method -/
theorem go_interfaceN (K : Kd G B M) {k ix cnt : Nat} {xi y : MethodName} {bytes : ByteArray} {maxL : Nat} {ret : Option FieldType} {rm : Room} {C : String} {a : Addr} {argsL rest : List Value} {ps : List FieldType} {rt : Option FieldType} {sf' : List Addr} {Qc : Option Value → Heap → (Addr → Prop) → Prop} (hd : M.P[k]? = some (pc, .invokeinterface ix cnt, 5))
    (w1 : Wd G (.methodLink M.own ix xi)) (w2 : Wd G (.declares xi)) (w3 : Wd G (.interfaceMethod xi.cls xi.cls xi.name xi.desc)) (w4 : Wd G (.selects C xi y)) (w5 : Wd G (.instanceMethod y)) (w6 : Wd G (.publicMethod y)) (w7 : Wd G (.unhidden C xi.name xi.desc)) (w8 : Wd G (.castable C xi.cls)) (w9 : Wd G (.initialized y.cls)) (w10 : Wd G (.code y bytes maxL ret)) (hfa : ((Jvm.Cond.interfaceMethod xi.cls xi.cls xi.name xi.desc).onTables && (Jvm.Cond.interfaceMethod xi.cls xi.cls xi.name xi.desc).keepsFace) = true)
    (hy : xi.cls ≠ "java/lang/invoke/MethodHandle" ∧ xi.cls ≠ "java/lang/invoke/VarHandle") (pd : parseMethodDescriptor xi.desc = some ⟨ps, rt⟩) (E : Exa G.Z h a C)
    (Ct : Ctr G [] y bytes maxL ret rm (.ref a :: argsL).toArray h sf' Qc) (hst : st = argsL.reverse ++ .ref a :: rest) (hlen : argsL.length = ps.length) (hsz : Ls.size = M.maxL) (hsub : ∀ x ∈ sf', x ∈ sf) (hrm : rok M.R rest maxL rm cells slots = true)
    (g : ∀ (v : Option Value) (h' : Heap) (Sf : Addr → Prop), h.size ≤ h'.size → Qc v h' Sf → ∃ nw : List Addr, (∀ x ∈ nw, Sf x) ∧ Go G B M Q h' (nw ++ sf) (cells + rm.cells) (slots + rm.slots) (pc + 5) Ls (v.toList ++ rest)) : Go G B M Q h sf cells slots pc Ls st := by
  intro T vm0 k0 locs W
  obtain ⟨r1, r2, r3, r4⟩ := rok_ok hrm
  obtain ⟨X, eT, hS, hk, hZ, hown, hF, hE, hC, hs⟩ := id W
  obtain ⟨cB, kB, i1, i2, i3⟩ := isOf (s := B.s.setVm vm0) hZ eT E
  subst hst
  exact call_on W (X.interfaceBackS K.1 hown (mv hZ w1) (mv hZ w2) (mv hZ w3 hfa) (mv hZ w4) (mv hZ w5) (mv hZ w6) (mv hZ w7) (mv hZ w8) hy (backG (W := (rest.map fun v => v.category).sum) Ct hZ w10 w9 r1 r2 K.2.2.2.2.2.2 hC.1 hE (fun x hx => hs x (hsub x hx))) i1 i2 i3 (g := mkF B.m pc Ls (argsL.reverse ++ .ref a :: rest)) rfl (hsz.trans K.2.2.1.symm) (Steps.refl _) (argsL := argsL) (rest := rest) (lenOf pd hlen) rfl (by show 2 * 0 + _ ≤ _; omega) (K.dec hd) (fun vm₁ _ => ⟨rfl, eT, r3, r4⟩)) g
theorem go_interface (K : Kd G B M) {k ix cnt : Nat} {xi y : MethodName} {bytes : ByteArray} {maxL : Nat} {ret : Option FieldType} {rm : Room} {C : String} {a : Addr} {argsL rest : List Value} {ps : List FieldType} {rt : Option FieldType} {sf' : List Addr} {Qc : Option Value → Heap → (Addr → Prop) → Prop} (hd : M.P[k]? = some (pc, .invokeinterface ix cnt, 5))
    (w1 : Wd G (.methodLink M.own ix xi)) (w2 : Wd G (.declares xi)) (w3 : Wd G (.interfaceMethod xi.cls xi.cls xi.name xi.desc)) (w4 : Wd G (.selects C xi y)) (w5 : Wd G (.instanceMethod y)) (w6 : Wd G (.publicMethod y)) (w7 : Wd G (.unhidden C xi.name xi.desc)) (w8 : Wd G (.castable C xi.cls)) (w9 : Wd G (.initialized y.cls)) (w10 : Wd G (.code y bytes maxL ret)) (hfa : ((Jvm.Cond.interfaceMethod xi.cls xi.cls xi.name xi.desc).onTables && (Jvm.Cond.interfaceMethod xi.cls xi.cls xi.name xi.desc).keepsFace) = true)
    (hy : xi.cls ≠ "java/lang/invoke/MethodHandle" ∧ xi.cls ≠ "java/lang/invoke/VarHandle") (pd : parseMethodDescriptor xi.desc = some ⟨ps, rt⟩) (E : Exa G.Z h a C)
    (Ct : Ctr G [] y bytes maxL ret rm (.ref a :: argsL).toArray h sf' Qc) (hst : st = argsL.reverse ++ .ref a :: rest) (hlen : argsL.length = ps.length) (hsz : Ls.size = M.maxL) (hsub : ∀ x ∈ sf', x ∈ sf) (hrm : rok M.R rest maxL rm cells slots = true)
    (g : ∀ (v : Option Value) (h' : Heap) (Sf : Addr → Prop), h.size ≤ h'.size → Qc v h' Sf → Go G B M Q h' sf (cells + rm.cells) (slots + rm.slots) (pc + 5) Ls (v.toList ++ rest)) : Go G B M Q h sf cells slots pc Ls st :=
  go_interfaceN K hd w1 w2 w3 w4 w5 w6 w7 w8 w9 w10 hfa hy pd E Ct hst hlen hsz hsub hrm fun v h' Sf z q => ⟨[], (fun _ u => nomatch u), g v h' Sf z q⟩
end More
theorem lt_len {i n : Nat} (hn : n < 2 ^ 31) (hi : i < 2 ^ 31) (q : i.toInt32 < n.toInt32) : i < n := by
  rcases Nat.lt_or_ge i n with u | u
  · exact u
  · exact absurd q (len_nlt hi u)
theorem lat_app {cs ds : List Int32} (p : Lat cs) (q : Lat ds) (hn : cs.length + ds.length ≤ 4000) : Lat (cs ++ ds) :=
  ⟨by rw [List.length_append]; exact hn, fun c hc => (List.mem_append.mp hc).elim (p.2 c) (q.2 c)⟩
theorem out_len (n k : Nat) : (n + (k + 1)).toInt32 = n.toInt32 + 1 + k.toInt32 := by
  rw [show n.toInt32 + 1 = (n + 1).toInt32 from add_len n 1, add_len]
  congr 1
  omega
theorem and3 (x : Int32) : x &&& 3 = 0 ∨ x &&& 3 = 1 ∨ x &&& 3 = 2 ∨ x &&& 3 = 3 := by
  have q := c_and x 3 (by decide)
  have h1 := rng32 (x &&& 3)
  have e3 : (3 : Int32).toInt = 3 := by decide
  rw [e3] at q
  have h2 : (x &&& 3).toInt = 0 ∨ (x &&& 3).toInt = 1 ∨ (x &&& 3).toInt = 2 ∨ (x &&& 3).toInt = 3 := by omega
  rcases h2 with u | u | u | u
  · exact Or.inl (Int32.toInt_inj.mp (u.trans (by decide)))
  · exact Or.inr (Or.inl (Int32.toInt_inj.mp (u.trans (by decide))))
  · exact Or.inr (Or.inr (Or.inl (Int32.toInt_inj.mp (u.trans (by decide)))))
  · exact Or.inr (Or.inr (Or.inr (Int32.toInt_inj.mp (u.trans (by decide)))))
end Jvm.OwnW
namespace Jvm.OwnW
open Sem ClassFile Op Lib Bundle Jvm.Stand Jvm.Free Jvm.LawKit Jvm.RoadKit
theorem len_small {s : State} {args : Array Value} {t : Term} {x : Addr} {cl : Cell} {v : Value} (ht : t.eval args s none [] s = some (.ref x)) (ha : s.arrayAt? x = some cl) (hl : (Term.length t).eval args s none [] s = some v) : cl.slots.size < 2 ^ 31 :=
  Decidable.byContradiction fun nq => by simp [Term.eval, ht, ha, nq] at hl
/-- a String that stands in the heap at the start, as a sheet's words say it -/
theorem str_start {G : Gb} {args : Array Value} {t : Term} {a : Addr} {cs : List Int32} (hf : Fit G.Z) (ev : t.eval args G.Z none [] G.Z = some (.ref a)) (hx : (Cond.exactly t "java/lang/String").value args G.Z none G.Z [] = some true)
    (hA : (Cond.arrayOf (.field t "java/lang/String" "value" "[B") .byte).value args G.Z none G.Z [] = some true) (hl : (Term.length (.field t "java/lang/String" "value" "[B")).eval args G.Z none [] G.Z = some (.int cs.length.toInt32))
    (hc : (Term.field t "java/lang/String" "coder" "B").eval args G.Z none [] G.Z = some (.int 0)) (hm : cs.length < 2 ^ 31)
    (he : ∀ (x : Addr) (cl : Cell), (Term.field t "java/lang/String" "value" "[B").eval args G.Z none [] G.Z = some (.ref x) → G.Z.heap[x]? = some cl → HasL cl 0 (by8 cs)) : Str G G.Z.heap a cs := by
  obtain ⟨x, ex⟩ := arr_v hA
  obtain ⟨cl, A⟩ := Arr.start ex hA
  have ha : G.Z.arrayAt? x = some cl := Arr.fin (Vm.Alike.refl _) A
  have q : cl.slots.size < 2 ^ 31 := Decidable.byContradiction fun nq => nq (len_small ex ha hl)
  have e : cl.slots.size.toInt32 = cs.length.toInt32 := by
    have u := (len_f ex ha q).symm.trans hl
    exact Value.int.inj (Option.some.inj u)
  refine ⟨x, cl.cls, Exa.start ev hx, Fld.start (by rw [← fld_at ev]; exact hc), Fld.start (by rw [← fld_at ev]; exact ex), Arv.start hf A q e (len_nn hm) (by rw [len_nat hm, by8_len]) (he x cl ex A.1)⟩
end Jvm.OwnW
namespace Jvm.OwnW
open Sem ClassFile Op Lib Bundle Jvm.Stand Jvm.Free Jvm.LawKit Jvm.RoadKit
theorem ushr1_nn (x : Int32) : 0 ≤ (XT.ushr x 1).toInt := by
  have q : (XT.ushr x 1).toInt = _ := c_iushr x 1 1 (by decide) (by decide)
  rw [q]
  exact Int.ediv_nonneg (Int.emod_nonneg _ (by decide)) (by decide)
theorem i32_eq {x : Int32} (k : Int32) (q : x.toInt = k.toInt) : x = k := Int32.toInt_inj.mp q
theorem rem4 (x : Int32) : XT.ushr x 1 % 4 = 0 ∨ XT.ushr x 1 % 4 = 1 ∨ XT.ushr x 1 % 4 = 2 ∨ XT.ushr x 1 % 4 = 3 := by
  have b := (c_irem (XT.ushr x 1) 4 4 (by decide)).1 (ushr1_nn x)
  rcases (by omega : (XT.ushr x 1).toInt % 4 = 0 ∨ (XT.ushr x 1).toInt % 4 = 1 ∨ (XT.ushr x 1).toInt % 4 = 2 ∨ (XT.ushr x 1).toInt % 4 = 3) with q | q | q | q
  · exact Or.inl (i32_eq 0 (b.trans q))
  · exact Or.inr (Or.inl (i32_eq 1 (b.trans q)))
  · exact Or.inr (Or.inr (Or.inl (i32_eq 2 (b.trans q))))
  · exact Or.inr (Or.inr (Or.inr (i32_eq 3 (b.trans q))))
theorem rem5 (x : Int32) : XT.ushr x 1 % 5 = 0 ∨ XT.ushr x 1 % 5 = 1 ∨ XT.ushr x 1 % 5 = 2 ∨ XT.ushr x 1 % 5 = 3 ∨ XT.ushr x 1 % 5 = 4 := by
  have b := (c_irem (XT.ushr x 1) 5 5 (by decide)).1 (ushr1_nn x)
  rcases (by omega : (XT.ushr x 1).toInt % 5 = 0 ∨ (XT.ushr x 1).toInt % 5 = 1 ∨ (XT.ushr x 1).toInt % 5 = 2 ∨ (XT.ushr x 1).toInt % 5 = 3 ∨ (XT.ushr x 1).toInt % 5 = 4) with q | q | q | q | q
  · exact Or.inl (i32_eq 0 (b.trans q))
  · exact Or.inr (Or.inl (i32_eq 1 (b.trans q)))
  · exact Or.inr (Or.inr (Or.inl (i32_eq 2 (b.trans q))))
  · exact Or.inr (Or.inr (Or.inr (Or.inl (i32_eq 3 (b.trans q)))))
  · exact Or.inr (Or.inr (Or.inr (Or.inr (i32_eq 4 (b.trans q)))))
end Jvm.OwnW
namespace Jvm.OwnW
open Sem ClassFile Op Lib Bundle Jvm.Stand Jvm.Free Jvm.LawKit Jvm.RoadKit
theorem url_len {us fs : List Int32} : (us ++ (35 : Int32) :: fs).length.toInt32 - fs.length.toInt32 - (1 : Int32) = us.length.toInt32 := by
  rw [sub_len (n := (us ++ (35 : Int32) :: fs).length) (k := fs.length) (by simp only [List.length_append, List.length_cons]; omega)]
  rw [show ((us ++ (35 : Int32) :: fs).length - fs.length).toInt32 - (1 : Int32) = ((us ++ (35 : Int32) :: fs).length - fs.length - 1).toInt32 from sub_len (k := 1) (by simp only [List.length_append, List.length_cons]; omega)]
  congr 1
  simp only [List.length_append, List.length_cons]
  omega
end Jvm.OwnW

namespace Jvm.Pilot.@@N@@
open Jvm Jvm.ClassFile Sem Op Lib Jvm.Free Jvm.Stand Jvm.LawKit Jvm.RoadKit Bundle Jvm.OwnW Jvm.Pilot.@@N@@.Jvm.D
abbrev els : List (String × Nat) := consts_1
theorem pd_0 : parseMethodDescriptor "([CI[BII)I" = some ⟨[(.array .char), .int, (.array .byte), .int, .int], (some .int)⟩ := by decide +kernel
theorem pd_1 : parseMethodDescriptor "([CII)[B" = some ⟨[(.array .char), .int, .int], (some (.array .byte))⟩ := by decide +kernel
theorem pd_2 : parseMethodDescriptor "([BI)B" = some ⟨[(.array .byte), .int], (some .byte)⟩ := by decide +kernel
theorem pd_3 : parseMethodDescriptor "([CIILjava/lang/Void;)V" = some ⟨[(.array .char), .int, .int, (.object "java/lang/Void")], none⟩ := by decide +kernel
theorem pd_4 : parseMethodDescriptor "(II)V" = some ⟨[.int, .int], none⟩ := by decide +kernel
theorem pd_5 : parseMethodDescriptor "(II)I" = some ⟨[.int, .int], (some .int)⟩ := by decide +kernel
theorem pd_6 : parseMethodDescriptor "([BII)[B" = some ⟨[(.array .byte), .int, .int], (some (.array .byte))⟩ := by decide +kernel
theorem pd_7 : parseMethodDescriptor "()B" = some ⟨[], (some .byte)⟩ := by decide +kernel
theorem pd_8 : parseMethodDescriptor "(Ljava/lang/String;)V" = some ⟨[(.object "java/lang/String")], none⟩ := by decide +kernel
theorem pd_9 : parseMethodDescriptor "([BIB)V" = some ⟨[(.array .byte), .int, .byte], none⟩ := by decide +kernel
theorem pd_10 : parseMethodDescriptor "()I" = some ⟨[], (some .int)⟩ := by decide +kernel
theorem pd_11 : parseMethodDescriptor "(I)V" = some ⟨[.int], none⟩ := by decide +kernel
theorem pd_12 : parseMethodDescriptor "(ILjava/lang/String;)V" = some ⟨[.int, (.object "java/lang/String")], none⟩ := by decide +kernel
theorem pd_13 : parseMethodDescriptor "(Ljava/lang/String;)Ljava/lang/AbstractStringBuilder;" = some ⟨[(.object "java/lang/String")], (some (.object "java/lang/AbstractStringBuilder"))⟩ := by decide +kernel
theorem pd_14 : parseMethodDescriptor "()[B" = some ⟨[], (some (.array .byte))⟩ := by decide +kernel
theorem pd_15 : parseMethodDescriptor "()Z" = some ⟨[], (some .boolean)⟩ := by decide +kernel
theorem pd_16 : parseMethodDescriptor "(Ljava/lang/AbstractStringBuilder;Ljava/lang/Void;)V" = some ⟨[(.object "java/lang/AbstractStringBuilder"), (.object "java/lang/Void")], none⟩ := by decide +kernel
theorem pd_17 : parseMethodDescriptor "(Ljava/lang/StringBuilder;)V" = some ⟨[(.object "java/lang/StringBuilder")], none⟩ := by decide +kernel
theorem pd_18 : parseMethodDescriptor "(IILjava/util/function/BiFunction;)I" = some ⟨[.int, .int, (.object "java/util/function/BiFunction")], (some .int)⟩ := by decide +kernel
theorem pd_19 : parseMethodDescriptor "([BI)C" = some ⟨[(.array .byte), .int], (some .char)⟩ := by decide +kernel
theorem pd_20 : parseMethodDescriptor "(Ljava/lang/Object;Ljava/lang/String;)Ljava/lang/Object;" = some ⟨[(.object "java/lang/Object"), (.object "java/lang/String")], (some (.object "java/lang/Object"))⟩ := by decide +kernel
theorem pd_21 : parseMethodDescriptor "()V" = some ⟨[], none⟩ := by decide +kernel
theorem pd_22 : parseMethodDescriptor "(Ljava/lang/String;)Ljava/lang/StringBuilder;" = some ⟨[(.object "java/lang/String")], (some (.object "java/lang/StringBuilder"))⟩ := by decide +kernel
theorem pd_23 : parseMethodDescriptor "()Ljava/lang/String;" = some ⟨[], (some (.object "java/lang/String"))⟩ := by decide +kernel
theorem pd_24 : parseMethodDescriptor "(I)C" = some ⟨[.int], (some .char)⟩ := by decide +kernel
theorem pd_25 : parseMethodDescriptor "([C)V" = some ⟨[(.array .char)], none⟩ := by decide +kernel
theorem pd_26 : parseMethodDescriptor "(Lcom/example/gentle_retry/gentleretry/rabbitmq/SubscriptionQueue$Role;Ljava/lang/String;)V" = some ⟨[(.object "com/example/gentle_retry/gentleretry/rabbitmq/SubscriptionQueue$Role"), (.object "java/lang/String")], none⟩ := by decide +kernel
theorem pd_27 : parseMethodDescriptor "(Ljava/lang/String;Ljava/lang/String;)Z" = some ⟨[(.object "java/lang/String"), (.object "java/lang/String")], (some .boolean)⟩ := by decide +kernel
theorem pn_0 : plainName "java/lang/StringUTF16" = true := by first | (simp [plainName, overriddenIn]; done) | decide +kernel
def P_cfal : List (Nat × Instr × Nat) := [(0, .iload_n 1, 1), (1, .aload_n 0, 1), (2, .arraylength, 1), (3, .isub, 1), (4, .bipush 31, 2), (6, .iushr, 1), (7, .i2b, 1), (8, .ireturn, 1)]
theorem L_cfal : ∀ q ∈ P_cfal, decode jdk_52_method_15_code q.1 = .ok q.2 := by decide +kernel
def M_cfal : Mt := (("java/lang/StringUTF16", "coderFromArrayLen", ({ frames := 0, cells := 0, slots := 0, locals := 0 } : Room)), P_cfal, 2, (some .byte))
set_option maxRecDepth 65536 in
set_option maxHeartbeats 40000000 in
theorem c_cfal {G : Gb} (H : Gl tables_1 els G) {h : Heap} {t : Addr} {kb : ClassId} {n : Int32} {vs : List Value} {dv : Value} (A : Arv G.Z h t kb .byte n vs dv) :
    Ctr G [] (⟨"java/lang/StringUTF16", "coderFromArrayLen", "([BI)B"⟩ : MethodName) jdk_52_method_15_code 2 (some .byte) ({ frames := 0, cells := 0, slots := 0, locals := 0 } : Room) #[.ref t, .int n] h [] (fun v h' Sf => v = some (.int 0) ∧ h = h') := by
  refine ctr_of M_cfal rfl rfl (plainFor_of_name pn_0) L_cfal H.el (Ls := #[.val (.ref t), .val (.int n)]) (fun m => ef_ok (by first | (simp [argsToLocals, Value.category]; done) | rfl)) ?_
  intro B K hE
  refine go_run K 0 2 (pc' := 2) (st' := [(.ref t), (.int n)]) rfl ?_
  refine go_arraylength K (k := 2) rfl A ?_
  refine go_run K 3 4 (pc' := 8) (st' := [(.int ((XT.ushr (n - n) (31 : Int32))).toInt8.toInt32)]) rfl ?_
  rw [show ((XT.ushr (n - n) (31 : Int32))).toInt8.toInt32 = (0 : Int32) from by rw [Int32.sub_self]; decide]
  refine go_ireturn K (k := 7) rfl rfl (by decide) rfl rfl rfl ?_
  intro Sf hSf
  exact ⟨rfl, rfl⟩
def P_cmp5 : List (Nat × Instr × Nat) := [(0, .iconst 0, 1), (1, .istore 5, 2), (3, .iload 5, 2), (5, .iload 4, 2), (7, .if_icmp .ge 37, 3), (10, .aload_n 0, 1), (11, .iload_n 1, 1), (12, .caload, 1), (13, .istore 6, 2), (15, .iload 6, 2), (17, .sipush 255, 3), (20, .if_icmp .le 6, 3), (23, .iload 5, 2), (25, .ireturn, 1), (26, .aload_n 2, 1), (27, .iload_n 3, 1), (28, .iload 6, 2), (30, .i2b, 1), (31, .bastore, 1), (32, .iinc 1 1, 3), (35, .iinc 3 1, 3), (38, .iinc 5 1, 3), (41, .goto (-38), 3), (44, .iload 4, 2), (46, .ireturn, 1)]
theorem L_cmp5 : ∀ q ∈ P_cmp5, decode jdk_52_method_21_code q.1 = .ok q.2 := by decide +kernel
def M_cmp5 : Mt := (("java/lang/StringUTF16", "compress", ({ frames := 0, cells := 0, slots := 0, locals := 0 } : Room)), P_cmp5, 7, (some .int))
set_option maxRecDepth 65536 in
set_option maxHeartbeats 40000000 in
theorem c_cmp5 {G : Gb} (H : Gl tables_1 els G) {h : Heap} {ca da : Addr} {kc kd : ClassId} {cs : List Int32} (hl : Lat cs) (Ac : Arv G.Z h ca kc .char cs.length.toInt32 (cs.map Value.int) (.int 0)) (Ad : Arv G.Z h da kd .byte cs.length.toInt32 (List.replicate cs.length (.int 0)) (.int 0)) (hd : G.Z.heap.size ≤ da) :
    Ctr G [] (⟨"java/lang/StringUTF16", "compress", "([CI[BII)I"⟩ : MethodName) jdk_52_method_21_code 7 (some .int) ({ frames := 0, cells := 0, slots := 0, locals := 0 } : Room) #[.ref ca, .int 0, .ref da, .int 0, .int cs.length.toInt32] h [da] (fun v h' Sf => v = some (.int cs.length.toInt32) ∧ Keep h h' [da] ∧ Arv G.Z h' da kd .byte cs.length.toInt32 (by8 cs) (.int 0)) := by
  refine ctr_of M_cmp5 rfl rfl (plainFor_of_name pn_0) L_cmp5 H.el (Ls := #[.val (.ref ca), .val (.int (0 : Int32)), .val (.ref da), .val (.int (0 : Int32)), .val (.int cs.length.toInt32), .unset, .unset]) (fun m => ef_ok (by first | (simp [argsToLocals, Value.category]; done) | rfl)) ?_
  intro B K hE
  have hlt := lat_lt hl
  refine go_run K 0 2 (pc' := 3) (Ls' := #[.val (.ref ca), .val (.int (0 : Int32)), .val (.ref da), .val (.int (0 : Int32)), .val (.int cs.length.toInt32), .val (.int (0 : Int32)), .unset]) (st' := []) rfl ?_
  have loop : ∀ (k i : Nat) (h1 : Heap) (o : Slot), i + k = cs.length → Keep h h1 [da] → Arv G.Z h1 ca kc .char cs.length.toInt32 (cs.map Value.int) (.int 0) → Arv G.Z h1 da kd .byte cs.length.toInt32 (by8 (cs.take i) ++ List.replicate k (.int 0)) (.int 0) → (o = .unset ∨ ∃ w, o = .val (.int w)) →
      Go G B M_cmp5 (fun v h' Sf => v = some (.int cs.length.toInt32) ∧ Keep h h' [da] ∧ Arv G.Z h' da kd .byte cs.length.toInt32 (by8 cs) (.int 0)) h1 [da] 0 0 3 #[.val (.ref ca), .val (.int i.toInt32), .val (.ref da), .val (.int i.toInt32), .val (.int cs.length.toInt32), .val (.int i.toInt32), o] [] := by
    intro k; induction k with
    | zero =>
      intro i h1 o hi hK Ac Ad ho
      refine go_run K 2 2 (pc' := 7) (st' := [(.int cs.length.toInt32), (.int i.toInt32)]) rfl ?_
      refine go_icmpge K (k := 4) rfl (pc' := 44) (by decide) (fun _ => ?_) (fun q => absurd q (len_nlt (by omega) (by omega)))
      refine go_run K 23 1 (pc' := 46) (st' := [(.int cs.length.toInt32)]) rfl ?_
      refine go_ireturn K (k := 24) rfl rfl (by decide) rfl rfl rfl ?_
      intro Sf hSf
      refine ⟨rfl, hK, ?_⟩
      rw [List.replicate_zero, List.append_nil, List.take_of_length_le (by omega)] at Ad
      exact Ad
    | succ k ih =>
      intro i h1 o hi hK Ac Ad ho
      have hin : i < cs.length := by omega
      have hc := hl.2 _ (List.getElem_mem hin)
      refine go_run K 2 2 (pc' := 7) (st' := [(.int cs.length.toInt32), (.int i.toInt32)]) rfl ?_
      refine go_icmpge K (k := 4) rfl (pc' := 44) (by decide) (fun q => absurd (len_lt hlt hin) q) (fun _ => ?_)
      refine go_run K 5 2 (pc' := 12) (st' := [(.int i.toInt32), (.ref ca)]) rfl ?_
      refine go_caload K (k := 7) rfl Ac ⟨len_nn (by omega), len_lt hlt hin⟩ (v := .int cs[i]) (by rw [len_nat (by omega)]; exact get_map hin) ?_
      obtain rfl | ⟨w0, rfl⟩ := ho
      all_goals
        refine go_run K 8 3 (pc' := 20) (Ls' := #[.val (.ref ca), .val (.int i.toInt32), .val (.ref da), .val (.int i.toInt32), .val (.int cs.length.toInt32), .val (.int i.toInt32), .val (.int cs[i])]) (st' := [(.int (255 : Int32)), (.int cs[i])]) rfl ?_
        refine go_icmple K (k := 11) rfl (pc' := 26) (by decide) (fun _ => ?_) (fun q => absurd q hc.2)
        refine go_run K 14 4 (pc' := 31) (st' := [(.int (cs[i]).toInt8.toInt32), (.int i.toInt32), (.ref da)]) rfl ?_
        refine go_bastore K (k := 18) rfl Ad (i := i) ⟨len_nn (by omega), len_lt hlt hin⟩ (len_nat (by omega)) (by rw [List.length_append, by8_len, List.length_take, List.length_replicate]; omega) hd (List.mem_cons_self ..) ?_
        intro h1 W2 A3
        refine go_run K 19 4 (pc' := 3) (Ls' := #[.val (.ref ca), .val (.int (i.toInt32 + Int32.ofInt 1)), .val (.ref da), .val (.int (i.toInt32 + Int32.ofInt 1)), .val (.int cs.length.toInt32), .val (.int (i.toInt32 + Int32.ofInt 1)), .val (.int cs[i])]) (st' := []) rfl ?_
        rw [len_succ i]
        refine ih (i + 1) h1 _ (by omega) (hK.wr W2 (Or.inl (List.mem_cons_self ..))) (Ac.other W2 (Arv.ty_ne Ac Ad (by decide))) ?_ (Or.inr ⟨_, rfl⟩)
        rw [set_by8 hin] at A3
        exact A3
  exact loop cs.length 0 h .unset (by omega) (Keep.refl _ _) Ac Ad (Or.inl rfl)
def P_cmp3 : List (Nat × Instr × Nat) := [(0, .iload_n 2, 1), (1, .newarray .byte, 2), (3, .astore_n 3, 1), (4, .aload_n 0, 1), (5, .iload_n 1, 1), (6, .aload_n 3, 1), (7, .iconst 0, 1), (8, .iload_n 2, 1), (9, .invokestatic 115, 3), (12, .istore 4, 2), (14, .iload 4, 2), (16, .iload_n 2, 1), (17, .if_icmp .eq 40, 3), (20, .aload_n 0, 1), (21, .iload_n 1, 1), (22, .iload_n 2, 1), (23, .invokestatic 119, 3), (26, .astore 5, 2), (28, .aload 5, 2), (30, .iload 4, 2), (32, .invokestatic 71, 3), (35, .sipush 255, 3), (38, .if_icmp .gt 16, 3), (41, .aload 5, 2), (43, .iconst 0, 1), (44, .aload_n 3, 1), (45, .iconst 0, 1), (46, .iload_n 2, 1), (47, .invokestatic 123, 3), (50, .iload_n 2, 1), (51, .if_icmp .eq 6, 3), (54, .aload 5, 2), (56, .areturn, 1), (57, .aload_n 3, 1), (58, .areturn, 1)]
theorem L_cmp3 : ∀ q ∈ P_cmp3, decode jdk_52_method_16_code q.1 = .ok q.2 := by decide +kernel
def M_cmp3 : Mt := (("java/lang/StringUTF16", "compress", ({ frames := 1, cells := 1, slots := 3, locals := 18 } : Room)), P_cmp3, 6, (some (.array .byte)))
set_option maxRecDepth 65536 in
set_option maxHeartbeats 40000000 in
theorem c_cmp3 {G : Gb} (H : Gl tables_1 els G) {h : Heap} {ca : Addr} {kc : ClassId} {cs : List Int32} (hl : Lat cs) (hcap : cs.length ≤ 3) (Ac : Arv G.Z h ca kc .char cs.length.toInt32 (cs.map Value.int) (.int 0)) :
    Ctr G [] (⟨"java/lang/StringUTF16", "compress", "([CII)[B"⟩ : MethodName) jdk_52_method_16_code 6 (some (.array .byte)) ({ frames := 1, cells := 1, slots := 3, locals := 18 } : Room) #[.ref ca, .int 0, .int cs.length.toInt32] h [] (fun v h' Sf => ∃ (t : Addr) (kb : ClassId), v = some (.ref t) ∧ Ext h h' ∧ Arv G.Z h' t kb .byte cs.length.toInt32 (by8 cs) (.int 0) ∧ G.Z.heap.size ≤ t) := by
  refine ctr_of M_cmp3 rfl rfl (plainFor_of_name pn_0) L_cmp3 H.el (Ls := #[.val (.ref ca), .val (.int (0 : Int32)), .val (.int cs.length.toInt32), .unset, .unset, .unset]) (fun m => ef_ok (by first | (simp [argsToLocals, Value.category]; done) | rfl)) ?_
  intro B K hE
  have hlt := lat_lt hl
  refine go_run K 0 1 (pc' := 1) (st' := [(.int cs.length.toInt32)]) rfl ?_
  refine go_newarray K (k := 1) rfl (H.w 7 rfl) (len_nn hlt) (cap := 3) (by rw [len_nat hlt]; exact hcap) rfl rfl rfl ?_
  intro h2 a1 k3 e4 g5 E6 A7
  have A7' : Arv G.Z h2 a1 k3 .byte cs.length.toInt32 (List.replicate cs.length (.int 0)) (.int 0) := Arv.pad A7 (pad_rep [] _ _)
  refine go_run K 2 6 (pc' := 9) (Ls' := #[.val (.ref ca), .val (.int (0 : Int32)), .val (.int cs.length.toInt32), .val (.ref a1), .unset, .unset]) (st' := [(.int cs.length.toInt32), (.int (0 : Int32)), (.ref a1), (.int (0 : Int32)), (.ref ca)]) rfl ?_
  have c8 := (Ac.ext E6)
  refine go_static K (k := 8) rfl (H.w 29 rfl) (H.w 30 rfl) (H.w 27 rfl) (H.w 31 rfl) (by decide) pd_0 (c_cmp5 (cs := cs) H hl c8 A7' g5) (argsL := [(.ref ca), (.int (0 : Int32)), (.ref a1), (.int (0 : Int32)), (.int cs.length.toInt32)]) (rest := []) rfl rfl rfl (subS (List.mem_cons_self ..) sub0) rfl ?_
  rintro _ h9 _ - ⟨rfl, K10, A11⟩
  show Go G B M_cmp3 _ h9 (a1 :: []) 1 3 12 #[.val (.ref ca), .val (.int (0 : Int32)), .val (.int cs.length.toInt32), .val (.ref a1), .unset, .unset] [(.int cs.length.toInt32)]
  refine go_run K 9 3 (pc' := 17) (Ls' := #[.val (.ref ca), .val (.int (0 : Int32)), .val (.int cs.length.toInt32), .val (.ref a1), .val (.int cs.length.toInt32), .unset]) (st' := [(.int cs.length.toInt32), (.int cs.length.toInt32)]) rfl ?_
  refine go_icmpeq K (k := 12) rfl (pc' := 57) (by decide) (fun _ => ?_) (fun q => absurd rfl q)
  refine go_run K 33 1 (pc' := 58) (st' := [(.ref a1)]) rfl ?_
  have X12 : Ext h h9 := (Ext.keepN E6 K10 (allS (Nat.le_trans (Nat.le_refl _) (Nat.le_of_eq e4.symm)) all0))
  refine go_areturn K (k := 34) rfl rfl rfl rfl rfl rfl rfl ?_
  intro Sf hSf
  exact ⟨_, _, rfl, X12, A11, g5⟩
theorem pn_1 : plainName "java/lang/String" = true := by first | (simp [plainName, overriddenIn]; done) | decide +kernel
def P_si4 : List (Nat × Instr × Nat) := [(0, .aload_n 0, 1), (1, .invokespecial 1, 3), (4, .iload_n 3, 1), (5, .ifCond .ne 22, 3), (8, .aload_n 0, 1), (9, .ldc 7, 2), (11, .getfield 9, 3), (14, .putfield 9, 3), (17, .aload_n 0, 1), (18, .ldc 7, 2), (20, .getfield 15, 3), (23, .putfield 15, 3), (26, .return_, 1), (27, .getstatic 38, 3), (30, .ifCond .eq 28, 3), (33, .aload_n 1, 1), (34, .iload_n 2, 1), (35, .iload_n 3, 1), (36, .invokestatic 177, 3), (39, .astore 5, 2), (41, .aload_n 0, 1), (42, .aload 5, 2), (44, .iload_n 3, 1), (45, .invokestatic 47, 3), (48, .putfield 15, 3), (51, .aload_n 0, 1), (52, .aload 5, 2), (54, .putfield 9, 3), (57, .return_, 1), (58, .aload_n 0, 1), (59, .iconst 1, 1), (60, .putfield 15, 3), (63, .aload_n 0, 1), (64, .aload_n 1, 1), (65, .iload_n 2, 1), (66, .iload_n 3, 1), (67, .invokestatic 180, 3), (70, .putfield 9, 3), (73, .return_, 1)]
theorem L_si4 : ∀ q ∈ P_si4, decode jdk_42_method_149_code q.1 = .ok q.2 := by decide +kernel
def M_si4 : Mt := (("java/lang/String", "<init>", ({ frames := 2, cells := 4, slots := 8, locals := 35 } : Room)), P_si4, 6, none)
set_option maxRecDepth 65536 in
set_option maxHeartbeats 40000000 in
theorem c_si4 {G : Gb} (H : Gl tables_1 els G) {h : Heap} {a ca : Addr} {kc : ClassId} {cs : List Int32} (hl : Lat cs) (hcap : cs.length ≤ 3) (E0 : Exa G.Z h a "java/lang/String") (V0 : Fld G.Z h a "java/lang/String" "value" "[B" .null) (C0 : Fld G.Z h a "java/lang/String" "coder" "B" (.int 0)) (g0 : G.Z.heap.size ≤ a) (Ac : Arv G.Z h ca kc .char cs.length.toInt32 (cs.map Value.int) (.int 0)) :
    Ctr G [] (⟨"java/lang/String", "<init>", "([CIILjava/lang/Void;)V"⟩ : MethodName) jdk_42_method_149_code 6 none ({ frames := 2, cells := 4, slots := 8, locals := 35 } : Room) #[.ref a, .ref ca, .int 0, .int cs.length.toInt32, .null] h [a] (fun v h' Sf => v = none ∧ Keep h h' [a] ∧ Str G h' a cs) := by
  refine ctr_of M_si4 rfl rfl (plainFor_of_name pn_1) L_si4 H.el (Ls := #[.val (.ref a), .val (.ref ca), .val (.int (0 : Int32)), .val (.int cs.length.toInt32), .val .null, .unset]) (fun m => ef_ok (by first | (simp [argsToLocals, Value.category]; done) | rfl)) ?_
  intro B K hE
  have hlt := lat_lt hl
  obtain ⟨cz, hcs, hcz⟩ := H.cs
  refine go_run K 0 1 (pc' := 1) (st' := [(.ref a)]) rfl ?_
  refine go_init0 K (k := 1) rfl (H.w 21 rfl) (H.w 22 rfl) (H.w 23 rfl) rfl rfl rfl ?_
  refine go_run K 2 1 (pc' := 5) (st' := [(.int cs.length.toInt32)]) rfl ?_
  refine go_ifne K (k := 3) rfl (pc' := 27) (by decide) (fun hne1 => ?_) (fun hz2 => ?_)
  · refine go_getstatic K (k := 13) rfl (host := "") (Or.inl (H.w 24 rfl)) Via.refl hcs ?_
    refine go_ifeq K (k := 14) rfl (pc' := 58) (by decide) (fun q => absurd q hcz) (fun _ => ?_)
    refine go_run K 15 3 (pc' := 36) (st' := [(.int cs.length.toInt32), (.int (0 : Int32)), (.ref ca)]) rfl ?_
    refine go_static K (k := 18) rfl (H.w 25 rfl) (H.w 26 rfl) (H.w 27 rfl) (H.w 28 rfl) (by decide) pd_1 (c_cmp3 (cs := cs) H hl hcap Ac) (argsL := [(.ref ca), (.int (0 : Int32)), (.int cs.length.toInt32)]) (rest := []) rfl rfl rfl sub0 rfl ?_
    rintro _ h28 _ - ⟨t29, k30, rfl, E31, A32, g33⟩
    show Go G B M_si4 _ h28 (a :: []) 1 3 39 #[.val (.ref a), .val (.ref ca), .val (.int (0 : Int32)), .val (.int cs.length.toInt32), .val .null, .unset] [(.ref t29)]
    refine go_run K 19 4 (pc' := 45) (Ls' := #[.val (.ref a), .val (.ref ca), .val (.int (0 : Int32)), .val (.int cs.length.toInt32), .val .null, .val (.ref t29)]) (st' := [(.int cs.length.toInt32), (.ref t29), (.ref a)]) rfl ?_
    refine go_static K (k := 23) rfl (H.w 32 rfl) (H.w 33 rfl) (H.w 27 rfl) (H.w 34 rfl) (by decide) pd_2 (c_cfal H A32) (argsL := [(.ref t29), (.int cs.length.toInt32)]) (rest := [(.ref a)]) rfl rfl rfl sub0 rfl ?_
    rintro _ _ _ - ⟨rfl, rfl⟩
    show Go G B M_si4 _ h28 (a :: []) 1 3 48 #[.val (.ref a), .val (.ref ca), .val (.int (0 : Int32)), .val (.int cs.length.toInt32), .val .null, .val (.ref t29)] [(.int (0 : Int32)), (.ref a)]
    have c34 := (C0.ext E31)
    have c35 := (E0.ext E31)
    refine go_putfield K (k := 24) rfl (host := "") (Or.inl (H.w 35 rfl)) Via.refl c34 c35 (Or.inr ⟨(H.w 9 rfl), rfl, rfl⟩) (H.w 6 rfl) (ty := .byte) (by decide) rfl rfl g0 (Or.inl (List.mem_cons_self ..)) ?_
    intro h36 W37
    have c38 := (V0.ext E31)
    have F39 : Exa G.Z h36 a "java/lang/String" := Exa.wr W37 c35
    have F40 : Fld G.Z h36 a "java/lang/String" "value" "[B" .null := Fld.other W37 c38 (Or.inr (slot_ne (Or.inr (H.w 8 rfl)) (Or.inr (H.w 9 rfl)) (by decide) (t := (.array .byte)) (t' := .byte) (by decide) (by decide)))
    have F41 : Fld G.Z h36 a "java/lang/String" "coder" "B" (.int (0 : Int32)) := Fld.same W37 c34
    refine go_run K 25 2 (pc' := 54) (st' := [(.ref t29), (.ref a)]) rfl ?_
    refine go_putfield K (k := 27) rfl (host := "") (Or.inl (H.w 36 rfl)) Via.refl F40 F39 (Or.inr ⟨(H.w 8 rfl), rfl, rfl⟩) (H.w 6 rfl) (ty := (.array .byte)) (by decide) rfl rfl g0 (Or.inl (List.mem_cons_self ..)) ?_
    intro h42 W43
    have F44 : Exa G.Z h42 a "java/lang/String" := Exa.wr W43 F39
    have F45 : Fld G.Z h42 a "java/lang/String" "value" "[B" (.ref t29) := Fld.same W43 F40
    have F46 : Fld G.Z h42 a "java/lang/String" "coder" "B" (.int (0 : Int32)) := Fld.other W43 F41 (Or.inr (slot_ne (Or.inr (H.w 9 rfl)) (Or.inr (H.w 8 rfl)) (by decide) (t := .byte) (t' := (.array .byte)) (by decide) (by decide)))
    have c47 := (Arv.other (Arv.other A32 W37 (Exa.neArv c35 A32 (H.w 6 rfl)).symm) W43 (Exa.neArv F39 (Arv.other A32 W37 (Exa.neArv c35 A32 (H.w 6 rfl)).symm) (H.w 6 rfl)).symm)
    refine go_return K (k := 28) rfl rfl rfl rfl ?_
    intro Sf hSf
    exact ⟨rfl, ((((Keep.refl _ [a]).ext E31).wr W37 (Or.inl (List.mem_cons_self ..))).wr W43 (Or.inl (List.mem_cons_self ..))), _, _, F44, F46, F45, c47⟩
  · have hnil : cs = [] := List.eq_nil_of_length_eq_zero (len_zero hlt hz2)
    refine go_run K 4 1 (pc' := 9) (st' := [(.ref a)]) rfl ?_
    refine go_ldcT K (k := 5) rfl (H.w 202 rfl) H.ws (H.mem (by decide)) (cs := []) (by decide) (by decide) (n := 0) rfl rfl rfl rfl ?_
    intro h4 a3 E5 S6
    obtain ⟨t1, k1, e1, e2, e3, e4⟩ := S6
    refine go_getfield K (k := 6) rfl (host := "") (Or.inl (H.w 36 rfl)) Via.refl e3 ?_
    have c7 := (V0.ext E5)
    have c8 := (E0.ext E5)
    refine go_putfield K (k := 7) rfl (host := "") (Or.inl (H.w 36 rfl)) Via.refl c7 c8 (Or.inr ⟨(H.w 8 rfl), rfl, rfl⟩) (H.w 6 rfl) (ty := (.array .byte)) (by decide) rfl rfl g0 (Or.inl (List.mem_cons_self ..)) ?_
    intro h9 W10
    have c11 := (C0.ext E5)
    have F12 : Exa G.Z h9 a "java/lang/String" := Exa.wr W10 c8
    have F13 : Fld G.Z h9 a "java/lang/String" "value" "[B" (.ref t1) := Fld.same W10 c7
    have F14 : Fld G.Z h9 a "java/lang/String" "coder" "B" (.int (0 : Int32)) := Fld.other W10 c11 (Or.inr (slot_ne (Or.inr (H.w 9 rfl)) (Or.inr (H.w 8 rfl)) (by decide) (t := .byte) (t' := (.array .byte)) (by decide) (by decide)))
    refine go_run K 8 1 (pc' := 18) (st' := [(.ref a)]) rfl ?_
    refine go_ldcT K (k := 9) rfl (H.w 202 rfl) H.ws (H.mem (by decide)) (cs := []) (by decide) (by decide) (n := 0) rfl rfl rfl rfl ?_
    intro h16 a15 E17 S18
    obtain ⟨t2, k2, f1, f2, f3, f4⟩ := S18
    refine go_getfield K (k := 10) rfl (host := "") (Or.inl (H.w 35 rfl)) Via.refl f2 ?_
    have c19 := (F14.ext E17)
    have c20 := (F12.ext E17)
    refine go_putfield K (k := 11) rfl (host := "") (Or.inl (H.w 35 rfl)) Via.refl c19 c20 (Or.inr ⟨(H.w 9 rfl), rfl, rfl⟩) (H.w 6 rfl) (ty := .byte) (by decide) rfl rfl g0 (Or.inl (List.mem_cons_self ..)) ?_
    intro h21 W22
    have c23 := (F13.ext E17)
    have F24 : Exa G.Z h21 a "java/lang/String" := Exa.wr W22 c20
    have F25 : Fld G.Z h21 a "java/lang/String" "value" "[B" (.ref t1) := Fld.other W22 c23 (Or.inr (slot_ne (Or.inr (H.w 8 rfl)) (Or.inr (H.w 9 rfl)) (by decide) (t := (.array .byte)) (t' := .byte) (by decide) (by decide)))
    have F26 : Fld G.Z h21 a "java/lang/String" "coder" "B" (.int (0 : Int32)) := Fld.same W22 c19
    have c27 := (Arv.other ((Arv.other e4 W10 (Exa.neArv c8 e4 (H.w 6 rfl)).symm).ext E17) W22 (Exa.neArv c20 ((Arv.other e4 W10 (Exa.neArv c8 e4 (H.w 6 rfl)).symm).ext E17) (H.w 6 rfl)).symm)
    refine go_return K (k := 12) rfl rfl rfl rfl ?_
    intro Sf hSf
    exact ⟨rfl, (((((Keep.refl _ [a]).ext E5).wr W10 (Or.inl (List.mem_cons_self ..))).ext E17).wr W22 (Or.inl (List.mem_cons_self ..))), _, _, F24, F26, F25, (by rw [hnil]; exact c27)⟩
def P_si : List (Nat × Instr × Nat) := [(0, .aload_n 0, 1), (1, .aload_n 1, 1), (2, .iconst 0, 1), (3, .aload_n 1, 1), (4, .arraylength, 1), (5, .aconst_null, 1), (6, .invokespecial 27, 3), (9, .return_, 1)]
theorem L_si : ∀ q ∈ P_si, decode jdk_42_method_3_code q.1 = .ok q.2 := by decide +kernel
def M_si : Mt := (("java/lang/String", "<init>", ({ frames := 3, cells := 4, slots := 8, locals := 52 } : Room)), P_si, 2, none)
set_option maxRecDepth 65536 in
set_option maxHeartbeats 40000000 in
theorem c_si {G : Gb} (H : Gl tables_1 els G) {h : Heap} {a ca : Addr} {kc : ClassId} {cs : List Int32} (hl : Lat cs) (hcap : cs.length ≤ 3) (E0 : Exa G.Z h a "java/lang/String") (V0 : Fld G.Z h a "java/lang/String" "value" "[B" .null) (C0 : Fld G.Z h a "java/lang/String" "coder" "B" (.int 0)) (g0 : G.Z.heap.size ≤ a) (Ac : Arv G.Z h ca kc .char cs.length.toInt32 (cs.map Value.int) (.int 0)) :
    Ctr G [] (⟨"java/lang/String", "<init>", "([C)V"⟩ : MethodName) jdk_42_method_3_code 2 none ({ frames := 3, cells := 4, slots := 8, locals := 52 } : Room) #[.ref a, .ref ca] h [a] (fun v h' Sf => v = none ∧ Keep h h' [a] ∧ Str G h' a cs) := by
  refine ctr_of M_si rfl rfl (plainFor_of_name pn_1) L_si H.el (Ls := #[.val (.ref a), .val (.ref ca)]) (fun m => ef_ok (by first | (simp [argsToLocals, Value.category]; done) | rfl)) ?_
  intro B K hE
  refine go_run K 0 4 (pc' := 4) (st' := [(.ref ca), (.int (0 : Int32)), (.ref ca), (.ref a)]) rfl ?_
  refine go_arraylength K (k := 4) rfl Ac ?_
  refine go_run K 5 1 (pc' := 6) (st' := [.null, (.int cs.length.toInt32), (.int (0 : Int32)), (.ref ca), (.ref a)]) rfl ?_
  refine go_special K (k := 6) rfl rfl (H.w 17 rfl) (H.w 18 rfl) (H.w 5 rfl) (H.w 20 rfl) (by decide) pd_3 (c_si4 (cs := cs) H hl hcap E0 V0 C0 g0 Ac) (argsL := [(.ref ca), (.int (0 : Int32)), (.int cs.length.toInt32), .null]) (rest := []) rfl rfl rfl (subS (List.mem_cons_self ..) sub0) rfl ?_
  rintro _ h1 _ - ⟨rfl, K2, S3⟩
  show Go G B M_si _ h1 (a :: []) 4 8 9 #[.val (.ref a), .val (.ref ca)] []
  refine go_return K (k := 7) rfl rfl rfl rfl ?_
  intro Sf hSf
  exact ⟨rfl, ((Keep.refl _ [a]).trans K2 (allS (Or.inl (List.mem_cons_self ..)) all0)), S3⟩
theorem pn_2 : plainName "java/util/Objects" = true := by first | (simp [plainName, overriddenIn]; done) | decide +kernel
def P_rnn2 : List (Nat × Instr × Nat) := [(0, .aload_n 0, 1), (1, .ifnonnull 12, 3), (4, .new 84, 3), (7, .dup, 1), (8, .aload_n 1, 1), (9, .invokespecial 87, 3), (12, .athrow, 1), (13, .aload_n 0, 1), (14, .areturn, 1)]
theorem L_rnn2 : ∀ q ∈ P_rnn2, decode jdk_31_method_11_code q.1 = .ok q.2 := by decide +kernel
def M_rnn2 : Mt := (("java/util/Objects", "requireNonNull", ({ frames := 0, cells := 0, slots := 0, locals := 0 } : Room)), P_rnn2, 2, (some (.object "java/lang/Object")))
set_option maxRecDepth 65536 in
set_option maxHeartbeats 40000000 in
theorem c_rnn2 {G : Gb} (H : Gl tables_1 els G) {h : Heap} {a m : Addr} :
    Ctr G [] (⟨"java/util/Objects", "requireNonNull", "(Ljava/lang/Object;Ljava/lang/String;)Ljava/lang/Object;"⟩ : MethodName) jdk_31_method_11_code 2 (some (.object "java/lang/Object")) ({ frames := 0, cells := 0, slots := 0, locals := 0 } : Room) #[.ref a, .ref m] h [] (fun v h' Sf => v = some (.ref a) ∧ h = h') := by
  refine ctr_of M_rnn2 rfl rfl (plainFor_of_name pn_2) L_rnn2 H.el (Ls := #[.val (.ref a), .val (.ref m)]) (fun m => ef_ok (by first | (simp [argsToLocals, Value.category]; done) | rfl)) ?_
  intro B K hE
  refine go_run K 0 1 (pc' := 1) (st' := [(.ref a)]) rfl ?_
  refine go_ifnonY K (k := 1) rfl (pc' := 13) (by decide) ?_
  refine go_run K 7 1 (pc' := 14) (st' := [(.ref a)]) rfl ?_
  refine go_areturn K (k := 8) rfl rfl rfl rfl rfl rfl rfl ?_
  intro Sf hSf
  exact ⟨rfl, rfl⟩
theorem pf_3 : plainFor (⟨"java/lang/Math", "min", "(II)I"⟩ : MethodName) = true := by decide +kernel
def P_min : List (Nat × Instr × Nat) := [(0, .iload_n 0, 1), (1, .iload_n 1, 1), (2, .if_icmp .gt 7, 3), (5, .iload_n 0, 1), (6, .goto 4, 3), (9, .iload_n 1, 1), (10, .ireturn, 1)]
theorem L_min : ∀ q ∈ P_min, decode jdk_29_method_69_code q.1 = .ok q.2 := by decide +kernel
def M_min : Mt := (("java/lang/Math", "min", ({ frames := 0, cells := 0, slots := 0, locals := 0 } : Room)), P_min, 2, (some .int))
set_option maxRecDepth 65536 in
set_option maxHeartbeats 40000000 in
theorem c_min {G : Gb} (H : Gl tables_1 els G) {h : Heap} {x y : Int32} :
    Ctr G [] (⟨"java/lang/Math", "min", "(II)I"⟩ : MethodName) jdk_29_method_69_code 2 (some .int) ({ frames := 0, cells := 0, slots := 0, locals := 0 } : Room) #[.int x, .int y] h [] (fun v h' Sf => ∃ r : Int32, v = some (.int r) ∧ h = h' ∧ ((r = x ∧ ¬ y < x) ∨ (r = y ∧ y < x))) := by
  refine ctr_of M_min rfl rfl pf_3 L_min H.el (Ls := #[.val (.int x), .val (.int y)]) (fun m => ef_ok (by first | (simp [argsToLocals, Value.category]; done) | rfl)) ?_
  intro B K hE
  refine go_run K 0 2 (pc' := 2) (st' := [(.int y), (.int x)]) rfl ?_
  refine go_icmpgt K (k := 2) rfl (pc' := 9) (by decide) (fun q1 => ?_) (fun q2 => ?_)
  · refine go_run K 5 1 (pc' := 10) (st' := [(.int y)]) rfl ?_
    refine go_ireturn K (k := 6) rfl rfl (by decide) rfl rfl rfl ?_
    intro Sf hSf
    exact ⟨y, rfl, rfl, Or.inr ⟨rfl, q1⟩⟩
  · refine go_run K 3 2 (pc' := 10) (st' := [(.int x)]) rfl ?_
    refine go_ireturn K (k := 6) rfl rfl (by decide) rfl rfl rfl ?_
    intro Sf hSf
    exact ⟨x, rfl, rfl, Or.inl ⟨rfl, q2⟩⟩
theorem pn_4 : plainName "java/util/Arrays" = true := by first | (simp [plainName, overriddenIn]; done) | decide +kernel
def P_ckl : List (Nat × Instr × Nat) := [(0, .iload_n 1, 1), (1, .iload_n 0, 1), (2, .if_icmp .ge 35, 3), (5, .new 43, 3), (8, .dup, 1), (9, .new 45, 3), (12, .dup, 1), (13, .invokespecial 47, 3), (16, .iload_n 0, 1), (17, .invokevirtual 54, 3), (20, .ldc_w 337, 3), (23, .invokevirtual 50, 3), (26, .iload_n 1, 1), (27, .invokevirtual 54, 3), (30, .invokevirtual 61, 3), (33, .invokespecial 65, 3), (36, .athrow, 1), (37, .return_, 1)]
theorem L_ckl : ∀ q ∈ P_ckl, decode jdk_65_method_131_code q.1 = .ok q.2 := by decide +kernel
def M_ckl : Mt := (("java/util/Arrays", "checkLength", ({ frames := 0, cells := 0, slots := 0, locals := 0 } : Room)), P_ckl, 2, none)
set_option maxRecDepth 65536 in
set_option maxHeartbeats 40000000 in
theorem c_ckl {G : Gb} (H : Gl tables_1 els G) {h : Heap} {x y : Int32} (hle : ¬ y < x) :
    Ctr G [] (⟨"java/util/Arrays", "checkLength", "(II)V"⟩ : MethodName) jdk_65_method_131_code 2 none ({ frames := 0, cells := 0, slots := 0, locals := 0 } : Room) #[.int x, .int y] h [] (fun v h' Sf => v = none ∧ h = h') := by
  refine ctr_of M_ckl rfl rfl (plainFor_of_name pn_4) L_ckl H.el (Ls := #[.val (.int x), .val (.int y)]) (fun m => ef_ok (by first | (simp [argsToLocals, Value.category]; done) | rfl)) ?_
  intro B K hE
  refine go_run K 0 2 (pc' := 2) (st' := [(.int x), (.int y)]) rfl ?_
  refine go_icmpge K (k := 2) rfl (pc' := 37) (by decide) (fun _ => ?_) (fun q => absurd q hle)
  refine go_return K (k := 17) rfl rfl rfl rfl ?_
  intro Sf hSf
  exact ⟨rfl, rfl⟩
def P_crb : List (Nat × Instr × Nat) := [(0, .iload_n 1, 1), (1, .iload_n 2, 1), (2, .invokestatic 343, 3), (5, .iload_n 2, 1), (6, .iload_n 1, 1), (7, .isub, 1), (8, .istore_n 3, 1), (9, .iload_n 3, 1), (10, .newarray .byte, 2), (12, .astore 4, 2), (14, .aload_n 0, 1), (15, .iload_n 1, 1), (16, .aload 4, 2), (18, .iconst 0, 1), (19, .aload_n 0, 1), (20, .arraylength, 1), (21, .iload_n 1, 1), (22, .isub, 1), (23, .iload_n 3, 1), (24, .invokestatic 304, 3), (27, .invokestatic 150, 3), (30, .aload 4, 2), (32, .areturn, 1)]
theorem L_crb : ∀ q ∈ P_crb, decode jdk_65_method_133_code q.1 = .ok q.2 := by decide +kernel
def M_crb : Mt := (("java/util/Arrays", "copyOfRangeByte", ({ frames := 1, cells := 1, slots := 16, locals := 18 } : Room)), P_crb, 5, (some (.array .byte)))
set_option maxRecDepth 65536 in
set_option maxHeartbeats 40000000 in
theorem c_crb {G : Gb} (H : Gl tables_1 els G) {h : Heap} {t : Addr} {kt : ClassId} {m i j : Nat} {vs : List Value} (hij : i ≤ j) (hjm : j ≤ m) (hm : m < 2 ^ 31) (hv : vs.length = m) (hcap : j - i ≤ 16) (A1 : Arv G.Z h t kt .byte m.toInt32 vs (.int 0)) :
    Ctr G [] (⟨"java/util/Arrays", "copyOfRangeByte", "([BII)[B"⟩ : MethodName) jdk_65_method_133_code 5 (some (.array .byte)) ({ frames := 1, cells := 1, slots := 16, locals := 18 } : Room) #[.ref t, .int i.toInt32, .int j.toInt32] h [] (fun v h' Sf => ∃ (u : Addr) (ku : ClassId), v = some (.ref u) ∧ Ext h h' ∧ Arv G.Z h' u ku .byte (j - i).toInt32 ((vs.drop i).take (j - i)) (.int 0) ∧ G.Z.heap.size ≤ u ∧ h.size ≤ u ∧ Sf u) := by
  refine ctr_of M_crb rfl rfl (plainFor_of_name pn_4) L_crb H.el (Ls := #[.val (.ref t), .val (.int i.toInt32), .val (.int j.toInt32), .unset, .unset]) (fun m => ef_ok (by first | (simp [argsToLocals, Value.category]; done) | rfl)) ?_
  intro B K hE
  refine go_run K 0 2 (pc' := 2) (st' := [(.int j.toInt32), (.int i.toInt32)]) rfl ?_
  refine go_static K (k := 2) rfl (H.w 167 rfl) (H.w 168 rfl) (H.w 162 rfl) (H.w 169 rfl) (by decide) pd_4 (c_ckl (x := i.toInt32) (y := j.toInt32) H (len_nlt (by omega) hij)) (argsL := [(.int i.toInt32), (.int j.toInt32)]) (rest := []) rfl rfl rfl sub0 rfl ?_
  rintro _ _ _ - ⟨rfl, rfl⟩
  show Go G B M_crb _ h [] 0 0 5 #[.val (.ref t), .val (.int i.toInt32), .val (.int j.toInt32), .unset, .unset] []
  refine go_run K 3 5 (pc' := 10) (Ls' := #[.val (.ref t), .val (.int i.toInt32), .val (.int j.toInt32), .val (.int (j.toInt32 - i.toInt32)), .unset]) (st' := [(.int (j.toInt32 - i.toInt32))]) rfl ?_
  rw [sub_len hij]
  refine go_newarray K (k := 8) rfl (H.w 7 rfl) (len_nn (by omega)) (cap := 16) (by rw [len_nat (by omega)]; exact hcap) rfl rfl rfl ?_
  intro h2 a1 k3 e4 g5 E6 A7
  have A7' : Arv G.Z h2 a1 k3 .byte (j - i).toInt32 (List.replicate (j - i) (.int 0)) (.int 0) := Arv.pad A7 (pad_rep [] _ _)
  refine go_run K 9 6 (pc' := 20) (Ls' := #[.val (.ref t), .val (.int i.toInt32), .val (.int j.toInt32), .val (.int (j - i).toInt32), .val (.ref a1)]) (st' := [(.ref t), (.int (0 : Int32)), (.ref a1), (.int i.toInt32), (.ref t)]) rfl ?_
  have c8 := (A1.ext E6)
  refine go_arraylength K (k := 15) rfl c8 ?_
  refine go_run K 16 3 (pc' := 24) (st' := [(.int (j - i).toInt32), (.int (m.toInt32 - i.toInt32)), (.int (0 : Int32)), (.ref a1), (.int i.toInt32), (.ref t)]) rfl ?_
  rw [sub_len (show i ≤ m by omega)]
  refine go_static K (k := 19) rfl (H.w 170 rfl) (H.w 171 rfl) (H.w 172 rfl) (H.w 173 rfl) (by decide) pd_5 (c_min (x := (m - i).toInt32) (y := (j - i).toInt32) H) (argsL := [(.int (m - i).toInt32), (.int (j - i).toInt32)]) (rest := [(.int (0 : Int32)), (.ref a1), (.int i.toInt32), (.ref t)]) rfl rfl rfl sub0 rfl ?_
  rintro _ _ _ - ⟨r9, rfl, rfl, q10⟩
  show Go G B M_crb _ h2 (a1 :: []) 1 16 27 #[.val (.ref t), .val (.int i.toInt32), .val (.int j.toInt32), .val (.int (j - i).toInt32), .val (.ref a1)] [(.int r9), (.int (0 : Int32)), (.ref a1), (.int i.toInt32), (.ref t)]
  have hr : r9 = (j - i).toInt32 := by
    rcases q10 with ⟨u1, u2⟩ | ⟨u1, -⟩
    · rw [u1]; exact len_ge (by omega) (by omega) (by omega) u2
    · exact u1
  rw [hr]
  refine go_arraycopy K (k := 20) rfl (H.w 174 rfl) (H.w 128 rfl) (H.w 126 rfl) (H.w 127 rfl) c8 A7' rfl (len_nn (by omega)) (by decide) (len_nn (by omega)) (by rw [len_nat (by omega), len_nat (by omega), len_nat (by omega)]; omega) (by rw [len_nat (by omega)]; exact Nat.le_of_eq (Nat.zero_add _)) (us := ((vs.drop i).take (j - i))) (by rw [len_nat (by omega), len_nat (by omega)]; exact (map_range (by omega)).symm) (by rw [len_nat (by omega), List.length_replicate]; exact Nat.le_of_eq (Nat.zero_add _)) g5 (Or.inl (List.mem_cons_self ..)) rfl rfl rfl ?_
  intro h11 K12 A13
  refine go_run K 21 1 (pc' := 32) (st' := [(.ref a1)]) rfl ?_
  have X14 : Ext h h11 := (Ext.keepN E6 K12 (allS (Nat.le_trans (Nat.le_refl _) (Nat.le_of_eq e4.symm)) all0))
  refine go_areturn K (k := 22) rfl rfl rfl rfl rfl rfl rfl ?_
  intro Sf hSf
  refine ⟨a1, k3, rfl, X14, ?_, g5, Nat.le_of_eq e4.symm, hSf _ (List.mem_cons_self ..)⟩
  have u := A13
  rw [show (0 : Int32).toNatClampNeg = 0 from rfl, len_nat (by omega), List.take_zero, List.nil_append, Nat.zero_add, show List.drop (j - i) (List.replicate (j - i) (Value.int 0)) = [] from List.drop_of_length_le (by rw [List.length_replicate]; exact Nat.le_refl _), List.append_nil] at u
  exact u
def P_cor : List (Nat × Instr × Nat) := [(0, .iload_n 1, 1), (1, .ifCond .ne 9, 3), (4, .iload_n 2, 1), (5, .aload_n 0, 1), (6, .arraylength, 1), (7, .if_icmp .eq 10, 3), (10, .aload_n 0, 1), (11, .iload_n 1, 1), (12, .iload_n 2, 1), (13, .invokestatic 339, 3), (16, .areturn, 1), (17, .aload_n 0, 1), (18, .invokevirtual 310, 3), (21, .checkcast 311, 3), (24, .areturn, 1)]
theorem L_cor : ∀ q ∈ P_cor, decode jdk_65_method_132_code q.1 = .ok q.2 := by decide +kernel
def M_cor : Mt := (("java/util/Arrays", "copyOfRange", ({ frames := 2, cells := 1, slots := 16, locals := 34 } : Room)), P_cor, 3, (some (.array .byte)))
set_option maxRecDepth 65536 in
set_option maxHeartbeats 40000000 in
theorem c_cor {G : Gb} (H : Gl tables_1 els G) {h : Heap} {t : Addr} {kt : ClassId} {m i j : Nat} {vs : List Value} (hne : ¬ (i = 0 ∧ j = m)) (hij : i ≤ j) (hjm : j ≤ m) (hm : m < 2 ^ 31) (hv : vs.length = m) (hcap : j - i ≤ 16) (A1 : Arv G.Z h t kt .byte m.toInt32 vs (.int 0)) :
    Ctr G [] (⟨"java/util/Arrays", "copyOfRange", "([BII)[B"⟩ : MethodName) jdk_65_method_132_code 3 (some (.array .byte)) ({ frames := 2, cells := 1, slots := 16, locals := 34 } : Room) #[.ref t, .int i.toInt32, .int j.toInt32] h [] (fun v h' Sf => ∃ (u : Addr) (ku : ClassId), v = some (.ref u) ∧ Ext h h' ∧ Arv G.Z h' u ku .byte (j - i).toInt32 ((vs.drop i).take (j - i)) (.int 0) ∧ G.Z.heap.size ≤ u ∧ h.size ≤ u ∧ Sf u) := by
  refine ctr_of M_cor rfl rfl (plainFor_of_name pn_4) L_cor H.el (Ls := #[.val (.ref t), .val (.int i.toInt32), .val (.int j.toInt32)]) (fun m => ef_ok (by first | (simp [argsToLocals, Value.category]; done) | rfl)) ?_
  intro B K hE
  refine go_run K 0 1 (pc' := 1) (st' := [(.int i.toInt32)]) rfl ?_
  refine go_ifne K (k := 1) rfl (pc' := 10) (by decide) (fun q1 => ?_) (fun q2 => ?_)
  · refine go_run K 6 3 (pc' := 13) (st' := [(.int j.toInt32), (.int i.toInt32), (.ref t)]) rfl ?_
    refine go_staticN K (k := 9) rfl (H.w 164 rfl) (H.w 165 rfl) (H.w 162 rfl) (H.w 166 rfl) (by decide) pd_6 (c_crb (i := i) (j := j) (m := m) H hij hjm hm hv hcap A1) (argsL := [(.ref t), (.int i.toInt32), (.int j.toInt32)]) (rest := []) rfl rfl rfl sub0 rfl ?_
    rintro _ h3 Sf11 - ⟨u4, k5, rfl, E6, A7, g8, f9, s10⟩
    refine ⟨[u4], allS s10 all0, ?_⟩
    show Go G B M_cor _ h3 (u4 :: []) 1 16 16 #[.val (.ref t), .val (.int i.toInt32), .val (.int j.toInt32)] [(.ref u4)]
    refine go_areturn K (k := 10) rfl rfl rfl rfl rfl rfl rfl ?_
    intro Sf hSf
    exact ⟨_, _, rfl, E6, A7, g8, f9, hSf _ (List.mem_cons_self ..)⟩
  · refine go_run K 2 2 (pc' := 6) (st' := [(.ref t), (.int j.toInt32)]) rfl ?_
    refine go_arraylength K (k := 4) rfl A1 ?_
    refine go_icmpeq K (k := 5) rfl (pc' := 17) (by decide) (fun q => absurd q (fun e => hne ⟨len_zero (by omega) q2, len_inj (by omega) (by omega) e⟩)) (fun _ => ?_)
    refine go_run K 6 3 (pc' := 13) (st' := [(.int j.toInt32), (.int i.toInt32), (.ref t)]) rfl ?_
    refine go_staticN K (k := 9) rfl (H.w 164 rfl) (H.w 165 rfl) (H.w 162 rfl) (H.w 166 rfl) (by decide) pd_6 (c_crb (i := i) (j := j) (m := m) H hij hjm hm hv hcap A1) (argsL := [(.ref t), (.int i.toInt32), (.int j.toInt32)]) (rest := []) rfl rfl rfl sub0 rfl ?_
    rintro _ h12 Sf20 - ⟨u13, k14, rfl, E15, A16, g17, f18, s19⟩
    refine ⟨[u13], allS s19 all0, ?_⟩
    show Go G B M_cor _ h12 (u13 :: []) 1 16 16 #[.val (.ref t), .val (.int i.toInt32), .val (.int j.toInt32)] [(.ref u13)]
    refine go_areturn K (k := 10) rfl rfl rfl rfl rfl rfl rfl ?_
    intro Sf hSf
    exact ⟨_, _, rfl, E15, A16, g17, f18, hSf _ (List.mem_cons_self ..)⟩
def P_cod : List (Nat × Instr × Nat) := [(0, .getstatic 38, 3), (3, .ifCond .eq 10, 3), (6, .aload_n 0, 1), (7, .getfield 15, 3), (10, .goto 4, 3), (13, .iconst 1, 1), (14, .ireturn, 1)]
theorem L_cod : ∀ q ∈ P_cod, decode jdk_42_method_152_code q.1 = .ok q.2 := by decide +kernel
def M_cod : Mt := (("java/lang/String", "coder", ({ frames := 0, cells := 0, slots := 0, locals := 0 } : Room)), P_cod, 1, (some .byte))
set_option maxRecDepth 65536 in
set_option maxHeartbeats 40000000 in
theorem c_cod {G : Gb} (H : Gl tables_1 els G) {h : Heap} {a : Addr} {cs : List Int32} (S1 : Str G h a cs) :
    Ctr G [] (⟨"java/lang/String", "coder", "()B"⟩ : MethodName) jdk_42_method_152_code 1 (some .byte) ({ frames := 0, cells := 0, slots := 0, locals := 0 } : Room) #[.ref a] h [] (fun v h' Sf => v = some (.int 0) ∧ h = h') := by
  refine ctr_of M_cod rfl rfl (plainFor_of_name pn_1) L_cod H.el (Ls := #[.val (.ref a)]) (fun m => ef_ok (by first | (simp [argsToLocals, Value.category]; done) | rfl)) ?_
  intro B K hE
  obtain ⟨cz, hcs, hcz⟩ := H.cs
  obtain ⟨t1, k2, e3, e4, e5, e6⟩ := id S1
  refine go_getstatic K (k := 0) rfl (host := "") (Or.inl (H.w 24 rfl)) Via.refl hcs ?_
  refine go_ifeq K (k := 1) rfl (pc' := 13) (by decide) (fun q => absurd q hcz) (fun _ => ?_)
  refine go_run K 2 1 (pc' := 7) (st' := [(.ref a)]) rfl ?_
  refine go_getfield K (k := 3) rfl (host := "") (Or.inl (H.w 35 rfl)) Via.refl e4 ?_
  refine go_run K 4 1 (pc' := 14) (st' := [(.int (0 : Int32))]) rfl ?_
  refine go_ireturn K (k := 6) rfl rfl (by decide) rfl rfl rfl ?_
  intro Sf hSf
  exact ⟨rfl, rfl⟩
def P_len : List (Nat × Instr × Nat) := [(0, .aload_n 0, 1), (1, .getfield 9, 3), (4, .arraylength, 1), (5, .aload_n 0, 1), (6, .invokevirtual 335, 3), (9, .ishr, 1), (10, .ireturn, 1)]
theorem L_len : ∀ q ∈ P_len, decode jdk_42_method_54_code q.1 = .ok q.2 := by decide +kernel
def M_len : Mt := (("java/lang/String", "length", ({ frames := 1, cells := 0, slots := 0, locals := 13 } : Room)), P_len, 1, (some .int))
set_option maxRecDepth 65536 in
set_option maxHeartbeats 40000000 in
theorem c_len {G : Gb} (H : Gl tables_1 els G) {h : Heap} {a : Addr} {cs : List Int32} (S1 : Str G h a cs) :
    Ctr G [] (⟨"java/lang/String", "length", "()I"⟩ : MethodName) jdk_42_method_54_code 1 (some .int) ({ frames := 1, cells := 0, slots := 0, locals := 13 } : Room) #[.ref a] h [] (fun v h' Sf => v = some (.int cs.length.toInt32) ∧ h = h') := by
  refine ctr_of M_len rfl rfl (plainFor_of_name pn_1) L_len H.el (Ls := #[.val (.ref a)]) (fun m => ef_ok (by first | (simp [argsToLocals, Value.category]; done) | rfl)) ?_
  intro B K hE
  obtain ⟨t1, k2, e3, e4, e5, e6⟩ := id S1
  refine go_run K 0 1 (pc' := 1) (st' := [(.ref a)]) rfl ?_
  refine go_getfield K (k := 1) rfl (host := "") (Or.inl (H.w 36 rfl)) Via.refl e5 ?_
  refine go_arraylength K (k := 2) rfl e6 ?_
  refine go_run K 3 1 (pc' := 6) (st' := [(.ref a), (.int cs.length.toInt32)]) rfl ?_
  refine go_virt0 K (k := 4) rfl (H.w 97 rfl) (H.w 100 rfl) (H.w 99 rfl) (H.w 5 rfl) (H.w 101 rfl) (by decide) pd_7 S1.exa (c_cod H S1) (argsL := []) (rest := [(.int cs.length.toInt32)]) rfl rfl rfl sub0 rfl ?_
  rintro _ _ _ - ⟨rfl, rfl⟩
  show Go G B M_len _ h [] 0 0 9 #[.val (.ref a)] [(.int (0 : Int32)), (.int cs.length.toInt32)]
  refine go_run K 5 1 (pc' := 10) (st' := [(.int (cs.length.toInt32 >>> ((0 : Int32) &&& 31)))]) rfl ?_
  rw [shr0]
  refine go_ireturn K (k := 6) rfl rfl (by decide) rfl rfl rfl ?_
  intro Sf hSf
  exact ⟨rfl, rfl⟩
def P_gby : List (Nat × Instr × Nat) := [(0, .aload_n 0, 1), (1, .invokevirtual 335, 3), (4, .iload_n 3, 1), (5, .if_icmp .ne 23, 3), (8, .aload_n 0, 1), (9, .getfield 9, 3), (12, .iconst 0, 1), (13, .aload_n 1, 1), (14, .iload_n 2, 1), (15, .iload_n 3, 1), (16, .ishl, 1), (17, .aload_n 0, 1), (18, .getfield 9, 3), (21, .arraylength, 1), (22, .invokestatic 212, 3), (25, .goto 18, 3), (28, .aload_n 0, 1), (29, .getfield 9, 3), (32, .iconst 0, 1), (33, .aload_n 1, 1), (34, .iload_n 2, 1), (35, .aload_n 0, 1), (36, .getfield 9, 3), (39, .arraylength, 1), (40, .invokestatic 106, 3), (43, .return_, 1)]
theorem L_gby : ∀ q ∈ P_gby, decode jdk_42_method_147_code q.1 = .ok q.2 := by decide +kernel
def M_gby : Mt := (("java/lang/String", "getBytes", ({ frames := 1, cells := 0, slots := 0, locals := 18 } : Room)), P_gby, 4, none)
set_option maxRecDepth 65536 in
set_option maxHeartbeats 40000000 in
theorem c_gby {G : Gb} (H : Gl tables_1 els G) {h : Heap} {s t : Addr} {kt : ClassId} {ds : List Int32} {m i : Nat} {vd : List Value} (l1 : Lat ds) (S1 : Str G h s ds) (A1 : Arv G.Z h t kt .byte m.toInt32 vd (.int 0)) (hm : m < 2 ^ 31) (hv : vd.length = m) (hi : i + ds.length ≤ m) (g0 : G.Z.heap.size ≤ t) :
    Ctr G [] (⟨"java/lang/String", "getBytes", "([BIB)V"⟩ : MethodName) jdk_42_method_147_code 4 none ({ frames := 1, cells := 0, slots := 0, locals := 18 } : Room) #[.ref s, .ref t, .int i.toInt32, .int 0] h [t] (fun v h' Sf => v = none ∧ Keep h h' [t] ∧ Arv G.Z h' t kt .byte m.toInt32 (vd.take i ++ by8 ds ++ vd.drop (i + ds.length)) (.int 0)) := by
  refine ctr_of M_gby rfl rfl (plainFor_of_name pn_1) L_gby H.el (Ls := #[.val (.ref s), .val (.ref t), .val (.int i.toInt32), .val (.int (0 : Int32))]) (fun m => ef_ok (by first | (simp [argsToLocals, Value.category]; done) | rfl)) ?_
  intro B K hE
  obtain ⟨t1, k2, e3, e4, e5, e6⟩ := id S1
  have hld := lat_lt l1
  refine go_run K 0 1 (pc' := 1) (st' := [(.ref s)]) rfl ?_
  refine go_virt0 K (k := 1) rfl (H.w 97 rfl) (H.w 100 rfl) (H.w 99 rfl) (H.w 5 rfl) (H.w 101 rfl) (by decide) pd_7 S1.exa (c_cod H S1) (argsL := []) (rest := []) rfl rfl rfl sub0 rfl ?_
  rintro _ _ _ - ⟨rfl, rfl⟩
  show Go G B M_gby _ h (t :: []) 0 0 4 #[.val (.ref s), .val (.ref t), .val (.int i.toInt32), .val (.int (0 : Int32))] [(.int (0 : Int32))]
  refine go_run K 2 1 (pc' := 5) (st' := [(.int (0 : Int32)), (.int (0 : Int32))]) rfl ?_
  refine go_icmpne K (k := 3) rfl (pc' := 28) (by decide) (fun q => absurd rfl q) (fun _ => ?_)
  refine go_run K 4 1 (pc' := 9) (st' := [(.ref s)]) rfl ?_
  refine go_getfield K (k := 5) rfl (host := "") (Or.inl (H.w 36 rfl)) Via.refl e5 ?_
  refine go_run K 6 6 (pc' := 18) (st' := [(.ref s), (.int (i.toInt32 <<< ((0 : Int32) &&& 31))), (.ref t), (.int (0 : Int32)), (.ref t1)]) rfl ?_
  rw [shl0]
  refine go_getfield K (k := 12) rfl (host := "") (Or.inl (H.w 36 rfl)) Via.refl e5 ?_
  refine go_arraylength K (k := 13) rfl e6 ?_
  refine go_arraycopy K (k := 14) rfl (H.w 125 rfl) (H.w 128 rfl) (H.w 126 rfl) (H.w 127 rfl) e6 A1 rfl (by decide) (len_nn (by omega)) (len_nn hld) (by rw [len_nat hld]; exact Nat.le_of_eq (Nat.zero_add _)) (by rw [len_nat (by omega), len_nat hld, len_nat hm]; omega) (us := (by8 ds)) (by rw [len_nat hld, show (0 : Int32).toNatClampNeg = 0 from rfl, map_range (by rw [by8_len]; omega), List.drop_zero, List.take_of_length_le (by rw [by8_len]; exact Nat.le_refl _)]) (by rw [len_nat (by omega), len_nat hld]; omega) g0 (Or.inl (List.mem_cons_self ..)) rfl rfl rfl ?_
  intro h7 K8 A9
  refine go_run K 15 1 (pc' := 43) (st' := []) rfl ?_
  refine go_return K (k := 25) rfl rfl rfl rfl ?_
  intro Sf hSf
  refine ⟨rfl, ((Keep.refl _ [t]).trans K8 (allS (Or.inl (List.mem_cons_self ..)) all0)), ?_⟩
  have u := A9
  rw [len_nat (by omega), len_nat hld] at u
  exact u
theorem pn_5 : plainName "java/lang/AbstractStringBuilder" = true := by first | (simp [plainName, overriddenIn]; done) | decide +kernel
def P_inf : List (Nat × Instr × Nat) := [(0, .getstatic 18, 3), (3, .ifCond .eq 18, 3), (6, .aload_n 0, 1), (7, .getfield 22, 3), (10, .aload_n 1, 1), (11, .invokevirtual 40, 3), (14, .if_icmp .eq 7, 3), (17, .aload_n 0, 1), (18, .invokevirtual 195, 3), (21, .return_, 1)]
theorem L_inf : ∀ q ∈ P_inf, decode jdk_68_method_71_code q.1 = .ok q.2 := by decide +kernel
def M_inf : Mt := (("java/lang/AbstractStringBuilder", "inflateIfNeededFor", ({ frames := 1, cells := 0, slots := 0, locals := 13 } : Room)), P_inf, 2, none)
set_option maxRecDepth 65536 in
set_option maxHeartbeats 40000000 in
theorem c_inf {G : Gb} (H : Gl tables_1 els G) {h : Heap} {a s : Addr} {ds : List Int32} (F0 : Fld G.Z h a "java/lang/AbstractStringBuilder" "coder" "B" (.int 0)) (S1 : Str G h s ds) :
    Ctr G [] (⟨"java/lang/AbstractStringBuilder", "inflateIfNeededFor", "(Ljava/lang/String;)V"⟩ : MethodName) jdk_68_method_71_code 2 none ({ frames := 1, cells := 0, slots := 0, locals := 13 } : Room) #[.ref a, .ref s] h [] (fun v h' Sf => v = none ∧ h = h') := by
  refine ctr_of M_inf rfl rfl (plainFor_of_name pn_5) L_inf H.el (Ls := #[.val (.ref a), .val (.ref s)]) (fun m => ef_ok (by first | (simp [argsToLocals, Value.category]; done) | rfl)) ?_
  intro B K hE
  obtain ⟨cz, hcs, hcz⟩ := H.cs
  refine go_getstatic K (k := 0) rfl (host := "") (Or.inl (H.w 75 rfl)) Via.refl hcs ?_
  refine go_ifeq K (k := 1) rfl (pc' := 21) (by decide) (fun q => absurd q hcz) (fun _ => ?_)
  refine go_run K 2 1 (pc' := 7) (st' := [(.ref a)]) rfl ?_
  refine go_getfield K (k := 3) rfl (host := "") (Or.inl (H.w 78 rfl)) Via.refl F0 ?_
  refine go_run K 4 1 (pc' := 11) (st' := [(.ref s), (.int (0 : Int32))]) rfl ?_
  refine go_virt0 K (k := 5) rfl (H.w 119 rfl) (H.w 100 rfl) (H.w 99 rfl) (H.w 5 rfl) (H.w 101 rfl) (by decide) pd_7 S1.exa (c_cod H S1) (argsL := []) (rest := [(.int (0 : Int32))]) rfl rfl rfl sub0 rfl ?_
  rintro _ _ _ - ⟨rfl, rfl⟩
  show Go G B M_inf _ h [] 0 0 14 #[.val (.ref a), .val (.ref s)] [(.int (0 : Int32)), (.int (0 : Int32))]
  refine go_icmpeq K (k := 6) rfl (pc' := 21) (by decide) (fun _ => ?_) (fun q => absurd rfl q)
  refine go_return K (k := 9) rfl rfl rfl rfl ?_
  intro Sf hSf
  exact ⟨rfl, rfl⟩
def P_ecap : List (Nat × Instr × Nat) := [(0, .aload_n 0, 1), (1, .getfield 15, 3), (4, .arraylength, 1), (5, .aload_n 0, 1), (6, .getfield 22, 3), (9, .ishr, 1), (10, .istore_n 2, 1), (11, .iload_n 1, 1), (12, .iload_n 2, 1), (13, .isub, 1), (14, .ifCond .le 24, 3), (17, .aload_n 0, 1), (18, .aload_n 0, 1), (19, .getfield 15, 3), (22, .aload_n 0, 1), (23, .iload_n 1, 1), (24, .invokevirtual 104, 3), (27, .aload_n 0, 1), (28, .getfield 22, 3), (31, .ishl, 1), (32, .invokestatic 108, 3), (35, .putfield 15, 3), (38, .return_, 1)]
theorem L_ecap : ∀ q ∈ P_ecap, decode jdk_68_method_9_code q.1 = .ok q.2 := by decide +kernel
def M_ecap : Mt := (("java/lang/AbstractStringBuilder", "ensureCapacityInternal", ({ frames := 0, cells := 0, slots := 0, locals := 0 } : Room)), P_ecap, 3, none)
set_option maxRecDepth 65536 in
set_option maxHeartbeats 40000000 in
theorem c_ecap {G : Gb} (H : Gl tables_1 els G) {h : Heap} {a t : Addr} {kt : ClassId} {cs : List Int32} {m : Nat} {n : Nat} (hn : n ≤ m) (hm : m < 2 ^ 31) (B1 : Sb G h a t kt cs m) :
    Ctr G [] (⟨"java/lang/AbstractStringBuilder", "ensureCapacityInternal", "(I)V"⟩ : MethodName) jdk_68_method_9_code 3 none ({ frames := 0, cells := 0, slots := 0, locals := 0 } : Room) #[.ref a, .int n.toInt32] h [] (fun v h' Sf => v = none ∧ h = h') := by
  refine ctr_of M_ecap rfl rfl (plainFor_of_name pn_5) L_ecap H.el (Ls := #[.val (.ref a), .val (.int n.toInt32), .unset]) (fun m => ef_ok (by first | (simp [argsToLocals, Value.category]; done) | rfl)) ?_
  intro B K hE
  obtain ⟨e1, e2, e3, e4, e5, e6, e7⟩ := id B1
  refine go_run K 0 1 (pc' := 1) (st' := [(.ref a)]) rfl ?_
  refine go_getfield K (k := 1) rfl (host := "") (Or.inl (H.w 76 rfl)) Via.refl e2 ?_
  refine go_arraylength K (k := 2) rfl e5 ?_
  refine go_run K 3 1 (pc' := 6) (st' := [(.ref a), (.int m.toInt32)]) rfl ?_
  refine go_getfield K (k := 4) rfl (host := "") (Or.inl (H.w 78 rfl)) Via.refl e3 ?_
  refine go_run K 5 5 (pc' := 14) (Ls' := #[.val (.ref a), .val (.int n.toInt32), .val (.int (m.toInt32 >>> ((0 : Int32) &&& 31)))]) (st' := [(.int (n.toInt32 - (m.toInt32 >>> ((0 : Int32) &&& 31))))]) rfl ?_
  rw [shr0]
  refine go_ifle K (k := 10) rfl (pc' := 38) (by decide) (fun _ => ?_) (fun q => absurd q (le_len hm hn))
  refine go_return K (k := 22) rfl rfl rfl rfl ?_
  intro Sf hSf
  exact ⟨rfl, rfl⟩
def P_psa : List (Nat × Instr × Nat) := [(0, .aload_n 0, 1), (1, .aload_n 2, 1), (2, .invokevirtual 397, 3), (5, .aload_n 2, 1), (6, .aload_n 0, 1), (7, .getfield 15, 3), (10, .iload_n 1, 1), (11, .aload_n 0, 1), (12, .getfield 22, 3), (15, .invokevirtual 399, 3), (18, .return_, 1)]
theorem L_psa : ∀ q ∈ P_psa, decode jdk_68_method_73_code q.1 = .ok q.2 := by decide +kernel
def M_psa : Mt := (("java/lang/AbstractStringBuilder", "putStringAt", ({ frames := 2, cells := 0, slots := 0, locals := 33 } : Room)), P_psa, 3, none)
set_option maxRecDepth 65536 in
set_option maxHeartbeats 40000000 in
theorem c_psa {G : Gb} (H : Gl tables_1 els G) {h : Heap} {a t : Addr} {kt : ClassId} {cs : List Int32} {m : Nat} {s : Addr} {ds : List Int32} (l1 : Lat ds) (hsum : cs.length + ds.length ≤ m) (B1 : Sb G h a t kt cs m) (S1 : Str G h s ds) (g0 : G.Z.heap.size ≤ t) :
    Ctr G [] (⟨"java/lang/AbstractStringBuilder", "putStringAt", "(ILjava/lang/String;)V"⟩ : MethodName) jdk_68_method_73_code 3 none ({ frames := 2, cells := 0, slots := 0, locals := 33 } : Room) #[.ref a, .int cs.length.toInt32, .ref s] h [t] (fun v h' Sf => v = none ∧ Keep h h' [t] ∧ Arv G.Z h' t kt .byte m.toInt32 (by8 (cs ++ ds) ++ List.replicate (m - (cs ++ ds).length) (.int 0)) (.int 0)) := by
  refine ctr_of M_psa rfl rfl (plainFor_of_name pn_5) L_psa H.el (Ls := #[.val (.ref a), .val (.int cs.length.toInt32), .val (.ref s)]) (fun m => ef_ok (by first | (simp [argsToLocals, Value.category]; done) | rfl)) ?_
  intro B K hE
  obtain ⟨e1, e2, e3, e4, e5, e6, e7⟩ := id B1
  refine go_run K 0 2 (pc' := 2) (st' := [(.ref s), (.ref a)]) rfl ?_
  refine go_virt0 K (k := 2) rfl (H.w 114 rfl) (H.w 117 rfl) (H.w 115 rfl) (H.w 72 rfl) (H.w 118 rfl) (by decide) pd_8 e1 (c_inf H e3 S1) (argsL := [(.ref s)]) (rest := []) rfl rfl rfl sub0 rfl ?_
  rintro _ _ _ - ⟨rfl, rfl⟩
  show Go G B M_psa _ h (t :: []) 0 0 5 #[.val (.ref a), .val (.int cs.length.toInt32), .val (.ref s)] []
  refine go_run K 3 2 (pc' := 7) (st' := [(.ref a), (.ref s)]) rfl ?_
  refine go_getfield K (k := 5) rfl (host := "") (Or.inl (H.w 76 rfl)) Via.refl e2 ?_
  refine go_run K 6 2 (pc' := 12) (st' := [(.ref a), (.int cs.length.toInt32), (.ref t), (.ref s)]) rfl ?_
  refine go_getfield K (k := 8) rfl (host := "") (Or.inl (H.w 78 rfl)) Via.refl e3 ?_
  refine go_virt0 K (k := 9) rfl (H.w 120 rfl) (H.w 123 rfl) (H.w 122 rfl) (H.w 5 rfl) (H.w 124 rfl) (by decide) pd_9 S1.exa (c_gby (i := cs.length) (m := m) H l1 S1 e5 e7 (by rw [List.length_append, by8_len, List.length_replicate]; omega) hsum g0) (argsL := [(.ref t), (.int cs.length.toInt32), (.int (0 : Int32))]) (rest := []) rfl rfl rfl (subS (List.mem_cons_self ..) sub0) rfl ?_
  rintro _ h8 _ - ⟨rfl, K9, A10⟩
  show Go G B M_psa _ h8 (t :: []) 0 0 18 #[.val (.ref a), .val (.int cs.length.toInt32), .val (.ref s)] []
  refine go_return K (k := 10) rfl rfl rfl rfl ?_
  intro Sf hSf
  refine ⟨rfl, ((Keep.refl _ [t]).trans K9 (allS (Or.inl (List.mem_cons_self ..)) all0)), ?_⟩
  have u := A10
  rw [sb_put hsum] at u
  exact u
def P_aap : List (Nat × Instr × Nat) := [(0, .aload_n 1, 1), (1, .ifnonnull 8, 3), (4, .aload_n 0, 1), (5, .invokevirtual 204, 3), (8, .areturn, 1), (9, .aload_n 1, 1), (10, .invokevirtual 32, 3), (13, .istore_n 2, 1), (14, .aload_n 0, 1), (15, .aload_n 0, 1), (16, .getfield 79, 3), (19, .iload_n 2, 1), (20, .iadd, 1), (21, .invokevirtual 100, 3), (24, .aload_n 0, 1), (25, .aload_n 0, 1), (26, .getfield 79, 3), (29, .aload_n 1, 1), (30, .invokevirtual 208, 3), (33, .aload_n 0, 1), (34, .dup, 1), (35, .getfield 79, 3), (38, .iload_n 2, 1), (39, .iadd, 1), (40, .putfield 79, 3), (43, .aload_n 0, 1), (44, .areturn, 1)]
theorem L_aap : ∀ q ∈ P_aap, decode jdk_68_method_22_code q.1 = .ok q.2 := by decide +kernel
def M_aap : Mt := (("java/lang/AbstractStringBuilder", "append", ({ frames := 3, cells := 0, slots := 0, locals := 47 } : Room)), P_aap, 3, (some (.object "java/lang/AbstractStringBuilder")))
set_option maxRecDepth 65536 in
set_option maxHeartbeats 40000000 in
theorem c_aap {G : Gb} (H : Gl tables_1 els G) {h : Heap} {a t : Addr} {kt : ClassId} {cs : List Int32} {m : Nat} {s : Addr} {ds : List Int32} (l1 : Lat ds) (hsum : cs.length + ds.length ≤ m) (B1 : Sb G h a t kt cs m) (S1 : Str G h s ds) (ga : G.Z.heap.size ≤ a) (g0 : G.Z.heap.size ≤ t) :
    Ctr G [] (⟨"java/lang/AbstractStringBuilder", "append", "(Ljava/lang/String;)Ljava/lang/AbstractStringBuilder;"⟩ : MethodName) jdk_68_method_22_code 3 (some (.object "java/lang/AbstractStringBuilder")) ({ frames := 3, cells := 0, slots := 0, locals := 47 } : Room) #[.ref a, .ref s] h [t] (fun v h' Sf => v = some (.ref a) ∧ Keep h h' [a, t] ∧ Sb G h' a t kt (cs ++ ds) m) := by
  refine ctr_of M_aap rfl rfl (plainFor_of_name pn_5) L_aap H.el (Ls := #[.val (.ref a), .val (.ref s), .unset]) (fun m => ef_ok (by first | (simp [argsToLocals, Value.category]; done) | rfl)) ?_
  intro B K hE
  obtain ⟨e1, e2, e3, e4, e5, e6, e7⟩ := id B1
  refine go_run K 0 1 (pc' := 1) (st' := [(.ref s)]) rfl ?_
  refine go_ifnonY K (k := 1) rfl (pc' := 9) (by decide) ?_
  refine go_run K 5 1 (pc' := 10) (st' := [(.ref s)]) rfl ?_
  refine go_virt0 K (k := 6) rfl (H.w 92 rfl) (H.w 95 rfl) (H.w 94 rfl) (H.w 5 rfl) (H.w 96 rfl) (by decide) pd_10 S1.exa (c_len H S1) (argsL := []) (rest := []) rfl rfl rfl sub0 rfl ?_
  rintro _ _ _ - ⟨rfl, rfl⟩
  show Go G B M_aap _ h (t :: []) 0 0 13 #[.val (.ref a), .val (.ref s), .unset] [(.int (ds).length.toInt32)]
  show Go G B M_aap _ h (t :: []) 0 0 13 #[.val (.ref a), .val (.ref s), .unset] [(.int ds.length.toInt32)]
  refine go_run K 7 3 (pc' := 16) (Ls' := #[.val (.ref a), .val (.ref s), .val (.int ds.length.toInt32)]) (st' := [(.ref a), (.ref a)]) rfl ?_
  refine go_getfield K (k := 10) rfl (host := "") (Or.inl (H.w 102 rfl)) Via.refl e4 ?_
  refine go_run K 11 2 (pc' := 21) (st' := [(.int (cs.length.toInt32 + ds.length.toInt32)), (.ref a)]) rfl ?_
  rw [add_len]
  refine go_virt0 K (k := 13) rfl (H.w 104 rfl) (H.w 107 rfl) (H.w 105 rfl) (H.w 72 rfl) (H.w 108 rfl) (by decide) pd_11 e1 (c_ecap (n := (cs.length + ds.length)) H hsum e7 B1) (argsL := [(.int (cs.length + ds.length).toInt32)]) (rest := []) rfl rfl rfl sub0 rfl ?_
  rintro _ _ _ - ⟨rfl, rfl⟩
  show Go G B M_aap _ h (t :: []) 0 0 24 #[.val (.ref a), .val (.ref s), .val (.int ds.length.toInt32)] []
  refine go_run K 14 2 (pc' := 26) (st' := [(.ref a), (.ref a)]) rfl ?_
  refine go_getfield K (k := 16) rfl (host := "") (Or.inl (H.w 102 rfl)) Via.refl e4 ?_
  refine go_run K 17 1 (pc' := 30) (st' := [(.ref s), (.int cs.length.toInt32), (.ref a)]) rfl ?_
  refine go_virt0 K (k := 18) rfl (H.w 109 rfl) (H.w 112 rfl) (H.w 110 rfl) (H.w 72 rfl) (H.w 113 rfl) (by decide) pd_12 e1 (c_psa H l1 hsum B1 S1 g0) (argsL := [(.int cs.length.toInt32), (.ref s)]) (rest := []) rfl rfl rfl (subS (List.mem_cons_self ..) sub0) rfl ?_
  rintro _ h8 _ - ⟨rfl, K9, A10⟩
  show Go G B M_aap _ h8 (t :: []) 0 0 33 #[.val (.ref a), .val (.ref s), .val (.int ds.length.toInt32)] []
  refine go_run K 19 2 (pc' := 35) (st' := [(.ref a), (.ref a)]) rfl ?_
  have c11 := (e4.keep K9 (ninS (Exa.neArv e1 e5 (H.w 63 rfl)) nin0))
  refine go_getfield K (k := 21) rfl (host := "") (Or.inl (H.w 102 rfl)) Via.refl c11 ?_
  refine go_run K 22 2 (pc' := 40) (st' := [(.int (cs.length.toInt32 + ds.length.toInt32)), (.ref a)]) rfl ?_
  rw [add_len]
  have c12 := (e1.keep K9)
  refine go_putfield K (k := 24) rfl (host := "") (Or.inl (H.w 102 rfl)) Via.refl c11 c12 (Or.inl (H.w 103 rfl)) (H.w 63 rfl) (ty := .int) (by decide) rfl rfl ga (Or.inr (by decide)) ?_
  intro h13 W14
  have c15 := (e2.keep K9 (ninS (Exa.neArv e1 e5 (H.w 63 rfl)) nin0))
  have c16 := (e3.keep K9 (ninS (Exa.neArv e1 e5 (H.w 63 rfl)) nin0))
  have F17 : Exa G.Z h13 a "java/lang/StringBuilder" := Exa.wr W14 c12
  have F18 : Fld G.Z h13 a "java/lang/AbstractStringBuilder" "value" "[B" (.ref t) := Fld.other W14 c15 (Or.inr (slot_ne (Or.inl (H.w 77 rfl)) (Or.inl (H.w 103 rfl)) (by decide) (t := (.array .byte)) (t' := .int) (by decide) (by decide)))
  have F19 : Fld G.Z h13 a "java/lang/AbstractStringBuilder" "coder" "B" (.int (0 : Int32)) := Fld.other W14 c16 (Or.inr (slot_ne (Or.inl (H.w 79 rfl)) (Or.inl (H.w 103 rfl)) (by decide) (t := .byte) (t' := .int) (by decide) (by decide)))
  have F20 : Fld G.Z h13 a "java/lang/AbstractStringBuilder" "count" "I" (.int (cs.length + ds.length).toInt32) := Fld.same W14 c11
  refine go_run K 25 1 (pc' := 44) (st' := [(.ref a)]) rfl ?_
  have c21 := (Arv.other A10 W14 (Exa.neArv c12 A10 (H.w 63 rfl)).symm)
  refine go_areturn K (k := 26) rfl rfl rfl rfl rfl rfl rfl ?_
  intro Sf hSf
  refine ⟨rfl, (((Keep.refl _ [a, t]).trans K9 (allS (Or.inl (List.mem_cons_of_mem _ (List.mem_cons_self ..))) all0)).wr W14 (Or.inl (List.mem_cons_self ..))), F17, F18, F19, ?_, c21, ?_, e7⟩
  · rw [List.length_append]; exact F20
  · rw [List.length_append]; exact hsum
theorem pn_6 : plainName "java/lang/StringBuilder" = true := by first | (simp [plainName, overriddenIn]; done) | decide +kernel
def P_sap : List (Nat × Instr × Nat) := [(0, .aload_n 0, 1), (1, .aload_n 1, 1), (2, .invokespecial 29, 3), (5, .pop, 1), (6, .aload_n 0, 1), (7, .areturn, 1)]
theorem L_sap : ∀ q ∈ P_sap, decode jdk_67_method_7_code q.1 = .ok q.2 := by decide +kernel
def M_sap : Mt := (("java/lang/StringBuilder", "append", ({ frames := 4, cells := 0, slots := 0, locals := 61 } : Room)), P_sap, 2, (some (.object "java/lang/StringBuilder")))
set_option maxRecDepth 65536 in
set_option maxHeartbeats 40000000 in
theorem c_sap {G : Gb} (H : Gl tables_1 els G) {h : Heap} {a t : Addr} {kt : ClassId} {cs : List Int32} {m : Nat} {s : Addr} {ds : List Int32} (l1 : Lat ds) (hsum : cs.length + ds.length ≤ m) (B1 : Sb G h a t kt cs m) (S1 : Str G h s ds) (ga : G.Z.heap.size ≤ a) (g0 : G.Z.heap.size ≤ t) :
    Ctr G [] (⟨"java/lang/StringBuilder", "append", "(Ljava/lang/String;)Ljava/lang/StringBuilder;"⟩ : MethodName) jdk_67_method_7_code 2 (some (.object "java/lang/StringBuilder")) ({ frames := 4, cells := 0, slots := 0, locals := 61 } : Room) #[.ref a, .ref s] h [t] (fun v h' Sf => v = some (.ref a) ∧ Keep h h' [a, t] ∧ Sb G h' a t kt (cs ++ ds) m) := by
  refine ctr_of M_sap rfl rfl (plainFor_of_name pn_6) L_sap H.el (Ls := #[.val (.ref a), .val (.ref s)]) (fun m => ef_ok (by first | (simp [argsToLocals, Value.category]; done) | rfl)) ?_
  intro B K hE
  refine go_run K 0 2 (pc' := 2) (st' := [(.ref s), (.ref a)]) rfl ?_
  refine go_super K (k := 2) rfl (H.w 87 rfl) (sameM (H.w 90 rfl) (H.w 107 rfl) rfl (by decide)) (H.w 88 rfl) (H.w 89 rfl) (H.w 72 rfl) (H.w 91 rfl) (by decide) pd_13 B1.exa (c_aap H l1 hsum B1 S1 ga g0) (argsL := [(.ref s)]) (rest := []) rfl rfl rfl (subS (List.mem_cons_self ..) sub0) rfl ?_
  rintro _ h1 _ - ⟨rfl, K2, B3⟩
  show Go G B M_sap _ h1 (t :: []) 0 0 5 #[.val (.ref a), .val (.ref s)] [(.ref a)]
  refine go_run K 3 2 (pc' := 7) (st' := [(.ref a)]) rfl ?_
  refine go_areturn K (k := 5) rfl rfl rfl rfl rfl rfl rfl ?_
  intro Sf hSf
  exact ⟨rfl, ((Keep.refl _ [a, t]).trans K2 (allS (Or.inl (List.mem_cons_self ..)) (allS (Or.inl (List.mem_cons_of_mem _ (List.mem_cons_self ..))) all0))), B3⟩
def P_asi : List (Nat × Instr × Nat) := [(0, .aload_n 0, 1), (1, .invokespecial 3, 3), (4, .getstatic 18, 3), (7, .ifCond .eq 18, 3), (10, .aload_n 0, 1), (11, .iload_n 1, 1), (12, .newarray .byte, 2), (14, .putfield 15, 3), (17, .aload_n 0, 1), (18, .iconst 0, 1), (19, .putfield 22, 3), (22, .goto 16, 3), (25, .aload_n 0, 1), (26, .iload_n 1, 1), (27, .invokestatic 26, 3), (30, .putfield 15, 3), (33, .aload_n 0, 1), (34, .iconst 1, 1), (35, .putfield 22, 3), (38, .return_, 1)]
theorem L_asi : ∀ q ∈ P_asi, decode jdk_68_method_2_code q.1 = .ok q.2 := by decide +kernel
def M_asi : Mt := (("java/lang/AbstractStringBuilder", "<init>", ({ frames := 1, cells := 1, slots := 16, locals := 12 } : Room)), P_asi, 2, none)
set_option maxRecDepth 65536 in
set_option maxHeartbeats 40000000 in
theorem c_asi {G : Gb} (H : Gl tables_1 els G) {h : Heap} {a : Addr} (E0 : Exa G.Z h a "java/lang/StringBuilder") (V0 : Fld G.Z h a "java/lang/AbstractStringBuilder" "value" "[B" .null) (C0 : Fld G.Z h a "java/lang/AbstractStringBuilder" "coder" "B" (.int 0)) (N0 : Fld G.Z h a "java/lang/AbstractStringBuilder" "count" "I" (.int 0)) (g0 : G.Z.heap.size ≤ a) :
    Ctr G [] (⟨"java/lang/AbstractStringBuilder", "<init>", "(I)V"⟩ : MethodName) jdk_68_method_2_code 2 none ({ frames := 1, cells := 1, slots := 16, locals := 12 } : Room) #[.ref a, .int 16] h [] (fun v h' Sf => v = none ∧ Keep h h' [a] ∧ ∃ (t : Addr) (kt : ClassId), Sb G h' a t kt [] 16 ∧ G.Z.heap.size ≤ t ∧ h.size ≤ t ∧ Sf t) := by
  refine ctr_of M_asi rfl rfl (plainFor_of_name pn_5) L_asi H.el (Ls := #[.val (.ref a), .val (.int (16 : Int32))]) (fun m => ef_ok (by first | (simp [argsToLocals, Value.category]; done) | rfl)) ?_
  intro B K hE
  obtain ⟨cz, hcs, hcz⟩ := H.cs
  refine go_run K 0 1 (pc' := 1) (st' := [(.ref a)]) rfl ?_
  refine go_init0 K (k := 1) rfl (H.w 74 rfl) (H.w 22 rfl) (H.w 23 rfl) rfl rfl rfl ?_
  refine go_getstatic K (k := 2) rfl (host := "") (Or.inl (H.w 75 rfl)) Via.refl hcs ?_
  refine go_ifeq K (k := 3) rfl (pc' := 25) (by decide) (fun q => absurd q hcz) (fun _ => ?_)
  refine go_run K 4 2 (pc' := 12) (st' := [(.int (16 : Int32)), (.ref a)]) rfl ?_
  refine go_newarray K (k := 6) rfl (H.w 7 rfl) (by decide) (cap := 16) (by decide) rfl rfl rfl ?_
  intro h2 a1 k3 e4 g5 E6 A7
  have A7' : Arv G.Z h2 a1 k3 .byte (16 : Nat).toInt32 (by8 [] ++ List.replicate (16 - ([] : List Int32).length) (.int 0)) (.int 0) := Arv.pad A7 (pad_rep [] _ 16)
  have c8 := (V0.ext E6)
  have c9 := (E0.ext E6)
  refine go_putfield K (k := 7) rfl (host := "") (Or.inl (H.w 76 rfl)) Via.refl c8 c9 (Or.inl (H.w 77 rfl)) (H.w 63 rfl) (ty := (.array .byte)) (by decide) rfl rfl g0 (Or.inr (by decide)) ?_
  intro h10 W11
  have c12 := (C0.ext E6)
  have c13 := (N0.ext E6)
  have F14 : Exa G.Z h10 a "java/lang/StringBuilder" := Exa.wr W11 c9
  have F15 : Fld G.Z h10 a "java/lang/AbstractStringBuilder" "value" "[B" (.ref a1) := Fld.same W11 c8
  have F16 : Fld G.Z h10 a "java/lang/AbstractStringBuilder" "coder" "B" (.int (0 : Int32)) := Fld.other W11 c12 (Or.inr (slot_ne (Or.inl (H.w 79 rfl)) (Or.inl (H.w 77 rfl)) (by decide) (t := .byte) (t' := (.array .byte)) (by decide) (by decide)))
  have F17 : Fld G.Z h10 a "java/lang/AbstractStringBuilder" "count" "I" (.int (0 : Int32)) := Fld.other W11 c13 (Or.inr (slot_ne (Or.inl (H.w 103 rfl)) (Or.inl (H.w 77 rfl)) (by decide) (t := .int) (t' := (.array .byte)) (by decide) (by decide)))
  refine go_run K 8 2 (pc' := 19) (st' := [(.int (0 : Int32)), (.ref a)]) rfl ?_
  refine go_putfield K (k := 10) rfl (host := "") (Or.inl (H.w 78 rfl)) Via.refl F16 F14 (Or.inl (H.w 79 rfl)) (H.w 63 rfl) (ty := .byte) (by decide) rfl rfl g0 (Or.inr (by decide)) ?_
  intro h18 W19
  have F20 : Exa G.Z h18 a "java/lang/StringBuilder" := Exa.wr W19 F14
  have F21 : Fld G.Z h18 a "java/lang/AbstractStringBuilder" "value" "[B" (.ref a1) := Fld.other W19 F15 (Or.inr (slot_ne (Or.inl (H.w 77 rfl)) (Or.inl (H.w 79 rfl)) (by decide) (t := (.array .byte)) (t' := .byte) (by decide) (by decide)))
  have F22 : Fld G.Z h18 a "java/lang/AbstractStringBuilder" "coder" "B" (.int (0 : Int32)) := Fld.same W19 F16
  have F23 : Fld G.Z h18 a "java/lang/AbstractStringBuilder" "count" "I" (.int (0 : Int32)) := Fld.other W19 F17 (Or.inr (slot_ne (Or.inl (H.w 103 rfl)) (Or.inl (H.w 79 rfl)) (by decide) (t := .int) (t' := .byte) (by decide) (by decide)))
  refine go_run K 11 1 (pc' := 38) (st' := []) rfl ?_
  have c24 := (Arv.other (Arv.other A7' W11 (Exa.neArv c9 A7' (H.w 63 rfl)).symm) W19 (Exa.neArv F14 (Arv.other A7' W11 (Exa.neArv c9 A7' (H.w 63 rfl)).symm) (H.w 63 rfl)).symm)
  refine go_return K (k := 19) rfl rfl rfl rfl ?_
  intro Sf hSf
  exact ⟨rfl, ((((Keep.refl _ [a]).ext E6).wr W11 (Or.inl (List.mem_cons_self ..))).wr W19 (Or.inl (List.mem_cons_self ..))), _, _, ⟨F20, F21, F22, F23, c24, by decide, by decide⟩, g5, Nat.le_of_eq e4.symm, hSf _ (List.mem_cons_self ..)⟩
def P_sbi : List (Nat × Instr × Nat) := [(0, .aload_n 0, 1), (1, .bipush 16, 2), (3, .invokespecial 1, 3), (6, .return_, 1)]
theorem L_sbi : ∀ q ∈ P_sbi, decode jdk_67_method_1_code q.1 = .ok q.2 := by decide +kernel
def M_sbi : Mt := (("java/lang/StringBuilder", "<init>", ({ frames := 2, cells := 1, slots := 16, locals := 25 } : Room)), P_sbi, 1, none)
set_option maxRecDepth 65536 in
set_option maxHeartbeats 40000000 in
theorem c_sbi {G : Gb} (H : Gl tables_1 els G) {h : Heap} {a : Addr} (E0 : Exa G.Z h a "java/lang/StringBuilder") (V0 : Fld G.Z h a "java/lang/AbstractStringBuilder" "value" "[B" .null) (C0 : Fld G.Z h a "java/lang/AbstractStringBuilder" "coder" "B" (.int 0)) (N0 : Fld G.Z h a "java/lang/AbstractStringBuilder" "count" "I" (.int 0)) (g0 : G.Z.heap.size ≤ a) :
    Ctr G [] (⟨"java/lang/StringBuilder", "<init>", "()V"⟩ : MethodName) jdk_67_method_1_code 1 none ({ frames := 2, cells := 1, slots := 16, locals := 25 } : Room) #[.ref a] h [] (fun v h' Sf => v = none ∧ Keep h h' [a] ∧ ∃ (t : Addr) (kt : ClassId), Sb G h' a t kt [] 16 ∧ G.Z.heap.size ≤ t ∧ h.size ≤ t ∧ Sf t) := by
  refine ctr_of M_sbi rfl rfl (plainFor_of_name pn_6) L_sbi H.el (Ls := #[.val (.ref a)]) (fun m => ef_ok (by first | (simp [argsToLocals, Value.category]; done) | rfl)) ?_
  intro B K hE
  refine go_run K 0 2 (pc' := 3) (st' := [(.int (16 : Int32)), (.ref a)]) rfl ?_
  refine go_specialN K (k := 2) rfl rfl (H.w 68 rfl) (H.w 69 rfl) (H.w 72 rfl) (H.w 73 rfl) (by decide) pd_11 (c_asi H E0 V0 C0 N0 g0) (argsL := [(.int (16 : Int32))]) (rest := []) rfl rfl rfl sub0 rfl ?_
  rintro _ h1 Sf9 - ⟨rfl, K2, t3, k4, B5, g6, f7, s8⟩
  refine ⟨[t3], allS s8 all0, ?_⟩
  show Go G B M_sbi _ h1 (t3 :: []) 1 16 6 #[.val (.ref a)] []
  refine go_return K (k := 3) rfl rfl rfl rfl ?_
  intro Sf hSf
  exact ⟨rfl, ((Keep.refl _ [a]).trans K2 (allS (Or.inl (List.mem_cons_self ..)) all0)), _, _, B5, g6, f7, hSf _ (List.mem_cons_self ..)⟩
def P_gval : List (Nat × Instr × Nat) := [(0, .aload_n 0, 1), (1, .getfield 15, 3), (4, .areturn, 1)]
theorem L_gval : ∀ q ∈ P_gval, decode jdk_68_method_64_code q.1 = .ok q.2 := by decide +kernel
def M_gval : Mt := (("java/lang/AbstractStringBuilder", "getValue", ({ frames := 0, cells := 0, slots := 0, locals := 0 } : Room)), P_gval, 1, (some (.array .byte)))
set_option maxRecDepth 65536 in
set_option maxHeartbeats 40000000 in
theorem c_gval {G : Gb} (H : Gl tables_1 els G) {h : Heap} {a t : Addr} {kt : ClassId} {cs : List Int32} {m : Nat} (B1 : Sb G h a t kt cs m) :
    Ctr G [] (⟨"java/lang/AbstractStringBuilder", "getValue", "()[B"⟩ : MethodName) jdk_68_method_64_code 1 (some (.array .byte)) ({ frames := 0, cells := 0, slots := 0, locals := 0 } : Room) #[.ref a] h [] (fun v h' Sf => v = some (.ref t) ∧ h = h') := by
  refine ctr_of M_gval rfl rfl (plainFor_of_name pn_5) L_gval H.el (Ls := #[.val (.ref a)]) (fun m => ef_ok (by first | (simp [argsToLocals, Value.category]; done) | rfl)) ?_
  intro B K hE
  obtain ⟨e1, e2, e3, e4, e5, e6, e7⟩ := id B1
  refine go_run K 0 1 (pc' := 1) (st' := [(.ref a)]) rfl ?_
  refine go_getfield K (k := 1) rfl (host := "") (Or.inl (H.w 76 rfl)) Via.refl e2 ?_
  refine go_areturn K (k := 2) rfl rfl rfl rfl rfl rfl rfl ?_
  intro Sf hSf
  exact ⟨rfl, rfl⟩
def P_alen : List (Nat × Instr × Nat) := [(0, .aload_n 0, 1), (1, .getfield 79, 3), (4, .ireturn, 1)]
theorem L_alen : ∀ q ∈ P_alen, decode jdk_68_method_6_code q.1 = .ok q.2 := by decide +kernel
def M_alen : Mt := (("java/lang/AbstractStringBuilder", "length", ({ frames := 0, cells := 0, slots := 0, locals := 0 } : Room)), P_alen, 1, (some .int))
set_option maxRecDepth 65536 in
set_option maxHeartbeats 40000000 in
theorem c_alen {G : Gb} (H : Gl tables_1 els G) {h : Heap} {a t : Addr} {kt : ClassId} {cs : List Int32} {m : Nat} (B1 : Sb G h a t kt cs m) :
    Ctr G [] (⟨"java/lang/AbstractStringBuilder", "length", "()I"⟩ : MethodName) jdk_68_method_6_code 1 (some .int) ({ frames := 0, cells := 0, slots := 0, locals := 0 } : Room) #[.ref a] h [] (fun v h' Sf => v = some (.int cs.length.toInt32) ∧ h = h') := by
  refine ctr_of M_alen rfl rfl (plainFor_of_name pn_5) L_alen H.el (Ls := #[.val (.ref a)]) (fun m => ef_ok (by first | (simp [argsToLocals, Value.category]; done) | rfl)) ?_
  intro B K hE
  obtain ⟨e1, e2, e3, e4, e5, e6, e7⟩ := id B1
  refine go_run K 0 1 (pc' := 1) (st' := [(.ref a)]) rfl ?_
  refine go_getfield K (k := 1) rfl (host := "") (Or.inl (H.w 102 rfl)) Via.refl e4 ?_
  refine go_ireturn K (k := 2) rfl rfl (by decide) rfl rfl rfl ?_
  intro Sf hSf
  exact ⟨rfl, rfl⟩
def P_slen : List (Nat × Instr × Nat) := [(0, .aload_n 0, 1), (1, .invokespecial 343, 3), (4, .ireturn, 1)]
theorem L_slen : ∀ q ∈ P_slen, decode jdk_67_method_93_code q.1 = .ok q.2 := by decide +kernel
def M_slen : Mt := (("java/lang/StringBuilder", "length", ({ frames := 1, cells := 0, slots := 0, locals := 12 } : Room)), P_slen, 1, (some .int))
set_option maxRecDepth 65536 in
set_option maxHeartbeats 40000000 in
theorem c_slen {G : Gb} (H : Gl tables_1 els G) {h : Heap} {a t : Addr} {kt : ClassId} {cs : List Int32} {m : Nat} (B1 : Sb G h a t kt cs m) :
    Ctr G [] (⟨"java/lang/StringBuilder", "length", "()I"⟩ : MethodName) jdk_67_method_93_code 1 (some .int) ({ frames := 1, cells := 0, slots := 0, locals := 12 } : Room) #[.ref a] h [] (fun v h' Sf => v = some (.int cs.length.toInt32) ∧ h = h') := by
  refine ctr_of M_slen rfl rfl (plainFor_of_name pn_6) L_slen H.el (Ls := #[.val (.ref a)]) (fun m => ef_ok (by first | (simp [argsToLocals, Value.category]; done) | rfl)) ?_
  intro B K hE
  obtain ⟨e1, e2, e3, e4, e5, e6, e7⟩ := id B1
  refine go_run K 0 1 (pc' := 1) (st' := [(.ref a)]) rfl ?_
  refine go_super K (k := 1) rfl (H.w 153 rfl) (sameM (H.w 148 rfl) (H.w 107 rfl) rfl (by decide)) (H.w 149 rfl) (H.w 89 rfl) (H.w 72 rfl) (H.w 154 rfl) (by decide) pd_10 e1 (c_alen H B1) (argsL := []) (rest := []) rfl rfl rfl sub0 rfl ?_
  rintro _ _ _ - ⟨rfl, rfl⟩
  show Go G B M_slen _ h [] 0 0 4 #[.val (.ref a)] [(.int (cs).length.toInt32)]
  show Go G B M_slen _ h [] 0 0 4 #[.val (.ref a)] [(.int cs.length.toInt32)]
  refine go_ireturn K (k := 2) rfl rfl (by decide) rfl rfl rfl ?_
  intro Sf hSf
  exact ⟨rfl, rfl⟩
def P_isb : List (Nat × Instr × Nat) := [(0, .getstatic 18, 3), (3, .ifCond .eq 14, 3), (6, .aload_n 0, 1), (7, .getfield 22, 3), (10, .ifCond .ne 7, 3), (13, .iconst 1, 1), (14, .goto 4, 3), (17, .iconst 0, 1), (18, .ireturn, 1)]
theorem L_isb : ∀ q ∈ P_isb, decode jdk_68_method_68_code q.1 = .ok q.2 := by decide +kernel
def M_isb : Mt := (("java/lang/AbstractStringBuilder", "isLatin1", ({ frames := 0, cells := 0, slots := 0, locals := 0 } : Room)), P_isb, 1, (some .boolean))
set_option maxRecDepth 65536 in
set_option maxHeartbeats 40000000 in
theorem c_isb {G : Gb} (H : Gl tables_1 els G) {h : Heap} {a t : Addr} {kt : ClassId} {cs : List Int32} {m : Nat} (B1 : Sb G h a t kt cs m) :
    Ctr G [] (⟨"java/lang/AbstractStringBuilder", "isLatin1", "()Z"⟩ : MethodName) jdk_68_method_68_code 1 (some .boolean) ({ frames := 0, cells := 0, slots := 0, locals := 0 } : Room) #[.ref a] h [] (fun v h' Sf => v = some (.int 1) ∧ h = h') := by
  refine ctr_of M_isb rfl rfl (plainFor_of_name pn_5) L_isb H.el (Ls := #[.val (.ref a)]) (fun m => ef_ok (by first | (simp [argsToLocals, Value.category]; done) | rfl)) ?_
  intro B K hE
  obtain ⟨e1, e2, e3, e4, e5, e6, e7⟩ := id B1
  obtain ⟨cz, hcs, hcz⟩ := H.cs
  refine go_getstatic K (k := 0) rfl (host := "") (Or.inl (H.w 75 rfl)) Via.refl hcs ?_
  refine go_ifeq K (k := 1) rfl (pc' := 17) (by decide) (fun q => absurd q hcz) (fun _ => ?_)
  refine go_run K 2 1 (pc' := 7) (st' := [(.ref a)]) rfl ?_
  refine go_getfield K (k := 3) rfl (host := "") (Or.inl (H.w 78 rfl)) Via.refl e3 ?_
  refine go_ifne K (k := 4) rfl (pc' := 17) (by decide) (fun q => absurd rfl q) (fun _ => ?_)
  refine go_run K 5 2 (pc' := 18) (st' := [(.int (1 : Int32))]) rfl ?_
  refine go_ireturn K (k := 8) rfl rfl (by decide) rfl rfl rfl ?_
  intro Sf hSf
  exact ⟨rfl, rfl⟩
def P_sia : List (Nat × Instr × Nat) := [(0, .aload_n 0, 1), (1, .invokespecial 1, 3), (4, .aload_n 1, 1), (5, .invokevirtual 552, 3), (8, .astore_n 3, 1), (9, .aload_n 1, 1), (10, .invokevirtual 549, 3), (13, .istore 4, 2), (15, .aload_n 1, 1), (16, .invokevirtual 1047, 3), (19, .ifCond .eq 22, 3), (22, .aload_n 0, 1), (23, .iconst 0, 1), (24, .putfield 15, 3), (27, .aload_n 0, 1), (28, .aload_n 3, 1), (29, .iconst 0, 1), (30, .iload 4, 2), (32, .invokestatic 54, 3), (35, .putfield 9, 3), (38, .goto 59, 3), (41, .getstatic 38, 3), (44, .ifCond .eq 35, 3), (47, .aload_n 1, 1), (48, .getfield 1048, 3), (51, .ifCond .eq 28, 3), (54, .aload_n 0, 1), (55, .aload_n 3, 1), (56, .iconst 0, 1), (57, .iload 4, 2), (59, .invokestatic 1051, 3), (62, .putfield 9, 3), (65, .aload_n 0, 1), (66, .aload_n 0, 1), (67, .getfield 9, 3), (70, .iload 4, 2), (72, .invokestatic 47, 3), (75, .putfield 15, 3), (78, .return_, 1), (79, .aload_n 0, 1), (80, .iconst 1, 1), (81, .putfield 15, 3), (84, .aload_n 0, 1), (85, .aload_n 3, 1), (86, .iconst 0, 1), (87, .iload 4, 2), (89, .iconst 1, 1), (90, .ishl, 1), (91, .invokestatic 54, 3), (94, .putfield 9, 3), (97, .return_, 1)]
theorem L_sia : ∀ q ∈ P_sia, decode jdk_42_method_150_code q.1 = .ok q.2 := by decide +kernel
def M_sia : Mt := (("java/lang/String", "<init>", ({ frames := 3, cells := 1, slots := 16, locals := 49 } : Room)), P_sia, 5, none)
set_option maxRecDepth 65536 in
set_option maxHeartbeats 40000000 in
theorem c_sia {G : Gb} (H : Gl tables_1 els G) {h : Heap} {a t s : Addr} {kt : ClassId} {cs : List Int32} {m : Nat} (hlt : cs.length < m) (hcap : cs.length - 0 ≤ 16) (B1 : Sb G h a t kt cs m) (E0 : Exa G.Z h s "java/lang/String") (V0 : Fld G.Z h s "java/lang/String" "value" "[B" .null) (C0 : Fld G.Z h s "java/lang/String" "coder" "B" (.int 0)) (g0 : G.Z.heap.size ≤ s) :
    Ctr G [] (⟨"java/lang/String", "<init>", "(Ljava/lang/AbstractStringBuilder;Ljava/lang/Void;)V"⟩ : MethodName) jdk_42_method_150_code 5 none ({ frames := 3, cells := 1, slots := 16, locals := 49 } : Room) #[.ref s, .ref a, .null] h [s] (fun v h' Sf => v = none ∧ Keep h h' [s] ∧ Str G h' s cs) := by
  refine ctr_of M_sia rfl rfl (plainFor_of_name pn_1) L_sia H.el (Ls := #[.val (.ref s), .val (.ref a), .val .null, .unset, .unset]) (fun m => ef_ok (by first | (simp [argsToLocals, Value.category]; done) | rfl)) ?_
  intro B K hE
  obtain ⟨e1, e2, e3, e4, e5, e6, e7⟩ := id B1
  refine go_run K 0 1 (pc' := 1) (st' := [(.ref s)]) rfl ?_
  refine go_init0 K (k := 1) rfl (H.w 21 rfl) (H.w 22 rfl) (H.w 23 rfl) rfl rfl rfl ?_
  refine go_run K 2 1 (pc' := 5) (st' := [(.ref a)]) rfl ?_
  refine go_virt0 K (k := 3) rfl (H.w 142 rfl) (H.w 145 rfl) (H.w 144 rfl) (H.w 72 rfl) (H.w 146 rfl) (by decide) pd_14 e1 (c_gval H B1) (argsL := []) (rest := []) rfl rfl rfl sub0 rfl ?_
  rintro _ _ _ - ⟨rfl, rfl⟩
  show Go G B M_sia _ h (s :: []) 0 0 8 #[.val (.ref s), .val (.ref a), .val .null, .unset, .unset] [(.ref t)]
  refine go_run K 4 2 (pc' := 10) (Ls' := #[.val (.ref s), .val (.ref a), .val .null, .val (.ref t), .unset]) (st' := [(.ref a)]) rfl ?_
  refine go_virtual K (k := 6) rfl (H.w 147 rfl) (H.w 148 rfl) (H.w 150 rfl) (H.w 151 rfl) (H.w 64 rfl) (H.w 152 rfl) (by decide) pd_10 e1 (nfO (H.w 107 rfl) rfl) (c_slen H B1) (argsL := []) (rest := []) rfl rfl rfl sub0 rfl ?_
  rintro _ _ _ - ⟨rfl, rfl⟩
  show Go G B M_sia _ h (s :: []) 0 0 13 #[.val (.ref s), .val (.ref a), .val .null, .val (.ref t), .unset] [(.int (cs).length.toInt32)]
  show Go G B M_sia _ h (s :: []) 0 0 13 #[.val (.ref s), .val (.ref a), .val .null, .val (.ref t), .unset] [(.int cs.length.toInt32)]
  refine go_run K 7 2 (pc' := 16) (Ls' := #[.val (.ref s), .val (.ref a), .val .null, .val (.ref t), .val (.int cs.length.toInt32)]) (st' := [(.ref a)]) rfl ?_
  refine go_virt0 K (k := 9) rfl (H.w 155 rfl) (H.w 158 rfl) (H.w 157 rfl) (H.w 72 rfl) (H.w 159 rfl) (by decide) pd_15 e1 (c_isb H B1) (argsL := []) (rest := []) rfl rfl rfl sub0 rfl ?_
  rintro _ _ _ - ⟨rfl, rfl⟩
  show Go G B M_sia _ h (s :: []) 0 0 19 #[.val (.ref s), .val (.ref a), .val .null, .val (.ref t), .val (.int cs.length.toInt32)] [(.int (1 : Int32))]
  refine go_ifeq K (k := 10) rfl (pc' := 41) (by decide) (fun q => absurd q (by decide)) (fun _ => ?_)
  refine go_run K 11 2 (pc' := 24) (st' := [(.int (0 : Int32)), (.ref s)]) rfl ?_
  refine go_putfield K (k := 13) rfl (host := "") (Or.inl (H.w 35 rfl)) Via.refl C0 E0 (Or.inr ⟨(H.w 9 rfl), rfl, rfl⟩) (H.w 6 rfl) (ty := .byte) (by decide) rfl rfl g0 (Or.inl (List.mem_cons_self ..)) ?_
  intro h8 W9
  have F10 : Exa G.Z h8 s "java/lang/String" := Exa.wr W9 E0
  have F11 : Fld G.Z h8 s "java/lang/String" "value" "[B" .null := Fld.other W9 V0 (Or.inr (slot_ne (Or.inr (H.w 8 rfl)) (Or.inr (H.w 9 rfl)) (by decide) (t := (.array .byte)) (t' := .byte) (by decide) (by decide)))
  have F12 : Fld G.Z h8 s "java/lang/String" "coder" "B" (.int (0 : Int32)) := Fld.same W9 C0
  refine go_run K 14 4 (pc' := 32) (st' := [(.int cs.length.toInt32), (.int (0 : Int32)), (.ref t), (.ref s)]) rfl ?_
  have c13 := (Arv.other e5 W9 (Exa.neArv E0 e5 (H.w 6 rfl)).symm)
  refine go_staticN K (k := 18) rfl (H.w 160 rfl) (H.w 161 rfl) (H.w 162 rfl) (H.w 163 rfl) (by decide) pd_6 (c_cor (i := 0) (j := cs.length) (m := m) H (fun e => by omega) (Nat.zero_le _) e6 e7 (by rw [List.length_append, by8_len, List.length_replicate]; omega) hcap c13) (argsL := [(.ref t), (.int (0 : Int32)), (.int cs.length.toInt32)]) (rest := [(.ref s)]) rfl rfl rfl sub0 rfl ?_
  rintro _ h14 Sf22 - ⟨u15, k16, rfl, E17, A18, g19, f20, s21⟩
  refine ⟨[u15], allS s21 all0, ?_⟩
  show Go G B M_sia _ h14 (u15 :: (s :: [])) 1 16 35 #[.val (.ref s), .val (.ref a), .val .null, .val (.ref t), .val (.int cs.length.toInt32)] [(.ref u15), (.ref s)]
  have c23 := (F11.ext E17)
  have c24 := (F10.ext E17)
  refine go_putfield K (k := 19) rfl (host := "") (Or.inl (H.w 36 rfl)) Via.refl c23 c24 (Or.inr ⟨(H.w 8 rfl), rfl, rfl⟩) (H.w 6 rfl) (ty := (.array .byte)) (by decide) rfl rfl g0 (Or.inl (List.mem_cons_of_mem _ (List.mem_cons_self ..))) ?_
  intro h25 W26
  have c27 := (F12.ext E17)
  have F28 : Exa G.Z h25 s "java/lang/String" := Exa.wr W26 c24
  have F29 : Fld G.Z h25 s "java/lang/String" "value" "[B" (.ref u15) := Fld.same W26 c23
  have F30 : Fld G.Z h25 s "java/lang/String" "coder" "B" (.int (0 : Int32)) := Fld.other W26 c27 (Or.inr (slot_ne (Or.inr (H.w 9 rfl)) (Or.inr (H.w 8 rfl)) (by decide) (t := .byte) (t' := (.array .byte)) (by decide) (by decide)))
  refine go_run K 20 1 (pc' := 97) (st' := []) rfl ?_
  have c31 := (Arv.other A18 W26 (Exa.neArv c24 A18 (H.w 6 rfl)).symm)
  refine go_return K (k := 50) rfl rfl rfl rfl ?_
  intro Sf hSf
  refine ⟨rfl, ((((Keep.refl _ [s]).wr W9 (Or.inl (List.mem_cons_self ..))).ext E17).wr W26 (Or.inl (List.mem_cons_self ..))), u15, k16, F28, F30, F29, ?_⟩
  have u := c31
  rw [Nat.sub_zero, List.drop_zero, List.take_append_of_le_length (by rw [by8_len]; exact Nat.le_refl _), List.take_of_length_le (by rw [by8_len]; exact Nat.le_refl _)] at u
  exact u
def P_sis : List (Nat × Instr × Nat) := [(0, .aload_n 0, 1), (1, .aload_n 1, 1), (2, .aconst_null, 1), (3, .invokespecial 489, 3), (6, .return_, 1)]
theorem L_sis : ∀ q ∈ P_sis, decode jdk_42_method_53_code q.1 = .ok q.2 := by decide +kernel
def M_sis : Mt := (("java/lang/String", "<init>", ({ frames := 4, cells := 1, slots := 16, locals := 65 } : Room)), P_sis, 2, none)
set_option maxRecDepth 65536 in
set_option maxHeartbeats 40000000 in
theorem c_sis {G : Gb} (H : Gl tables_1 els G) {h : Heap} {a t s : Addr} {kt : ClassId} {cs : List Int32} {m : Nat} (hlt : cs.length < m) (hcap : cs.length - 0 ≤ 16) (B1 : Sb G h a t kt cs m) (E0 : Exa G.Z h s "java/lang/String") (V0 : Fld G.Z h s "java/lang/String" "value" "[B" .null) (C0 : Fld G.Z h s "java/lang/String" "coder" "B" (.int 0)) (g0 : G.Z.heap.size ≤ s) :
    Ctr G [] (⟨"java/lang/String", "<init>", "(Ljava/lang/StringBuilder;)V"⟩ : MethodName) jdk_42_method_53_code 2 none ({ frames := 4, cells := 1, slots := 16, locals := 65 } : Room) #[.ref s, .ref a] h [s] (fun v h' Sf => v = none ∧ Keep h h' [s] ∧ Str G h' s cs) := by
  refine ctr_of M_sis rfl rfl (plainFor_of_name pn_1) L_sis H.el (Ls := #[.val (.ref s), .val (.ref a)]) (fun m => ef_ok (by first | (simp [argsToLocals, Value.category]; done) | rfl)) ?_
  intro B K hE
  refine go_run K 0 3 (pc' := 3) (st' := [.null, (.ref a), (.ref s)]) rfl ?_
  refine go_special K (k := 3) rfl rfl (H.w 139 rfl) (H.w 140 rfl) (H.w 5 rfl) (H.w 141 rfl) (by decide) pd_16 (c_sia H hlt hcap B1 E0 V0 C0 g0) (argsL := [(.ref a), .null]) (rest := []) rfl rfl rfl (subS (List.mem_cons_self ..) sub0) rfl ?_
  rintro _ h1 _ - ⟨rfl, K2, S3⟩
  show Go G B M_sis _ h1 (s :: []) 1 16 6 #[.val (.ref s), .val (.ref a)] []
  refine go_return K (k := 4) rfl rfl rfl rfl ?_
  intro Sf hSf
  exact ⟨rfl, ((Keep.refl _ [s]).trans K2 (allS (Or.inl (List.mem_cons_self ..)) all0)), S3⟩
def P_sbs : List (Nat × Instr × Nat) := [(0, .new 18, 3), (3, .dup, 1), (4, .aload_n 0, 1), (5, .invokespecial 137, 3), (8, .areturn, 1)]
theorem L_sbs : ∀ q ∈ P_sbs, decode jdk_67_method_42_code q.1 = .ok q.2 := by decide +kernel
def M_sbs : Mt := (("java/lang/StringBuilder", "toString", ({ frames := 5, cells := 2, slots := 20, locals := 79 } : Room)), P_sbs, 1, (some (.object "java/lang/String")))
set_option maxRecDepth 65536 in
set_option maxHeartbeats 40000000 in
theorem c_sbs {G : Gb} (H : Gl tables_1 els G) {h : Heap} {a t : Addr} {kt : ClassId} {cs : List Int32} {m : Nat} (hlt : cs.length < m) (hcap : cs.length - 0 ≤ 16) (B1 : Sb G h a t kt cs m) :
    Ctr G [] (⟨"java/lang/StringBuilder", "toString", "()Ljava/lang/String;"⟩ : MethodName) jdk_67_method_42_code 1 (some (.object "java/lang/String")) ({ frames := 5, cells := 2, slots := 20, locals := 79 } : Room) #[.ref a] h [] (fun v h' Sf => ∃ s : Addr, v = some (.ref s) ∧ Ext h h' ∧ Str G h' s cs ∧ G.Z.heap.size ≤ s) := by
  refine ctr_of M_sbs rfl rfl (plainFor_of_name pn_6) L_sbs H.el (Ls := #[.val (.ref a)]) (fun m => ef_ok (by first | (simp [argsToLocals, Value.category]; done) | rfl)) ?_
  intro B K hE
  refine go_new K (k := 0) rfl (H.w 135 rfl) (H.w 6 rfl) (H.w 5 rfl) rfl rfl ?_
  intro h2 a1 e3 g4 E5 A6 D7
  have F8 : Fld G.Z h2 a1 "java/lang/String" "value" "[B" .null := D7 (Or.inr (H.w 8 rfl)) (ty := (.array .byte)) (by decide)
  have F9 : Fld G.Z h2 a1 "java/lang/String" "coder" "B" (.int (0 : Int32)) := D7 (Or.inr (H.w 9 rfl)) (ty := .byte) (by decide)
  refine go_run K 1 2 (pc' := 5) (st' := [(.ref a), (.ref a1), (.ref a1)]) rfl ?_
  have c10 := (B1.ext E5)
  refine go_special K (k := 3) rfl rfl (H.w 136 rfl) (H.w 137 rfl) (H.w 5 rfl) (H.w 138 rfl) (by decide) pd_17 (c_sis H hlt hcap c10 A6 F8 F9 g4) (argsL := [(.ref a)]) (rest := [(.ref a1)]) rfl rfl rfl (subS (List.mem_cons_self ..) sub0) rfl ?_
  rintro _ h11 _ - ⟨rfl, K12, S13⟩
  show Go G B M_sbs _ h11 (a1 :: []) 2 20 8 #[.val (.ref a)] [(.ref a1)]
  have X14 : Ext h h11 := (Ext.keepN E5 K12 (allS (Nat.le_trans (Nat.le_refl _) (Nat.le_of_eq e3.symm)) all0))
  refine go_areturn K (k := 4) rfl rfl rfl rfl rfl rfl rfl ?_
  intro Sf hSf
  exact ⟨_, rfl, X14, S13, g4⟩
def P_isl : List (Nat × Instr × Nat) := [(0, .getstatic 38, 3), (3, .ifCond .eq 14, 3), (6, .aload_n 0, 1), (7, .getfield 15, 3), (10, .ifCond .ne 7, 3), (13, .iconst 1, 1), (14, .goto 4, 3), (17, .iconst 0, 1), (18, .ireturn, 1)]
theorem L_isl : ∀ q ∈ P_isl, decode jdk_42_method_154_code q.1 = .ok q.2 := by decide +kernel
def M_isl : Mt := (("java/lang/String", "isLatin1", ({ frames := 0, cells := 0, slots := 0, locals := 0 } : Room)), P_isl, 1, (some .boolean))
set_option maxRecDepth 65536 in
set_option maxHeartbeats 40000000 in
theorem c_isl {G : Gb} (H : Gl tables_1 els G) {h : Heap} {a : Addr} {cs : List Int32} (S1 : Str G h a cs) :
    Ctr G [] (⟨"java/lang/String", "isLatin1", "()Z"⟩ : MethodName) jdk_42_method_154_code 1 (some .boolean) ({ frames := 0, cells := 0, slots := 0, locals := 0 } : Room) #[.ref a] h [] (fun v h' Sf => v = some (.int 1) ∧ h = h') := by
  refine ctr_of M_isl rfl rfl (plainFor_of_name pn_1) L_isl H.el (Ls := #[.val (.ref a)]) (fun m => ef_ok (by first | (simp [argsToLocals, Value.category]; done) | rfl)) ?_
  intro B K hE
  obtain ⟨cz, hcs, hcz⟩ := H.cs
  obtain ⟨t1, k2, e3, e4, e5, e6⟩ := id S1
  refine go_getstatic K (k := 0) rfl (host := "") (Or.inl (H.w 24 rfl)) Via.refl hcs ?_
  refine go_ifeq K (k := 1) rfl (pc' := 17) (by decide) (fun q => absurd q hcz) (fun _ => ?_)
  refine go_run K 2 1 (pc' := 7) (st' := [(.ref a)]) rfl ?_
  refine go_getfield K (k := 3) rfl (host := "") (Or.inl (H.w 35 rfl)) Via.refl e4 ?_
  refine go_ifne K (k := 4) rfl (pc' := 17) (by decide) (fun q => absurd rfl q) (fun _ => ?_)
  refine go_run K 5 2 (pc' := 18) (st' := [(.int (1 : Int32))]) rfl ?_
  refine go_ireturn K (k := 8) rfl rfl (by decide) rfl rfl rfl ?_
  intro Sf hSf
  exact ⟨rfl, rfl⟩
theorem pn_7 : plainName "jdk/internal/util/Preconditions" = true := by first | (simp [plainName, overriddenIn]; done) | decide +kernel
def P_pci : List (Nat × Instr × Nat) := [(0, .iload_n 0, 1), (1, .ifCond .lt 8, 3), (4, .iload_n 0, 1), (5, .iload_n 1, 1), (6, .if_icmp .lt 10, 3), (9, .aload_n 2, 1), (10, .iload_n 0, 1), (11, .iload_n 1, 1), (12, .invokestatic 95, 3), (15, .athrow, 1), (16, .iload_n 0, 1), (17, .ireturn, 1)]
theorem L_pci : ∀ q ∈ P_pci, decode jdk_41_method_11_code q.1 = .ok q.2 := by decide +kernel
def M_pci : Mt := (("jdk/internal/util/Preconditions", "checkIndex", ({ frames := 0, cells := 0, slots := 0, locals := 0 } : Room)), P_pci, 3, (some .int))
set_option maxRecDepth 65536 in
set_option maxHeartbeats 40000000 in
theorem c_pci {G : Gb} (H : Gl tables_1 els G) {h : Heap} {x n : Int32} {f : Addr} (h1 : ¬ x < 0) (h2 : x < n) :
    Ctr G [] (⟨"jdk/internal/util/Preconditions", "checkIndex", "(IILjava/util/function/BiFunction;)I"⟩ : MethodName) jdk_41_method_11_code 3 (some .int) ({ frames := 0, cells := 0, slots := 0, locals := 0 } : Room) #[.int x, .int n, .ref f] h [] (fun v h' Sf => v = some (.int x) ∧ h = h') := by
  refine ctr_of M_pci rfl rfl (plainFor_of_name pn_7) L_pci H.el (Ls := #[.val (.int x), .val (.int n), .val (.ref f)]) (fun m => ef_ok (by first | (simp [argsToLocals, Value.category]; done) | rfl)) ?_
  intro B K hE
  refine go_run K 0 1 (pc' := 1) (st' := [(.int x)]) rfl ?_
  refine go_iflt K (k := 1) rfl (pc' := 9) (by decide) (fun q => absurd q h1) (fun _ => ?_)
  refine go_run K 2 2 (pc' := 6) (st' := [(.int n), (.int x)]) rfl ?_
  refine go_icmplt K (k := 4) rfl (pc' := 16) (by decide) (fun _ => ?_) (fun q => absurd h2 q)
  refine go_run K 10 1 (pc' := 17) (st' := [(.int x)]) rfl ?_
  refine go_ireturn K (k := 11) rfl rfl (by decide) rfl rfl rfl ?_
  intro Sf hSf
  exact ⟨rfl, rfl⟩
set_option maxRecDepth 65536 in
set_option maxHeartbeats 40000000 in
theorem c_pciN {G : Gb} (H : Gl tables_1 els G) {h : Heap} {x n : Int32} (h1 : ¬ x < 0) (h2 : x < n) :
    Ctr G [] (⟨"jdk/internal/util/Preconditions", "checkIndex", "(IILjava/util/function/BiFunction;)I"⟩ : MethodName) jdk_41_method_11_code 3 (some .int) ({ frames := 0, cells := 0, slots := 0, locals := 0 } : Room) #[.int x, .int n, .null] h [] (fun v h' Sf => v = some (.int x) ∧ h = h') := by
  refine ctr_of M_pci rfl rfl (plainFor_of_name pn_7) L_pci H.el (Ls := #[.val (.int x), .val (.int n), .val .null]) (fun m => ef_ok (by first | (simp [argsToLocals, Value.category]; done) | rfl)) ?_
  intro B K hE
  refine go_run K 0 1 (pc' := 1) (st' := [(.int x)]) rfl ?_
  refine go_iflt K (k := 1) rfl (pc' := 9) (by decide) (fun q => absurd q h1) (fun _ => ?_)
  refine go_run K 2 2 (pc' := 6) (st' := [(.int n), (.int x)]) rfl ?_
  refine go_icmplt K (k := 4) rfl (pc' := 16) (by decide) (fun _ => ?_) (fun q => absurd h2 q)
  refine go_run K 10 1 (pc' := 17) (st' := [(.int x)]) rfl ?_
  refine go_ireturn K (k := 11) rfl rfl (by decide) rfl rfl rfl ?_
  intro Sf hSf
  exact ⟨rfl, rfl⟩
def P_sci : List (Nat × Instr × Nat) := [(0, .iload_n 0, 1), (1, .iload_n 1, 1), (2, .getstatic 1053, 3), (5, .invokestatic 1059, 3), (8, .pop, 1), (9, .return_, 1)]
theorem L_sci : ∀ q ∈ P_sci, decode jdk_42_method_155_code q.1 = .ok q.2 := by decide +kernel
def M_sci : Mt := (("java/lang/String", "checkIndex", ({ frames := 1, cells := 0, slots := 0, locals := 14 } : Room)), P_sci, 2, none)
set_option maxRecDepth 65536 in
set_option maxHeartbeats 40000000 in
theorem c_sci {G : Gb} (H : Gl tables_1 els G) {h : Heap} {x n : Int32} (hF : ∃ vf : Value, Sta G.Z G.Z.heap "jdk/internal/util/Preconditions" "SIOOBE_FORMATTER" "Ljava/util/function/BiFunction;" vf ∧ vf.isRef = true) (h1 : ¬ x < 0) (h2 : x < n) :
    Ctr G [] (⟨"java/lang/String", "checkIndex", "(II)V"⟩ : MethodName) jdk_42_method_155_code 2 none ({ frames := 1, cells := 0, slots := 0, locals := 14 } : Room) #[.int x, .int n] h [] (fun v h' Sf => v = none ∧ h = h') := by
  refine ctr_of M_sci rfl rfl (plainFor_of_name pn_1) L_sci H.el (Ls := #[.val (.int x), .val (.int n)]) (fun m => ef_ok (by first | (simp [argsToLocals, Value.category]; done) | rfl)) ?_
  intro B K hE
  obtain ⟨vf, hsf, hrf⟩ := hF
  refine go_run K 0 2 (pc' := 2) (st' := [(.int n), (.int x)]) rfl ?_
  obtain rfl | ⟨f, rfl⟩ := ref_cases hrf
  · refine go_getstatic K (k := 2) rfl (host := "") (Or.inl (H.w 197 rfl)) Via.refl hsf ?_
    refine go_static K (k := 3) rfl (H.w 199 rfl) (H.w 200 rfl) (H.w 198 rfl) (H.w 201 rfl) (by decide) pd_18 (c_pciN (x := x) (n := n) H h1 h2) (argsL := [(.int x), (.int n), .null]) (rest := []) rfl rfl rfl sub0 rfl ?_
    rintro _ _ _ - ⟨rfl, rfl⟩
    show Go G B M_sci _ h [] 0 0 8 #[.val (.int x), .val (.int n)] [(.int x)]
    refine go_run K 4 1 (pc' := 9) (st' := []) rfl ?_
    refine go_return K (k := 5) rfl rfl rfl rfl ?_
    intro Sf hSf
    exact ⟨rfl, rfl⟩
  · refine go_getstatic K (k := 2) rfl (host := "") (Or.inl (H.w 197 rfl)) Via.refl hsf ?_
    refine go_static K (k := 3) rfl (H.w 199 rfl) (H.w 200 rfl) (H.w 198 rfl) (H.w 201 rfl) (by decide) pd_18 (c_pci (x := x) (n := n) (f := f) H h1 h2) (argsL := [(.int x), (.int n), (.ref f)]) (rest := []) rfl rfl rfl sub0 rfl ?_
    rintro _ _ _ - ⟨rfl, rfl⟩
    show Go G B M_sci _ h [] 0 0 8 #[.val (.int x), .val (.int n)] [(.int x)]
    refine go_run K 4 1 (pc' := 9) (st' := []) rfl ?_
    refine go_return K (k := 5) rfl rfl rfl rfl ?_
    intro Sf hSf
    exact ⟨rfl, rfl⟩
theorem pn_8 : plainName "java/lang/StringLatin1" = true := by first | (simp [plainName, overriddenIn]; done) | decide +kernel
def P_lca : List (Nat × Instr × Nat) := [(0, .iload_n 1, 1), (1, .aload_n 0, 1), (2, .arraylength, 1), (3, .invokestatic 9, 3), (6, .aload_n 0, 1), (7, .iload_n 1, 1), (8, .baload, 1), (9, .sipush 255, 3), (12, .iand, 1), (13, .i2c, 1), (14, .ireturn, 1)]
theorem L_lca : ∀ q ∈ P_lca, decode jdk_43_method_2_code q.1 = .ok q.2 := by decide +kernel
def M_lca : Mt := (("java/lang/StringLatin1", "charAt", ({ frames := 2, cells := 0, slots := 0, locals := 27 } : Room)), P_lca, 2, (some .char))
set_option maxRecDepth 65536 in
set_option maxHeartbeats 40000000 in
theorem c_lca {G : Gb} (H : Gl tables_1 els G) {h : Heap} {t : Addr} {kt : ClassId} {cs : List Int32} {i : Nat} (l1 : Lat cs) (p1 : i < cs.length) (hF : ∃ vf : Value, Sta G.Z G.Z.heap "jdk/internal/util/Preconditions" "SIOOBE_FORMATTER" "Ljava/util/function/BiFunction;" vf ∧ vf.isRef = true) (A1 : Arv G.Z h t kt .byte cs.length.toInt32 (by8 cs) (.int 0)) :
    Ctr G [] (⟨"java/lang/StringLatin1", "charAt", "([BI)C"⟩ : MethodName) jdk_43_method_2_code 2 (some .char) ({ frames := 2, cells := 0, slots := 0, locals := 27 } : Room) #[.ref t, .int i.toInt32] h [] (fun v h' Sf => v = some (.int cs[i]) ∧ h = h') := by
  refine ctr_of M_lca rfl rfl (plainFor_of_name pn_8) L_lca H.el (Ls := #[.val (.ref t), .val (.int i.toInt32)]) (fun m => ef_ok (by first | (simp [argsToLocals, Value.category]; done) | rfl)) ?_
  intro B K hE
  have hl1 := lat_lt l1
  refine go_run K 0 2 (pc' := 2) (st' := [(.ref t), (.int i.toInt32)]) rfl ?_
  refine go_arraylength K (k := 2) rfl A1 ?_
  refine go_static K (k := 3) rfl (H.w 194 rfl) (H.w 195 rfl) (H.w 5 rfl) (H.w 196 rfl) (by decide) pd_4 (c_sci (x := i.toInt32) (n := cs.length.toInt32) H hF (len_nn (by omega)) (len_lt hl1 p1)) (argsL := [(.int i.toInt32), (.int cs.length.toInt32)]) (rest := []) rfl rfl rfl sub0 rfl ?_
  rintro _ _ _ - ⟨rfl, rfl⟩
  show Go G B M_lca _ h [] 0 0 6 #[.val (.ref t), .val (.int i.toInt32)] []
  refine go_run K 4 2 (pc' := 8) (st' := [(.int i.toInt32), (.ref t)]) rfl ?_
  refine go_baload K (k := 6) rfl A1 ⟨len_nn (by omega), len_lt hl1 p1⟩ (v := .int cs[i].toInt8.toInt32) (by rw [len_nat (by omega)]; exact get_by8 p1) ?_
  refine go_run K 7 3 (pc' := 14) (st' := [(.int ((cs[i].toInt8.toInt32 &&& (255 : Int32))).toUInt32.toUInt16.toUInt32.toInt32)]) rfl ?_
  rw [b8_char (l1.2 _ (List.getElem_mem p1))]
  refine go_ireturn K (k := 10) rfl rfl (by decide) (char_n (l1.2 _ (List.getElem_mem p1))) rfl rfl ?_
  intro Sf hSf
  exact ⟨rfl, rfl⟩
def P_cha : List (Nat × Instr × Nat) := [(0, .aload_n 0, 1), (1, .invokevirtual 492, 3), (4, .ifCond .eq 12, 3), (7, .aload_n 0, 1), (8, .getfield 9, 3), (11, .iload_n 1, 1), (12, .invokestatic 495, 3), (15, .ireturn, 1), (16, .aload_n 0, 1), (17, .getfield 9, 3), (20, .iload_n 1, 1), (21, .invokestatic 498, 3), (24, .ireturn, 1)]
theorem L_cha : ∀ q ∈ P_cha, decode jdk_42_method_56_code q.1 = .ok q.2 := by decide +kernel
def M_cha : Mt := (("java/lang/String", "charAt", ({ frames := 3, cells := 0, slots := 0, locals := 40 } : Room)), P_cha, 2, (some .char))
set_option maxRecDepth 65536 in
set_option maxHeartbeats 40000000 in
theorem c_cha {G : Gb} (H : Gl tables_1 els G) {h : Heap} {a : Addr} {cs : List Int32} {i : Nat} (l1 : Lat cs) (p1 : i < cs.length) (hF : ∃ vf : Value, Sta G.Z G.Z.heap "jdk/internal/util/Preconditions" "SIOOBE_FORMATTER" "Ljava/util/function/BiFunction;" vf ∧ vf.isRef = true) (S1 : Str G h a cs) :
    Ctr G [] (⟨"java/lang/String", "charAt", "(I)C"⟩ : MethodName) jdk_42_method_56_code 2 (some .char) ({ frames := 3, cells := 0, slots := 0, locals := 40 } : Room) #[.ref a, .int i.toInt32] h [] (fun v h' Sf => v = some (.int cs[i]) ∧ h = h') := by
  refine ctr_of M_cha rfl rfl (plainFor_of_name pn_1) L_cha H.el (Ls := #[.val (.ref a), .val (.int i.toInt32)]) (fun m => ef_ok (by first | (simp [argsToLocals, Value.category]; done) | rfl)) ?_
  intro B K hE
  obtain ⟨t1, k2, e3, e4, e5, e6⟩ := id S1
  refine go_run K 0 1 (pc' := 1) (st' := [(.ref a)]) rfl ?_
  refine go_virt0 K (k := 1) rfl (H.w 185 rfl) (H.w 188 rfl) (H.w 187 rfl) (H.w 5 rfl) (H.w 189 rfl) (by decide) pd_15 S1.exa (c_isl H S1) (argsL := []) (rest := []) rfl rfl rfl sub0 rfl ?_
  rintro _ _ _ - ⟨rfl, rfl⟩
  show Go G B M_cha _ h [] 0 0 4 #[.val (.ref a), .val (.int i.toInt32)] [(.int (1 : Int32))]
  refine go_ifeq K (k := 2) rfl (pc' := 16) (by decide) (fun q => absurd q (by decide)) (fun _ => ?_)
  refine go_run K 3 1 (pc' := 8) (st' := [(.ref a)]) rfl ?_
  refine go_getfield K (k := 4) rfl (host := "") (Or.inl (H.w 36 rfl)) Via.refl e5 ?_
  refine go_run K 5 1 (pc' := 12) (st' := [(.int i.toInt32), (.ref t1)]) rfl ?_
  refine go_static K (k := 6) rfl (H.w 190 rfl) (H.w 191 rfl) (H.w 192 rfl) (H.w 193 rfl) (by decide) pd_19 (c_lca (i := i) H l1 p1 hF e6) (argsL := [(.ref t1), (.int i.toInt32)]) (rest := []) rfl rfl rfl sub0 rfl ?_
  rintro _ _ _ - ⟨rfl, rfl⟩
  show Go G B M_cha _ h [] 0 0 15 #[.val (.ref a), .val (.int i.toInt32)] [(.int cs[i])]
  refine go_ireturn K (k := 7) rfl rfl (by decide) (char_n (l1.2 _ (List.getElem_mem p1))) rfl rfl ?_
  intro Sf hSf
  exact ⟨rfl, rfl⟩
theorem c_chaQ {G : Gb} (H : Gl tables_1 els G) {h : Heap} {a : Addr} {cs : List Int32} {i : Nat} {c : Int32} (l1 : Lat cs) (hc : cs[i]? = some c) (hF : ∃ vf : Value, Sta G.Z G.Z.heap "jdk/internal/util/Preconditions" "SIOOBE_FORMATTER" "Ljava/util/function/BiFunction;" vf ∧ vf.isRef = true) (S1 : Str G h a cs) :
    Ctr G [] (⟨"java/lang/String", "charAt", "(I)C"⟩ : MethodName) jdk_42_method_56_code 2 (some .char) ({ frames := 3, cells := 0, slots := 0, locals := 40 } : Room) #[.ref a, .int i.toInt32] h [] (fun v h' Sf => v = some (.int c) ∧ h = h') := by
  obtain ⟨p, rfl⟩ := List.getElem?_eq_some_iff.mp hc
  exact c_cha H l1 p hF S1
theorem pn_9 : plainName "com/example/gentle_retry/gentleretry/rabbitmq/SubscriptionQueue" = true := by first | (simp [plainName, overriddenIn]; done) | decide +kernel
def P_sq : List (Nat × Instr × Nat) := [(0, .aload_n 0, 1), (1, .invokespecial 1, 3), (4, .aload_n 0, 1), (5, .aload_n 1, 1), (6, .ldc 7, 2), (8, .invokestatic 9, 3), (11, .checkcast 15, 3), (14, .putfield 17, 3), (17, .aload_n 0, 1), (18, .aload_n 2, 1), (19, .ldc 22, 2), (21, .invokestatic 9, 3), (24, .checkcast 24, 3), (27, .putfield 26, 3), (30, .return_, 1)]
theorem L_sq : ∀ q ∈ P_sq, decode prog_5_method_1_code q.1 = .ok q.2 := by decide +kernel
def M_sq : Mt := (("com/example/gentle_retry/gentleretry/rabbitmq/SubscriptionQueue", "<init>", ({ frames := 1, cells := 4, slots := 40, locals := 14 } : Room)), P_sq, 3, none)
set_option maxRecDepth 65536 in
set_option maxHeartbeats 40000000 in
theorem c_sq {G : Gb} (H : Gl tables_1 els G) {h : Heap} {a : Addr} {r0 : Addr} {r1 : Addr} (E0 : Exa G.Z h a "com/example/gentle_retry/gentleretry/rabbitmq/SubscriptionQueue") (f0 : Fld G.Z h a "com/example/gentle_retry/gentleretry/rabbitmq/SubscriptionQueue" "role" "Lcom/example/gentle_retry/gentleretry/rabbitmq/SubscriptionQueue$Role;" .null) (f1 : Fld G.Z h a "com/example/gentle_retry/gentleretry/rabbitmq/SubscriptionQueue" "name" "Ljava/lang/String;" .null) (g0 : G.Z.heap.size ≤ a) (x0 : Exa G.Z h r0 "com/example/gentle_retry/gentleretry/rabbitmq/SubscriptionQueue$Role") (x1 : Exa G.Z h r1 "java/lang/String") :
    Ctr G [] (⟨"com/example/gentle_retry/gentleretry/rabbitmq/SubscriptionQueue", "<init>", "(Lcom/example/gentle_retry/gentleretry/rabbitmq/SubscriptionQueue$Role;Ljava/lang/String;)V"⟩ : MethodName) prog_5_method_1_code 3 none ({ frames := 1, cells := 4, slots := 40, locals := 14 } : Room) #[.ref a, .ref r0, .ref r1] h [] (fun v h' Sf => v = none ∧ Keep h h' [a] ∧ Exa G.Z h' a "com/example/gentle_retry/gentleretry/rabbitmq/SubscriptionQueue" ∧ Fld G.Z h' a "com/example/gentle_retry/gentleretry/rabbitmq/SubscriptionQueue" "role" "Lcom/example/gentle_retry/gentleretry/rabbitmq/SubscriptionQueue$Role;" (.ref r0) ∧ Fld G.Z h' a "com/example/gentle_retry/gentleretry/rabbitmq/SubscriptionQueue" "name" "Ljava/lang/String;" (.ref r1)) := by
  refine ctr_of M_sq rfl rfl (plainFor_of_name pn_9) L_sq H.el (Ls := #[.val (.ref a), .val (.ref r0), .val (.ref r1)]) (fun m => ef_ok (by first | (simp [argsToLocals, Value.category]; done) | rfl)) ?_
  intro B K hE
  refine go_run K 0 1 (pc' := 1) (st' := [(.ref a)]) rfl ?_
  refine go_init0 K (k := 1) rfl (H.w 43 rfl) (H.w 22 rfl) (H.w 23 rfl) rfl rfl rfl ?_
  refine go_run K 2 2 (pc' := 6) (st' := [(.ref r0), (.ref a)]) rfl ?_
  refine go_ldc K (k := 4) rfl (H.w 44 rfl) H.ws (n := 16) rfl rfl rfl rfl ?_
  intro h2 a1 E3
  refine go_static K (k := 5) rfl (H.w 45 rfl) (H.w 46 rfl) (H.w 47 rfl) (H.w 48 rfl) (by decide) pd_20 (c_rnn2 (a := r0) (m := a1) H) (argsL := [(.ref r0), (.ref a1)]) (rest := [(.ref a)]) rfl rfl rfl sub0 rfl ?_
  rintro _ _ _ - ⟨rfl, rfl⟩
  show Go G B M_sq _ h2 [] 2 20 11 #[.val (.ref a), .val (.ref r0), .val (.ref r1)] [(.ref r0), (.ref a)]
  have c4 := (x0.ext E3)
  refine go_cast K (k := 6) rfl (H.w 49 rfl) (Ins.self c4) ?_
  have c5 := (f0.ext E3)
  have c6 := (E0.ext E3)
  refine go_putfield K (k := 7) rfl (host := "") (Or.inl (H.w 51 rfl)) Via.refl c5 c6 (Or.inr ⟨(H.w 52 rfl), rfl, rfl⟩) (H.w 38 rfl) (ty := (.object "com/example/gentle_retry/gentleretry/rabbitmq/SubscriptionQueue$Role")) (by decide) rfl rfl g0 (Or.inr (by decide)) ?_
  intro h7 W8
  have c9 := (f1.ext E3)
  have F10 : Exa G.Z h7 a "com/example/gentle_retry/gentleretry/rabbitmq/SubscriptionQueue" := Exa.wr W8 c6
  have F11 : Fld G.Z h7 a "com/example/gentle_retry/gentleretry/rabbitmq/SubscriptionQueue" "role" "Lcom/example/gentle_retry/gentleretry/rabbitmq/SubscriptionQueue$Role;" (.ref r0) := Fld.same W8 c5
  have F12 : Fld G.Z h7 a "com/example/gentle_retry/gentleretry/rabbitmq/SubscriptionQueue" "name" "Ljava/lang/String;" .null := Fld.other W8 c9 (Or.inr (slot_ne (Or.inr (H.w 56 rfl)) (Or.inr (H.w 52 rfl)) (by decide) (t := (.object "java/lang/String")) (t' := (.object "com/example/gentle_retry/gentleretry/rabbitmq/SubscriptionQueue$Role")) (by decide) (by decide)))
  refine go_run K 8 2 (pc' := 19) (st' := [(.ref r1), (.ref a)]) rfl ?_
  refine go_ldc K (k := 10) rfl (H.w 53 rfl) H.ws (n := 16) rfl rfl rfl rfl ?_
  intro h14 a13 E15
  refine go_static K (k := 11) rfl (H.w 45 rfl) (H.w 46 rfl) (H.w 47 rfl) (H.w 48 rfl) (by decide) pd_20 (c_rnn2 (a := r1) (m := a13) H) (argsL := [(.ref r1), (.ref a13)]) (rest := [(.ref a)]) rfl rfl rfl sub0 rfl ?_
  rintro _ _ _ - ⟨rfl, rfl⟩
  show Go G B M_sq _ h14 [] 4 40 24 #[.val (.ref a), .val (.ref r0), .val (.ref r1)] [(.ref r1), (.ref a)]
  have c16 := ((Exa.wr W8 (x1.ext E3)).ext E15)
  refine go_cast K (k := 12) rfl (H.w 54 rfl) (Ins.self c16) ?_
  have c17 := (F12.ext E15)
  have c18 := (F10.ext E15)
  refine go_putfield K (k := 13) rfl (host := "") (Or.inl (H.w 55 rfl)) Via.refl c17 c18 (Or.inr ⟨(H.w 56 rfl), rfl, rfl⟩) (H.w 38 rfl) (ty := (.object "java/lang/String")) (by decide) rfl rfl g0 (Or.inr (by decide)) ?_
  intro h19 W20
  have c21 := (F11.ext E15)
  have F22 : Exa G.Z h19 a "com/example/gentle_retry/gentleretry/rabbitmq/SubscriptionQueue" := Exa.wr W20 c18
  have F23 : Fld G.Z h19 a "com/example/gentle_retry/gentleretry/rabbitmq/SubscriptionQueue" "role" "Lcom/example/gentle_retry/gentleretry/rabbitmq/SubscriptionQueue$Role;" (.ref r0) := Fld.other W20 c21 (Or.inr (slot_ne (Or.inr (H.w 52 rfl)) (Or.inr (H.w 56 rfl)) (by decide) (t := (.object "com/example/gentle_retry/gentleretry/rabbitmq/SubscriptionQueue$Role")) (t' := (.object "java/lang/String")) (by decide) (by decide)))
  have F24 : Fld G.Z h19 a "com/example/gentle_retry/gentleretry/rabbitmq/SubscriptionQueue" "name" "Ljava/lang/String;" (.ref r1) := Fld.same W20 c17
  refine go_return K (k := 14) rfl rfl rfl rfl ?_
  intro Sf hSf
  exact ⟨rfl, (((((Keep.refl _ [a]).ext E3).wr W8 (Or.inl (List.mem_cons_self ..))).ext E15).wr W20 (Or.inl (List.mem_cons_self ..))), F22, F23, F24⟩
def P_tos : List (Nat × Instr × Nat) := [(0, .new 86, 3), (3, .dup, 1), (4, .invokespecial 88, 3), (7, .aload_n 0, 1), (8, .getfield 17, 3), (11, .getfield 141, 3), (14, .invokevirtual 89, 3), (17, .ldc 144, 2), (19, .invokevirtual 89, 3), (22, .aload_n 0, 1), (23, .getfield 26, 3), (26, .invokevirtual 89, 3), (29, .invokevirtual 102, 3), (32, .areturn, 1)]
theorem L_tos : ∀ q ∈ P_tos, decode prog_5_method_12_code q.1 = .ok q.2 := by decide +kernel
def M_tos : Mt := (("com/example/gentle_retry/gentleretry/rabbitmq/SubscriptionQueue", "toString", ({ frames := 6, cells := 6, slots := 48, locals := 91 } : Room)), P_tos, 1, (some (.object "java/lang/String")))
set_option maxRecDepth 65536 in
set_option maxHeartbeats 40000000 in
theorem c_tos {G : Gb} (H : Gl tables_1 els G) {h : Heap} {q k n lb : Addr} {cs ds : List Int32} (l1 : Lat cs) (l2 : Lat ds) (hs : cs.length + ds.length ≤ 12) (F1 : Fld G.Z h q "com/example/gentle_retry/gentleretry/rabbitmq/SubscriptionQueue" "role" "Lcom/example/gentle_retry/gentleretry/rabbitmq/SubscriptionQueue$Role;" (.ref k)) (F2 : Fld G.Z h q "com/example/gentle_retry/gentleretry/rabbitmq/SubscriptionQueue" "name" "Ljava/lang/String;" (.ref n)) (F3 : Fld G.Z h k "com/example/gentle_retry/gentleretry/rabbitmq/SubscriptionQueue$Role" "label" "Ljava/lang/String;" (.ref lb)) (S1 : Str G h lb cs) (S2 : Str G h n ds) :
    Ctr G [] (⟨"com/example/gentle_retry/gentleretry/rabbitmq/SubscriptionQueue", "toString", "()Ljava/lang/String;"⟩ : MethodName) prog_5_method_12_code 1 (some (.object "java/lang/String")) ({ frames := 6, cells := 6, slots := 48, locals := 91 } : Room) #[.ref q] h [] (fun v h' Sf => ∃ s : Addr, v = some (.ref s) ∧ Ext h h' ∧ Str G h' s (cs ++ (32 : Int32) :: ds) ∧ G.Z.heap.size ≤ s) := by
  refine ctr_of M_tos rfl rfl (plainFor_of_name pn_9) L_tos H.el (Ls := #[.val (.ref q)]) (fun m => ef_ok (by first | (simp [argsToLocals, Value.category]; done) | rfl)) ?_
  intro B K hE
  refine go_new K (k := 0) rfl (H.w 62 rfl) (H.w 63 rfl) (H.w 64 rfl) rfl rfl ?_
  intro h2 a1 e3 g4 E5 A6 D7
  have F8 : Fld G.Z h2 a1 "java/lang/AbstractStringBuilder" "value" "[B" .null := D7 (Or.inl (H.w 77 rfl)) (ty := (.array .byte)) (by decide)
  have F9 : Fld G.Z h2 a1 "java/lang/AbstractStringBuilder" "coder" "B" (.int (0 : Int32)) := D7 (Or.inl (H.w 79 rfl)) (ty := .byte) (by decide)
  have F10 : Fld G.Z h2 a1 "java/lang/AbstractStringBuilder" "count" "I" (.int (0 : Int32)) := D7 (Or.inl (H.w 103 rfl)) (ty := .int) (by decide)
  refine go_run K 1 1 (pc' := 4) (st' := [(.ref a1), (.ref a1)]) rfl ?_
  refine go_specialN K (k := 2) rfl rfl (H.w 65 rfl) (H.w 66 rfl) (H.w 64 rfl) (H.w 67 rfl) (by decide) pd_21 (c_sbi H A6 F8 F9 F10 g4) (argsL := []) (rest := [(.ref a1)]) rfl rfl rfl sub0 rfl ?_
  rintro _ h11 Sf19 - ⟨rfl, K12, t13, k14, B15, g16, f17, s18⟩
  refine ⟨[t13], allS s18 all0, ?_⟩
  show Go G B M_tos _ h11 (t13 :: (a1 :: [])) 2 20 7 #[.val (.ref q)] [(.ref a1)]
  refine go_run K 3 1 (pc' := 8) (st' := [(.ref q), (.ref a1)]) rfl ?_
  have X20 : Ext h h11 := (Ext.keepN E5 K12 (allS (Nat.le_trans (Nat.le_refl _) (Nat.le_of_eq e3.symm)) all0))
  have c21 := (F1.ext X20)
  refine go_getfield K (k := 4) rfl (host := "") (Or.inl (H.w 51 rfl)) Via.refl c21 ?_
  have c22 := (F3.ext X20)
  refine go_getfieldR K (k := 5) rfl (H.w 80 rfl) c22 ?_
  have c23 := (S1.ext X20)
  refine go_virt0 K (k := 6) rfl (H.w 82 rfl) (H.w 85 rfl) (H.w 84 rfl) (H.w 64 rfl) (H.w 86 rfl) (by decide) pd_22 B15.exa (c_sap H l1 (by simp only [List.length_nil]; omega) B15 c23 g4 g16) (argsL := [(.ref lb)]) (rest := []) rfl rfl rfl (subS (List.mem_cons_self ..) sub0) rfl ?_
  rintro _ h24 _ - ⟨rfl, K25, B26⟩
  show Go G B M_tos _ h24 (t13 :: (a1 :: [])) 2 20 17 #[.val (.ref q)] [(.ref a1)]
  refine go_ldcT K (k := 7) rfl (H.w 129 rfl) H.ws (H.mem (by decide)) (cs := [(32 : Int32)]) (by decide) (by decide) (n := 4) rfl rfl rfl rfl ?_
  intro h28 a27 E29 S30
  have c31 := (B26.ext E29)
  refine go_virt0 K (k := 8) rfl (H.w 82 rfl) (H.w 85 rfl) (H.w 84 rfl) (H.w 64 rfl) (H.w 86 rfl) (by decide) pd_22 c31.exa (c_sap H (lat1 (by decide)) (by simp; omega) c31 S30 g4 g16) (argsL := [(.ref a27)]) (rest := []) rfl rfl rfl (subS (List.mem_cons_self ..) sub0) rfl ?_
  rintro _ h32 _ - ⟨rfl, K33, B34⟩
  show Go G B M_tos _ h32 (t13 :: (a1 :: [])) 4 28 22 #[.val (.ref q)] [(.ref a1)]
  refine go_run K 9 1 (pc' := 23) (st' := [(.ref q), (.ref a1)]) rfl ?_
  have X35 : Ext h h24 := (Ext.keepN X20 K25 (allS (Nat.le_trans (Nat.le_refl _) (Nat.le_of_eq e3.symm)) (allS (Nat.le_trans (E5).1 f17) all0)))
  have X36 : Ext h h28 := (Ext.tr X35 E29)
  have X37 : Ext h h32 := (Ext.keepN X36 K33 (allS (Nat.le_trans (Nat.le_refl _) (Nat.le_of_eq e3.symm)) (allS (Nat.le_trans (E5).1 f17) all0)))
  have c38 := (F2.ext X37)
  refine go_getfield K (k := 10) rfl (host := "") (Or.inl (H.w 55 rfl)) Via.refl c38 ?_
  have c39 := (S2.ext X37)
  refine go_virt0 K (k := 11) rfl (H.w 82 rfl) (H.w 85 rfl) (H.w 84 rfl) (H.w 64 rfl) (H.w 86 rfl) (by decide) pd_22 B34.exa (c_sap H l2 (by simp; omega) B34 c39 g4 g16) (argsL := [(.ref n)]) (rest := []) rfl rfl rfl (subS (List.mem_cons_self ..) sub0) rfl ?_
  rintro _ h40 _ - ⟨rfl, K41, B42⟩
  show Go G B M_tos _ h40 (t13 :: (a1 :: [])) 4 28 29 #[.val (.ref q)] [(.ref a1)]
  refine go_virt0 K (k := 12) rfl (H.w 130 rfl) (H.w 133 rfl) (H.w 132 rfl) (H.w 64 rfl) (H.w 134 rfl) (by decide) pd_23 B42.exa (c_sbs H (by simp; omega) (by simp; omega) B42) (argsL := []) (rest := []) rfl rfl rfl sub0 rfl ?_
  rintro _ h43 _ - ⟨a44, rfl, E45, S46, g47⟩
  show Go G B M_tos _ h43 (t13 :: (a1 :: [])) 6 48 32 #[.val (.ref q)] [(.ref a44)]
  have X48 : Ext h h40 := (Ext.keepN X37 K41 (allS (Nat.le_trans (Nat.le_refl _) (Nat.le_of_eq e3.symm)) (allS (Nat.le_trans (E5).1 f17) all0)))
  have X49 : Ext h h43 := (Ext.tr X48 E45)
  refine go_areturn K (k := 13) rfl rfl rfl rfl rfl rfl rfl ?_
  intro Sf hSf
  refine ⟨_, rfl, X49, ?_, g47⟩
  have u := S46
  simp only [List.nil_append, List.append_assoc, List.singleton_append] at u
  exact u
theorem pn_10 : plainName "com/example/gentle_retry/gentleretry/rabbitmq/SubscriptionQueueToStringPinLaw" = true := by first | (simp [plainName, overriddenIn]; done) | decide +kernel
def P_pre : List (Nat × Instr × Nat) := [(0, .aload_n 1, 1), (1, .invokevirtual 40, 3), (4, .istore_n 2, 1), (5, .iconst 1, 1), (6, .istore_n 3, 1), (7, .iload_n 2, 1), (8, .ifCond .le 26, 3), (11, .iload_n 3, 1), (12, .ifCond .eq 20, 3), (15, .aload_n 0, 1), (16, .iconst 0, 1), (17, .invokevirtual 50, 3), (20, .aload_n 1, 1), (21, .iconst 0, 1), (22, .invokevirtual 50, 3), (25, .if_icmp .ne 7, 3), (28, .iconst 1, 1), (29, .goto 4, 3), (32, .iconst 0, 1), (33, .istore_n 3, 1), (34, .iload_n 2, 1), (35, .iconst 1, 1), (36, .if_icmp .le 26, 3), (39, .iload_n 3, 1), (40, .ifCond .eq 20, 3), (43, .aload_n 0, 1), (44, .iconst 1, 1), (45, .invokevirtual 50, 3), (48, .aload_n 1, 1), (49, .iconst 1, 1), (50, .invokevirtual 50, 3), (53, .if_icmp .ne 7, 3), (56, .iconst 1, 1), (57, .goto 4, 3), (60, .iconst 0, 1), (61, .istore_n 3, 1), (62, .iload_n 2, 1), (63, .iconst 2, 1), (64, .if_icmp .le 26, 3), (67, .iload_n 3, 1), (68, .ifCond .eq 20, 3), (71, .aload_n 0, 1), (72, .iconst 2, 1), (73, .invokevirtual 50, 3), (76, .aload_n 1, 1), (77, .iconst 2, 1), (78, .invokevirtual 50, 3), (81, .if_icmp .ne 7, 3), (84, .iconst 1, 1), (85, .goto 4, 3), (88, .iconst 0, 1), (89, .istore_n 3, 1), (90, .iload_n 2, 1), (91, .iconst 3, 1), (92, .if_icmp .le 26, 3), (95, .iload_n 3, 1), (96, .ifCond .eq 20, 3), (99, .aload_n 0, 1), (100, .iconst 3, 1), (101, .invokevirtual 50, 3), (104, .aload_n 1, 1), (105, .iconst 3, 1), (106, .invokevirtual 50, 3), (109, .if_icmp .ne 7, 3), (112, .iconst 1, 1), (113, .goto 4, 3), (116, .iconst 0, 1), (117, .istore_n 3, 1), (118, .iload_n 2, 1), (119, .iconst 4, 1), (120, .if_icmp .le 26, 3), (123, .iload_n 3, 1), (124, .ifCond .eq 20, 3), (127, .aload_n 0, 1), (128, .iconst 4, 1), (129, .invokevirtual 50, 3), (132, .aload_n 1, 1), (133, .iconst 4, 1), (134, .invokevirtual 50, 3), (137, .if_icmp .ne 7, 3), (140, .iconst 1, 1), (141, .goto 4, 3), (144, .iconst 0, 1), (145, .istore_n 3, 1), (146, .iload_n 2, 1), (147, .iconst 5, 1), (148, .if_icmp .le 26, 3), (151, .iload_n 3, 1), (152, .ifCond .eq 20, 3), (155, .aload_n 0, 1), (156, .iconst 5, 1), (157, .invokevirtual 50, 3), (160, .aload_n 1, 1), (161, .iconst 5, 1), (162, .invokevirtual 50, 3), (165, .if_icmp .ne 7, 3), (168, .iconst 1, 1), (169, .goto 4, 3), (172, .iconst 0, 1), (173, .istore_n 3, 1), (174, .iload_n 3, 1), (175, .ireturn, 1)]
theorem L_pre : ∀ q ∈ P_pre, decode method_3_code q.1 = .ok q.2 := by decide +kernel
def M_pre : Mt := (("com/example/gentle_retry/gentleretry/rabbitmq/SubscriptionQueueToStringPinLaw", "prefix", ({ frames := 4, cells := 0, slots := 0, locals := 54 } : Room)), P_pre, 4, (some .boolean))
set_option maxRecDepth 65536 in
set_option maxHeartbeats 40000000 in
theorem c_pre {G : Gb} (H : Gl tables_1 els G) {h : Heap} {o t : Addr} {ls es : List Int32} (l1 : Lat (ls ++ es)) (l2 : Lat ls) (hF : ∃ vf : Value, Sta G.Z G.Z.heap "jdk/internal/util/Preconditions" "SIOOBE_FORMATTER" "Ljava/util/function/BiFunction;" vf ∧ vf.isRef = true) (S1 : Str G h o (ls ++ es)) (S2 : Str G h t ls) :
    Ctr G [] (⟨"com/example/gentle_retry/gentleretry/rabbitmq/SubscriptionQueueToStringPinLaw", "prefix", "(Ljava/lang/String;Ljava/lang/String;)Z"⟩ : MethodName) method_3_code 4 (some .boolean) ({ frames := 4, cells := 0, slots := 0, locals := 54 } : Room) #[.ref o, .ref t] h [] (fun v h' Sf => v = some (.int 1) ∧ h = h') := by
  refine ctr_of M_pre rfl rfl (plainFor_of_name pn_10) L_pre H.el (Ls := #[.val (.ref o), .val (.ref t), .unset, .unset]) (fun m => ef_ok (by first | (simp [argsToLocals, Value.category]; done) | rfl)) ?_
  intro B K hE
  have hl := lat_lt l2
  refine go_run K 0 1 (pc' := 1) (st' := [(.ref t)]) rfl ?_
  refine go_virt0 K (k := 1) rfl (H.w 175 rfl) (H.w 95 rfl) (H.w 94 rfl) (H.w 5 rfl) (H.w 96 rfl) (by decide) pd_10 S2.exa (c_len H S2) (argsL := []) (rest := []) rfl rfl rfl sub0 rfl ?_
  rintro _ _ _ - ⟨rfl, rfl⟩
  show Go G B M_pre _ h [] 0 0 4 #[.val (.ref o), .val (.ref t), .unset, .unset] [(.int (ls).length.toInt32)]
  show Go G B M_pre _ h [] 0 0 4 #[.val (.ref o), .val (.ref t), .unset, .unset] [(.int ls.length.toInt32)]
  refine go_run K 2 3 (pc' := 7) (Ls' := #[.val (.ref o), .val (.ref t), .val (.int ls.length.toInt32), .val (.int (1 : Int32))]) (st' := []) rfl ?_
  have J174 : ∀ _ : Unit, Go G B M_pre (fun v h' Sf => v = some (.int 1) ∧ h = h') h [] 0 0 174 #[.val (.ref o), .val (.ref t), .val (.int ls.length.toInt32), .val (.int (1 : Int32))] [] := by
    intro _
    refine go_run K 100 1 (pc' := 175) (st' := [(.int (1 : Int32))]) rfl ?_
    refine go_ireturn K (k := 101) rfl rfl (by decide) rfl rfl rfl ?_
    intro Sf hSf
    exact ⟨rfl, rfl⟩
  have J146 : ∀ _ : Unit, Go G B M_pre (fun v h' Sf => v = some (.int 1) ∧ h = h') h [] 0 0 146 #[.val (.ref o), .val (.ref t), .val (.int ls.length.toInt32), .val (.int (1 : Int32))] [] := by
    intro _
    refine go_run K 84 2 (pc' := 148) (st' := [(.int (5 : Int32)), (.int ls.length.toInt32)]) rfl ?_
    refine go_icmple K (k := 86) rfl (pc' := 174) (by decide) (fun q1 => ?_) (fun q2 => ?_)
    · exact J174 ()
    · refine go_run K 87 1 (pc' := 152) (st' := [(.int (1 : Int32))]) rfl ?_
      refine go_ifeq K (k := 88) rfl (pc' := 172) (by decide) (fun q => absurd q (by decide)) (fun _ => ?_)
      refine go_run K 89 2 (pc' := 157) (st' := [(.int (5 : Int32)), (.ref o)]) rfl ?_
      obtain ⟨c, hc⟩ : ∃ c, ls[5]? = some c := ⟨_, List.getElem?_eq_getElem (lt_len (i := 5) hl (by decide) q2)⟩
      have hd : (ls ++ es)[5]? = some c := by rw [List.getElem?_append_left (List.getElem?_eq_some_iff.mp hc).1]; exact hc
      refine go_virt0 K (k := 91) rfl (H.w 180 rfl) (H.w 183 rfl) (H.w 182 rfl) (H.w 5 rfl) (H.w 184 rfl) (by decide) pd_24 S1.exa (c_chaQ (i := 5) (c := c) H l1 hd hF S1) (argsL := [(.int (5 : Int32))]) (rest := []) rfl rfl rfl sub0 rfl ?_
      rintro _ _ _ - ⟨rfl, rfl⟩
      show Go G B M_pre _ h [] 0 0 160 #[.val (.ref o), .val (.ref t), .val (.int ls.length.toInt32), .val (.int (1 : Int32))] [(.int c)]
      refine go_run K 92 2 (pc' := 162) (st' := [(.int (5 : Int32)), (.ref t), (.int c)]) rfl ?_
      refine go_virt0 K (k := 94) rfl (H.w 180 rfl) (H.w 183 rfl) (H.w 182 rfl) (H.w 5 rfl) (H.w 184 rfl) (by decide) pd_24 S2.exa (c_chaQ (i := 5) (c := c) H l2 hc hF S2) (argsL := [(.int (5 : Int32))]) (rest := [(.int c)]) rfl rfl rfl sub0 rfl ?_
      rintro _ _ _ - ⟨rfl, rfl⟩
      show Go G B M_pre _ h [] 0 0 165 #[.val (.ref o), .val (.ref t), .val (.int ls.length.toInt32), .val (.int (1 : Int32))] [(.int c), (.int c)]
      refine go_icmpne K (k := 95) rfl (pc' := 172) (by decide) (fun q => absurd rfl q) (fun _ => ?_)
      refine go_run K 96 2 (pc' := 173) (st' := [(.int (1 : Int32))]) rfl ?_
      refine go_run K 99 1 (pc' := 174) (st' := []) rfl ?_
      exact J174 ()
  have J118 : ∀ _ : Unit, Go G B M_pre (fun v h' Sf => v = some (.int 1) ∧ h = h') h [] 0 0 118 #[.val (.ref o), .val (.ref t), .val (.int ls.length.toInt32), .val (.int (1 : Int32))] [] := by
    intro _
    refine go_run K 68 2 (pc' := 120) (st' := [(.int (4 : Int32)), (.int ls.length.toInt32)]) rfl ?_
    refine go_icmple K (k := 70) rfl (pc' := 146) (by decide) (fun q3 => ?_) (fun q4 => ?_)
    · exact J146 ()
    · refine go_run K 71 1 (pc' := 124) (st' := [(.int (1 : Int32))]) rfl ?_
      refine go_ifeq K (k := 72) rfl (pc' := 144) (by decide) (fun q => absurd q (by decide)) (fun _ => ?_)
      refine go_run K 73 2 (pc' := 129) (st' := [(.int (4 : Int32)), (.ref o)]) rfl ?_
      obtain ⟨c, hc⟩ : ∃ c, ls[4]? = some c := ⟨_, List.getElem?_eq_getElem (lt_len (i := 4) hl (by decide) q4)⟩
      have hd : (ls ++ es)[4]? = some c := by rw [List.getElem?_append_left (List.getElem?_eq_some_iff.mp hc).1]; exact hc
      refine go_virt0 K (k := 75) rfl (H.w 180 rfl) (H.w 183 rfl) (H.w 182 rfl) (H.w 5 rfl) (H.w 184 rfl) (by decide) pd_24 S1.exa (c_chaQ (i := 4) (c := c) H l1 hd hF S1) (argsL := [(.int (4 : Int32))]) (rest := []) rfl rfl rfl sub0 rfl ?_
      rintro _ _ _ - ⟨rfl, rfl⟩
      show Go G B M_pre _ h [] 0 0 132 #[.val (.ref o), .val (.ref t), .val (.int ls.length.toInt32), .val (.int (1 : Int32))] [(.int c)]
      refine go_run K 76 2 (pc' := 134) (st' := [(.int (4 : Int32)), (.ref t), (.int c)]) rfl ?_
      refine go_virt0 K (k := 78) rfl (H.w 180 rfl) (H.w 183 rfl) (H.w 182 rfl) (H.w 5 rfl) (H.w 184 rfl) (by decide) pd_24 S2.exa (c_chaQ (i := 4) (c := c) H l2 hc hF S2) (argsL := [(.int (4 : Int32))]) (rest := [(.int c)]) rfl rfl rfl sub0 rfl ?_
      rintro _ _ _ - ⟨rfl, rfl⟩
      show Go G B M_pre _ h [] 0 0 137 #[.val (.ref o), .val (.ref t), .val (.int ls.length.toInt32), .val (.int (1 : Int32))] [(.int c), (.int c)]
      refine go_icmpne K (k := 79) rfl (pc' := 144) (by decide) (fun q => absurd rfl q) (fun _ => ?_)
      refine go_run K 80 2 (pc' := 145) (st' := [(.int (1 : Int32))]) rfl ?_
      refine go_run K 83 1 (pc' := 146) (st' := []) rfl ?_
      exact J146 ()
  have J90 : ∀ _ : Unit, Go G B M_pre (fun v h' Sf => v = some (.int 1) ∧ h = h') h [] 0 0 90 #[.val (.ref o), .val (.ref t), .val (.int ls.length.toInt32), .val (.int (1 : Int32))] [] := by
    intro _
    refine go_run K 52 2 (pc' := 92) (st' := [(.int (3 : Int32)), (.int ls.length.toInt32)]) rfl ?_
    refine go_icmple K (k := 54) rfl (pc' := 118) (by decide) (fun q5 => ?_) (fun q6 => ?_)
    · exact J118 ()
    · refine go_run K 55 1 (pc' := 96) (st' := [(.int (1 : Int32))]) rfl ?_
      refine go_ifeq K (k := 56) rfl (pc' := 116) (by decide) (fun q => absurd q (by decide)) (fun _ => ?_)
      refine go_run K 57 2 (pc' := 101) (st' := [(.int (3 : Int32)), (.ref o)]) rfl ?_
      obtain ⟨c, hc⟩ : ∃ c, ls[3]? = some c := ⟨_, List.getElem?_eq_getElem (lt_len (i := 3) hl (by decide) q6)⟩
      have hd : (ls ++ es)[3]? = some c := by rw [List.getElem?_append_left (List.getElem?_eq_some_iff.mp hc).1]; exact hc
      refine go_virt0 K (k := 59) rfl (H.w 180 rfl) (H.w 183 rfl) (H.w 182 rfl) (H.w 5 rfl) (H.w 184 rfl) (by decide) pd_24 S1.exa (c_chaQ (i := 3) (c := c) H l1 hd hF S1) (argsL := [(.int (3 : Int32))]) (rest := []) rfl rfl rfl sub0 rfl ?_
      rintro _ _ _ - ⟨rfl, rfl⟩
      show Go G B M_pre _ h [] 0 0 104 #[.val (.ref o), .val (.ref t), .val (.int ls.length.toInt32), .val (.int (1 : Int32))] [(.int c)]
      refine go_run K 60 2 (pc' := 106) (st' := [(.int (3 : Int32)), (.ref t), (.int c)]) rfl ?_
      refine go_virt0 K (k := 62) rfl (H.w 180 rfl) (H.w 183 rfl) (H.w 182 rfl) (H.w 5 rfl) (H.w 184 rfl) (by decide) pd_24 S2.exa (c_chaQ (i := 3) (c := c) H l2 hc hF S2) (argsL := [(.int (3 : Int32))]) (rest := [(.int c)]) rfl rfl rfl sub0 rfl ?_
      rintro _ _ _ - ⟨rfl, rfl⟩
      show Go G B M_pre _ h [] 0 0 109 #[.val (.ref o), .val (.ref t), .val (.int ls.length.toInt32), .val (.int (1 : Int32))] [(.int c), (.int c)]
      refine go_icmpne K (k := 63) rfl (pc' := 116) (by decide) (fun q => absurd rfl q) (fun _ => ?_)
      refine go_run K 64 2 (pc' := 117) (st' := [(.int (1 : Int32))]) rfl ?_
      refine go_run K 67 1 (pc' := 118) (st' := []) rfl ?_
      exact J118 ()
  have J62 : ∀ _ : Unit, Go G B M_pre (fun v h' Sf => v = some (.int 1) ∧ h = h') h [] 0 0 62 #[.val (.ref o), .val (.ref t), .val (.int ls.length.toInt32), .val (.int (1 : Int32))] [] := by
    intro _
    refine go_run K 36 2 (pc' := 64) (st' := [(.int (2 : Int32)), (.int ls.length.toInt32)]) rfl ?_
    refine go_icmple K (k := 38) rfl (pc' := 90) (by decide) (fun q7 => ?_) (fun q8 => ?_)
    · exact J90 ()
    · refine go_run K 39 1 (pc' := 68) (st' := [(.int (1 : Int32))]) rfl ?_
      refine go_ifeq K (k := 40) rfl (pc' := 88) (by decide) (fun q => absurd q (by decide)) (fun _ => ?_)
      refine go_run K 41 2 (pc' := 73) (st' := [(.int (2 : Int32)), (.ref o)]) rfl ?_
      obtain ⟨c, hc⟩ : ∃ c, ls[2]? = some c := ⟨_, List.getElem?_eq_getElem (lt_len (i := 2) hl (by decide) q8)⟩
      have hd : (ls ++ es)[2]? = some c := by rw [List.getElem?_append_left (List.getElem?_eq_some_iff.mp hc).1]; exact hc
      refine go_virt0 K (k := 43) rfl (H.w 180 rfl) (H.w 183 rfl) (H.w 182 rfl) (H.w 5 rfl) (H.w 184 rfl) (by decide) pd_24 S1.exa (c_chaQ (i := 2) (c := c) H l1 hd hF S1) (argsL := [(.int (2 : Int32))]) (rest := []) rfl rfl rfl sub0 rfl ?_
      rintro _ _ _ - ⟨rfl, rfl⟩
      show Go G B M_pre _ h [] 0 0 76 #[.val (.ref o), .val (.ref t), .val (.int ls.length.toInt32), .val (.int (1 : Int32))] [(.int c)]
      refine go_run K 44 2 (pc' := 78) (st' := [(.int (2 : Int32)), (.ref t), (.int c)]) rfl ?_
      refine go_virt0 K (k := 46) rfl (H.w 180 rfl) (H.w 183 rfl) (H.w 182 rfl) (H.w 5 rfl) (H.w 184 rfl) (by decide) pd_24 S2.exa (c_chaQ (i := 2) (c := c) H l2 hc hF S2) (argsL := [(.int (2 : Int32))]) (rest := [(.int c)]) rfl rfl rfl sub0 rfl ?_
      rintro _ _ _ - ⟨rfl, rfl⟩
      show Go G B M_pre _ h [] 0 0 81 #[.val (.ref o), .val (.ref t), .val (.int ls.length.toInt32), .val (.int (1 : Int32))] [(.int c), (.int c)]
      refine go_icmpne K (k := 47) rfl (pc' := 88) (by decide) (fun q => absurd rfl q) (fun _ => ?_)
      refine go_run K 48 2 (pc' := 89) (st' := [(.int (1 : Int32))]) rfl ?_
      refine go_run K 51 1 (pc' := 90) (st' := []) rfl ?_
      exact J90 ()
  have J34 : ∀ _ : Unit, Go G B M_pre (fun v h' Sf => v = some (.int 1) ∧ h = h') h [] 0 0 34 #[.val (.ref o), .val (.ref t), .val (.int ls.length.toInt32), .val (.int (1 : Int32))] [] := by
    intro _
    refine go_run K 20 2 (pc' := 36) (st' := [(.int (1 : Int32)), (.int ls.length.toInt32)]) rfl ?_
    refine go_icmple K (k := 22) rfl (pc' := 62) (by decide) (fun q9 => ?_) (fun q10 => ?_)
    · exact J62 ()
    · refine go_run K 23 1 (pc' := 40) (st' := [(.int (1 : Int32))]) rfl ?_
      refine go_ifeq K (k := 24) rfl (pc' := 60) (by decide) (fun q => absurd q (by decide)) (fun _ => ?_)
      refine go_run K 25 2 (pc' := 45) (st' := [(.int (1 : Int32)), (.ref o)]) rfl ?_
      obtain ⟨c, hc⟩ : ∃ c, ls[1]? = some c := ⟨_, List.getElem?_eq_getElem (lt_len (i := 1) hl (by decide) q10)⟩
      have hd : (ls ++ es)[1]? = some c := by rw [List.getElem?_append_left (List.getElem?_eq_some_iff.mp hc).1]; exact hc
      refine go_virt0 K (k := 27) rfl (H.w 180 rfl) (H.w 183 rfl) (H.w 182 rfl) (H.w 5 rfl) (H.w 184 rfl) (by decide) pd_24 S1.exa (c_chaQ (i := 1) (c := c) H l1 hd hF S1) (argsL := [(.int (1 : Int32))]) (rest := []) rfl rfl rfl sub0 rfl ?_
      rintro _ _ _ - ⟨rfl, rfl⟩
      show Go G B M_pre _ h [] 0 0 48 #[.val (.ref o), .val (.ref t), .val (.int ls.length.toInt32), .val (.int (1 : Int32))] [(.int c)]
      refine go_run K 28 2 (pc' := 50) (st' := [(.int (1 : Int32)), (.ref t), (.int c)]) rfl ?_
      refine go_virt0 K (k := 30) rfl (H.w 180 rfl) (H.w 183 rfl) (H.w 182 rfl) (H.w 5 rfl) (H.w 184 rfl) (by decide) pd_24 S2.exa (c_chaQ (i := 1) (c := c) H l2 hc hF S2) (argsL := [(.int (1 : Int32))]) (rest := [(.int c)]) rfl rfl rfl sub0 rfl ?_
      rintro _ _ _ - ⟨rfl, rfl⟩
      show Go G B M_pre _ h [] 0 0 53 #[.val (.ref o), .val (.ref t), .val (.int ls.length.toInt32), .val (.int (1 : Int32))] [(.int c), (.int c)]
      refine go_icmpne K (k := 31) rfl (pc' := 60) (by decide) (fun q => absurd rfl q) (fun _ => ?_)
      refine go_run K 32 2 (pc' := 61) (st' := [(.int (1 : Int32))]) rfl ?_
      refine go_run K 35 1 (pc' := 62) (st' := []) rfl ?_
      exact J62 ()
  refine go_run K 5 1 (pc' := 8) (st' := [(.int ls.length.toInt32)]) rfl ?_
  refine go_ifle K (k := 6) rfl (pc' := 34) (by decide) (fun q11 => ?_) (fun q12 => ?_)
  · exact J34 ()
  · refine go_run K 7 1 (pc' := 12) (st' := [(.int (1 : Int32))]) rfl ?_
    refine go_ifeq K (k := 8) rfl (pc' := 32) (by decide) (fun q => absurd q (by decide)) (fun _ => ?_)
    refine go_run K 9 2 (pc' := 17) (st' := [(.int (0 : Int32)), (.ref o)]) rfl ?_
    obtain ⟨c, hc⟩ : ∃ c, ls[0]? = some c := ⟨_, List.getElem?_eq_getElem (lt_len (i := 0) hl (by decide) q12)⟩
    have hd : (ls ++ es)[0]? = some c := by rw [List.getElem?_append_left (List.getElem?_eq_some_iff.mp hc).1]; exact hc
    refine go_virt0 K (k := 11) rfl (H.w 180 rfl) (H.w 183 rfl) (H.w 182 rfl) (H.w 5 rfl) (H.w 184 rfl) (by decide) pd_24 S1.exa (c_chaQ (i := 0) (c := c) H l1 hd hF S1) (argsL := [(.int (0 : Int32))]) (rest := []) rfl rfl rfl sub0 rfl ?_
    rintro _ _ _ - ⟨rfl, rfl⟩
    show Go G B M_pre _ h [] 0 0 20 #[.val (.ref o), .val (.ref t), .val (.int ls.length.toInt32), .val (.int (1 : Int32))] [(.int c)]
    refine go_run K 12 2 (pc' := 22) (st' := [(.int (0 : Int32)), (.ref t), (.int c)]) rfl ?_
    refine go_virt0 K (k := 14) rfl (H.w 180 rfl) (H.w 183 rfl) (H.w 182 rfl) (H.w 5 rfl) (H.w 184 rfl) (by decide) pd_24 S2.exa (c_chaQ (i := 0) (c := c) H l2 hc hF S2) (argsL := [(.int (0 : Int32))]) (rest := [(.int c)]) rfl rfl rfl sub0 rfl ?_
    rintro _ _ _ - ⟨rfl, rfl⟩
    show Go G B M_pre _ h [] 0 0 25 #[.val (.ref o), .val (.ref t), .val (.int ls.length.toInt32), .val (.int (1 : Int32))] [(.int c), (.int c)]
    refine go_icmpne K (k := 15) rfl (pc' := 32) (by decide) (fun q => absurd rfl q) (fun _ => ?_)
    refine go_run K 16 2 (pc' := 33) (st' := [(.int (1 : Int32))]) rfl ?_
    refine go_run K 19 1 (pc' := 34) (st' := []) rfl ?_
    exact J34 ()
def P_law : List (Nat × Instr × Nat) := [(0, .iload_n 0, 1), (1, .ldc 7, 2), (3, .iand, 1), (4, .iconst 3, 1), (5, .irem, 1), (6, .istore 5, 2), (8, .iload 5, 2), (10, .ifCond .ne 15, 3), (13, .getstatic 8, 3), (16, .astore 6, 2), (18, .ldc 14, 2), (20, .astore 7, 2), (22, .goto 30, 3), (25, .iload 5, 2), (27, .iconst 1, 1), (28, .if_icmp .ne 15, 3), (31, .getstatic 16, 3), (34, .astore 6, 2), (36, .ldc 19, 2), (38, .astore 7, 2), (40, .goto 12, 3), (43, .getstatic 21, 3), (46, .astore 6, 2), (48, .ldc 24, 2), (50, .astore 7, 2), (52, .iload_n 1, 1), (53, .iconst 3, 1), (54, .iand, 1), (55, .istore 8, 2), (57, .iload_n 2, 1), (58, .sipush 255, 3), (61, .iand, 1), (62, .i2c, 1), (63, .istore 9, 2), (65, .iload_n 3, 1), (66, .sipush 255, 3), (69, .iand, 1), (70, .i2c, 1), (71, .istore 10, 2), (73, .iload 4, 2), (75, .sipush 255, 3), (78, .iand, 1), (79, .i2c, 1), (80, .istore 11, 2), (82, .iload 8, 2), (84, .ifCond .ne 11, 3), (87, .iconst 0, 1), (88, .newarray .char, 2), (90, .astore 12, 2), (92, .goto 66, 3), (95, .iload 8, 2), (97, .iconst 1, 1), (98, .if_icmp .ne 16, 3), (101, .iconst 1, 1), (102, .newarray .char, 2), (104, .dup, 1), (105, .iconst 0, 1), (106, .iload 9, 2), (108, .castore, 1), (109, .astore 12, 2), (111, .goto 47, 3), (114, .iload 8, 2), (116, .iconst 2, 1), (117, .if_icmp .ne 21, 3), (120, .iconst 2, 1), (121, .newarray .char, 2), (123, .dup, 1), (124, .iconst 0, 1), (125, .iload 9, 2), (127, .castore, 1), (128, .dup, 1), (129, .iconst 1, 1), (130, .iload 10, 2), (132, .castore, 1), (133, .astore 12, 2), (135, .goto 23, 3), (138, .iconst 3, 1), (139, .newarray .char, 2), (141, .dup, 1), (142, .iconst 0, 1), (143, .iload 9, 2), (145, .castore, 1), (146, .dup, 1), (147, .iconst 1, 1), (148, .iload 10, 2), (150, .castore, 1), (151, .dup, 1), (152, .iconst 2, 1), (153, .iload 11, 2), (155, .castore, 1), (156, .astore 12, 2), (158, .new 26, 3), (161, .dup, 1), (162, .aload 12, 2), (164, .invokespecial 28, 3), (167, .astore 13, 2), (169, .new 31, 3), (172, .dup, 1), (173, .aload 6, 2), (175, .aload 13, 2), (177, .invokespecial 33, 3), (180, .astore 14, 2), (182, .aload 14, 2), (184, .invokevirtual 36, 3), (187, .astore 15, 2), (189, .aload 7, 2), (191, .invokevirtual 40, 3), (194, .istore 16, 2), (196, .aload 15, 2), (198, .ifnull 18, 3), (201, .aload 15, 2), (203, .invokevirtual 40, 3), (206, .iload 16, 2), (208, .iconst 1, 1), (209, .iadd, 1), (210, .iload 8, 2), (212, .iadd, 1), (213, .if_icmp .eq 5, 3), (216, .iconst 0, 1), (217, .ireturn, 1), (218, .aload 15, 2), (220, .aload 7, 2), (222, .invokestatic 44, 3), (225, .ifCond .ne 5, 3), (228, .iconst 0, 1), (229, .ireturn, 1), (230, .aload 15, 2), (232, .iload 16, 2), (234, .invokevirtual 50, 3), (237, .bipush 32, 2), (239, .if_icmp .eq 5, 3), (242, .iconst 0, 1), (243, .ireturn, 1), (244, .iload 8, 2), (246, .iconst 1, 1), (247, .if_icmp .lt 19, 3), (250, .aload 15, 2), (252, .iload 16, 2), (254, .iconst 1, 1), (255, .iadd, 1), (256, .invokevirtual 50, 3), (259, .iload 9, 2), (261, .if_icmp .eq 5, 3), (264, .iconst 0, 1), (265, .ireturn, 1), (266, .iload 8, 2), (268, .iconst 2, 1), (269, .if_icmp .lt 19, 3), (272, .aload 15, 2), (274, .iload 16, 2), (276, .iconst 2, 1), (277, .iadd, 1), (278, .invokevirtual 50, 3), (281, .iload 10, 2), (283, .if_icmp .eq 5, 3), (286, .iconst 0, 1), (287, .ireturn, 1), (288, .iload 8, 2), (290, .iconst 3, 1), (291, .if_icmp .lt 19, 3), (294, .aload 15, 2), (296, .iload 16, 2), (298, .iconst 3, 1), (299, .iadd, 1), (300, .invokevirtual 50, 3), (303, .iload 11, 2), (305, .if_icmp .eq 5, 3), (308, .iconst 0, 1), (309, .ireturn, 1), (310, .iconst 1, 1), (311, .ireturn, 1)]
theorem L_law : ∀ q ∈ P_law, decode code q.1 = .ok q.2 := by decide +kernel
def M_law : Mt := (("com/example/gentle_retry/gentleretry/rabbitmq/SubscriptionQueueToStringPinLaw", "law", room_1), P_law, 17, (some .boolean))
set_option maxRecDepth 65536 in
set_option maxHeartbeats 40000000 in
theorem law_ok {G : Gb} (H : Gl tables_1 els G) {h : Heap} {p0 p1 p2 p3 p4 : Int32} {b0 b1 b2 l0 l1 l2 : Addr} (hF : ∃ vf : Value, Sta G.Z G.Z.heap "jdk/internal/util/Preconditions" "SIOOBE_FORMATTER" "Ljava/util/function/BiFunction;" vf ∧ vf.isRef = true) (s0 : Sta G.Z G.Z.heap "com/example/gentle_retry/gentleretry/rabbitmq/SubscriptionQueue$Role" "WORK" "Lcom/example/gentle_retry/gentleretry/rabbitmq/SubscriptionQueue$Role;" (.ref b0)) (x0 : Exa G.Z G.Z.heap b0 "com/example/gentle_retry/gentleretry/rabbitmq/SubscriptionQueue$Role") (f0 : Fld G.Z G.Z.heap b0 "com/example/gentle_retry/gentleretry/rabbitmq/SubscriptionQueue$Role" "label" "Ljava/lang/String;" (.ref l0)) (t0 : Str G G.Z.heap l0 [(119 : Int32), (111 : Int32), (114 : Int32), (107 : Int32)]) (s1 : Sta G.Z G.Z.heap "com/example/gentle_retry/gentleretry/rabbitmq/SubscriptionQueue$Role" "DELAY" "Lcom/example/gentle_retry/gentleretry/rabbitmq/SubscriptionQueue$Role;" (.ref b1)) (x1 : Exa G.Z G.Z.heap b1 "com/example/gentle_retry/gentleretry/rabbitmq/SubscriptionQueue$Role") (f1 : Fld G.Z G.Z.heap b1 "com/example/gentle_retry/gentleretry/rabbitmq/SubscriptionQueue$Role" "label" "Ljava/lang/String;" (.ref l1)) (t1 : Str G G.Z.heap l1 [(100 : Int32), (101 : Int32), (108 : Int32), (97 : Int32), (121 : Int32)]) (s2 : Sta G.Z G.Z.heap "com/example/gentle_retry/gentleretry/rabbitmq/SubscriptionQueue$Role" "PARKED" "Lcom/example/gentle_retry/gentleretry/rabbitmq/SubscriptionQueue$Role;" (.ref b2)) (x2 : Exa G.Z G.Z.heap b2 "com/example/gentle_retry/gentleretry/rabbitmq/SubscriptionQueue$Role") (f2 : Fld G.Z G.Z.heap b2 "com/example/gentle_retry/gentleretry/rabbitmq/SubscriptionQueue$Role" "label" "Ljava/lang/String;" (.ref l2)) (t2 : Str G G.Z.heap l2 [(112 : Int32), (97 : Int32), (114 : Int32), (107 : Int32), (101 : Int32), (100 : Int32)]) :
    Ctr G tables_1 x code maxLocals ret room_1 #[.int p0, .int p1, .int p2, .int p3, .int p4] h [] (fun v h' Sf => v = some (.int 1)) := by
  refine ctr_of M_law rfl rfl (plainFor_of_name pn_10) L_law H.el (Ls := #[.val (.int p0), .val (.int p1), .val (.int p2), .val (.int p3), .val (.int p4), .unset, .unset, .unset, .unset, .unset, .unset, .unset, .unset, .unset, .unset, .unset, .unset]) (fun m => ef_ok (by first | (simp [argsToLocals, Value.category]; done) | rfl)) ?_
  intro B K hE
  refine go_run K 0 1 (pc' := 1) (st' := [(.int p0)]) rfl ?_
  refine go_ldcI K (k := 1) rfl (H.w 0 rfl) ?_
  refine go_run K 2 2 (pc' := 5) (st' := [(.int (3 : Int32)), (.int (p0 &&& (2147483647 : Int32)))]) rfl ?_
  refine go_irem K (k := 4) rfl (by decide) ?_
  refine go_run K 5 2 (pc' := 10) (Ls' := #[.val (.int p0), .val (.int p1), .val (.int p2), .val (.int p3), .val (.int p4), .val (.int ((p0 &&& (2147483647 : Int32)) % (3 : Int32))), .unset, .unset, .unset, .unset, .unset, .unset, .unset, .unset, .unset, .unset, .unset]) (st' := [(.int ((p0 &&& (2147483647 : Int32)) % (3 : Int32)))]) rfl ?_
  have J52 : ∀ (h1 : Heap) (k lb ta : Addr) (ls : List Int32), (Exa G.Z h1 k "com/example/gentle_retry/gentleretry/rabbitmq/SubscriptionQueue$Role") → (Fld G.Z h1 k "com/example/gentle_retry/gentleretry/rabbitmq/SubscriptionQueue$Role" "label" "Ljava/lang/String;" (.ref lb)) → (Str G h1 lb ls) → (Str G h1 ta ls) → (Lat ls) → (ls.length ≤ 6) → Go G B M_law (fun v h' Sf => v = some (.int 1)) h1 [] 2 28 52 #[.val (.int p0), .val (.int p1), .val (.int p2), .val (.int p3), .val (.int p4), .val (.int ((p0 &&& (2147483647 : Int32)) % (3 : Int32))), .val (.ref k), .val (.ref ta), .unset, .unset, .unset, .unset, .unset, .unset, .unset, .unset, .unset] [] := by
    intro h1 k lb ta ls Ek Fk Sk Sa hl hs
    refine go_run K 25 20 (pc' := 84) (Ls' := #[.val (.int p0), .val (.int p1), .val (.int p2), .val (.int p3), .val (.int p4), .val (.int ((p0 &&& (2147483647 : Int32)) % (3 : Int32))), .val (.ref k), .val (.ref ta), .val (.int (p1 &&& (3 : Int32))), .val (.int ((p2 &&& (255 : Int32))).toUInt32.toUInt16.toUInt32.toInt32), .val (.int ((p3 &&& (255 : Int32))).toUInt32.toUInt16.toUInt32.toInt32), .val (.int ((p4 &&& (255 : Int32))).toUInt32.toUInt16.toUInt32.toInt32), .unset, .unset, .unset, .unset, .unset]) (st' := [(.int (p1 &&& (3 : Int32)))]) rfl ?_
    rw [i2c_mask p2, i2c_mask p3, i2c_mask p4]
    obtain hn | hn | hn | hn := and3 p1
    · rw [hn]
      refine go_ifne K (k := 45) rfl (pc' := 95) (by decide) (fun q => absurd (by decide) q) (fun _ => ?_)
      refine go_run K 46 1 (pc' := 88) (st' := [(.int (0 : Int32))]) rfl ?_
      refine go_newarray K (k := 47) rfl (H.w 12 rfl) (by decide) (cap := 0) (by decide) rfl rfl rfl ?_
      intro h2 a1 k3 e4 g5 E6 A7
      have A7' : Arv G.Z h2 a1 k3 .char (0 : Int32) [] (.int (0 : Int32)) := Arv.pad A7 (pad_rep [] (.int (0 : Int32)) 0)
      refine go_run K 48 2 (pc' := 158) (Ls' := #[.val (.int p0), .val (.int p1), .val (.int p2), .val (.int p3), .val (.int p4), .val (.int ((p0 &&& (2147483647 : Int32)) % (3 : Int32))), .val (.ref k), .val (.ref ta), .val (.int (0 : Int32)), .val (.int (p2 &&& (255 : Int32))), .val (.int (p3 &&& (255 : Int32))), .val (.int (p4 &&& (255 : Int32))), .val (.ref a1), .unset, .unset, .unset, .unset]) (st' := []) rfl ?_
      refine go_new K (k := 91) rfl (H.w 13 rfl) (H.w 6 rfl) (H.w 5 rfl) rfl rfl ?_
      intro h9 a8 e10 g11 E12 A13 D14
      have F15 : Fld G.Z h9 a8 "java/lang/String" "value" "[B" .null := D14 (Or.inr (H.w 8 rfl)) (ty := (.array .byte)) (by decide)
      have F16 : Fld G.Z h9 a8 "java/lang/String" "coder" "B" (.int (0 : Int32)) := D14 (Or.inr (H.w 9 rfl)) (ty := .byte) (by decide)
      refine go_run K 92 2 (pc' := 164) (st' := [(.ref a1), (.ref a8), (.ref a8)]) rfl ?_
      have c17 := (A7'.ext E12)
      have B18 : Arv G.Z h9 a1 k3 .char (0 : Int32) (([] : List Int32).map Value.int) (.int 0) := by
        have u := c17
        exact u
      refine go_special K (k := 94) rfl rfl (H.w 14 rfl) (H.w 15 rfl) (H.w 5 rfl) (H.w 16 rfl) (by decide) pd_25 (c_si (cs := []) H lat0 (Nat.le_of_ble_eq_true rfl) A13 F15 F16 g11 B18) (argsL := [(.ref a1)]) (rest := [(.ref a8)]) rfl rfl rfl (subS (List.mem_cons_self ..) sub0) rfl ?_
      rintro _ h19 _ - ⟨rfl, K20, S21⟩
      show Go G B M_law _ h19 (a8 :: (a1 :: [])) 8 40 167 #[.val (.int p0), .val (.int p1), .val (.int p2), .val (.int p3), .val (.int p4), .val (.int ((p0 &&& (2147483647 : Int32)) % (3 : Int32))), .val (.ref k), .val (.ref ta), .val (.int (0 : Int32)), .val (.int (p2 &&& (255 : Int32))), .val (.int (p3 &&& (255 : Int32))), .val (.int (p4 &&& (255 : Int32))), .val (.ref a1), .unset, .unset, .unset, .unset] [(.ref a8)]
      refine go_run K 95 1 (pc' := 169) (Ls' := #[.val (.int p0), .val (.int p1), .val (.int p2), .val (.int p3), .val (.int p4), .val (.int ((p0 &&& (2147483647 : Int32)) % (3 : Int32))), .val (.ref k), .val (.ref ta), .val (.int (0 : Int32)), .val (.int (p2 &&& (255 : Int32))), .val (.int (p3 &&& (255 : Int32))), .val (.int (p4 &&& (255 : Int32))), .val (.ref a1), .val (.ref a8), .unset, .unset, .unset]) (st' := []) rfl ?_
      refine go_new K (k := 96) rfl (H.w 37 rfl) (H.w 38 rfl) (H.w 39 rfl) rfl rfl ?_
      intro h23 a22 e24 g25 E26 A27 D28
      have F29 : Fld G.Z h23 a22 "com/example/gentle_retry/gentleretry/rabbitmq/SubscriptionQueue" "role" "Lcom/example/gentle_retry/gentleretry/rabbitmq/SubscriptionQueue$Role;" .null := D28 (Or.inr (H.w 52 rfl)) (ty := (.object "com/example/gentle_retry/gentleretry/rabbitmq/SubscriptionQueue$Role")) (by decide)
      have F30 : Fld G.Z h23 a22 "com/example/gentle_retry/gentleretry/rabbitmq/SubscriptionQueue" "name" "Ljava/lang/String;" .null := D28 (Or.inr (H.w 56 rfl)) (ty := (.object "java/lang/String")) (by decide)
      refine go_run K 97 3 (pc' := 177) (st' := [(.ref a8), (.ref k), (.ref a22), (.ref a22)]) rfl ?_
      have X31 : Ext h1 h9 := (Ext.tr E6 E12)
      have X32 : Ext h1 h19 := (Ext.keepN X31 K20 (allS (Nat.le_trans (E6).1 (Nat.le_of_eq e10.symm)) all0))
      have X33 : Ext h1 h23 := (Ext.tr X32 E26)
      have c34 := (Ek.ext X33)
      have c35 := (S21.ext E26)
      refine go_special K (k := 100) rfl rfl (H.w 40 rfl) (H.w 41 rfl) (H.w 39 rfl) (H.w 42 rfl) (by decide) pd_26 (c_sq (a := a22) (r0 := k) (r1 := a8) H A27 F29 F30 g25 c34 c35.exa) (argsL := [(.ref k), (.ref a8)]) (rest := [(.ref a22)]) rfl rfl rfl sub0 rfl ?_
      rintro _ h36 _ - ⟨rfl, K37, E38, F39, F40⟩
      show Go G B M_law _ h36 (a22 :: (a8 :: (a1 :: []))) 13 82 180 #[.val (.int p0), .val (.int p1), .val (.int p2), .val (.int p3), .val (.int p4), .val (.int ((p0 &&& (2147483647 : Int32)) % (3 : Int32))), .val (.ref k), .val (.ref ta), .val (.int (0 : Int32)), .val (.int (p2 &&& (255 : Int32))), .val (.int (p3 &&& (255 : Int32))), .val (.int (p4 &&& (255 : Int32))), .val (.ref a1), .val (.ref a8), .unset, .unset, .unset] [(.ref a22)]
      refine go_run K 101 2 (pc' := 184) (Ls' := #[.val (.int p0), .val (.int p1), .val (.int p2), .val (.int p3), .val (.int p4), .val (.int ((p0 &&& (2147483647 : Int32)) % (3 : Int32))), .val (.ref k), .val (.ref ta), .val (.int (0 : Int32)), .val (.int (p2 &&& (255 : Int32))), .val (.int (p3 &&& (255 : Int32))), .val (.int (p4 &&& (255 : Int32))), .val (.ref a1), .val (.ref a8), .val (.ref a22), .unset, .unset]) (st' := [(.ref a22)]) rfl ?_
      have X41 : Ext h1 h36 := (Ext.keepN X33 K37 (allS (Nat.le_trans (X32).1 (Nat.le_of_eq e24.symm)) all0))
      have c42 := (Fk.ext X41)
      have c43 := (Sk.ext X41)
      have X44 : Ext h19 h36 := (Ext.keepN E26 K37 (allS (Nat.le_trans (Nat.le_refl _) (Nat.le_of_eq e24.symm)) all0))
      have c45 := (S21.ext X44)
      refine go_virt0 K (k := 103) rfl (H.w 57 rfl) (H.w 60 rfl) (H.w 59 rfl) (H.w 39 rfl) (H.w 61 rfl) (by decide) pd_23 E38 (c_tos H hl lat0 (by simp only [List.length_cons, List.length_nil]; omega) F39 F40 c42 c43 c45) (argsL := []) (rest := []) rfl rfl rfl sub0 rfl ?_
      rintro _ h46 _ - ⟨a47, rfl, E48, S49, g50⟩
      show Go G B M_law _ h46 (a22 :: (a8 :: (a1 :: []))) 19 130 187 #[.val (.int p0), .val (.int p1), .val (.int p2), .val (.int p3), .val (.int p4), .val (.int ((p0 &&& (2147483647 : Int32)) % (3 : Int32))), .val (.ref k), .val (.ref ta), .val (.int (0 : Int32)), .val (.int (p2 &&& (255 : Int32))), .val (.int (p3 &&& (255 : Int32))), .val (.int (p4 &&& (255 : Int32))), .val (.ref a1), .val (.ref a8), .val (.ref a22), .unset, .unset] [(.ref a47)]
      refine go_run K 104 2 (pc' := 191) (Ls' := #[.val (.int p0), .val (.int p1), .val (.int p2), .val (.int p3), .val (.int p4), .val (.int ((p0 &&& (2147483647 : Int32)) % (3 : Int32))), .val (.ref k), .val (.ref ta), .val (.int (0 : Int32)), .val (.int (p2 &&& (255 : Int32))), .val (.int (p3 &&& (255 : Int32))), .val (.int (p4 &&& (255 : Int32))), .val (.ref a1), .val (.ref a8), .val (.ref a22), .val (.ref a47), .unset]) (st' := [(.ref ta)]) rfl ?_
      have X51 : Ext h1 h46 := (Ext.tr X41 E48)
      have c52 := (Sa.ext X51)
      refine go_virt0 K (k := 106) rfl (H.w 175 rfl) (H.w 95 rfl) (H.w 94 rfl) (H.w 5 rfl) (H.w 96 rfl) (by decide) pd_10 c52.exa (c_len H c52) (argsL := []) (rest := []) rfl rfl rfl sub0 rfl ?_
      rintro _ _ _ - ⟨rfl, rfl⟩
      show Go G B M_law _ h46 (a22 :: (a8 :: (a1 :: []))) 19 130 194 #[.val (.int p0), .val (.int p1), .val (.int p2), .val (.int p3), .val (.int p4), .val (.int ((p0 &&& (2147483647 : Int32)) % (3 : Int32))), .val (.ref k), .val (.ref ta), .val (.int (0 : Int32)), .val (.int (p2 &&& (255 : Int32))), .val (.int (p3 &&& (255 : Int32))), .val (.int (p4 &&& (255 : Int32))), .val (.ref a1), .val (.ref a8), .val (.ref a22), .val (.ref a47), .unset] [(.int (ls).length.toInt32)]
      show Go G B M_law _ h46 (a22 :: (a8 :: (a1 :: []))) 19 130 194 #[.val (.int p0), .val (.int p1), .val (.int p2), .val (.int p3), .val (.int p4), .val (.int ((p0 &&& (2147483647 : Int32)) % (3 : Int32))), .val (.ref k), .val (.ref ta), .val (.int (0 : Int32)), .val (.int (p2 &&& (255 : Int32))), .val (.int (p3 &&& (255 : Int32))), .val (.int (p4 &&& (255 : Int32))), .val (.ref a1), .val (.ref a8), .val (.ref a22), .val (.ref a47), .unset] [(.int ls.length.toInt32)]
      refine go_run K 107 2 (pc' := 198) (Ls' := #[.val (.int p0), .val (.int p1), .val (.int p2), .val (.int p3), .val (.int p4), .val (.int ((p0 &&& (2147483647 : Int32)) % (3 : Int32))), .val (.ref k), .val (.ref ta), .val (.int (0 : Int32)), .val (.int (p2 &&& (255 : Int32))), .val (.int (p3 &&& (255 : Int32))), .val (.int (p4 &&& (255 : Int32))), .val (.ref a1), .val (.ref a8), .val (.ref a22), .val (.ref a47), .val (.int ls.length.toInt32)]) (st' := [(.ref a47)]) rfl ?_
      refine go_ifnullN K (k := 109) rfl ?_
      refine go_run K 110 1 (pc' := 203) (st' := [(.ref a47)]) rfl ?_
      refine go_virt0 K (k := 111) rfl (H.w 175 rfl) (H.w 95 rfl) (H.w 94 rfl) (H.w 5 rfl) (H.w 96 rfl) (by decide) pd_10 S49.exa (c_len H S49) (argsL := []) (rest := []) rfl rfl rfl sub0 rfl ?_
      rintro _ _ _ - ⟨rfl, rfl⟩
      show Go G B M_law _ h46 (a22 :: (a8 :: (a1 :: []))) 19 130 206 #[.val (.int p0), .val (.int p1), .val (.int p2), .val (.int p3), .val (.int p4), .val (.int ((p0 &&& (2147483647 : Int32)) % (3 : Int32))), .val (.ref k), .val (.ref ta), .val (.int (0 : Int32)), .val (.int (p2 &&& (255 : Int32))), .val (.int (p3 &&& (255 : Int32))), .val (.int (p4 &&& (255 : Int32))), .val (.ref a1), .val (.ref a8), .val (.ref a22), .val (.ref a47), .val (.int ls.length.toInt32)] [(.int ((ls ++ ((32 : Int32) :: []))).length.toInt32)]
      refine go_run K 112 5 (pc' := 213) (st' := [(.int ((ls.length.toInt32 + (1 : Int32)) + (0 : Int32))), (.int ((ls ++ ((32 : Int32) :: []))).length.toInt32)]) rfl ?_
      have lo : Lat (ls ++ ((32 : Int32) :: [])) := lat_app hl (latC (by decide) lat0 (by simp)) (by simp only [List.length_cons, List.length_nil]; omega)
      refine go_icmpeq K (k := 117) rfl (pc' := 218) (by decide) (fun _ => ?_) (fun q => absurd (by rw [List.length_append]; exact out_len _ 0) q)
      refine go_run K 120 2 (pc' := 222) (st' := [(.ref ta), (.ref a47)]) rfl ?_
      refine go_static K (k := 122) rfl (H.w 176 rfl) (H.w 177 rfl) (H.w 178 rfl) (H.w 179 rfl) (by decide) pd_27 (c_pre H lo hl hF S49 c52) (argsL := [(.ref a47), (.ref ta)]) (rest := []) rfl rfl rfl sub0 rfl ?_
      rintro _ _ _ - ⟨rfl, rfl⟩
      show Go G B M_law _ h46 (a22 :: (a8 :: (a1 :: []))) 19 130 225 #[.val (.int p0), .val (.int p1), .val (.int p2), .val (.int p3), .val (.int p4), .val (.int ((p0 &&& (2147483647 : Int32)) % (3 : Int32))), .val (.ref k), .val (.ref ta), .val (.int (0 : Int32)), .val (.int (p2 &&& (255 : Int32))), .val (.int (p3 &&& (255 : Int32))), .val (.int (p4 &&& (255 : Int32))), .val (.ref a1), .val (.ref a8), .val (.ref a22), .val (.ref a47), .val (.int ls.length.toInt32)] [(.int (1 : Int32))]
      refine go_ifne K (k := 123) rfl (pc' := 230) (by decide) (fun _ => ?_) (fun q => absurd q (by decide))
      refine go_run K 126 2 (pc' := 234) (st' := [(.int ls.length.toInt32), (.ref a47)]) rfl ?_
      refine go_virt0 K (k := 128) rfl (H.w 180 rfl) (H.w 183 rfl) (H.w 182 rfl) (H.w 5 rfl) (H.w 184 rfl) (by decide) pd_24 S49.exa (c_chaQ (i := ls.length) (c := (32 : Int32)) H lo (by simp) hF S49) (argsL := [(.int ls.length.toInt32)]) (rest := []) rfl rfl rfl sub0 rfl ?_
      rintro _ _ _ - ⟨rfl, rfl⟩
      show Go G B M_law _ h46 (a22 :: (a8 :: (a1 :: []))) 19 130 237 #[.val (.int p0), .val (.int p1), .val (.int p2), .val (.int p3), .val (.int p4), .val (.int ((p0 &&& (2147483647 : Int32)) % (3 : Int32))), .val (.ref k), .val (.ref ta), .val (.int (0 : Int32)), .val (.int (p2 &&& (255 : Int32))), .val (.int (p3 &&& (255 : Int32))), .val (.int (p4 &&& (255 : Int32))), .val (.ref a1), .val (.ref a8), .val (.ref a22), .val (.ref a47), .val (.int ls.length.toInt32)] [(.int (32 : Int32))]
      refine go_run K 129 1 (pc' := 239) (st' := [(.int (32 : Int32)), (.int (32 : Int32))]) rfl ?_
      refine go_icmpeq K (k := 130) rfl (pc' := 244) (by decide) (fun _ => ?_) (fun q => absurd rfl q)
      refine go_run K 133 2 (pc' := 247) (st' := [(.int (1 : Int32)), (.int (0 : Int32))]) rfl ?_
      refine go_icmplt K (k := 135) rfl (pc' := 266) (by decide) (fun _ => ?_) (fun q => absurd (by decide) q)
      refine go_run K 145 2 (pc' := 269) (st' := [(.int (2 : Int32)), (.int (0 : Int32))]) rfl ?_
      refine go_icmplt K (k := 147) rfl (pc' := 288) (by decide) (fun _ => ?_) (fun q => absurd (by decide) q)
      refine go_run K 157 2 (pc' := 291) (st' := [(.int (3 : Int32)), (.int (0 : Int32))]) rfl ?_
      refine go_icmplt K (k := 159) rfl (pc' := 310) (by decide) (fun _ => ?_) (fun q => absurd (by decide) q)
      refine go_run K 169 1 (pc' := 311) (st' := [(.int (1 : Int32))]) rfl ?_
      refine go_ireturn K (k := 170) rfl rfl (by decide) rfl rfl rfl ?_
      intro Sf hSf
      exact rfl
    · rw [hn]
      refine go_ifne K (k := 45) rfl (pc' := 95) (by decide) (fun _ => ?_) (fun q => absurd q (by decide))
      refine go_run K 50 2 (pc' := 98) (st' := [(.int (1 : Int32)), (.int (1 : Int32))]) rfl ?_
      refine go_icmpne K (k := 52) rfl (pc' := 114) (by decide) (fun q => absurd (by decide) q) (fun _ => ?_)
      refine go_run K 53 1 (pc' := 102) (st' := [(.int (1 : Int32))]) rfl ?_
      refine go_newarray K (k := 54) rfl (H.w 12 rfl) (by decide) (cap := 1) (by decide) rfl rfl rfl ?_
      intro h54 a53 k55 e56 g57 E58 A59
      have A59' : Arv G.Z h54 a53 k55 .char (1 : Int32) [(.int (0 : Int32))] (.int (0 : Int32)) := Arv.pad A59 (pad_rep [] (.int (0 : Int32)) 1)
      refine go_run K 55 3 (pc' := 108) (st' := [(.int (p2 &&& (255 : Int32))), (.int (0 : Int32)), (.ref a53), (.ref a53)]) rfl ?_
      refine go_castore K (k := 58) rfl A59' (i := 0) (by decide) rfl (Nat.le_of_ble_eq_true rfl) g57 ?_
      intro h60 W61 A62
      refine go_run K 59 2 (pc' := 158) (Ls' := #[.val (.int p0), .val (.int p1), .val (.int p2), .val (.int p3), .val (.int p4), .val (.int ((p0 &&& (2147483647 : Int32)) % (3 : Int32))), .val (.ref k), .val (.ref ta), .val (.int (1 : Int32)), .val (.int (p2 &&& (255 : Int32))), .val (.int (p3 &&& (255 : Int32))), .val (.int (p4 &&& (255 : Int32))), .val (.ref a53), .unset, .unset, .unset, .unset]) (st' := []) rfl ?_
      refine go_new K (k := 91) rfl (H.w 13 rfl) (H.w 6 rfl) (H.w 5 rfl) rfl rfl ?_
      intro h64 a63 e65 g66 E67 A68 D69
      have F70 : Fld G.Z h64 a63 "java/lang/String" "value" "[B" .null := D69 (Or.inr (H.w 8 rfl)) (ty := (.array .byte)) (by decide)
      have F71 : Fld G.Z h64 a63 "java/lang/String" "coder" "B" (.int (0 : Int32)) := D69 (Or.inr (H.w 9 rfl)) (ty := .byte) (by decide)
      refine go_run K 92 2 (pc' := 164) (st' := [(.ref a53), (.ref a63), (.ref a63)]) rfl ?_
      have c72 := (A62.ext E67)
      have B73 : Arv G.Z h64 a53 k55 .char (1 : Int32) (([(p2 &&& (255 : Int32))] : List Int32).map Value.int) (.int 0) := by
        have u := c72
        rw [nar_c8 p2] at u
        exact u
      refine go_special K (k := 94) rfl rfl (H.w 14 rfl) (H.w 15 rfl) (H.w 5 rfl) (H.w 16 rfl) (by decide) pd_25 (c_si (cs := [(p2 &&& (255 : Int32))]) H (lat1 (c8_lat p2)) (Nat.le_of_ble_eq_true rfl) A68 F70 F71 g66 B73) (argsL := [(.ref a53)]) (rest := [(.ref a63)]) rfl rfl rfl (subS (List.mem_cons_self ..) sub0) rfl ?_
      rintro _ h74 _ - ⟨rfl, K75, S76⟩
      show Go G B M_law _ h74 (a63 :: (a53 :: [])) 8 41 167 #[.val (.int p0), .val (.int p1), .val (.int p2), .val (.int p3), .val (.int p4), .val (.int ((p0 &&& (2147483647 : Int32)) % (3 : Int32))), .val (.ref k), .val (.ref ta), .val (.int (1 : Int32)), .val (.int (p2 &&& (255 : Int32))), .val (.int (p3 &&& (255 : Int32))), .val (.int (p4 &&& (255 : Int32))), .val (.ref a53), .unset, .unset, .unset, .unset] [(.ref a63)]
      refine go_run K 95 1 (pc' := 169) (Ls' := #[.val (.int p0), .val (.int p1), .val (.int p2), .val (.int p3), .val (.int p4), .val (.int ((p0 &&& (2147483647 : Int32)) % (3 : Int32))), .val (.ref k), .val (.ref ta), .val (.int (1 : Int32)), .val (.int (p2 &&& (255 : Int32))), .val (.int (p3 &&& (255 : Int32))), .val (.int (p4 &&& (255 : Int32))), .val (.ref a53), .val (.ref a63), .unset, .unset, .unset]) (st' := []) rfl ?_
      refine go_new K (k := 96) rfl (H.w 37 rfl) (H.w 38 rfl) (H.w 39 rfl) rfl rfl ?_
      intro h78 a77 e79 g80 E81 A82 D83
      have F84 : Fld G.Z h78 a77 "com/example/gentle_retry/gentleretry/rabbitmq/SubscriptionQueue" "role" "Lcom/example/gentle_retry/gentleretry/rabbitmq/SubscriptionQueue$Role;" .null := D83 (Or.inr (H.w 52 rfl)) (ty := (.object "com/example/gentle_retry/gentleretry/rabbitmq/SubscriptionQueue$Role")) (by decide)
      have F85 : Fld G.Z h78 a77 "com/example/gentle_retry/gentleretry/rabbitmq/SubscriptionQueue" "name" "Ljava/lang/String;" .null := D83 (Or.inr (H.w 56 rfl)) (ty := (.object "java/lang/String")) (by decide)
      refine go_run K 97 3 (pc' := 177) (st' := [(.ref a63), (.ref k), (.ref a77), (.ref a77)]) rfl ?_
      have X86 : Ext h1 h60 := (Ext.wrN E58 W61 (Nat.le_trans (Nat.le_refl _) (Nat.le_of_eq e56.symm)))
      have X87 : Ext h1 h64 := (Ext.tr X86 E67)
      have X88 : Ext h1 h74 := (Ext.keepN X87 K75 (allS (Nat.le_trans (X86).1 (Nat.le_of_eq e65.symm)) all0))
      have X89 : Ext h1 h78 := (Ext.tr X88 E81)
      have c90 := (Ek.ext X89)
      have c91 := (S76.ext E81)
      refine go_special K (k := 100) rfl rfl (H.w 40 rfl) (H.w 41 rfl) (H.w 39 rfl) (H.w 42 rfl) (by decide) pd_26 (c_sq (a := a77) (r0 := k) (r1 := a63) H A82 F84 F85 g80 c90 c91.exa) (argsL := [(.ref k), (.ref a63)]) (rest := [(.ref a77)]) rfl rfl rfl sub0 rfl ?_
      rintro _ h92 _ - ⟨rfl, K93, E94, F95, F96⟩
      show Go G B M_law _ h92 (a77 :: (a63 :: (a53 :: []))) 13 83 180 #[.val (.int p0), .val (.int p1), .val (.int p2), .val (.int p3), .val (.int p4), .val (.int ((p0 &&& (2147483647 : Int32)) % (3 : Int32))), .val (.ref k), .val (.ref ta), .val (.int (1 : Int32)), .val (.int (p2 &&& (255 : Int32))), .val (.int (p3 &&& (255 : Int32))), .val (.int (p4 &&& (255 : Int32))), .val (.ref a53), .val (.ref a63), .unset, .unset, .unset] [(.ref a77)]
      refine go_run K 101 2 (pc' := 184) (Ls' := #[.val (.int p0), .val (.int p1), .val (.int p2), .val (.int p3), .val (.int p4), .val (.int ((p0 &&& (2147483647 : Int32)) % (3 : Int32))), .val (.ref k), .val (.ref ta), .val (.int (1 : Int32)), .val (.int (p2 &&& (255 : Int32))), .val (.int (p3 &&& (255 : Int32))), .val (.int (p4 &&& (255 : Int32))), .val (.ref a53), .val (.ref a63), .val (.ref a77), .unset, .unset]) (st' := [(.ref a77)]) rfl ?_
      have X97 : Ext h1 h92 := (Ext.keepN X89 K93 (allS (Nat.le_trans (X88).1 (Nat.le_of_eq e79.symm)) all0))
      have c98 := (Fk.ext X97)
      have c99 := (Sk.ext X97)
      have X100 : Ext h74 h92 := (Ext.keepN E81 K93 (allS (Nat.le_trans (Nat.le_refl _) (Nat.le_of_eq e79.symm)) all0))
      have c101 := (S76.ext X100)
      refine go_virt0 K (k := 103) rfl (H.w 57 rfl) (H.w 60 rfl) (H.w 59 rfl) (H.w 39 rfl) (H.w 61 rfl) (by decide) pd_23 E94 (c_tos H hl (lat1 (c8_lat p2)) (by simp only [List.length_cons, List.length_nil]; omega) F95 F96 c98 c99 c101) (argsL := []) (rest := []) rfl rfl rfl sub0 rfl ?_
      rintro _ h102 _ - ⟨a103, rfl, E104, S105, g106⟩
      show Go G B M_law _ h102 (a77 :: (a63 :: (a53 :: []))) 19 131 187 #[.val (.int p0), .val (.int p1), .val (.int p2), .val (.int p3), .val (.int p4), .val (.int ((p0 &&& (2147483647 : Int32)) % (3 : Int32))), .val (.ref k), .val (.ref ta), .val (.int (1 : Int32)), .val (.int (p2 &&& (255 : Int32))), .val (.int (p3 &&& (255 : Int32))), .val (.int (p4 &&& (255 : Int32))), .val (.ref a53), .val (.ref a63), .val (.ref a77), .unset, .unset] [(.ref a103)]
      refine go_run K 104 2 (pc' := 191) (Ls' := #[.val (.int p0), .val (.int p1), .val (.int p2), .val (.int p3), .val (.int p4), .val (.int ((p0 &&& (2147483647 : Int32)) % (3 : Int32))), .val (.ref k), .val (.ref ta), .val (.int (1 : Int32)), .val (.int (p2 &&& (255 : Int32))), .val (.int (p3 &&& (255 : Int32))), .val (.int (p4 &&& (255 : Int32))), .val (.ref a53), .val (.ref a63), .val (.ref a77), .val (.ref a103), .unset]) (st' := [(.ref ta)]) rfl ?_
      have X107 : Ext h1 h102 := (Ext.tr X97 E104)
      have c108 := (Sa.ext X107)
      refine go_virt0 K (k := 106) rfl (H.w 175 rfl) (H.w 95 rfl) (H.w 94 rfl) (H.w 5 rfl) (H.w 96 rfl) (by decide) pd_10 c108.exa (c_len H c108) (argsL := []) (rest := []) rfl rfl rfl sub0 rfl ?_
      rintro _ _ _ - ⟨rfl, rfl⟩
      show Go G B M_law _ h102 (a77 :: (a63 :: (a53 :: []))) 19 131 194 #[.val (.int p0), .val (.int p1), .val (.int p2), .val (.int p3), .val (.int p4), .val (.int ((p0 &&& (2147483647 : Int32)) % (3 : Int32))), .val (.ref k), .val (.ref ta), .val (.int (1 : Int32)), .val (.int (p2 &&& (255 : Int32))), .val (.int (p3 &&& (255 : Int32))), .val (.int (p4 &&& (255 : Int32))), .val (.ref a53), .val (.ref a63), .val (.ref a77), .val (.ref a103), .unset] [(.int (ls).length.toInt32)]
      show Go G B M_law _ h102 (a77 :: (a63 :: (a53 :: []))) 19 131 194 #[.val (.int p0), .val (.int p1), .val (.int p2), .val (.int p3), .val (.int p4), .val (.int ((p0 &&& (2147483647 : Int32)) % (3 : Int32))), .val (.ref k), .val (.ref ta), .val (.int (1 : Int32)), .val (.int (p2 &&& (255 : Int32))), .val (.int (p3 &&& (255 : Int32))), .val (.int (p4 &&& (255 : Int32))), .val (.ref a53), .val (.ref a63), .val (.ref a77), .val (.ref a103), .unset] [(.int ls.length.toInt32)]
      refine go_run K 107 2 (pc' := 198) (Ls' := #[.val (.int p0), .val (.int p1), .val (.int p2), .val (.int p3), .val (.int p4), .val (.int ((p0 &&& (2147483647 : Int32)) % (3 : Int32))), .val (.ref k), .val (.ref ta), .val (.int (1 : Int32)), .val (.int (p2 &&& (255 : Int32))), .val (.int (p3 &&& (255 : Int32))), .val (.int (p4 &&& (255 : Int32))), .val (.ref a53), .val (.ref a63), .val (.ref a77), .val (.ref a103), .val (.int ls.length.toInt32)]) (st' := [(.ref a103)]) rfl ?_
      refine go_ifnullN K (k := 109) rfl ?_
      refine go_run K 110 1 (pc' := 203) (st' := [(.ref a103)]) rfl ?_
      refine go_virt0 K (k := 111) rfl (H.w 175 rfl) (H.w 95 rfl) (H.w 94 rfl) (H.w 5 rfl) (H.w 96 rfl) (by decide) pd_10 S105.exa (c_len H S105) (argsL := []) (rest := []) rfl rfl rfl sub0 rfl ?_
      rintro _ _ _ - ⟨rfl, rfl⟩
      show Go G B M_law _ h102 (a77 :: (a63 :: (a53 :: []))) 19 131 206 #[.val (.int p0), .val (.int p1), .val (.int p2), .val (.int p3), .val (.int p4), .val (.int ((p0 &&& (2147483647 : Int32)) % (3 : Int32))), .val (.ref k), .val (.ref ta), .val (.int (1 : Int32)), .val (.int (p2 &&& (255 : Int32))), .val (.int (p3 &&& (255 : Int32))), .val (.int (p4 &&& (255 : Int32))), .val (.ref a53), .val (.ref a63), .val (.ref a77), .val (.ref a103), .val (.int ls.length.toInt32)] [(.int ((ls ++ ((32 : Int32) :: [(p2 &&& (255 : Int32))]))).length.toInt32)]
      refine go_run K 112 5 (pc' := 213) (st' := [(.int ((ls.length.toInt32 + (1 : Int32)) + (1 : Int32))), (.int ((ls ++ ((32 : Int32) :: [(p2 &&& (255 : Int32))]))).length.toInt32)]) rfl ?_
      have lo : Lat (ls ++ ((32 : Int32) :: [(p2 &&& (255 : Int32))])) := lat_app hl (latC (by decide) (lat1 (c8_lat p2)) (by simp)) (by simp only [List.length_cons, List.length_nil]; omega)
      refine go_icmpeq K (k := 117) rfl (pc' := 218) (by decide) (fun _ => ?_) (fun q => absurd (by rw [List.length_append]; exact out_len _ 1) q)
      refine go_run K 120 2 (pc' := 222) (st' := [(.ref ta), (.ref a103)]) rfl ?_
      refine go_static K (k := 122) rfl (H.w 176 rfl) (H.w 177 rfl) (H.w 178 rfl) (H.w 179 rfl) (by decide) pd_27 (c_pre H lo hl hF S105 c108) (argsL := [(.ref a103), (.ref ta)]) (rest := []) rfl rfl rfl sub0 rfl ?_
      rintro _ _ _ - ⟨rfl, rfl⟩
      show Go G B M_law _ h102 (a77 :: (a63 :: (a53 :: []))) 19 131 225 #[.val (.int p0), .val (.int p1), .val (.int p2), .val (.int p3), .val (.int p4), .val (.int ((p0 &&& (2147483647 : Int32)) % (3 : Int32))), .val (.ref k), .val (.ref ta), .val (.int (1 : Int32)), .val (.int (p2 &&& (255 : Int32))), .val (.int (p3 &&& (255 : Int32))), .val (.int (p4 &&& (255 : Int32))), .val (.ref a53), .val (.ref a63), .val (.ref a77), .val (.ref a103), .val (.int ls.length.toInt32)] [(.int (1 : Int32))]
      refine go_ifne K (k := 123) rfl (pc' := 230) (by decide) (fun _ => ?_) (fun q => absurd q (by decide))
      refine go_run K 126 2 (pc' := 234) (st' := [(.int ls.length.toInt32), (.ref a103)]) rfl ?_
      refine go_virt0 K (k := 128) rfl (H.w 180 rfl) (H.w 183 rfl) (H.w 182 rfl) (H.w 5 rfl) (H.w 184 rfl) (by decide) pd_24 S105.exa (c_chaQ (i := ls.length) (c := (32 : Int32)) H lo (by simp) hF S105) (argsL := [(.int ls.length.toInt32)]) (rest := []) rfl rfl rfl sub0 rfl ?_
      rintro _ _ _ - ⟨rfl, rfl⟩
      show Go G B M_law _ h102 (a77 :: (a63 :: (a53 :: []))) 19 131 237 #[.val (.int p0), .val (.int p1), .val (.int p2), .val (.int p3), .val (.int p4), .val (.int ((p0 &&& (2147483647 : Int32)) % (3 : Int32))), .val (.ref k), .val (.ref ta), .val (.int (1 : Int32)), .val (.int (p2 &&& (255 : Int32))), .val (.int (p3 &&& (255 : Int32))), .val (.int (p4 &&& (255 : Int32))), .val (.ref a53), .val (.ref a63), .val (.ref a77), .val (.ref a103), .val (.int ls.length.toInt32)] [(.int (32 : Int32))]
      refine go_run K 129 1 (pc' := 239) (st' := [(.int (32 : Int32)), (.int (32 : Int32))]) rfl ?_
      refine go_icmpeq K (k := 130) rfl (pc' := 244) (by decide) (fun _ => ?_) (fun q => absurd rfl q)
      refine go_run K 133 2 (pc' := 247) (st' := [(.int (1 : Int32)), (.int (1 : Int32))]) rfl ?_
      refine go_icmplt K (k := 135) rfl (pc' := 266) (by decide) (fun q => absurd q (by decide)) (fun _ => ?_)
      refine go_run K 136 4 (pc' := 256) (st' := [(.int (ls.length.toInt32 + (1 : Int32))), (.ref a103)]) rfl ?_
      rw [show ls.length.toInt32 + (1 : Int32) = (ls.length + 1).toInt32 from add_len _ 1]
      refine go_virt0 K (k := 140) rfl (H.w 180 rfl) (H.w 183 rfl) (H.w 182 rfl) (H.w 5 rfl) (H.w 184 rfl) (by decide) pd_24 S105.exa (c_chaQ (i := (ls.length + 1)) (c := (p2 &&& (255 : Int32))) H lo (by rw [List.getElem?_append_right (by omega), show ls.length + 1 - ls.length = 1 by omega]; rfl) hF S105) (argsL := [(.int (ls.length + 1).toInt32)]) (rest := []) rfl rfl rfl sub0 rfl ?_
      rintro _ _ _ - ⟨rfl, rfl⟩
      show Go G B M_law _ h102 (a77 :: (a63 :: (a53 :: []))) 19 131 259 #[.val (.int p0), .val (.int p1), .val (.int p2), .val (.int p3), .val (.int p4), .val (.int ((p0 &&& (2147483647 : Int32)) % (3 : Int32))), .val (.ref k), .val (.ref ta), .val (.int (1 : Int32)), .val (.int (p2 &&& (255 : Int32))), .val (.int (p3 &&& (255 : Int32))), .val (.int (p4 &&& (255 : Int32))), .val (.ref a53), .val (.ref a63), .val (.ref a77), .val (.ref a103), .val (.int ls.length.toInt32)] [(.int (p2 &&& (255 : Int32)))]
      refine go_run K 141 1 (pc' := 261) (st' := [(.int (p2 &&& (255 : Int32))), (.int (p2 &&& (255 : Int32)))]) rfl ?_
      refine go_icmpeq K (k := 142) rfl (pc' := 266) (by decide) (fun _ => ?_) (fun q => absurd rfl q)
      refine go_run K 145 2 (pc' := 269) (st' := [(.int (2 : Int32)), (.int (1 : Int32))]) rfl ?_
      refine go_icmplt K (k := 147) rfl (pc' := 288) (by decide) (fun _ => ?_) (fun q => absurd (by decide) q)
      refine go_run K 157 2 (pc' := 291) (st' := [(.int (3 : Int32)), (.int (1 : Int32))]) rfl ?_
      refine go_icmplt K (k := 159) rfl (pc' := 310) (by decide) (fun _ => ?_) (fun q => absurd (by decide) q)
      refine go_run K 169 1 (pc' := 311) (st' := [(.int (1 : Int32))]) rfl ?_
      refine go_ireturn K (k := 170) rfl rfl (by decide) rfl rfl rfl ?_
      intro Sf hSf
      exact rfl
    · rw [hn]
      refine go_ifne K (k := 45) rfl (pc' := 95) (by decide) (fun _ => ?_) (fun q => absurd q (by decide))
      refine go_run K 50 2 (pc' := 98) (st' := [(.int (1 : Int32)), (.int (2 : Int32))]) rfl ?_
      refine go_icmpne K (k := 52) rfl (pc' := 114) (by decide) (fun _ => ?_) (fun q => absurd q (by decide))
      refine go_run K 61 2 (pc' := 117) (st' := [(.int (2 : Int32)), (.int (2 : Int32))]) rfl ?_
      refine go_icmpne K (k := 63) rfl (pc' := 138) (by decide) (fun q => absurd (by decide) q) (fun _ => ?_)
      refine go_run K 64 1 (pc' := 121) (st' := [(.int (2 : Int32))]) rfl ?_
      refine go_newarray K (k := 65) rfl (H.w 12 rfl) (by decide) (cap := 2) (by decide) rfl rfl rfl ?_
      intro h110 a109 k111 e112 g113 E114 A115
      have A115' : Arv G.Z h110 a109 k111 .char (2 : Int32) [(.int (0 : Int32)), (.int (0 : Int32))] (.int (0 : Int32)) := Arv.pad A115 (pad_rep [] (.int (0 : Int32)) 2)
      refine go_run K 66 3 (pc' := 127) (st' := [(.int (p2 &&& (255 : Int32))), (.int (0 : Int32)), (.ref a109), (.ref a109)]) rfl ?_
      refine go_castore K (k := 69) rfl A115' (i := 0) (by decide) rfl (Nat.le_of_ble_eq_true rfl) g113 ?_
      intro h116 W117 A118
      refine go_run K 70 3 (pc' := 132) (st' := [(.int (p3 &&& (255 : Int32))), (.int (1 : Int32)), (.ref a109), (.ref a109)]) rfl ?_
      refine go_castore K (k := 73) rfl A118 (i := 1) (by decide) rfl (Nat.le_of_ble_eq_true rfl) g113 ?_
      intro h119 W120 A121
      refine go_run K 74 2 (pc' := 158) (Ls' := #[.val (.int p0), .val (.int p1), .val (.int p2), .val (.int p3), .val (.int p4), .val (.int ((p0 &&& (2147483647 : Int32)) % (3 : Int32))), .val (.ref k), .val (.ref ta), .val (.int (2 : Int32)), .val (.int (p2 &&& (255 : Int32))), .val (.int (p3 &&& (255 : Int32))), .val (.int (p4 &&& (255 : Int32))), .val (.ref a109), .unset, .unset, .unset, .unset]) (st' := []) rfl ?_
      refine go_new K (k := 91) rfl (H.w 13 rfl) (H.w 6 rfl) (H.w 5 rfl) rfl rfl ?_
      intro h123 a122 e124 g125 E126 A127 D128
      have F129 : Fld G.Z h123 a122 "java/lang/String" "value" "[B" .null := D128 (Or.inr (H.w 8 rfl)) (ty := (.array .byte)) (by decide)
      have F130 : Fld G.Z h123 a122 "java/lang/String" "coder" "B" (.int (0 : Int32)) := D128 (Or.inr (H.w 9 rfl)) (ty := .byte) (by decide)
      refine go_run K 92 2 (pc' := 164) (st' := [(.ref a109), (.ref a122), (.ref a122)]) rfl ?_
      have c131 := (A121.ext E126)
      have B132 : Arv G.Z h123 a109 k111 .char (2 : Int32) (([(p2 &&& (255 : Int32)), (p3 &&& (255 : Int32))] : List Int32).map Value.int) (.int 0) := by
        have u := c131
        rw [nar_c8 p2, nar_c8 p3] at u
        exact u
      refine go_special K (k := 94) rfl rfl (H.w 14 rfl) (H.w 15 rfl) (H.w 5 rfl) (H.w 16 rfl) (by decide) pd_25 (c_si (cs := [(p2 &&& (255 : Int32)), (p3 &&& (255 : Int32))]) H (latC (c8_lat p2) (lat1 (c8_lat p3)) (Nat.le_of_ble_eq_true rfl)) (Nat.le_of_ble_eq_true rfl) A127 F129 F130 g125 B132) (argsL := [(.ref a109)]) (rest := [(.ref a122)]) rfl rfl rfl (subS (List.mem_cons_self ..) sub0) rfl ?_
      rintro _ h133 _ - ⟨rfl, K134, S135⟩
      show Go G B M_law _ h133 (a122 :: (a109 :: [])) 8 42 167 #[.val (.int p0), .val (.int p1), .val (.int p2), .val (.int p3), .val (.int p4), .val (.int ((p0 &&& (2147483647 : Int32)) % (3 : Int32))), .val (.ref k), .val (.ref ta), .val (.int (2 : Int32)), .val (.int (p2 &&& (255 : Int32))), .val (.int (p3 &&& (255 : Int32))), .val (.int (p4 &&& (255 : Int32))), .val (.ref a109), .unset, .unset, .unset, .unset] [(.ref a122)]
      refine go_run K 95 1 (pc' := 169) (Ls' := #[.val (.int p0), .val (.int p1), .val (.int p2), .val (.int p3), .val (.int p4), .val (.int ((p0 &&& (2147483647 : Int32)) % (3 : Int32))), .val (.ref k), .val (.ref ta), .val (.int (2 : Int32)), .val (.int (p2 &&& (255 : Int32))), .val (.int (p3 &&& (255 : Int32))), .val (.int (p4 &&& (255 : Int32))), .val (.ref a109), .val (.ref a122), .unset, .unset, .unset]) (st' := []) rfl ?_
      refine go_new K (k := 96) rfl (H.w 37 rfl) (H.w 38 rfl) (H.w 39 rfl) rfl rfl ?_
      intro h137 a136 e138 g139 E140 A141 D142
      have F143 : Fld G.Z h137 a136 "com/example/gentle_retry/gentleretry/rabbitmq/SubscriptionQueue" "role" "Lcom/example/gentle_retry/gentleretry/rabbitmq/SubscriptionQueue$Role;" .null := D142 (Or.inr (H.w 52 rfl)) (ty := (.object "com/example/gentle_retry/gentleretry/rabbitmq/SubscriptionQueue$Role")) (by decide)
      have F144 : Fld G.Z h137 a136 "com/example/gentle_retry/gentleretry/rabbitmq/SubscriptionQueue" "name" "Ljava/lang/String;" .null := D142 (Or.inr (H.w 56 rfl)) (ty := (.object "java/lang/String")) (by decide)
      refine go_run K 97 3 (pc' := 177) (st' := [(.ref a122), (.ref k), (.ref a136), (.ref a136)]) rfl ?_
      have X145 : Ext h1 h116 := (Ext.wrN E114 W117 (Nat.le_trans (Nat.le_refl _) (Nat.le_of_eq e112.symm)))
      have X146 : Ext h1 h119 := (Ext.wrN X145 W120 (Nat.le_trans (Nat.le_refl _) (Nat.le_of_eq e112.symm)))
      have X147 : Ext h1 h123 := (Ext.tr X146 E126)
      have X148 : Ext h1 h133 := (Ext.keepN X147 K134 (allS (Nat.le_trans (X146).1 (Nat.le_of_eq e124.symm)) all0))
      have X149 : Ext h1 h137 := (Ext.tr X148 E140)
      have c150 := (Ek.ext X149)
      have c151 := (S135.ext E140)
      refine go_special K (k := 100) rfl rfl (H.w 40 rfl) (H.w 41 rfl) (H.w 39 rfl) (H.w 42 rfl) (by decide) pd_26 (c_sq (a := a136) (r0 := k) (r1 := a122) H A141 F143 F144 g139 c150 c151.exa) (argsL := [(.ref k), (.ref a122)]) (rest := [(.ref a136)]) rfl rfl rfl sub0 rfl ?_
      rintro _ h152 _ - ⟨rfl, K153, E154, F155, F156⟩
      show Go G B M_law _ h152 (a136 :: (a122 :: (a109 :: []))) 13 84 180 #[.val (.int p0), .val (.int p1), .val (.int p2), .val (.int p3), .val (.int p4), .val (.int ((p0 &&& (2147483647 : Int32)) % (3 : Int32))), .val (.ref k), .val (.ref ta), .val (.int (2 : Int32)), .val (.int (p2 &&& (255 : Int32))), .val (.int (p3 &&& (255 : Int32))), .val (.int (p4 &&& (255 : Int32))), .val (.ref a109), .val (.ref a122), .unset, .unset, .unset] [(.ref a136)]
      refine go_run K 101 2 (pc' := 184) (Ls' := #[.val (.int p0), .val (.int p1), .val (.int p2), .val (.int p3), .val (.int p4), .val (.int ((p0 &&& (2147483647 : Int32)) % (3 : Int32))), .val (.ref k), .val (.ref ta), .val (.int (2 : Int32)), .val (.int (p2 &&& (255 : Int32))), .val (.int (p3 &&& (255 : Int32))), .val (.int (p4 &&& (255 : Int32))), .val (.ref a109), .val (.ref a122), .val (.ref a136), .unset, .unset]) (st' := [(.ref a136)]) rfl ?_
      have X157 : Ext h1 h152 := (Ext.keepN X149 K153 (allS (Nat.le_trans (X148).1 (Nat.le_of_eq e138.symm)) all0))
      have c158 := (Fk.ext X157)
      have c159 := (Sk.ext X157)
      have X160 : Ext h133 h152 := (Ext.keepN E140 K153 (allS (Nat.le_trans (Nat.le_refl _) (Nat.le_of_eq e138.symm)) all0))
      have c161 := (S135.ext X160)
      refine go_virt0 K (k := 103) rfl (H.w 57 rfl) (H.w 60 rfl) (H.w 59 rfl) (H.w 39 rfl) (H.w 61 rfl) (by decide) pd_23 E154 (c_tos H hl (latC (c8_lat p2) (lat1 (c8_lat p3)) (Nat.le_of_ble_eq_true rfl)) (by simp only [List.length_cons, List.length_nil]; omega) F155 F156 c158 c159 c161) (argsL := []) (rest := []) rfl rfl rfl sub0 rfl ?_
      rintro _ h162 _ - ⟨a163, rfl, E164, S165, g166⟩
      show Go G B M_law _ h162 (a136 :: (a122 :: (a109 :: []))) 19 132 187 #[.val (.int p0), .val (.int p1), .val (.int p2), .val (.int p3), .val (.int p4), .val (.int ((p0 &&& (2147483647 : Int32)) % (3 : Int32))), .val (.ref k), .val (.ref ta), .val (.int (2 : Int32)), .val (.int (p2 &&& (255 : Int32))), .val (.int (p3 &&& (255 : Int32))), .val (.int (p4 &&& (255 : Int32))), .val (.ref a109), .val (.ref a122), .val (.ref a136), .unset, .unset] [(.ref a163)]
      refine go_run K 104 2 (pc' := 191) (Ls' := #[.val (.int p0), .val (.int p1), .val (.int p2), .val (.int p3), .val (.int p4), .val (.int ((p0 &&& (2147483647 : Int32)) % (3 : Int32))), .val (.ref k), .val (.ref ta), .val (.int (2 : Int32)), .val (.int (p2 &&& (255 : Int32))), .val (.int (p3 &&& (255 : Int32))), .val (.int (p4 &&& (255 : Int32))), .val (.ref a109), .val (.ref a122), .val (.ref a136), .val (.ref a163), .unset]) (st' := [(.ref ta)]) rfl ?_
      have X167 : Ext h1 h162 := (Ext.tr X157 E164)
      have c168 := (Sa.ext X167)
      refine go_virt0 K (k := 106) rfl (H.w 175 rfl) (H.w 95 rfl) (H.w 94 rfl) (H.w 5 rfl) (H.w 96 rfl) (by decide) pd_10 c168.exa (c_len H c168) (argsL := []) (rest := []) rfl rfl rfl sub0 rfl ?_
      rintro _ _ _ - ⟨rfl, rfl⟩
      show Go G B M_law _ h162 (a136 :: (a122 :: (a109 :: []))) 19 132 194 #[.val (.int p0), .val (.int p1), .val (.int p2), .val (.int p3), .val (.int p4), .val (.int ((p0 &&& (2147483647 : Int32)) % (3 : Int32))), .val (.ref k), .val (.ref ta), .val (.int (2 : Int32)), .val (.int (p2 &&& (255 : Int32))), .val (.int (p3 &&& (255 : Int32))), .val (.int (p4 &&& (255 : Int32))), .val (.ref a109), .val (.ref a122), .val (.ref a136), .val (.ref a163), .unset] [(.int (ls).length.toInt32)]
      show Go G B M_law _ h162 (a136 :: (a122 :: (a109 :: []))) 19 132 194 #[.val (.int p0), .val (.int p1), .val (.int p2), .val (.int p3), .val (.int p4), .val (.int ((p0 &&& (2147483647 : Int32)) % (3 : Int32))), .val (.ref k), .val (.ref ta), .val (.int (2 : Int32)), .val (.int (p2 &&& (255 : Int32))), .val (.int (p3 &&& (255 : Int32))), .val (.int (p4 &&& (255 : Int32))), .val (.ref a109), .val (.ref a122), .val (.ref a136), .val (.ref a163), .unset] [(.int ls.length.toInt32)]
      refine go_run K 107 2 (pc' := 198) (Ls' := #[.val (.int p0), .val (.int p1), .val (.int p2), .val (.int p3), .val (.int p4), .val (.int ((p0 &&& (2147483647 : Int32)) % (3 : Int32))), .val (.ref k), .val (.ref ta), .val (.int (2 : Int32)), .val (.int (p2 &&& (255 : Int32))), .val (.int (p3 &&& (255 : Int32))), .val (.int (p4 &&& (255 : Int32))), .val (.ref a109), .val (.ref a122), .val (.ref a136), .val (.ref a163), .val (.int ls.length.toInt32)]) (st' := [(.ref a163)]) rfl ?_
      refine go_ifnullN K (k := 109) rfl ?_
      refine go_run K 110 1 (pc' := 203) (st' := [(.ref a163)]) rfl ?_
      refine go_virt0 K (k := 111) rfl (H.w 175 rfl) (H.w 95 rfl) (H.w 94 rfl) (H.w 5 rfl) (H.w 96 rfl) (by decide) pd_10 S165.exa (c_len H S165) (argsL := []) (rest := []) rfl rfl rfl sub0 rfl ?_
      rintro _ _ _ - ⟨rfl, rfl⟩
      show Go G B M_law _ h162 (a136 :: (a122 :: (a109 :: []))) 19 132 206 #[.val (.int p0), .val (.int p1), .val (.int p2), .val (.int p3), .val (.int p4), .val (.int ((p0 &&& (2147483647 : Int32)) % (3 : Int32))), .val (.ref k), .val (.ref ta), .val (.int (2 : Int32)), .val (.int (p2 &&& (255 : Int32))), .val (.int (p3 &&& (255 : Int32))), .val (.int (p4 &&& (255 : Int32))), .val (.ref a109), .val (.ref a122), .val (.ref a136), .val (.ref a163), .val (.int ls.length.toInt32)] [(.int ((ls ++ ((32 : Int32) :: [(p2 &&& (255 : Int32)), (p3 &&& (255 : Int32))]))).length.toInt32)]
      refine go_run K 112 5 (pc' := 213) (st' := [(.int ((ls.length.toInt32 + (1 : Int32)) + (2 : Int32))), (.int ((ls ++ ((32 : Int32) :: [(p2 &&& (255 : Int32)), (p3 &&& (255 : Int32))]))).length.toInt32)]) rfl ?_
      have lo : Lat (ls ++ ((32 : Int32) :: [(p2 &&& (255 : Int32)), (p3 &&& (255 : Int32))])) := lat_app hl (latC (by decide) (latC (c8_lat p2) (lat1 (c8_lat p3)) (Nat.le_of_ble_eq_true rfl)) (by simp)) (by simp only [List.length_cons, List.length_nil]; omega)
      refine go_icmpeq K (k := 117) rfl (pc' := 218) (by decide) (fun _ => ?_) (fun q => absurd (by rw [List.length_append]; exact out_len _ 2) q)
      refine go_run K 120 2 (pc' := 222) (st' := [(.ref ta), (.ref a163)]) rfl ?_
      refine go_static K (k := 122) rfl (H.w 176 rfl) (H.w 177 rfl) (H.w 178 rfl) (H.w 179 rfl) (by decide) pd_27 (c_pre H lo hl hF S165 c168) (argsL := [(.ref a163), (.ref ta)]) (rest := []) rfl rfl rfl sub0 rfl ?_
      rintro _ _ _ - ⟨rfl, rfl⟩
      show Go G B M_law _ h162 (a136 :: (a122 :: (a109 :: []))) 19 132 225 #[.val (.int p0), .val (.int p1), .val (.int p2), .val (.int p3), .val (.int p4), .val (.int ((p0 &&& (2147483647 : Int32)) % (3 : Int32))), .val (.ref k), .val (.ref ta), .val (.int (2 : Int32)), .val (.int (p2 &&& (255 : Int32))), .val (.int (p3 &&& (255 : Int32))), .val (.int (p4 &&& (255 : Int32))), .val (.ref a109), .val (.ref a122), .val (.ref a136), .val (.ref a163), .val (.int ls.length.toInt32)] [(.int (1 : Int32))]
      refine go_ifne K (k := 123) rfl (pc' := 230) (by decide) (fun _ => ?_) (fun q => absurd q (by decide))
      refine go_run K 126 2 (pc' := 234) (st' := [(.int ls.length.toInt32), (.ref a163)]) rfl ?_
      refine go_virt0 K (k := 128) rfl (H.w 180 rfl) (H.w 183 rfl) (H.w 182 rfl) (H.w 5 rfl) (H.w 184 rfl) (by decide) pd_24 S165.exa (c_chaQ (i := ls.length) (c := (32 : Int32)) H lo (by simp) hF S165) (argsL := [(.int ls.length.toInt32)]) (rest := []) rfl rfl rfl sub0 rfl ?_
      rintro _ _ _ - ⟨rfl, rfl⟩
      show Go G B M_law _ h162 (a136 :: (a122 :: (a109 :: []))) 19 132 237 #[.val (.int p0), .val (.int p1), .val (.int p2), .val (.int p3), .val (.int p4), .val (.int ((p0 &&& (2147483647 : Int32)) % (3 : Int32))), .val (.ref k), .val (.ref ta), .val (.int (2 : Int32)), .val (.int (p2 &&& (255 : Int32))), .val (.int (p3 &&& (255 : Int32))), .val (.int (p4 &&& (255 : Int32))), .val (.ref a109), .val (.ref a122), .val (.ref a136), .val (.ref a163), .val (.int ls.length.toInt32)] [(.int (32 : Int32))]
      refine go_run K 129 1 (pc' := 239) (st' := [(.int (32 : Int32)), (.int (32 : Int32))]) rfl ?_
      refine go_icmpeq K (k := 130) rfl (pc' := 244) (by decide) (fun _ => ?_) (fun q => absurd rfl q)
      refine go_run K 133 2 (pc' := 247) (st' := [(.int (1 : Int32)), (.int (2 : Int32))]) rfl ?_
      refine go_icmplt K (k := 135) rfl (pc' := 266) (by decide) (fun q => absurd q (by decide)) (fun _ => ?_)
      refine go_run K 136 4 (pc' := 256) (st' := [(.int (ls.length.toInt32 + (1 : Int32))), (.ref a163)]) rfl ?_
      rw [show ls.length.toInt32 + (1 : Int32) = (ls.length + 1).toInt32 from add_len _ 1]
      refine go_virt0 K (k := 140) rfl (H.w 180 rfl) (H.w 183 rfl) (H.w 182 rfl) (H.w 5 rfl) (H.w 184 rfl) (by decide) pd_24 S165.exa (c_chaQ (i := (ls.length + 1)) (c := (p2 &&& (255 : Int32))) H lo (by rw [List.getElem?_append_right (by omega), show ls.length + 1 - ls.length = 1 by omega]; rfl) hF S165) (argsL := [(.int (ls.length + 1).toInt32)]) (rest := []) rfl rfl rfl sub0 rfl ?_
      rintro _ _ _ - ⟨rfl, rfl⟩
      show Go G B M_law _ h162 (a136 :: (a122 :: (a109 :: []))) 19 132 259 #[.val (.int p0), .val (.int p1), .val (.int p2), .val (.int p3), .val (.int p4), .val (.int ((p0 &&& (2147483647 : Int32)) % (3 : Int32))), .val (.ref k), .val (.ref ta), .val (.int (2 : Int32)), .val (.int (p2 &&& (255 : Int32))), .val (.int (p3 &&& (255 : Int32))), .val (.int (p4 &&& (255 : Int32))), .val (.ref a109), .val (.ref a122), .val (.ref a136), .val (.ref a163), .val (.int ls.length.toInt32)] [(.int (p2 &&& (255 : Int32)))]
      refine go_run K 141 1 (pc' := 261) (st' := [(.int (p2 &&& (255 : Int32))), (.int (p2 &&& (255 : Int32)))]) rfl ?_
      refine go_icmpeq K (k := 142) rfl (pc' := 266) (by decide) (fun _ => ?_) (fun q => absurd rfl q)
      refine go_run K 145 2 (pc' := 269) (st' := [(.int (2 : Int32)), (.int (2 : Int32))]) rfl ?_
      refine go_icmplt K (k := 147) rfl (pc' := 288) (by decide) (fun q => absurd q (by decide)) (fun _ => ?_)
      refine go_run K 148 4 (pc' := 278) (st' := [(.int (ls.length.toInt32 + (2 : Int32))), (.ref a163)]) rfl ?_
      rw [show ls.length.toInt32 + (2 : Int32) = (ls.length + 2).toInt32 from add_len _ 2]
      refine go_virt0 K (k := 152) rfl (H.w 180 rfl) (H.w 183 rfl) (H.w 182 rfl) (H.w 5 rfl) (H.w 184 rfl) (by decide) pd_24 S165.exa (c_chaQ (i := (ls.length + 2)) (c := (p3 &&& (255 : Int32))) H lo (by rw [List.getElem?_append_right (by omega), show ls.length + 2 - ls.length = 2 by omega]; rfl) hF S165) (argsL := [(.int (ls.length + 2).toInt32)]) (rest := []) rfl rfl rfl sub0 rfl ?_
      rintro _ _ _ - ⟨rfl, rfl⟩
      show Go G B M_law _ h162 (a136 :: (a122 :: (a109 :: []))) 19 132 281 #[.val (.int p0), .val (.int p1), .val (.int p2), .val (.int p3), .val (.int p4), .val (.int ((p0 &&& (2147483647 : Int32)) % (3 : Int32))), .val (.ref k), .val (.ref ta), .val (.int (2 : Int32)), .val (.int (p2 &&& (255 : Int32))), .val (.int (p3 &&& (255 : Int32))), .val (.int (p4 &&& (255 : Int32))), .val (.ref a109), .val (.ref a122), .val (.ref a136), .val (.ref a163), .val (.int ls.length.toInt32)] [(.int (p3 &&& (255 : Int32)))]
      refine go_run K 153 1 (pc' := 283) (st' := [(.int (p3 &&& (255 : Int32))), (.int (p3 &&& (255 : Int32)))]) rfl ?_
      refine go_icmpeq K (k := 154) rfl (pc' := 288) (by decide) (fun _ => ?_) (fun q => absurd rfl q)
      refine go_run K 157 2 (pc' := 291) (st' := [(.int (3 : Int32)), (.int (2 : Int32))]) rfl ?_
      refine go_icmplt K (k := 159) rfl (pc' := 310) (by decide) (fun _ => ?_) (fun q => absurd (by decide) q)
      refine go_run K 169 1 (pc' := 311) (st' := [(.int (1 : Int32))]) rfl ?_
      refine go_ireturn K (k := 170) rfl rfl (by decide) rfl rfl rfl ?_
      intro Sf hSf
      exact rfl
    · rw [hn]
      refine go_ifne K (k := 45) rfl (pc' := 95) (by decide) (fun _ => ?_) (fun q => absurd q (by decide))
      refine go_run K 50 2 (pc' := 98) (st' := [(.int (1 : Int32)), (.int (3 : Int32))]) rfl ?_
      refine go_icmpne K (k := 52) rfl (pc' := 114) (by decide) (fun _ => ?_) (fun q => absurd q (by decide))
      refine go_run K 61 2 (pc' := 117) (st' := [(.int (2 : Int32)), (.int (3 : Int32))]) rfl ?_
      refine go_icmpne K (k := 63) rfl (pc' := 138) (by decide) (fun _ => ?_) (fun q => absurd q (by decide))
      refine go_run K 76 1 (pc' := 139) (st' := [(.int (3 : Int32))]) rfl ?_
      refine go_newarray K (k := 77) rfl (H.w 12 rfl) (by decide) (cap := 3) (by decide) rfl rfl rfl ?_
      intro h170 a169 k171 e172 g173 E174 A175
      have A175' : Arv G.Z h170 a169 k171 .char (3 : Int32) [(.int (0 : Int32)), (.int (0 : Int32)), (.int (0 : Int32))] (.int (0 : Int32)) := Arv.pad A175 (pad_rep [] (.int (0 : Int32)) 3)
      refine go_run K 78 3 (pc' := 145) (st' := [(.int (p2 &&& (255 : Int32))), (.int (0 : Int32)), (.ref a169), (.ref a169)]) rfl ?_
      refine go_castore K (k := 81) rfl A175' (i := 0) (by decide) rfl (Nat.le_of_ble_eq_true rfl) g173 ?_
      intro h176 W177 A178
      refine go_run K 82 3 (pc' := 150) (st' := [(.int (p3 &&& (255 : Int32))), (.int (1 : Int32)), (.ref a169), (.ref a169)]) rfl ?_
      refine go_castore K (k := 85) rfl A178 (i := 1) (by decide) rfl (Nat.le_of_ble_eq_true rfl) g173 ?_
      intro h179 W180 A181
      refine go_run K 86 3 (pc' := 155) (st' := [(.int (p4 &&& (255 : Int32))), (.int (2 : Int32)), (.ref a169), (.ref a169)]) rfl ?_
      refine go_castore K (k := 89) rfl A181 (i := 2) (by decide) rfl (Nat.le_of_ble_eq_true rfl) g173 ?_
      intro h182 W183 A184
      refine go_run K 90 1 (pc' := 158) (Ls' := #[.val (.int p0), .val (.int p1), .val (.int p2), .val (.int p3), .val (.int p4), .val (.int ((p0 &&& (2147483647 : Int32)) % (3 : Int32))), .val (.ref k), .val (.ref ta), .val (.int (3 : Int32)), .val (.int (p2 &&& (255 : Int32))), .val (.int (p3 &&& (255 : Int32))), .val (.int (p4 &&& (255 : Int32))), .val (.ref a169), .unset, .unset, .unset, .unset]) (st' := []) rfl ?_
      refine go_new K (k := 91) rfl (H.w 13 rfl) (H.w 6 rfl) (H.w 5 rfl) rfl rfl ?_
      intro h186 a185 e187 g188 E189 A190 D191
      have F192 : Fld G.Z h186 a185 "java/lang/String" "value" "[B" .null := D191 (Or.inr (H.w 8 rfl)) (ty := (.array .byte)) (by decide)
      have F193 : Fld G.Z h186 a185 "java/lang/String" "coder" "B" (.int (0 : Int32)) := D191 (Or.inr (H.w 9 rfl)) (ty := .byte) (by decide)
      refine go_run K 92 2 (pc' := 164) (st' := [(.ref a169), (.ref a185), (.ref a185)]) rfl ?_
      have c194 := (A184.ext E189)
      have B195 : Arv G.Z h186 a169 k171 .char (3 : Int32) (([(p2 &&& (255 : Int32)), (p3 &&& (255 : Int32)), (p4 &&& (255 : Int32))] : List Int32).map Value.int) (.int 0) := by
        have u := c194
        rw [nar_c8 p2, nar_c8 p3, nar_c8 p4] at u
        exact u
      refine go_special K (k := 94) rfl rfl (H.w 14 rfl) (H.w 15 rfl) (H.w 5 rfl) (H.w 16 rfl) (by decide) pd_25 (c_si (cs := [(p2 &&& (255 : Int32)), (p3 &&& (255 : Int32)), (p4 &&& (255 : Int32))]) H (latC (c8_lat p2) (latC (c8_lat p3) (lat1 (c8_lat p4)) (Nat.le_of_ble_eq_true rfl)) (Nat.le_of_ble_eq_true rfl)) (Nat.le_of_ble_eq_true rfl) A190 F192 F193 g188 B195) (argsL := [(.ref a169)]) (rest := [(.ref a185)]) rfl rfl rfl (subS (List.mem_cons_self ..) sub0) rfl ?_
      rintro _ h196 _ - ⟨rfl, K197, S198⟩
      show Go G B M_law _ h196 (a185 :: (a169 :: [])) 8 43 167 #[.val (.int p0), .val (.int p1), .val (.int p2), .val (.int p3), .val (.int p4), .val (.int ((p0 &&& (2147483647 : Int32)) % (3 : Int32))), .val (.ref k), .val (.ref ta), .val (.int (3 : Int32)), .val (.int (p2 &&& (255 : Int32))), .val (.int (p3 &&& (255 : Int32))), .val (.int (p4 &&& (255 : Int32))), .val (.ref a169), .unset, .unset, .unset, .unset] [(.ref a185)]
      refine go_run K 95 1 (pc' := 169) (Ls' := #[.val (.int p0), .val (.int p1), .val (.int p2), .val (.int p3), .val (.int p4), .val (.int ((p0 &&& (2147483647 : Int32)) % (3 : Int32))), .val (.ref k), .val (.ref ta), .val (.int (3 : Int32)), .val (.int (p2 &&& (255 : Int32))), .val (.int (p3 &&& (255 : Int32))), .val (.int (p4 &&& (255 : Int32))), .val (.ref a169), .val (.ref a185), .unset, .unset, .unset]) (st' := []) rfl ?_
      refine go_new K (k := 96) rfl (H.w 37 rfl) (H.w 38 rfl) (H.w 39 rfl) rfl rfl ?_
      intro h200 a199 e201 g202 E203 A204 D205
      have F206 : Fld G.Z h200 a199 "com/example/gentle_retry/gentleretry/rabbitmq/SubscriptionQueue" "role" "Lcom/example/gentle_retry/gentleretry/rabbitmq/SubscriptionQueue$Role;" .null := D205 (Or.inr (H.w 52 rfl)) (ty := (.object "com/example/gentle_retry/gentleretry/rabbitmq/SubscriptionQueue$Role")) (by decide)
      have F207 : Fld G.Z h200 a199 "com/example/gentle_retry/gentleretry/rabbitmq/SubscriptionQueue" "name" "Ljava/lang/String;" .null := D205 (Or.inr (H.w 56 rfl)) (ty := (.object "java/lang/String")) (by decide)
      refine go_run K 97 3 (pc' := 177) (st' := [(.ref a185), (.ref k), (.ref a199), (.ref a199)]) rfl ?_
      have X208 : Ext h1 h176 := (Ext.wrN E174 W177 (Nat.le_trans (Nat.le_refl _) (Nat.le_of_eq e172.symm)))
      have X209 : Ext h1 h179 := (Ext.wrN X208 W180 (Nat.le_trans (Nat.le_refl _) (Nat.le_of_eq e172.symm)))
      have X210 : Ext h1 h182 := (Ext.wrN X209 W183 (Nat.le_trans (Nat.le_refl _) (Nat.le_of_eq e172.symm)))
      have X211 : Ext h1 h186 := (Ext.tr X210 E189)
      have X212 : Ext h1 h196 := (Ext.keepN X211 K197 (allS (Nat.le_trans (X210).1 (Nat.le_of_eq e187.symm)) all0))
      have X213 : Ext h1 h200 := (Ext.tr X212 E203)
      have c214 := (Ek.ext X213)
      have c215 := (S198.ext E203)
      refine go_special K (k := 100) rfl rfl (H.w 40 rfl) (H.w 41 rfl) (H.w 39 rfl) (H.w 42 rfl) (by decide) pd_26 (c_sq (a := a199) (r0 := k) (r1 := a185) H A204 F206 F207 g202 c214 c215.exa) (argsL := [(.ref k), (.ref a185)]) (rest := [(.ref a199)]) rfl rfl rfl sub0 rfl ?_
      rintro _ h216 _ - ⟨rfl, K217, E218, F219, F220⟩
      show Go G B M_law _ h216 (a199 :: (a185 :: (a169 :: []))) 13 85 180 #[.val (.int p0), .val (.int p1), .val (.int p2), .val (.int p3), .val (.int p4), .val (.int ((p0 &&& (2147483647 : Int32)) % (3 : Int32))), .val (.ref k), .val (.ref ta), .val (.int (3 : Int32)), .val (.int (p2 &&& (255 : Int32))), .val (.int (p3 &&& (255 : Int32))), .val (.int (p4 &&& (255 : Int32))), .val (.ref a169), .val (.ref a185), .unset, .unset, .unset] [(.ref a199)]
      refine go_run K 101 2 (pc' := 184) (Ls' := #[.val (.int p0), .val (.int p1), .val (.int p2), .val (.int p3), .val (.int p4), .val (.int ((p0 &&& (2147483647 : Int32)) % (3 : Int32))), .val (.ref k), .val (.ref ta), .val (.int (3 : Int32)), .val (.int (p2 &&& (255 : Int32))), .val (.int (p3 &&& (255 : Int32))), .val (.int (p4 &&& (255 : Int32))), .val (.ref a169), .val (.ref a185), .val (.ref a199), .unset, .unset]) (st' := [(.ref a199)]) rfl ?_
      have X221 : Ext h1 h216 := (Ext.keepN X213 K217 (allS (Nat.le_trans (X212).1 (Nat.le_of_eq e201.symm)) all0))
      have c222 := (Fk.ext X221)
      have c223 := (Sk.ext X221)
      have X224 : Ext h196 h216 := (Ext.keepN E203 K217 (allS (Nat.le_trans (Nat.le_refl _) (Nat.le_of_eq e201.symm)) all0))
      have c225 := (S198.ext X224)
      refine go_virt0 K (k := 103) rfl (H.w 57 rfl) (H.w 60 rfl) (H.w 59 rfl) (H.w 39 rfl) (H.w 61 rfl) (by decide) pd_23 E218 (c_tos H hl (latC (c8_lat p2) (latC (c8_lat p3) (lat1 (c8_lat p4)) (Nat.le_of_ble_eq_true rfl)) (Nat.le_of_ble_eq_true rfl)) (by simp only [List.length_cons, List.length_nil]; omega) F219 F220 c222 c223 c225) (argsL := []) (rest := []) rfl rfl rfl sub0 rfl ?_
      rintro _ h226 _ - ⟨a227, rfl, E228, S229, g230⟩
      show Go G B M_law _ h226 (a199 :: (a185 :: (a169 :: []))) 19 133 187 #[.val (.int p0), .val (.int p1), .val (.int p2), .val (.int p3), .val (.int p4), .val (.int ((p0 &&& (2147483647 : Int32)) % (3 : Int32))), .val (.ref k), .val (.ref ta), .val (.int (3 : Int32)), .val (.int (p2 &&& (255 : Int32))), .val (.int (p3 &&& (255 : Int32))), .val (.int (p4 &&& (255 : Int32))), .val (.ref a169), .val (.ref a185), .val (.ref a199), .unset, .unset] [(.ref a227)]
      refine go_run K 104 2 (pc' := 191) (Ls' := #[.val (.int p0), .val (.int p1), .val (.int p2), .val (.int p3), .val (.int p4), .val (.int ((p0 &&& (2147483647 : Int32)) % (3 : Int32))), .val (.ref k), .val (.ref ta), .val (.int (3 : Int32)), .val (.int (p2 &&& (255 : Int32))), .val (.int (p3 &&& (255 : Int32))), .val (.int (p4 &&& (255 : Int32))), .val (.ref a169), .val (.ref a185), .val (.ref a199), .val (.ref a227), .unset]) (st' := [(.ref ta)]) rfl ?_
      have X231 : Ext h1 h226 := (Ext.tr X221 E228)
      have c232 := (Sa.ext X231)
      refine go_virt0 K (k := 106) rfl (H.w 175 rfl) (H.w 95 rfl) (H.w 94 rfl) (H.w 5 rfl) (H.w 96 rfl) (by decide) pd_10 c232.exa (c_len H c232) (argsL := []) (rest := []) rfl rfl rfl sub0 rfl ?_
      rintro _ _ _ - ⟨rfl, rfl⟩
      show Go G B M_law _ h226 (a199 :: (a185 :: (a169 :: []))) 19 133 194 #[.val (.int p0), .val (.int p1), .val (.int p2), .val (.int p3), .val (.int p4), .val (.int ((p0 &&& (2147483647 : Int32)) % (3 : Int32))), .val (.ref k), .val (.ref ta), .val (.int (3 : Int32)), .val (.int (p2 &&& (255 : Int32))), .val (.int (p3 &&& (255 : Int32))), .val (.int (p4 &&& (255 : Int32))), .val (.ref a169), .val (.ref a185), .val (.ref a199), .val (.ref a227), .unset] [(.int (ls).length.toInt32)]
      show Go G B M_law _ h226 (a199 :: (a185 :: (a169 :: []))) 19 133 194 #[.val (.int p0), .val (.int p1), .val (.int p2), .val (.int p3), .val (.int p4), .val (.int ((p0 &&& (2147483647 : Int32)) % (3 : Int32))), .val (.ref k), .val (.ref ta), .val (.int (3 : Int32)), .val (.int (p2 &&& (255 : Int32))), .val (.int (p3 &&& (255 : Int32))), .val (.int (p4 &&& (255 : Int32))), .val (.ref a169), .val (.ref a185), .val (.ref a199), .val (.ref a227), .unset] [(.int ls.length.toInt32)]
      refine go_run K 107 2 (pc' := 198) (Ls' := #[.val (.int p0), .val (.int p1), .val (.int p2), .val (.int p3), .val (.int p4), .val (.int ((p0 &&& (2147483647 : Int32)) % (3 : Int32))), .val (.ref k), .val (.ref ta), .val (.int (3 : Int32)), .val (.int (p2 &&& (255 : Int32))), .val (.int (p3 &&& (255 : Int32))), .val (.int (p4 &&& (255 : Int32))), .val (.ref a169), .val (.ref a185), .val (.ref a199), .val (.ref a227), .val (.int ls.length.toInt32)]) (st' := [(.ref a227)]) rfl ?_
      refine go_ifnullN K (k := 109) rfl ?_
      refine go_run K 110 1 (pc' := 203) (st' := [(.ref a227)]) rfl ?_
      refine go_virt0 K (k := 111) rfl (H.w 175 rfl) (H.w 95 rfl) (H.w 94 rfl) (H.w 5 rfl) (H.w 96 rfl) (by decide) pd_10 S229.exa (c_len H S229) (argsL := []) (rest := []) rfl rfl rfl sub0 rfl ?_
      rintro _ _ _ - ⟨rfl, rfl⟩
      show Go G B M_law _ h226 (a199 :: (a185 :: (a169 :: []))) 19 133 206 #[.val (.int p0), .val (.int p1), .val (.int p2), .val (.int p3), .val (.int p4), .val (.int ((p0 &&& (2147483647 : Int32)) % (3 : Int32))), .val (.ref k), .val (.ref ta), .val (.int (3 : Int32)), .val (.int (p2 &&& (255 : Int32))), .val (.int (p3 &&& (255 : Int32))), .val (.int (p4 &&& (255 : Int32))), .val (.ref a169), .val (.ref a185), .val (.ref a199), .val (.ref a227), .val (.int ls.length.toInt32)] [(.int ((ls ++ ((32 : Int32) :: [(p2 &&& (255 : Int32)), (p3 &&& (255 : Int32)), (p4 &&& (255 : Int32))]))).length.toInt32)]
      refine go_run K 112 5 (pc' := 213) (st' := [(.int ((ls.length.toInt32 + (1 : Int32)) + (3 : Int32))), (.int ((ls ++ ((32 : Int32) :: [(p2 &&& (255 : Int32)), (p3 &&& (255 : Int32)), (p4 &&& (255 : Int32))]))).length.toInt32)]) rfl ?_
      have lo : Lat (ls ++ ((32 : Int32) :: [(p2 &&& (255 : Int32)), (p3 &&& (255 : Int32)), (p4 &&& (255 : Int32))])) := lat_app hl (latC (by decide) (latC (c8_lat p2) (latC (c8_lat p3) (lat1 (c8_lat p4)) (Nat.le_of_ble_eq_true rfl)) (Nat.le_of_ble_eq_true rfl)) (by simp)) (by simp only [List.length_cons, List.length_nil]; omega)
      refine go_icmpeq K (k := 117) rfl (pc' := 218) (by decide) (fun _ => ?_) (fun q => absurd (by rw [List.length_append]; exact out_len _ 3) q)
      refine go_run K 120 2 (pc' := 222) (st' := [(.ref ta), (.ref a227)]) rfl ?_
      refine go_static K (k := 122) rfl (H.w 176 rfl) (H.w 177 rfl) (H.w 178 rfl) (H.w 179 rfl) (by decide) pd_27 (c_pre H lo hl hF S229 c232) (argsL := [(.ref a227), (.ref ta)]) (rest := []) rfl rfl rfl sub0 rfl ?_
      rintro _ _ _ - ⟨rfl, rfl⟩
      show Go G B M_law _ h226 (a199 :: (a185 :: (a169 :: []))) 19 133 225 #[.val (.int p0), .val (.int p1), .val (.int p2), .val (.int p3), .val (.int p4), .val (.int ((p0 &&& (2147483647 : Int32)) % (3 : Int32))), .val (.ref k), .val (.ref ta), .val (.int (3 : Int32)), .val (.int (p2 &&& (255 : Int32))), .val (.int (p3 &&& (255 : Int32))), .val (.int (p4 &&& (255 : Int32))), .val (.ref a169), .val (.ref a185), .val (.ref a199), .val (.ref a227), .val (.int ls.length.toInt32)] [(.int (1 : Int32))]
      refine go_ifne K (k := 123) rfl (pc' := 230) (by decide) (fun _ => ?_) (fun q => absurd q (by decide))
      refine go_run K 126 2 (pc' := 234) (st' := [(.int ls.length.toInt32), (.ref a227)]) rfl ?_
      refine go_virt0 K (k := 128) rfl (H.w 180 rfl) (H.w 183 rfl) (H.w 182 rfl) (H.w 5 rfl) (H.w 184 rfl) (by decide) pd_24 S229.exa (c_chaQ (i := ls.length) (c := (32 : Int32)) H lo (by simp) hF S229) (argsL := [(.int ls.length.toInt32)]) (rest := []) rfl rfl rfl sub0 rfl ?_
      rintro _ _ _ - ⟨rfl, rfl⟩
      show Go G B M_law _ h226 (a199 :: (a185 :: (a169 :: []))) 19 133 237 #[.val (.int p0), .val (.int p1), .val (.int p2), .val (.int p3), .val (.int p4), .val (.int ((p0 &&& (2147483647 : Int32)) % (3 : Int32))), .val (.ref k), .val (.ref ta), .val (.int (3 : Int32)), .val (.int (p2 &&& (255 : Int32))), .val (.int (p3 &&& (255 : Int32))), .val (.int (p4 &&& (255 : Int32))), .val (.ref a169), .val (.ref a185), .val (.ref a199), .val (.ref a227), .val (.int ls.length.toInt32)] [(.int (32 : Int32))]
      refine go_run K 129 1 (pc' := 239) (st' := [(.int (32 : Int32)), (.int (32 : Int32))]) rfl ?_
      refine go_icmpeq K (k := 130) rfl (pc' := 244) (by decide) (fun _ => ?_) (fun q => absurd rfl q)
      refine go_run K 133 2 (pc' := 247) (st' := [(.int (1 : Int32)), (.int (3 : Int32))]) rfl ?_
      refine go_icmplt K (k := 135) rfl (pc' := 266) (by decide) (fun q => absurd q (by decide)) (fun _ => ?_)
      refine go_run K 136 4 (pc' := 256) (st' := [(.int (ls.length.toInt32 + (1 : Int32))), (.ref a227)]) rfl ?_
      rw [show ls.length.toInt32 + (1 : Int32) = (ls.length + 1).toInt32 from add_len _ 1]
      refine go_virt0 K (k := 140) rfl (H.w 180 rfl) (H.w 183 rfl) (H.w 182 rfl) (H.w 5 rfl) (H.w 184 rfl) (by decide) pd_24 S229.exa (c_chaQ (i := (ls.length + 1)) (c := (p2 &&& (255 : Int32))) H lo (by rw [List.getElem?_append_right (by omega), show ls.length + 1 - ls.length = 1 by omega]; rfl) hF S229) (argsL := [(.int (ls.length + 1).toInt32)]) (rest := []) rfl rfl rfl sub0 rfl ?_
      rintro _ _ _ - ⟨rfl, rfl⟩
      show Go G B M_law _ h226 (a199 :: (a185 :: (a169 :: []))) 19 133 259 #[.val (.int p0), .val (.int p1), .val (.int p2), .val (.int p3), .val (.int p4), .val (.int ((p0 &&& (2147483647 : Int32)) % (3 : Int32))), .val (.ref k), .val (.ref ta), .val (.int (3 : Int32)), .val (.int (p2 &&& (255 : Int32))), .val (.int (p3 &&& (255 : Int32))), .val (.int (p4 &&& (255 : Int32))), .val (.ref a169), .val (.ref a185), .val (.ref a199), .val (.ref a227), .val (.int ls.length.toInt32)] [(.int (p2 &&& (255 : Int32)))]
      refine go_run K 141 1 (pc' := 261) (st' := [(.int (p2 &&& (255 : Int32))), (.int (p2 &&& (255 : Int32)))]) rfl ?_
      refine go_icmpeq K (k := 142) rfl (pc' := 266) (by decide) (fun _ => ?_) (fun q => absurd rfl q)
      refine go_run K 145 2 (pc' := 269) (st' := [(.int (2 : Int32)), (.int (3 : Int32))]) rfl ?_
      refine go_icmplt K (k := 147) rfl (pc' := 288) (by decide) (fun q => absurd q (by decide)) (fun _ => ?_)
      refine go_run K 148 4 (pc' := 278) (st' := [(.int (ls.length.toInt32 + (2 : Int32))), (.ref a227)]) rfl ?_
      rw [show ls.length.toInt32 + (2 : Int32) = (ls.length + 2).toInt32 from add_len _ 2]
      refine go_virt0 K (k := 152) rfl (H.w 180 rfl) (H.w 183 rfl) (H.w 182 rfl) (H.w 5 rfl) (H.w 184 rfl) (by decide) pd_24 S229.exa (c_chaQ (i := (ls.length + 2)) (c := (p3 &&& (255 : Int32))) H lo (by rw [List.getElem?_append_right (by omega), show ls.length + 2 - ls.length = 2 by omega]; rfl) hF S229) (argsL := [(.int (ls.length + 2).toInt32)]) (rest := []) rfl rfl rfl sub0 rfl ?_
      rintro _ _ _ - ⟨rfl, rfl⟩
      show Go G B M_law _ h226 (a199 :: (a185 :: (a169 :: []))) 19 133 281 #[.val (.int p0), .val (.int p1), .val (.int p2), .val (.int p3), .val (.int p4), .val (.int ((p0 &&& (2147483647 : Int32)) % (3 : Int32))), .val (.ref k), .val (.ref ta), .val (.int (3 : Int32)), .val (.int (p2 &&& (255 : Int32))), .val (.int (p3 &&& (255 : Int32))), .val (.int (p4 &&& (255 : Int32))), .val (.ref a169), .val (.ref a185), .val (.ref a199), .val (.ref a227), .val (.int ls.length.toInt32)] [(.int (p3 &&& (255 : Int32)))]
      refine go_run K 153 1 (pc' := 283) (st' := [(.int (p3 &&& (255 : Int32))), (.int (p3 &&& (255 : Int32)))]) rfl ?_
      refine go_icmpeq K (k := 154) rfl (pc' := 288) (by decide) (fun _ => ?_) (fun q => absurd rfl q)
      refine go_run K 157 2 (pc' := 291) (st' := [(.int (3 : Int32)), (.int (3 : Int32))]) rfl ?_
      refine go_icmplt K (k := 159) rfl (pc' := 310) (by decide) (fun q => absurd q (by decide)) (fun _ => ?_)
      refine go_run K 160 4 (pc' := 300) (st' := [(.int (ls.length.toInt32 + (3 : Int32))), (.ref a227)]) rfl ?_
      rw [show ls.length.toInt32 + (3 : Int32) = (ls.length + 3).toInt32 from add_len _ 3]
      refine go_virt0 K (k := 164) rfl (H.w 180 rfl) (H.w 183 rfl) (H.w 182 rfl) (H.w 5 rfl) (H.w 184 rfl) (by decide) pd_24 S229.exa (c_chaQ (i := (ls.length + 3)) (c := (p4 &&& (255 : Int32))) H lo (by rw [List.getElem?_append_right (by omega), show ls.length + 3 - ls.length = 3 by omega]; rfl) hF S229) (argsL := [(.int (ls.length + 3).toInt32)]) (rest := []) rfl rfl rfl sub0 rfl ?_
      rintro _ _ _ - ⟨rfl, rfl⟩
      show Go G B M_law _ h226 (a199 :: (a185 :: (a169 :: []))) 19 133 303 #[.val (.int p0), .val (.int p1), .val (.int p2), .val (.int p3), .val (.int p4), .val (.int ((p0 &&& (2147483647 : Int32)) % (3 : Int32))), .val (.ref k), .val (.ref ta), .val (.int (3 : Int32)), .val (.int (p2 &&& (255 : Int32))), .val (.int (p3 &&& (255 : Int32))), .val (.int (p4 &&& (255 : Int32))), .val (.ref a169), .val (.ref a185), .val (.ref a199), .val (.ref a227), .val (.int ls.length.toInt32)] [(.int (p4 &&& (255 : Int32)))]
      refine go_run K 165 1 (pc' := 305) (st' := [(.int (p4 &&& (255 : Int32))), (.int (p4 &&& (255 : Int32)))]) rfl ?_
      refine go_icmpeq K (k := 166) rfl (pc' := 310) (by decide) (fun _ => ?_) (fun q => absurd rfl q)
      refine go_run K 169 1 (pc' := 311) (st' := [(.int (1 : Int32))]) rfl ?_
      refine go_ireturn K (k := 170) rfl rfl (by decide) rfl rfl rfl ?_
      intro Sf hSf
      exact rfl
  refine go_ifne K (k := 7) rfl (pc' := 25) (by decide) (fun q233 => ?_) (fun q234 => ?_)
  · refine go_run K 13 2 (pc' := 28) (st' := [(.int (1 : Int32)), (.int ((p0 &&& (2147483647 : Int32)) % (3 : Int32)))]) rfl ?_
    refine go_icmpne K (k := 15) rfl (pc' := 43) (by decide) (fun q239 => ?_) (fun q240 => ?_)
    · refine go_getstatic K (k := 21) rfl (host := "") (Or.inl (H.w 203 rfl)) Via.refl s2 ?_
      refine go_run K 22 1 (pc' := 48) (Ls' := #[.val (.int p0), .val (.int p1), .val (.int p2), .val (.int p3), .val (.int p4), .val (.int ((p0 &&& (2147483647 : Int32)) % (3 : Int32))), .val (.ref b2), .unset, .unset, .unset, .unset, .unset, .unset, .unset, .unset, .unset, .unset]) (st' := []) rfl ?_
      refine go_ldcT K (k := 23) rfl (H.w 205 rfl) H.ws (H.mem (by decide)) (cs := [(112 : Int32), (97 : Int32), (114 : Int32), (107 : Int32), (101 : Int32), (100 : Int32)]) (by decide) (by decide) (n := 24) rfl rfl rfl rfl ?_
      intro h246 a245 E247 S248
      refine go_run K 24 1 (pc' := 52) (Ls' := #[.val (.int p0), .val (.int p1), .val (.int p2), .val (.int p3), .val (.int p4), .val (.int ((p0 &&& (2147483647 : Int32)) % (3 : Int32))), .val (.ref b2), .val (.ref a245), .unset, .unset, .unset, .unset, .unset, .unset, .unset, .unset, .unset]) (st' := []) rfl ?_
      exact J52 _ _ _ _ _ ((Exa.ext hE x2).ext E247) ((Fld.ext hE f2).ext E247) ((t2.ext hE).ext E247) S248 (by exact ⟨by decide, by decide⟩) (by decide)
    · refine go_getstatic K (k := 16) rfl (host := "") (Or.inl (H.w 206 rfl)) Via.refl s1 ?_
      refine go_run K 17 1 (pc' := 36) (Ls' := #[.val (.int p0), .val (.int p1), .val (.int p2), .val (.int p3), .val (.int p4), .val (.int ((p0 &&& (2147483647 : Int32)) % (3 : Int32))), .val (.ref b1), .unset, .unset, .unset, .unset, .unset, .unset, .unset, .unset, .unset, .unset]) (st' := []) rfl ?_
      refine go_ldcT K (k := 18) rfl (H.w 208 rfl) H.ws (H.mem (by decide)) (cs := [(100 : Int32), (101 : Int32), (108 : Int32), (97 : Int32), (121 : Int32)]) (by decide) (by decide) (n := 24) rfl rfl rfl rfl ?_
      intro h242 a241 E243 S244
      refine go_run K 19 2 (pc' := 52) (Ls' := #[.val (.int p0), .val (.int p1), .val (.int p2), .val (.int p3), .val (.int p4), .val (.int ((p0 &&& (2147483647 : Int32)) % (3 : Int32))), .val (.ref b1), .val (.ref a241), .unset, .unset, .unset, .unset, .unset, .unset, .unset, .unset, .unset]) (st' := []) rfl ?_
      exact J52 _ _ _ _ _ ((Exa.ext hE x1).ext E243) ((Fld.ext hE f1).ext E243) ((t1.ext hE).ext E243) S244 (by exact ⟨by decide, by decide⟩) (by decide)
  · refine go_getstatic K (k := 8) rfl (host := "") (Or.inl (H.w 1 rfl)) Via.refl s0 ?_
    refine go_run K 9 1 (pc' := 18) (Ls' := #[.val (.int p0), .val (.int p1), .val (.int p2), .val (.int p3), .val (.int p4), .val (.int ((p0 &&& (2147483647 : Int32)) % (3 : Int32))), .val (.ref b0), .unset, .unset, .unset, .unset, .unset, .unset, .unset, .unset, .unset, .unset]) (st' := []) rfl ?_
    refine go_ldcT K (k := 10) rfl (H.w 4 rfl) H.ws (H.mem (by decide)) (cs := [(119 : Int32), (111 : Int32), (114 : Int32), (107 : Int32)]) (by decide) (by decide) (n := 24) rfl rfl rfl rfl ?_
    intro h236 a235 E237 S238
    refine go_run K 11 2 (pc' := 52) (Ls' := #[.val (.int p0), .val (.int p1), .val (.int p2), .val (.int p3), .val (.int p4), .val (.int ((p0 &&& (2147483647 : Int32)) % (3 : Int32))), .val (.ref b0), .val (.ref a235), .unset, .unset, .unset, .unset, .unset, .unset, .unset, .unset, .unset]) (st' := []) rfl ?_
    exact J52 _ _ _ _ _ ((Exa.ext hE x0).ext E237) ((Fld.ext hE f0).ext E237) ((t0.ext hE).ext E237) S238 (by exact ⟨by decide, by decide⟩) (by decide)
set_option maxRecDepth 65536 in
set_option maxHeartbeats 40000000 in
theorem comes_1 {Post : Tables → Env → Array Value → State → Outcome → State → Prop} (hpost : ∀ tb e args s v u, (limb_1_1.after args s (.returned v) u = true ∧ limb_1_2.after args s (.returned v) u = true ∧ True) → ReturnedEndW s (.returned v) u (Jvm.fieldLocs frame_1_writes args s ++ Jvm.arrayLocs frame_1_arrays args s ++ Jvm.staticLocs frame_1_statics s) 40 7360 → Post tb e args s (.returned v) u) :
    ArmFor flags0 classFile x code maxLocals ret World_1 tables_1 room_1 Calls_1 rest_1 Pre_1 Post := by
  intro l hfl _ _ p e ha hc hk s m args below hf hA hF happ hP
  obtain ⟨hcalls, hrest, hpre⟩ := hP
  obtain ⟨-, -, -, hnamed, -, -, -, hat⟩ := (Spec.applies_iff hf).mp happ
  obtain ⟨hg, hn⟩ := and_e (Cond.before_iff.mp (show (Jvm.Cond.and given_1 narrow_1).before args s = true from hpre))
  obtain ⟨hcnt, hz0⟩ := and_e hg
  obtain ⟨hi0, hz1⟩ := and_e hz0
  obtain ⟨hi1, hz2⟩ := and_e hz1
  obtain ⟨hi2, hz3⟩ := and_e hz2
  obtain ⟨hi3, hz4⟩ := and_e hz3
  have hi4 := hz4
  obtain ⟨w0, w1, w2, w3, w4, rfl⟩ : ∃ w0 w1 w2 w3 w4 : Value, args = #[w0, w1, w2, w3, w4] := by
    have hs : args.size = 5 := by simpa [Cond.value, given_1] using hcnt
    obtain ⟨L⟩ := args
    match L, hs with
    | [w0, w1, w2, w3, w4], _ => exact ⟨w0, w1, w2, w3, w4, rfl⟩
  have hw := fun d (hd : d ∈ tables_1) => atoms_spec (ws := Jvm.Cond.code x code maxLocals ret :: tables_1) hat d (List.mem_cons_of_mem _ hd)
  obtain ⟨hsets, hown0⟩ := atoms_of _ (rest_1_c_eq ▸ (show rest_1_c.before _ s = true from hrest))
  obtain ⟨i0, e0⟩ := is_v hi0
  obtain rfl : w0 = (.int i0) := Option.some.inj e0
  obtain ⟨i1, e1⟩ := is_v hi1
  obtain rfl : w1 = (.int i1) := Option.some.inj e1
  obtain ⟨i2, e2⟩ := is_v hi2
  obtain rfl : w2 = (.int i2) := Option.some.inj e2
  obtain ⟨i3, e3⟩ := is_v hi3
  obtain rfl : w3 = (.int i3) := Option.some.inj e3
  obtain ⟨i4, e4⟩ := is_v hi4
  obtain rfl : w4 = (.int i4) := Option.some.inj e4
  have nz := not_v (Cond.before_iff.mp (hsets _ (List.mem_of_getElem? (i := 2) rfl)))
  obtain ⟨cz, ecz⟩ := is_v (Cond.before_iff.mp (hsets _ (List.mem_of_getElem? (i := 1) rfl)))
  have Scz : Sta s s.heap "java/lang/String" "COMPACT_STRINGS" "Z" (.int cz) := Sta.start ecz (Or.inl (hsets _ (List.mem_of_getElem? (i := 0) rfl)))
  have hcz : ¬ (cz = (0 : Int32)) := gotF (Cond.eq_ints ecz (Term.int_eval (0))) nz
  have hEW : EW s #[(.int i0), (.int i1), (.int i2), (.int i3), (.int i4)] els := by
    exact (EW.cons (hw _ (List.mem_of_getElem? (i := 44) rfl)) (by decide) (EW.cons (hw _ (List.mem_of_getElem? (i := 53) rfl)) (by decide) (EW.cons (hw _ (List.mem_of_getElem? (i := 129) rfl)) (by decide) (EW.cons (hw _ (List.mem_of_getElem? (i := 4) rfl)) (by decide) (EW.cons (hw _ (List.mem_of_getElem? (i := 208) rfl)) (by decide) (EW.cons (hw _ (List.mem_of_getElem? (i := 205) rfl)) (by decide) (EW.cons (hw _ (List.mem_of_getElem? (i := 202) rfl)) (by decide) EW.nil)))))))
  have hCH : CHv s els s.vm s.heap := CHv.start hEW (fun p hp => hcalls.1 p hp) (hsets _ (List.mem_of_getElem? (i := 2) rfl)) (hw _ (List.mem_of_getElem? (i := 7) rfl)) (hw _ (List.mem_of_getElem? (i := 6) rfl))
  have H : Gl tables_1 els (l, s, #[(.int i0), (.int i1), (.int i2), (.int i3), (.int i4)], els) := ⟨hw, rfl, hEW, fun d hd => hw d ((by decide +kernel : ∀ d ∈ Bundle.stringAtoms, d ∈ tables_1) d hd), cz, Scz, hcz⟩
  obtain ⟨vf0, evf0, hvf0⟩ := isR_v (Cond.before_iff.mp (hsets _ (List.mem_of_getElem? (i := 8) rfl)))
  have hF0 : ∃ vf : Value, Sta s s.heap "jdk/internal/util/Preconditions" "SIOOBE_FORMATTER" "Ljava/util/function/BiFunction;" vf ∧ vf.isRef = true := ⟨vf0, Sta.start evf0 (Or.inl (hsets _ (List.mem_of_getElem? (i := 7) rfl))), hvf0⟩
  have hFit : Fit s := by intro x c hc i hi; exact (Jvm.heapFits'_iff s).mp hF x c hc i _ (Array.getElem?_eq_getElem hi)
  obtain ⟨n0, hn⟩ := and_e hn
  obtain ⟨n1, hn⟩ := and_e hn
  obtain ⟨n2, hn⟩ := and_e hn
  obtain ⟨n3, hn⟩ := and_e hn
  obtain ⟨n4, hn⟩ := and_e hn
  obtain ⟨n5, hn⟩ := and_e hn
  obtain ⟨n6, hn⟩ := and_e hn
  obtain ⟨n7, hn⟩ := and_e hn
  obtain ⟨n8, hn⟩ := and_e hn
  obtain ⟨n9, hn⟩ := and_e hn
  obtain ⟨n10, hn⟩ := and_e hn
  obtain ⟨n11, hn⟩ := and_e hn
  obtain ⟨n12, hn⟩ := and_e hn
  obtain ⟨n13, hn⟩ := and_e hn
  obtain ⟨n14, hn⟩ := and_e hn
  obtain ⟨n15, hn⟩ := and_e hn
  obtain ⟨n16, hn⟩ := and_e hn
  obtain ⟨n17, hn⟩ := and_e hn
  obtain ⟨n18, hn⟩ := and_e hn
  obtain ⟨n19, hn⟩ := and_e hn
  obtain ⟨n20, hn⟩ := and_e hn
  obtain ⟨n21, hn⟩ := and_e hn
  obtain ⟨n22, hn⟩ := and_e hn
  obtain ⟨n23, hn⟩ := and_e hn
  obtain ⟨n24, hn⟩ := and_e hn
  obtain ⟨n25, hn⟩ := and_e hn
  obtain ⟨n26, hn⟩ := and_e hn
  obtain ⟨n27, hn⟩ := and_e hn
  obtain ⟨n28, hn⟩ := and_e hn
  obtain ⟨n29, hn⟩ := and_e hn
  obtain ⟨n30, hn⟩ := and_e hn
  obtain ⟨n31, hn⟩ := and_e hn
  have n32 := hn
  obtain ⟨b0, ev0⟩ := exa_v n0
  have x0 := Exa.start ev0 n0
  have s0 := Sta.start ev0 (Or.inr ⟨hw _ (List.mem_of_getElem? (i := 2) rfl), hw _ (List.mem_of_getElem? (i := 3) rfl)⟩)
  obtain ⟨l0, el0⟩ := exa_v n1
  have f0 := Fld.start (by rw [← fld_at ev0]; exact el0)
  have t0 := str_start (args := #[(.int i0), (.int i1), (.int i2), (.int i3), (.int i4)]) (G := (l, s, #[(.int i0), (.int i1), (.int i2), (.int i3), (.int i4)], els)) (cs := [(119 : Int32), (111 : Int32), (114 : Int32), (107 : Int32)]) hFit el0 n1 n2 (eqv_i (Term.int_eval (4)) n4) (eqv_i (Term.int_eval (0)) n5) (by decide) (fun x cl ex hc => ⟨(elem_in (eqv_i (Term.int_eval (119)) n6) ex (Term.int_eval (0)) hc).2, ⟨(elem_in (eqv_i (Term.int_eval (111)) n7) ex (Term.int_eval (1)) hc).2, ⟨(elem_in (eqv_i (Term.int_eval (114)) n8) ex (Term.int_eval (2)) hc).2, ⟨(elem_in (eqv_i (Term.int_eval (107)) n9) ex (Term.int_eval (3)) hc).2, trivial⟩⟩⟩⟩)
  obtain ⟨b1, ev1⟩ := exa_v n16
  have x1 := Exa.start ev1 n16
  have s1 := Sta.start ev1 (Or.inr ⟨hw _ (List.mem_of_getElem? (i := 2) rfl), hw _ (List.mem_of_getElem? (i := 207) rfl)⟩)
  obtain ⟨l1, el1⟩ := exa_v n17
  have f1 := Fld.start (by rw [← fld_at ev1]; exact el1)
  have t1 := str_start (args := #[(.int i0), (.int i1), (.int i2), (.int i3), (.int i4)]) (G := (l, s, #[(.int i0), (.int i1), (.int i2), (.int i3), (.int i4)], els)) (cs := [(100 : Int32), (101 : Int32), (108 : Int32), (97 : Int32), (121 : Int32)]) hFit el1 n17 n18 (eqv_i (Term.int_eval (5)) n20) (eqv_i (Term.int_eval (0)) n21) (by decide) (fun x cl ex hc => ⟨(elem_in (eqv_i (Term.int_eval (100)) n28) ex (Term.int_eval (0)) hc).2, ⟨(elem_in (eqv_i (Term.int_eval (101)) n29) ex (Term.int_eval (1)) hc).2, ⟨(elem_in (eqv_i (Term.int_eval (108)) n30) ex (Term.int_eval (2)) hc).2, ⟨(elem_in (eqv_i (Term.int_eval (97)) n31) ex (Term.int_eval (3)) hc).2, ⟨(elem_in (eqv_i (Term.int_eval (121)) n32) ex (Term.int_eval (4)) hc).2, trivial⟩⟩⟩⟩⟩)
  obtain ⟨b2, ev2⟩ := exa_v n10
  have x2 := Exa.start ev2 n10
  have s2 := Sta.start ev2 (Or.inr ⟨hw _ (List.mem_of_getElem? (i := 2) rfl), hw _ (List.mem_of_getElem? (i := 204) rfl)⟩)
  obtain ⟨l2, el2⟩ := exa_v n11
  have f2 := Fld.start (by rw [← fld_at ev2]; exact el2)
  have t2 := str_start (args := #[(.int i0), (.int i1), (.int i2), (.int i3), (.int i4)]) (G := (l, s, #[(.int i0), (.int i1), (.int i2), (.int i3), (.int i4)], els)) (cs := [(112 : Int32), (97 : Int32), (114 : Int32), (107 : Int32), (101 : Int32), (100 : Int32)]) hFit el2 n11 n12 (eqv_i (Term.int_eval (6)) n14) (eqv_i (Term.int_eval (0)) n15) (by decide) (fun x cl ex hc => ⟨(elem_in (eqv_i (Term.int_eval (112)) n22) ex (Term.int_eval (0)) hc).2, ⟨(elem_in (eqv_i (Term.int_eval (97)) n23) ex (Term.int_eval (1)) hc).2, ⟨(elem_in (eqv_i (Term.int_eval (114)) n24) ex (Term.int_eval (2)) hc).2, ⟨(elem_in (eqv_i (Term.int_eval (107)) n25) ex (Term.int_eval (3)) hc).2, ⟨(elem_in (eqv_i (Term.int_eval (101)) n26) ex (Term.int_eval (4)) hc).2, ⟨(elem_in (eqv_i (Term.int_eval (100)) n27) ex (Term.int_eval (5)) hc).2, trivial⟩⟩⟩⟩⟩⟩)
  obtain ⟨n, o, k1, k2, k3, v, L, rfl, ⟨rfl, N, hext⟩, hC, hq⟩ := law_ok (G := (l, s, #[(.int i0), (.int i1), (.int i2), (.int i3), (.int i4)], els)) H hF0 s0 x0 f0 t0 s1 x1 f1 t1 s2 x2 f2 t2 p e ha hc hk s m _ below hf ((Spec.applies_iff_loose hf).mp happ).1 ⟨rfl, State.Warmed39.refl s, rfl, hCH, Ext.rf _, fun _ q => nomatch q⟩ trivial
  refine ⟨n, _, k1, k2, k3, hpost _ _ _ _ _ _ ⟨Cond.after_iff.mpr rfl, Cond.after_iff.mpr (eq_i res_at (Term.int_eval (1)) rfl), trivial⟩ ?_⟩
  obtain ⟨q1, q2, q3, q4⟩ := hq
  exact ⟨q1, q2, q3, (q4.sift fun y hy => Or.inr (N y hy)).mono (by decide) (by decide)⟩
theorem main_1_1 : Claimed_1_1 := comes_1 fun _ _ _ _ _ _ h hF => ⟨h.1, hF⟩
theorem main_1_2 : Claimed_1_2 := comes_1 fun _ _ _ _ _ _ h hF => ⟨h.2.1, hF⟩
end Jvm.Pilot.@@N@@
namespace Jvm.Pilot.@@N@@
open Jvm Jvm.ClassFile Sem Op Lib Jvm.Free Jvm.Stand Jvm.Pilot.@@N@@.Jvm.D
/-! MADE BY PROGRAM (witnessworld.py) out of the Statement's table words and the real class files: 29 classes; the members and pool entries that the words name. The judged class is class 1, her method 1. -/
namespace start1
open Jvm.ClassFile
def u (s : String) : CpInfo := .utf8 (stringToUtf16 s)
/-- a pool by its gaps: so many unusable entries, then the entry; so many at the end -/
def gap : Nat → List CpInfo → List CpInfo
  | 0, r => r
  | n + 1, r => .unusable :: gap n r
def poolList (es : List (Nat × CpInfo)) (last : Nat) : List CpInfo := es.foldr (fun e r => gap e.1 (e.2 :: r)) (gap last [])
def pool (es : List (Nat × CpInfo)) (last : Nat) : Array CpInfo := ⟨poolList es last⟩
def fileOf (pool : Array CpInfo) (this : Nat) (attrs : Array Attribute := #[]) (ms : Array MethodInfo := #[]) (fl : Nat := 33) (sup : Nat := 0) (ifs : Array Nat := #[]) (fds : Array FieldInfo := #[]) : ClassFile where
  minorVersion := 0
  majorVersion := 65
  constantPool := pool
  accessFlags := fl
  thisClass := this
  superClass := sup
  interfaces := ifs
  fields := fds
  methods := ms
  attributes := attrs
def plain (name : String) (sup : Option ClassId) : Class where
  name := name
  kind := .ordinary
  loader := none
  accessFlags := 33
  super := sup
  interfaces := #[]
  cf := none
  fields := #[]
  methods := #[]
  instanceTypes := #[]
  staticTypes := #[]
  resolved := #[]
  callSites := []
  init := .initialized
  statics := none
  mirror := none

def pool0 : Array CpInfo := pool [(5, u "<init>"), (0, u "()V"), (1, .class_ 10), (1, u "java/lang/Object")] 113

def k0c0 : Code := { maxStack := 0, maxLocals := 1, code := object_method_1_code, exceptionTable := #[], attributes := #[] }
def k0m0 : Method := { name := "<init>", desc := "()V", sig := { parameters := [], returnType := none }, accessFlags := 1, code := some k0c0 }
/-- java/lang/Object -/
def k0 : Class := { plain "java/lang/Object" none with
  accessFlags := 33
  interfaces := #[]
  cf := some (fileOf pool0 8 #[] #[{ accessFlags := 1, nameIndex := 5, descriptorIndex := 6, attributes := #[] }] 33 0 #[] #[])
  fields := #[]
  methods := #[k0m0]
  instanceTypes := #[]
  staticTypes := #[]
  resolved := Array.replicate 124 none
  statics := none }

def pool1 : Array CpInfo := pool [(2, .class_ 4), (1, u "java/lang/Object"), (0, u "<init>"), (0, u "()V"), (0, .integer 2147483647), (0, .fieldref 9 10), (0, .class_ 11), (0, .nameAndType 12 13), (0, u "com/example/gentle_retry/gentleretry/rabbitmq/SubscriptionQueue$Role"), (0, u "WORK"), (0, u "Lcom/example/gentle_retry/gentleretry/rabbitmq/SubscriptionQueue$Role;"), (0, .string 15), (0, u "work"), (0, .fieldref 9 17), (0, .nameAndType 18 13), (0, u "DELAY"), (0, .string 20), (0, u "delay"), (0, .fieldref 9 22), (0, .nameAndType 23 13), (0, u "PARKED"), (0, .string 25), (0, u "parked"), (0, .class_ 27), (0, u "java/lang/String"), (0, .methodref 26 29), (0, .nameAndType 5 30), (0, u "([C)V"), (0, .class_ 32), (0, u "com/example/gentle_retry/gentleretry/rabbitmq/SubscriptionQueue"), (0, .methodref 31 34), (0, .nameAndType 5 35), (0, u "(Lcom/example/gentle_retry/gentleretry/rabbitmq/SubscriptionQueue$Role;Ljava/lang/String;)V"), (0, .methodref 31 37), (0, .nameAndType 38 39), (0, u "toString"), (0, u "()Ljava/lang/String;"), (0, .methodref 26 41), (0, .nameAndType 42 43), (0, u "length"), (0, u "()I"), (0, .methodref 45 46), (0, .class_ 47), (0, .nameAndType 48 49), (0, u "com/example/gentle_retry/gentleretry/rabbitmq/SubscriptionQueueToStringPinLaw"), (0, u "prefix"), (0, u "(Ljava/lang/String;Ljava/lang/String;)Z"), (0, .methodref 26 51), (0, .nameAndType 52 53), (0, u "charAt"), (0, u "(I)C"), (2, u "law"), (0, u "(IIIII)Z")] 7

def k1m0 : Method := { name := "<init>", desc := "()V", sig := { parameters := [], returnType := none }, accessFlags := 1, code := none }
def k1c1 : Code := { maxStack := 4, maxLocals := 17, code := code, exceptionTable := #[], attributes := #[] }
def k1m1 : Method := { name := "law", desc := "(IIIII)Z", sig := { parameters := [.int, .int, .int, .int, .int], returnType := some .boolean }, accessFlags := 9, code := some k1c1 }
def k1c2 : Code := { maxStack := 3, maxLocals := 4, code := method_3_code, exceptionTable := #[], attributes := #[] }
def k1m2 : Method := { name := "prefix", desc := "(Ljava/lang/String;Ljava/lang/String;)Z", sig := { parameters := [(.object "java/lang/String"), (.object "java/lang/String")], returnType := some .boolean }, accessFlags := 10, code := some k1c2 }
/-- com/example/gentle_retry/gentleretry/rabbitmq/SubscriptionQueueToStringPinLaw -/
def k1 : Class := { plain "com/example/gentle_retry/gentleretry/rabbitmq/SubscriptionQueueToStringPinLaw" (some 0) with
  accessFlags := 49
  interfaces := #[]
  cf := some (fileOf pool1 45 #[] #[{ accessFlags := 1, nameIndex := 5, descriptorIndex := 6, attributes := #[] }, { accessFlags := 9, nameIndex := 56, descriptorIndex := 57, attributes := #[] }, { accessFlags := 10, nameIndex := 48, descriptorIndex := 49, attributes := #[] }] 49 2 #[] #[])
  fields := #[]
  methods := #[k1m0, k1m1, k1m2]
  instanceTypes := #[]
  staticTypes := #[]
  resolved := Array.replicate 65 none
  statics := none }

def pool2 : Array CpInfo := pool [(1, .class_ 2), (0, u "java/lang/constant/Constable"), (0, .class_ 4), (0, u "java/lang/Object")] 6

/-- java/lang/constant/Constable -/
def k2 : Class := { plain "java/lang/constant/Constable" (some 0) with
  accessFlags := 1537
  interfaces := #[]
  cf := some (fileOf pool2 1 #[] #[] 1537 3 #[] #[])
  fields := #[]
  methods := #[]
  instanceTypes := #[]
  staticTypes := #[]
  resolved := Array.replicate 11 none
  statics := none }

def pool3 : Array CpInfo := pool [(1, .class_ 2), (0, u "java/lang/Comparable"), (0, .class_ 4), (0, u "java/lang/Object")] 7

/-- java/lang/Comparable -/
def k3 : Class := { plain "java/lang/Comparable" (some 0) with
  accessFlags := 1537
  interfaces := #[]
  cf := some (fileOf pool3 1 #[] #[] 1537 3 #[] #[])
  fields := #[]
  methods := #[]
  instanceTypes := #[]
  staticTypes := #[]
  resolved := Array.replicate 12 none
  statics := none }

def pool4 : Array CpInfo := pool [(1, .class_ 2), (0, u "java/io/Serializable"), (0, .class_ 4), (0, u "java/lang/Object")] 2

/-- java/io/Serializable -/
def k4 : Class := { plain "java/io/Serializable" (some 0) with
  accessFlags := 1537
  interfaces := #[]
  cf := some (fileOf pool4 1 #[] #[] 1537 3 #[] #[])
  fields := #[]
  methods := #[]
  instanceTypes := #[]
  staticTypes := #[]
  resolved := Array.replicate 7 none
  statics := none }

def pool5 : Array CpInfo := pool [(2, .class_ 4), (1, u "java/lang/Enum"), (0, u "name"), (0, u "Ljava/lang/String;"), (2, u "ordinal"), (0, u "I"), (1, .class_ 14), (1, u "java/lang/Object"), (4, u "hash"), (86, .class_ 108), (1, u "java/lang/Enum$EnumDesc"), (2, .class_ 112), (0, u "java/lang/constant/Constable"), (0, .class_ 114), (0, u "java/lang/Comparable"), (0, .class_ 116), (0, u "java/io/Serializable")] 87

/-- java/lang/Enum -/
def k5 : Class := { plain "java/lang/Enum" (some 0) with
  accessFlags := 1057
  interfaces := #[2, 3, 4]
  cf := some (fileOf pool5 2 #[.nestMembers #[106]] #[] 1057 12 #[111, 113, 115] #[{ accessFlags := 18, nameIndex := 5, descriptorIndex := 6, attributes := #[] }, { accessFlags := 18, nameIndex := 9, descriptorIndex := 10, attributes := #[] }, { accessFlags := 2, nameIndex := 19, descriptorIndex := 10, attributes := #[] }])
  fields := #[{ name := "name", type := (.object "java/lang/String"), accessFlags := 18, slot := 0, constantValue := 0 }, { name := "ordinal", type := .int, accessFlags := 18, slot := 1, constantValue := 0 }, { name := "hash", type := .int, accessFlags := 2, slot := 2, constantValue := 0 }]
  methods := #[]
  instanceTypes := #[(.object "java/lang/String"), .int, .int]
  staticTypes := #[]
  resolved := Array.replicate 204 none
  statics := none }

def pool6 : Array CpInfo := pool [(1, .class_ 2), (0, u "com/example/gentle_retry/gentleretry/rabbitmq/SubscriptionQueue$Role"), (2, u "WORK"), (0, u "Lcom/example/gentle_retry/gentleretry/rabbitmq/SubscriptionQueue$Role;"), (2, u "DELAY"), (2, u "PARKED"), (2, u "$VALUES"), (0, u "[Lcom/example/gentle_retry/gentleretry/rabbitmq/SubscriptionQueue$Role;"), (6, .class_ 25), (1, u "java/lang/Enum"), (8, u "label"), (0, u "Ljava/lang/String;"), (52, .class_ 89), (0, u "com/example/gentle_retry/gentleretry/rabbitmq/SubscriptionQueue")] 2

/-- com/example/gentle_retry/gentleretry/rabbitmq/SubscriptionQueue$Role -/
def k6 : Class := { plain "com/example/gentle_retry/gentleretry/rabbitmq/SubscriptionQueue$Role" (some 5) with
  accessFlags := 16433
  interfaces := #[]
  cf := some (fileOf pool6 1 #[.nestHost 88] #[] 16433 23 #[] #[{ accessFlags := 16409, nameIndex := 5, descriptorIndex := 6, attributes := #[] }, { accessFlags := 16409, nameIndex := 9, descriptorIndex := 6, attributes := #[] }, { accessFlags := 16409, nameIndex := 12, descriptorIndex := 6, attributes := #[] }, { accessFlags := 18, nameIndex := 34, descriptorIndex := 35, attributes := #[] }, { accessFlags := 4122, nameIndex := 15, descriptorIndex := 16, attributes := #[] }])
  fields := #[{ name := "WORK", type := (.object "com/example/gentle_retry/gentleretry/rabbitmq/SubscriptionQueue$Role"), accessFlags := 16409, slot := 0, constantValue := 0 }, { name := "DELAY", type := (.object "com/example/gentle_retry/gentleretry/rabbitmq/SubscriptionQueue$Role"), accessFlags := 16409, slot := 1, constantValue := 0 }, { name := "PARKED", type := (.object "com/example/gentle_retry/gentleretry/rabbitmq/SubscriptionQueue$Role"), accessFlags := 16409, slot := 2, constantValue := 0 }, { name := "label", type := (.object "java/lang/String"), accessFlags := 18, slot := 3, constantValue := 0 }, { name := "$VALUES", type := (.array (.object "com/example/gentle_retry/gentleretry/rabbitmq/SubscriptionQueue$Role")), accessFlags := 4122, slot := 3, constantValue := 0 }]
  methods := #[]
  instanceTypes := #[(.object "java/lang/String"), .int, .int, (.object "java/lang/String")]
  staticTypes := #[(.object "com/example/gentle_retry/gentleretry/rabbitmq/SubscriptionQueue$Role"), (.object "com/example/gentle_retry/gentleretry/rabbitmq/SubscriptionQueue$Role"), (.object "com/example/gentle_retry/gentleretry/rabbitmq/SubscriptionQueue$Role"), (.array (.object "com/example/gentle_retry/gentleretry/rabbitmq/SubscriptionQueue$Role"))]
  resolved := Array.replicate 92 none
  statics := some 0 }

def pool7 : Array CpInfo := pool [(2, .class_ 4), (1, u "java/lang/CharSequence"), (42, .class_ 48), (0, u "java/lang/CharSequence$1CodePointIterator"), (10, .class_ 60), (0, u "java/lang/CharSequence$1CharIterator"), (5, .class_ 67), (0, u "java/lang/Object")] 63

/-- java/lang/CharSequence -/
def k7 : Class := { plain "java/lang/CharSequence" (some 0) with
  accessFlags := 1537
  interfaces := #[]
  cf := some (fileOf pool7 2 #[.nestMembers #[47, 59]] #[] 1537 66 #[] #[])
  fields := #[]
  methods := #[]
  instanceTypes := #[]
  staticTypes := #[]
  resolved := Array.replicate 131 none
  statics := none }

def pool8 : Array CpInfo := pool [(1, .class_ 2), (0, u "java/lang/constant/ConstantDesc"), (0, .class_ 4), (0, u "java/lang/Object")] 32

/-- java/lang/constant/ConstantDesc -/
def k8 : Class := { plain "java/lang/constant/ConstantDesc" (some 0) with
  accessFlags := 1537
  interfaces := #[]
  cf := some (fileOf pool8 1 #[] #[] 1537 3 #[] #[])
  fields := #[]
  methods := #[]
  instanceTypes := #[]
  staticTypes := #[]
  resolved := Array.replicate 37 none
  statics := none }

def pool9 : Array CpInfo := pool [(1, .methodref 2 3), (0, .class_ 4), (0, .nameAndType 5 6), (0, u "java/lang/Object"), (0, u "<init>"), (0, u "()V"), (0, .string 8), (0, u ""), (0, .fieldref 10 11), (0, .class_ 12), (0, .nameAndType 13 14), (0, u "java/lang/String"), (0, u "value"), (0, u "[B"), (0, .fieldref 10 16), (0, .nameAndType 17 18), (0, u "coder"), (0, u "B"), (2, u "hash"), (0, u "I"), (2, u "hashIsZero"), (0, u "Z"), (0, .methodref 10 28), (0, .nameAndType 5 29), (0, u "([CIILjava/lang/Void;)V"), (8, .fieldref 10 39), (0, .nameAndType 40 26), (0, u "COMPACT_STRINGS"), (1, .class_ 44), (1, u "java/lang/StringUTF16"), (0, u "compress"), (1, .methodref 42 48), (0, .nameAndType 49 50), (0, u "coderFromArrayLen"), (0, u "([BI)B"), (3, .methodref 55 56), (0, .class_ 57), (0, .nameAndType 58 59), (0, u "java/util/Arrays"), (0, u "copyOfRange"), (0, u "([BII)[B"), (47, .class_ 109), (1, u "java/lang/StringLatin1"), (32, u "()Z"), (34, .methodref 42 178), (0, .nameAndType 45 179), (0, u "([CII)[B"), (13, .class_ 195), (1, u "java/lang/System"), (16, .methodref 193 213), (0, .nameAndType 214 215), (0, u "arraycopy"), (0, u "(Ljava/lang/Object;ILjava/lang/Object;II)V"), (118, u "()I"), (0, .methodref 10 336), (0, .nameAndType 17 337), (0, u "()B"), (2, u "()[B"), (22, u "([BI)C"), (27, u "(II)V"), (35, u "(I)C"), (61, .methodref 10 490), (0, .nameAndType 5 491), (0, u "(Ljava/lang/AbstractStringBuilder;Ljava/lang/Void;)V"), (0, .methodref 10 493), (0, .nameAndType 494 142), (0, u "isLatin1"), (0, .methodref 107 496), (0, .nameAndType 497 363), (0, u "charAt"), (3, u "checkIndex"), (4, .nameAndType 507 334), (0, u "length"), (24, u "getBytes"), (16, .methodref 550 506), (0, .class_ 551), (0, u "java/lang/AbstractStringBuilder"), (0, .methodref 550 553), (0, .nameAndType 554 340), (0, u "getValue"), (20, .class_ 576), (0, u "java/lang/CharSequence"), (22, u "CASE_INSENSITIVE_ORDER"), (0, u "Ljava/util/Comparator;"), (220, u "([BIB)V"), (188, u "([C)V"), (36, .methodref 550 493), (5, .fieldref 1054 1055), (0, .class_ 1056), (0, .nameAndType 1057 1058), (0, u "jdk/internal/util/Preconditions"), (0, u "SIOOBE_FORMATTER"), (0, u "Ljava/util/function/BiFunction;"), (0, .methodref 1054 1060), (0, .nameAndType 501 1061), (0, u "(IILjava/util/function/BiFunction;)I"), (39, u "serialPersistentFields"), (0, u "[Ljava/io/ObjectStreamField;"), (0, .class_ 1104), (0, u "java/lang/String$CaseInsensitiveComparator"), (1, .class_ 1107), (0, u "java/io/Serializable"), (0, .class_ 1109), (0, u "java/lang/Comparable"), (0, .class_ 1111), (0, u "java/lang/constant/Constable"), (0, .class_ 1113), (0, u "java/lang/constant/ConstantDesc"), (2, u "serialVersionUID"), (0, u "J"), (3, u "REPL"), (0, u "C"), (2, u "LATIN1"), (1, u "UTF16"), (105, u "(Ljava/lang/StringBuilder;)V")] 217

def k9m0 : Method := { name := "<init>", desc := "()V", sig := { parameters := [], returnType := none }, accessFlags := 1, code := none }
def k9c1 : Code := { maxStack := 5, maxLocals := 2, code := jdk_42_method_3_code, exceptionTable := #[], attributes := #[] }
def k9m1 : Method := { name := "<init>", desc := "([C)V", sig := { parameters := [(.array .char)], returnType := none }, accessFlags := 1, code := some k9c1 }
def k9c2 : Code := { maxStack := 3, maxLocals := 2, code := jdk_42_method_53_code, exceptionTable := #[], attributes := #[] }
def k9m2 : Method := { name := "<init>", desc := "(Ljava/lang/StringBuilder;)V", sig := { parameters := [(.object "java/lang/StringBuilder")], returnType := none }, accessFlags := 1, code := some k9c2 }
def k9c3 : Code := { maxStack := 2, maxLocals := 1, code := jdk_42_method_54_code, exceptionTable := #[], attributes := #[] }
def k9m3 : Method := { name := "length", desc := "()I", sig := { parameters := [], returnType := some .int }, accessFlags := 1, code := some k9c3 }
def k9c4 : Code := { maxStack := 2, maxLocals := 2, code := jdk_42_method_56_code, exceptionTable := #[], attributes := #[] }
def k9m4 : Method := { name := "charAt", desc := "(I)C", sig := { parameters := [.int], returnType := some .char }, accessFlags := 1, code := some k9c4 }
def k9c5 : Code := { maxStack := 5, maxLocals := 4, code := jdk_42_method_147_code, exceptionTable := #[], attributes := #[] }
def k9m5 : Method := { name := "getBytes", desc := "([BIB)V", sig := { parameters := [(.array .byte), .int, .byte], returnType := none }, accessFlags := 0, code := some k9c5 }
def k9c6 : Code := { maxStack := 4, maxLocals := 6, code := jdk_42_method_149_code, exceptionTable := #[], attributes := #[] }
def k9m6 : Method := { name := "<init>", desc := "([CIILjava/lang/Void;)V", sig := { parameters := [(.array .char), .int, .int, (.object "java/lang/Void")], returnType := none }, accessFlags := 2, code := some k9c6 }
def k9c7 : Code := { maxStack := 5, maxLocals := 5, code := jdk_42_method_150_code, exceptionTable := #[], attributes := #[] }
def k9m7 : Method := { name := "<init>", desc := "(Ljava/lang/AbstractStringBuilder;Ljava/lang/Void;)V", sig := { parameters := [(.object "java/lang/AbstractStringBuilder"), (.object "java/lang/Void")], returnType := none }, accessFlags := 0, code := some k9c7 }
def k9c8 : Code := { maxStack := 1, maxLocals := 1, code := jdk_42_method_152_code, exceptionTable := #[], attributes := #[] }
def k9m8 : Method := { name := "coder", desc := "()B", sig := { parameters := [], returnType := some .byte }, accessFlags := 0, code := some k9c8 }
def k9c9 : Code := { maxStack := 1, maxLocals := 1, code := jdk_42_method_154_code, exceptionTable := #[], attributes := #[] }
def k9m9 : Method := { name := "isLatin1", desc := "()Z", sig := { parameters := [], returnType := some .boolean }, accessFlags := 0, code := some k9c9 }
def k9c10 : Code := { maxStack := 3, maxLocals := 2, code := jdk_42_method_155_code, exceptionTable := #[], attributes := #[] }
def k9m10 : Method := { name := "checkIndex", desc := "(II)V", sig := { parameters := [.int, .int], returnType := none }, accessFlags := 8, code := some k9c10 }
/-- java/lang/String -/
def k9 : Class := { plain "java/lang/String" (some 0) with
  accessFlags := 49
  interfaces := #[4, 3, 7, 2, 8]
  cf := some (fileOf pool9 10 #[.nestMembers #[1103]] #[{ accessFlags := 1, nameIndex := 5, descriptorIndex := 6, attributes := #[] }, { accessFlags := 1, nameIndex := 5, descriptorIndex := 1010, attributes := #[] }, { accessFlags := 1, nameIndex := 5, descriptorIndex := 1233, attributes := #[] }, { accessFlags := 1, nameIndex := 507, descriptorIndex := 334, attributes := #[] }, { accessFlags := 1, nameIndex := 497, descriptorIndex := 427, attributes := #[] }, { accessFlags := 0, nameIndex := 532, descriptorIndex := 821, attributes := #[] }, { accessFlags := 2, nameIndex := 5, descriptorIndex := 29, attributes := #[] }, { accessFlags := 0, nameIndex := 5, descriptorIndex := 491, attributes := #[] }, { accessFlags := 0, nameIndex := 17, descriptorIndex := 337, attributes := #[] }, { accessFlags := 0, nameIndex := 494, descriptorIndex := 142, attributes := #[] }, { accessFlags := 8, nameIndex := 501, descriptorIndex := 391, attributes := #[] }] 49 2 #[1106, 1108, 575, 1110, 1112] #[{ accessFlags := 18, nameIndex := 13, descriptorIndex := 14, attributes := #[] }, { accessFlags := 18, nameIndex := 17, descriptorIndex := 18, attributes := #[] }, { accessFlags := 2, nameIndex := 21, descriptorIndex := 22, attributes := #[] }, { accessFlags := 2, nameIndex := 25, descriptorIndex := 26, attributes := #[] }, { accessFlags := 26, nameIndex := 1116, descriptorIndex := 1117, attributes := #[] }, { accessFlags := 24, nameIndex := 40, descriptorIndex := 26, attributes := #[] }, { accessFlags := 26, nameIndex := 1101, descriptorIndex := 1102, attributes := #[] }, { accessFlags := 26, nameIndex := 1121, descriptorIndex := 1122, attributes := #[] }, { accessFlags := 25, nameIndex := 599, descriptorIndex := 600, attributes := #[] }, { accessFlags := 24, nameIndex := 1125, descriptorIndex := 18, attributes := #[] }, { accessFlags := 24, nameIndex := 1127, descriptorIndex := 18, attributes := #[] }])
  fields := #[{ name := "value", type := (.array .byte), accessFlags := 18, slot := 0, constantValue := 0 }, { name := "coder", type := .byte, accessFlags := 18, slot := 1, constantValue := 0 }, { name := "hash", type := .int, accessFlags := 2, slot := 2, constantValue := 0 }, { name := "hashIsZero", type := .boolean, accessFlags := 2, slot := 3, constantValue := 0 }, { name := "serialVersionUID", type := .long, accessFlags := 26, slot := 0, constantValue := 0 }, { name := "COMPACT_STRINGS", type := .boolean, accessFlags := 24, slot := 1, constantValue := 0 }, { name := "serialPersistentFields", type := (.array (.object "java/io/ObjectStreamField")), accessFlags := 26, slot := 2, constantValue := 0 }, { name := "REPL", type := .char, accessFlags := 26, slot := 3, constantValue := 0 }, { name := "CASE_INSENSITIVE_ORDER", type := (.object "java/util/Comparator"), accessFlags := 25, slot := 4, constantValue := 0 }, { name := "LATIN1", type := .byte, accessFlags := 24, slot := 5, constantValue := 0 }, { name := "UTF16", type := .byte, accessFlags := 24, slot := 6, constantValue := 0 }]
  methods := #[k9m0, k9m1, k9m2, k9m3, k9m4, k9m5, k9m6, k9m7, k9m8, k9m9, k9m10]
  instanceTypes := #[(.array .byte), .byte, .int, .boolean]
  staticTypes := #[.long, .boolean, (.array (.object "java/io/ObjectStreamField")), .char, (.object "java/util/Comparator"), .byte, .byte]
  resolved := Array.replicate 1451 none
  statics := some 1 }

def pool10 : Array CpInfo := pool [(6, .class_ 8), (1, u "java/lang/Object"), (0, u "<init>"), (0, u "()V"), (1, .class_ 14), (1, u "java/lang/StringUTF16"), (31, u "$assertionsDisabled"), (0, u "Z"), (13, u "HI_BYTE_SHIFT"), (0, u "I"), (2, u "LO_BYTE_SHIFT"), (49, .methodref 12 116), (0, .nameAndType 117 118), (0, u "compress"), (0, u "([CI[BII)I"), (3, u "([CII)[B"), (138, u "coderFromArrayLen"), (0, u "([BI)B"), (106, .class_ 371), (1, u "java/lang/StringUTF16$LinesSpliterator"), (58, u "MAX_LENGTH"), (196, .class_ 628), (0, u "java/lang/StringUTF16$CodePointsSpliterator"), (0, .class_ 630), (0, u "java/lang/StringUTF16$CharsSpliterator")] 4

def k10m0 : Method := { name := "<init>", desc := "()V", sig := { parameters := [], returnType := none }, accessFlags := 0, code := none }
def k10c1 : Code := { maxStack := 2, maxLocals := 2, code := jdk_52_method_15_code, exceptionTable := #[], attributes := #[] }
def k10m1 : Method := { name := "coderFromArrayLen", desc := "([BI)B", sig := { parameters := [(.array .byte), .int], returnType := some .byte }, accessFlags := 8, code := some k10c1 }
def k10c2 : Code := { maxStack := 5, maxLocals := 6, code := jdk_52_method_16_code, exceptionTable := #[], attributes := #[] }
def k10m2 : Method := { name := "compress", desc := "([CII)[B", sig := { parameters := [(.array .char), .int, .int], returnType := some (.array .byte) }, accessFlags := 9, code := some k10c2 }
def k10c3 : Code := { maxStack := 3, maxLocals := 7, code := jdk_52_method_21_code, exceptionTable := #[], attributes := #[] }
def k10m3 : Method := { name := "compress", desc := "([CI[BII)I", sig := { parameters := [(.array .char), .int, (.array .byte), .int, .int], returnType := some .int }, accessFlags := 9, code := some k10c3 }
/-- java/lang/StringUTF16 -/
def k10 : Class := { plain "java/lang/StringUTF16" (some 0) with
  accessFlags := 48
  interfaces := #[]
  cf := some (fileOf pool10 12 #[.nestMembers #[627, 629, 369]] #[{ accessFlags := 0, nameIndex := 9, descriptorIndex := 10, attributes := #[] }, { accessFlags := 8, nameIndex := 261, descriptorIndex := 262, attributes := #[] }, { accessFlags := 9, nameIndex := 117, descriptorIndex := 122, attributes := #[] }, { accessFlags := 9, nameIndex := 117, descriptorIndex := 118, attributes := #[] }] 48 6 #[] #[{ accessFlags := 26, nameIndex := 61, descriptorIndex := 62, attributes := #[] }, { accessFlags := 26, nameIndex := 65, descriptorIndex := 62, attributes := #[] }, { accessFlags := 24, nameIndex := 430, descriptorIndex := 62, attributes := #[] }, { accessFlags := 4120, nameIndex := 46, descriptorIndex := 47, attributes := #[] }])
  fields := #[{ name := "HI_BYTE_SHIFT", type := .int, accessFlags := 26, slot := 0, constantValue := 0 }, { name := "LO_BYTE_SHIFT", type := .int, accessFlags := 26, slot := 1, constantValue := 0 }, { name := "MAX_LENGTH", type := .int, accessFlags := 24, slot := 2, constantValue := 0 }, { name := "$assertionsDisabled", type := .boolean, accessFlags := 4120, slot := 3, constantValue := 0 }]
  methods := #[k10m0, k10m1, k10m2, k10m3]
  instanceTypes := #[]
  staticTypes := #[.int, .int, .int, .boolean]
  resolved := Array.replicate 635 none
  statics := none }

def pool11 : Array CpInfo := pool [(1, .methodref 2 3), (0, .class_ 4), (0, .nameAndType 5 6), (0, u "java/lang/Object"), (0, u "<init>"), (0, u "()V"), (0, .string 8), (0, u "role"), (0, .methodref 10 11), (0, .class_ 12), (0, .nameAndType 13 14), (0, u "java/util/Objects"), (0, u "requireNonNull"), (0, u "(Ljava/lang/Object;Ljava/lang/String;)Ljava/lang/Object;"), (0, .class_ 16), (0, u "com/example/gentle_retry/gentleretry/rabbitmq/SubscriptionQueue$Role"), (0, .fieldref 18 19), (0, .class_ 20), (0, .nameAndType 8 21), (0, u "com/example/gentle_retry/gentleretry/rabbitmq/SubscriptionQueue"), (0, u "Lcom/example/gentle_retry/gentleretry/rabbitmq/SubscriptionQueue$Role;"), (0, .string 23), (0, u "name"), (0, .class_ 25), (0, u "java/lang/String"), (0, .fieldref 18 27), (0, .nameAndType 23 28), (0, u "Ljava/lang/String;"), (8, u "(Lcom/example/gentle_retry/gentleretry/rabbitmq/SubscriptionQueue$Role;Ljava/lang/String;)V"), (48, .class_ 87), (0, u "java/lang/StringBuilder"), (0, .methodref 86 3), (0, .methodref 86 90), (0, .nameAndType 91 92), (0, u "append"), (0, u "(Ljava/lang/String;)Ljava/lang/StringBuilder;"), (9, .methodref 86 103), (0, .nameAndType 104 105), (0, u "toString"), (0, u "()Ljava/lang/String;"), (35, .fieldref 15 142), (0, .nameAndType 143 28), (0, u "label"), (0, .string 145), (0, u " "), (0, u "DELAY_INFIX"), (1, u "PARKED_SUFFIX")] 21

def k11c0 : Code := { maxStack := 3, maxLocals := 3, code := prog_5_method_1_code, exceptionTable := #[], attributes := #[] }
def k11m0 : Method := { name := "<init>", desc := "(Lcom/example/gentle_retry/gentleretry/rabbitmq/SubscriptionQueue$Role;Ljava/lang/String;)V", sig := { parameters := [(.object "com/example/gentle_retry/gentleretry/rabbitmq/SubscriptionQueue$Role"), (.object "java/lang/String")], returnType := none }, accessFlags := 0, code := some k11c0 }
def k11c1 : Code := { maxStack := 2, maxLocals := 1, code := prog_5_method_12_code, exceptionTable := #[], attributes := #[] }
def k11m1 : Method := { name := "toString", desc := "()Ljava/lang/String;", sig := { parameters := [], returnType := some (.object "java/lang/String") }, accessFlags := 1, code := some k11c1 }
/-- com/example/gentle_retry/gentleretry/rabbitmq/SubscriptionQueue -/
def k11 : Class := { plain "com/example/gentle_retry/gentleretry/rabbitmq/SubscriptionQueue" (some 0) with
  accessFlags := 33
  interfaces := #[]
  cf := some (fileOf pool11 18 #[.nestMembers #[15]] #[{ accessFlags := 0, nameIndex := 5, descriptorIndex := 37, attributes := #[] }, { accessFlags := 1, nameIndex := 104, descriptorIndex := 105, attributes := #[] }] 33 2 #[] #[{ accessFlags := 26, nameIndex := 146, descriptorIndex := 28, attributes := #[] }, { accessFlags := 26, nameIndex := 148, descriptorIndex := 28, attributes := #[] }, { accessFlags := 18, nameIndex := 8, descriptorIndex := 21, attributes := #[] }, { accessFlags := 18, nameIndex := 23, descriptorIndex := 28, attributes := #[] }])
  fields := #[{ name := "DELAY_INFIX", type := (.object "java/lang/String"), accessFlags := 26, slot := 0, constantValue := 0 }, { name := "PARKED_SUFFIX", type := (.object "java/lang/String"), accessFlags := 26, slot := 1, constantValue := 0 }, { name := "role", type := (.object "com/example/gentle_retry/gentleretry/rabbitmq/SubscriptionQueue$Role"), accessFlags := 18, slot := 0, constantValue := 0 }, { name := "name", type := (.object "java/lang/String"), accessFlags := 18, slot := 1, constantValue := 0 }]
  methods := #[k11m0, k11m1]
  instanceTypes := #[(.object "com/example/gentle_retry/gentleretry/rabbitmq/SubscriptionQueue$Role"), (.object "java/lang/String")]
  staticTypes := #[(.object "java/lang/String"), (.object "java/lang/String")]
  resolved := ((Array.replicate 170 none).setIfInBounds 141 (some (.field 6 3)))
  statics := none }

def pool12 : Array CpInfo := pool [(2, .class_ 4), (1, u "java/lang/Object"), (0, u "<init>"), (0, u "()V"), (35, .class_ 44), (1, u "java/util/Objects"), (0, u "requireNonNull"), (48, u "(Ljava/lang/Object;Ljava/lang/String;)Ljava/lang/Object;")] 89

def k12m0 : Method := { name := "<init>", desc := "()V", sig := { parameters := [], returnType := none }, accessFlags := 2, code := none }
def k12c1 : Code := { maxStack := 3, maxLocals := 2, code := jdk_31_method_11_code, exceptionTable := #[], attributes := #[] }
def k12m1 : Method := { name := "requireNonNull", desc := "(Ljava/lang/Object;Ljava/lang/String;)Ljava/lang/Object;", sig := { parameters := [(.object "java/lang/Object"), (.object "java/lang/String")], returnType := some (.object "java/lang/Object") }, accessFlags := 9, code := some k12c1 }
/-- java/util/Objects -/
def k12 : Class := { plain "java/util/Objects" (some 0) with
  accessFlags := 49
  interfaces := #[]
  cf := some (fileOf pool12 42 #[] #[{ accessFlags := 2, nameIndex := 5, descriptorIndex := 6, attributes := #[] }, { accessFlags := 9, nameIndex := 45, descriptorIndex := 94, attributes := #[] }] 49 2 #[] #[])
  fields := #[]
  methods := #[k12m0, k12m1]
  instanceTypes := #[]
  staticTypes := #[]
  resolved := Array.replicate 184 none
  statics := none }

def pool13 : Array CpInfo := pool [(1, .class_ 2), (0, u "java/lang/Appendable"), (0, .class_ 4), (0, u "java/lang/Object")] 9

/-- java/lang/Appendable -/
def k13 : Class := { plain "java/lang/Appendable" (some 0) with
  accessFlags := 1537
  interfaces := #[]
  cf := some (fileOf pool13 1 #[] #[] 1537 3 #[] #[])
  fields := #[]
  methods := #[]
  instanceTypes := #[]
  staticTypes := #[]
  resolved := Array.replicate 14 none
  statics := none }

def pool14 : Array CpInfo := pool [(1, .class_ 2), (0, u "java/lang/String"), (0, .methodref 4 5), (0, .class_ 6), (0, .nameAndType 7 8), (0, u "java/lang/Object"), (0, u "<init>"), (0, u "()V"), (1, .class_ 12), (1, u "java/lang/AbstractStringBuilder"), (0, u "EMPTYVALUE"), (0, u "[B"), (0, .fieldref 10 16), (0, .nameAndType 17 14), (0, u "value"), (0, .fieldref 1 19), (0, .nameAndType 20 21), (0, u "COMPACT_STRINGS"), (0, u "Z"), (0, .fieldref 10 23), (0, .nameAndType 24 25), (0, u "coder"), (0, u "B"), (6, .methodref 1 33), (0, .nameAndType 34 35), (0, u "length"), (0, u "()I"), (4, .methodref 1 41), (0, .nameAndType 24 42), (0, u "()B"), (2, u "append"), (0, u "(Ljava/lang/String;)Ljava/lang/AbstractStringBuilder;"), (1, .class_ 49), (0, u "java/lang/CharSequence"), (19, u "(Ljava/lang/String;)V"), (5, u "maybeLatin1"), (3, .fieldref 10 80), (0, .nameAndType 81 82), (0, u "count"), (0, u "I"), (2, u "isLatin1"), (0, u "()Z"), (13, .methodref 10 101), (0, .nameAndType 102 103), (0, u "ensureCapacityInternal"), (0, u "(I)V"), (104, .methodref 10 209), (0, .nameAndType 210 211), (0, u "putStringAt"), (0, u "(ILjava/lang/String;)V"), (5, u "inflateIfNeededFor"), (2, .nameAndType 221 222), (0, u "getBytes"), (0, u "([BIB)V"), (174, .methodref 10 398), (0, .nameAndType 217 69), (0, .methodref 1 220), (3, u "()[B"), (40, .class_ 445), (0, u "java/lang/Appendable"), (106, u "getValue")] 56

def k14m0 : Method := { name := "<init>", desc := "()V", sig := { parameters := [], returnType := none }, accessFlags := 0, code := none }
def k14c1 : Code := { maxStack := 2, maxLocals := 2, code := jdk_68_method_2_code, exceptionTable := #[], attributes := #[] }
def k14m1 : Method := { name := "<init>", desc := "(I)V", sig := { parameters := [.int], returnType := none }, accessFlags := 0, code := some k14c1 }
def k14c2 : Code := { maxStack := 1, maxLocals := 1, code := jdk_68_method_6_code, exceptionTable := #[], attributes := #[] }
def k14m2 : Method := { name := "length", desc := "()I", sig := { parameters := [], returnType := some .int }, accessFlags := 1, code := some k14c2 }
def k14c3 : Code := { maxStack := 4, maxLocals := 3, code := jdk_68_method_9_code, exceptionTable := #[], attributes := #[] }
def k14m3 : Method := { name := "ensureCapacityInternal", desc := "(I)V", sig := { parameters := [.int], returnType := none }, accessFlags := 2, code := some k14c3 }
def k14c4 : Code := { maxStack := 3, maxLocals := 3, code := jdk_68_method_22_code, exceptionTable := #[], attributes := #[] }
def k14m4 : Method := { name := "append", desc := "(Ljava/lang/String;)Ljava/lang/AbstractStringBuilder;", sig := { parameters := [(.object "java/lang/String")], returnType := some (.object "java/lang/AbstractStringBuilder") }, accessFlags := 1, code := some k14c4 }
def k14c5 : Code := { maxStack := 1, maxLocals := 1, code := jdk_68_method_64_code, exceptionTable := #[], attributes := #[] }
def k14m5 : Method := { name := "getValue", desc := "()[B", sig := { parameters := [], returnType := some (.array .byte) }, accessFlags := 16, code := some k14c5 }
def k14c6 : Code := { maxStack := 1, maxLocals := 1, code := jdk_68_method_68_code, exceptionTable := #[], attributes := #[] }
def k14m6 : Method := { name := "isLatin1", desc := "()Z", sig := { parameters := [], returnType := some .boolean }, accessFlags := 16, code := some k14c6 }
def k14c7 : Code := { maxStack := 2, maxLocals := 2, code := jdk_68_method_71_code, exceptionTable := #[], attributes := #[] }
def k14m7 : Method := { name := "inflateIfNeededFor", desc := "(Ljava/lang/String;)V", sig := { parameters := [(.object "java/lang/String")], returnType := none }, accessFlags := 2, code := some k14c7 }
def k14c8 : Code := { maxStack := 4, maxLocals := 3, code := jdk_68_method_73_code, exceptionTable := #[], attributes := #[] }
def k14m8 : Method := { name := "putStringAt", desc := "(ILjava/lang/String;)V", sig := { parameters := [.int, (.object "java/lang/String")], returnType := none }, accessFlags := 2, code := some k14c8 }
/-- java/lang/AbstractStringBuilder -/
def k14 : Class := { plain "java/lang/AbstractStringBuilder" (some 0) with
  accessFlags := 1056
  interfaces := #[13, 7]
  cf := some (fileOf pool14 10 #[] #[{ accessFlags := 0, nameIndex := 7, descriptorIndex := 8, attributes := #[] }, { accessFlags := 0, nameIndex := 7, descriptorIndex := 103, attributes := #[] }, { accessFlags := 1, nameIndex := 34, descriptorIndex := 35, attributes := #[] }, { accessFlags := 2, nameIndex := 102, descriptorIndex := 103, attributes := #[] }, { accessFlags := 1, nameIndex := 45, descriptorIndex := 46, attributes := #[] }, { accessFlags := 16, nameIndex := 552, descriptorIndex := 403, attributes := #[] }, { accessFlags := 16, nameIndex := 85, descriptorIndex := 86, attributes := #[] }, { accessFlags := 2, nameIndex := 217, descriptorIndex := 69, attributes := #[] }, { accessFlags := 2, nameIndex := 210, descriptorIndex := 211, attributes := #[] }] 1056 4 #[444, 48] #[{ accessFlags := 0, nameIndex := 17, descriptorIndex := 14, attributes := #[] }, { accessFlags := 0, nameIndex := 24, descriptorIndex := 25, attributes := #[] }, { accessFlags := 0, nameIndex := 75, descriptorIndex := 21, attributes := #[] }, { accessFlags := 0, nameIndex := 81, descriptorIndex := 82, attributes := #[] }, { accessFlags := 26, nameIndex := 13, descriptorIndex := 14, attributes := #[] }])
  fields := #[{ name := "value", type := (.array .byte), accessFlags := 0, slot := 0, constantValue := 0 }, { name := "coder", type := .byte, accessFlags := 0, slot := 1, constantValue := 0 }, { name := "maybeLatin1", type := .boolean, accessFlags := 0, slot := 2, constantValue := 0 }, { name := "count", type := .int, accessFlags := 0, slot := 3, constantValue := 0 }, { name := "EMPTYVALUE", type := (.array .byte), accessFlags := 26, slot := 0, constantValue := 0 }]
  methods := #[k14m0, k14m1, k14m2, k14m3, k14m4, k14m5, k14m6, k14m7, k14m8]
  instanceTypes := #[(.array .byte), .byte, .boolean, .int]
  staticTypes := #[(.array .byte)]
  resolved := Array.replicate 609 none
  statics := none }

def pool15 : Array CpInfo := pool [(1, .methodref 2 3), (0, .class_ 4), (0, .nameAndType 5 6), (0, u "java/lang/AbstractStringBuilder"), (0, u "<init>"), (0, u "(I)V"), (11, .class_ 20), (1, u "java/lang/String"), (3, .class_ 26), (1, u "java/lang/StringBuilder"), (0, u "append"), (0, u "(Ljava/lang/String;)Ljava/lang/StringBuilder;"), (0, .methodref 2 30), (0, .nameAndType 27 31), (0, u "(Ljava/lang/String;)Ljava/lang/AbstractStringBuilder;"), (105, .methodref 18 138), (0, .nameAndType 5 139), (0, u "(Ljava/lang/StringBuilder;)V"), (5, u "()V"), (10, u "()I"), (186, .methodref 2 344), (0, .nameAndType 345 156), (0, u "length"), (3, .class_ 350), (0, u "java/lang/Appendable"), (0, .class_ 352), (0, u "java/io/Serializable"), (0, .class_ 354), (0, u "java/lang/Comparable"), (0, .class_ 356), (0, u "java/lang/CharSequence"), (0, u "serialVersionUID"), (0, u "J"), (40, u "toString"), (0, u "()Ljava/lang/String;")] 21

def k15c0 : Code := { maxStack := 2, maxLocals := 1, code := jdk_67_method_1_code, exceptionTable := #[], attributes := #[] }
def k15m0 : Method := { name := "<init>", desc := "()V", sig := { parameters := [], returnType := none }, accessFlags := 1, code := some k15c0 }
def k15c1 : Code := { maxStack := 2, maxLocals := 2, code := jdk_67_method_7_code, exceptionTable := #[], attributes := #[] }
def k15m1 : Method := { name := "append", desc := "(Ljava/lang/String;)Ljava/lang/StringBuilder;", sig := { parameters := [(.object "java/lang/String")], returnType := some (.object "java/lang/StringBuilder") }, accessFlags := 1, code := some k15c1 }
def k15c2 : Code := { maxStack := 3, maxLocals := 1, code := jdk_67_method_42_code, exceptionTable := #[], attributes := #[] }
def k15m2 : Method := { name := "toString", desc := "()Ljava/lang/String;", sig := { parameters := [], returnType := some (.object "java/lang/String") }, accessFlags := 1, code := some k15c2 }
def k15c3 : Code := { maxStack := 1, maxLocals := 1, code := jdk_67_method_93_code, exceptionTable := #[], attributes := #[] }
def k15m3 : Method := { name := "length", desc := "()I", sig := { parameters := [], returnType := some .int }, accessFlags := 4161, code := some k15c3 }
/-- java/lang/StringBuilder -/
def k15 : Class := { plain "java/lang/StringBuilder" (some 14) with
  accessFlags := 49
  interfaces := #[13, 4, 3, 7]
  cf := some (fileOf pool15 24 #[] #[{ accessFlags := 1, nameIndex := 5, descriptorIndex := 145, attributes := #[] }, { accessFlags := 1, nameIndex := 27, descriptorIndex := 28, attributes := #[] }, { accessFlags := 1, nameIndex := 399, descriptorIndex := 400, attributes := #[] }, { accessFlags := 4161, nameIndex := 345, descriptorIndex := 156, attributes := #[] }] 49 2 #[349, 351, 353, 355] #[{ accessFlags := 24, nameIndex := 357, descriptorIndex := 358, attributes := #[] }])
  fields := #[{ name := "serialVersionUID", type := .long, accessFlags := 24, slot := 0, constantValue := 0 }]
  methods := #[k15m0, k15m1, k15m2, k15m3]
  instanceTypes := #[(.array .byte), .byte, .boolean, .int]
  staticTypes := #[.long]
  resolved := Array.replicate 422 none
  statics := none }

def pool16 : Array CpInfo := pool [(2, .class_ 4), (1, u "java/lang/Object"), (0, u "<init>"), (0, u "()V"), (1, .class_ 10), (1, u "java/lang/System"), (0, u "allowSecurityManager"), (0, u "I"), (16, u "cons"), (0, u "Ljava/io/Console;"), (77, .class_ 110), (1, u "java/lang/System$CallersHolder"), (43, u "initialErrStream"), (0, u "Ljava/io/PrintStream;"), (19, u "security"), (0, u "Ljava/lang/SecurityManager;"), (31, .class_ 209), (0, u "java/lang/System$1"), (7, u "props"), (0, u "Ljava/util/Properties;"), (2, u "lineSeparator"), (0, u "Ljava/lang/String;"), (96, .class_ 321), (1, u "java/lang/System$LoggerFinder"), (5, .class_ 328), (0, u "java/lang/System$Logger"), (67, u "err"), (2, u "out"), (91, u "notSupportedJnuEncoding"), (15, u "in"), (17, u "initialIn"), (0, u "Ljava/io/InputStream;"), (35, u "bootLayer"), (0, u "Ljava/lang/ModuleLayer;"), (99, .class_ 664), (0, u "java/lang/System$2"), (9, u "NEVER"), (2, u "MAYBE"), (49, u "arraycopy"), (0, u "(Ljava/lang/Object;ILjava/lang/Object;II)V"), (72, .class_ 802), (0, u "java/lang/System$Logger$Level")] 31

def k16m0 : Method := { name := "<init>", desc := "()V", sig := { parameters := [], returnType := none }, accessFlags := 2, code := none }
def k16m1 : Method := { name := "arraycopy", desc := "(Ljava/lang/Object;ILjava/lang/Object;II)V", sig := { parameters := [(.object "java/lang/Object"), .int, (.object "java/lang/Object"), .int, .int], returnType := none }, accessFlags := 265, code := none }
/-- java/lang/System -/
def k16 : Class := { plain "java/lang/System" (some 0) with
  accessFlags := 49
  interfaces := #[]
  cf := some (fileOf pool16 8 #[.nestMembers #[319, 327, 801, 108, 663, 208]] #[{ accessFlags := 2, nameIndex := 5, descriptorIndex := 6, attributes := #[] }, { accessFlags := 265, nameIndex := 727, descriptorIndex := 728, attributes := #[] }] 49 2 #[] #[{ accessFlags := 25, nameIndex := 507, descriptorIndex := 526, attributes := #[] }, { accessFlags := 25, nameIndex := 399, descriptorIndex := 155, attributes := #[] }, { accessFlags := 25, nameIndex := 396, descriptorIndex := 155, attributes := #[] }, { accessFlags := 10, nameIndex := 525, descriptorIndex := 526, attributes := #[] }, { accessFlags := 26, nameIndex := 674, descriptorIndex := 12, attributes := #[] }, { accessFlags := 26, nameIndex := 677, descriptorIndex := 12, attributes := #[] }, { accessFlags := 10, nameIndex := 11, descriptorIndex := 12, attributes := #[] }, { accessFlags := 74, nameIndex := 175, descriptorIndex := 176, attributes := #[] }, { accessFlags := 10, nameIndex := 491, descriptorIndex := 222, attributes := #[] }, { accessFlags := 74, nameIndex := 29, descriptorIndex := 30, attributes := #[] }, { accessFlags := 74, nameIndex := 154, descriptorIndex := 155, attributes := #[] }, { accessFlags := 10, nameIndex := 217, descriptorIndex := 218, attributes := #[] }, { accessFlags := 10, nameIndex := 221, descriptorIndex := 222, attributes := #[] }, { accessFlags := 8, nameIndex := 562, descriptorIndex := 563, attributes := #[] }])
  fields := #[{ name := "in", type := (.object "java/io/InputStream"), accessFlags := 25, slot := 0, constantValue := 0 }, { name := "out", type := (.object "java/io/PrintStream"), accessFlags := 25, slot := 1, constantValue := 0 }, { name := "err", type := (.object "java/io/PrintStream"), accessFlags := 25, slot := 2, constantValue := 0 }, { name := "initialIn", type := (.object "java/io/InputStream"), accessFlags := 10, slot := 3, constantValue := 0 }, { name := "NEVER", type := .int, accessFlags := 26, slot := 4, constantValue := 0 }, { name := "MAYBE", type := .int, accessFlags := 26, slot := 5, constantValue := 0 }, { name := "allowSecurityManager", type := .int, accessFlags := 10, slot := 6, constantValue := 0 }, { name := "security", type := (.object "java/lang/SecurityManager"), accessFlags := 74, slot := 7, constantValue := 0 }, { name := "notSupportedJnuEncoding", type := (.object "java/lang/String"), accessFlags := 10, slot := 8, constantValue := 0 }, { name := "cons", type := (.object "java/io/Console"), accessFlags := 74, slot := 9, constantValue := 0 }, { name := "initialErrStream", type := (.object "java/io/PrintStream"), accessFlags := 74, slot := 10, constantValue := 0 }, { name := "props", type := (.object "java/util/Properties"), accessFlags := 10, slot := 11, constantValue := 0 }, { name := "lineSeparator", type := (.object "java/lang/String"), accessFlags := 10, slot := 12, constantValue := 0 }, { name := "bootLayer", type := (.object "java/lang/ModuleLayer"), accessFlags := 8, slot := 13, constantValue := 0 }]
  methods := #[k16m0, k16m1]
  instanceTypes := #[]
  staticTypes := #[(.object "java/io/InputStream"), (.object "java/io/PrintStream"), (.object "java/io/PrintStream"), (.object "java/io/InputStream"), .int, .int, .int, (.object "java/lang/SecurityManager"), (.object "java/lang/String"), (.object "java/io/Console"), (.object "java/io/PrintStream"), (.object "java/util/Properties"), (.object "java/lang/String"), (.object "java/lang/ModuleLayer")]
  resolved := Array.replicate 834 none
  statics := none }

def pool17 : Array CpInfo := pool [(2, .class_ 4), (1, u "java/lang/Object"), (0, u "<init>"), (0, u "()V"), (7, .class_ 16), (1, u "java/util/Arrays"), (57, .class_ 76), (1, u "java/util/Arrays$NaturalOrder"), (36, .class_ 115), (1, u "java/util/Arrays$LegacyMergeSort"), (1, u "Z"), (21, u "copyOfRange"), (10, .methodref 151 152), (0, .class_ 153), (0, .nameAndType 154 155), (0, u "java/lang/System"), (0, u "arraycopy"), (0, u "(Ljava/lang/Object;ILjava/lang/Object;II)V"), (148, .methodref 305 306), (0, .class_ 307), (0, .nameAndType 308 309), (0, u "java/lang/Math"), (0, u "min"), (0, u "(II)I"), (29, .methodref 14 340), (0, .nameAndType 341 342), (0, u "copyOfRangeByte"), (0, u "([BII)[B"), (0, .methodref 14 344), (0, .nameAndType 345 346), (0, u "checkLength"), (0, u "(II)V"), (28, .class_ 376), (0, u "java/util/Arrays$ArrayList"), (68, u "$assertionsDisabled"), (269, u "MIN_ARRAY_SORT_GRAN"), (0, u "I"), (2, u "INSERTIONSORT_THRESHOLD"), (255, .class_ 976), (0, u "java/util/Arrays$ArrayItr")] 52

def k17m0 : Method := { name := "<init>", desc := "()V", sig := { parameters := [], returnType := none }, accessFlags := 2, code := none }
def k17c1 : Code := { maxStack := 4, maxLocals := 2, code := jdk_65_method_131_code, exceptionTable := #[], attributes := #[] }
def k17m1 : Method := { name := "checkLength", desc := "(II)V", sig := { parameters := [.int, .int], returnType := none }, accessFlags := 10, code := some k17c1 }
def k17c2 : Code := { maxStack := 3, maxLocals := 3, code := jdk_65_method_132_code, exceptionTable := #[], attributes := #[] }
def k17m2 : Method := { name := "copyOfRange", desc := "([BII)[B", sig := { parameters := [(.array .byte), .int, .int], returnType := some (.array .byte) }, accessFlags := 9, code := some k17c2 }
def k17c3 : Code := { maxStack := 6, maxLocals := 5, code := jdk_65_method_133_code, exceptionTable := #[], attributes := #[] }
def k17m3 : Method := { name := "copyOfRangeByte", desc := "([BII)[B", sig := { parameters := [(.array .byte), .int, .int], returnType := some (.array .byte) }, accessFlags := 10, code := some k17c3 }
/-- java/util/Arrays -/
def k17 : Class := { plain "java/util/Arrays" (some 0) with
  accessFlags := 49
  interfaces := #[]
  cf := some (fileOf pool17 14 #[.nestMembers #[975, 375, 113, 74]] #[{ accessFlags := 2, nameIndex := 5, descriptorIndex := 6, attributes := #[] }, { accessFlags := 10, nameIndex := 345, descriptorIndex := 346, attributes := #[] }, { accessFlags := 9, nameIndex := 139, descriptorIndex := 342, attributes := #[] }, { accessFlags := 10, nameIndex := 341, descriptorIndex := 342, attributes := #[] }] 49 2 #[] #[{ accessFlags := 26, nameIndex := 715, descriptorIndex := 716, attributes := #[] }, { accessFlags := 26, nameIndex := 719, descriptorIndex := 716, attributes := #[] }, { accessFlags := 4120, nameIndex := 445, descriptorIndex := 117, attributes := #[] }])
  fields := #[{ name := "MIN_ARRAY_SORT_GRAN", type := .int, accessFlags := 26, slot := 0, constantValue := 0 }, { name := "INSERTIONSORT_THRESHOLD", type := .int, accessFlags := 26, slot := 1, constantValue := 0 }, { name := "$assertionsDisabled", type := .boolean, accessFlags := 4120, slot := 2, constantValue := 0 }]
  methods := #[k17m0, k17m1, k17m2, k17m3]
  instanceTypes := #[]
  staticTypes := #[.int, .int, .boolean]
  resolved := Array.replicate 1029 none
  statics := none }

def pool18 : Array CpInfo := pool [(1, .class_ 2), (0, u "java/lang/Math"), (1, .class_ 6), (1, u "java/lang/Object"), (0, u "<init>"), (0, u "()V"), (89, .class_ 100), (1, u "java/lang/Math$RandomNumberGeneratorHolder"), (71, u "negativeZeroFloatBits"), (0, u "J"), (2, u "negativeZeroDoubleBits"), (24, u "min"), (43, u "$assertionsDisabled"), (0, u "Z"), (88, u "(II)I"), (2, u "twoToTheDoubleScaleDown"), (0, u "D"), (4, u "twoToTheDoubleScaleUp"), (9, u "E"), (3, u "PI"), (2, u "TAU"), (2, u "DEGREES_TO_RADIANS"), (0, u "RADIANS_TO_DEGREES")] 94

def k18m0 : Method := { name := "<init>", desc := "()V", sig := { parameters := [], returnType := none }, accessFlags := 2, code := none }
def k18c1 : Code := { maxStack := 2, maxLocals := 2, code := jdk_29_method_69_code, exceptionTable := #[], attributes := #[] }
def k18m1 : Method := { name := "min", desc := "(II)I", sig := { parameters := [.int, .int], returnType := some .int }, accessFlags := 9, code := some k18c1 }
/-- java/lang/Math -/
def k18 : Class := { plain "java/lang/Math" (some 0) with
  accessFlags := 49
  interfaces := #[]
  cf := some (fileOf pool18 1 #[.nestMembers #[98]] #[{ accessFlags := 2, nameIndex := 7, descriptorIndex := 8, attributes := #[] }, { accessFlags := 9, nameIndex := 201, descriptorIndex := 335, attributes := #[] }] 49 4 #[] #[{ accessFlags := 25, nameIndex := 354, descriptorIndex := 339, attributes := #[] }, { accessFlags := 25, nameIndex := 358, descriptorIndex := 339, attributes := #[] }, { accessFlags := 25, nameIndex := 361, descriptorIndex := 339, attributes := #[] }, { accessFlags := 26, nameIndex := 364, descriptorIndex := 339, attributes := #[] }, { accessFlags := 26, nameIndex := 365, descriptorIndex := 339, attributes := #[] }, { accessFlags := 26, nameIndex := 172, descriptorIndex := 173, attributes := #[] }, { accessFlags := 26, nameIndex := 176, descriptorIndex := 173, attributes := #[] }, { accessFlags := 8, nameIndex := 344, descriptorIndex := 339, attributes := #[] }, { accessFlags := 8, nameIndex := 338, descriptorIndex := 339, attributes := #[] }, { accessFlags := 4120, nameIndex := 245, descriptorIndex := 246, attributes := #[] }])
  fields := #[{ name := "E", type := .double, accessFlags := 25, slot := 0, constantValue := 0 }, { name := "PI", type := .double, accessFlags := 25, slot := 1, constantValue := 0 }, { name := "TAU", type := .double, accessFlags := 25, slot := 2, constantValue := 0 }, { name := "DEGREES_TO_RADIANS", type := .double, accessFlags := 26, slot := 3, constantValue := 0 }, { name := "RADIANS_TO_DEGREES", type := .double, accessFlags := 26, slot := 4, constantValue := 0 }, { name := "negativeZeroFloatBits", type := .long, accessFlags := 26, slot := 5, constantValue := 0 }, { name := "negativeZeroDoubleBits", type := .long, accessFlags := 26, slot := 6, constantValue := 0 }, { name := "twoToTheDoubleScaleUp", type := .double, accessFlags := 8, slot := 7, constantValue := 0 }, { name := "twoToTheDoubleScaleDown", type := .double, accessFlags := 8, slot := 8, constantValue := 0 }, { name := "$assertionsDisabled", type := .boolean, accessFlags := 4120, slot := 9, constantValue := 0 }]
  methods := #[k18m0, k18m1]
  instanceTypes := #[]
  staticTypes := #[.double, .double, .double, .double, .double, .long, .long, .double, .double, .boolean]
  resolved := Array.replicate 460 none
  statics := none }

def pool19 : Array CpInfo := pool [(1, .class_ 2), (0, u "java/lang/String"), (1, .class_ 6), (1, u "java/lang/Object"), (0, u "<init>"), (0, u "()V"), (0, .methodref 1 10), (0, .nameAndType 11 12), (0, u "checkIndex"), (0, u "(II)V"), (1, .class_ 16), (1, u "java/lang/StringLatin1"), (36, u "([BI)C"), (67, u "$assertionsDisabled"), (0, u "Z"), (98, .class_ 223), (1, u "java/lang/StringLatin1$LinesSpliterator"), (28, u "charAt"), (137, .class_ 391), (0, u "java/lang/StringLatin1$CharsSpliterator")] 3

def k19m0 : Method := { name := "<init>", desc := "()V", sig := { parameters := [], returnType := none }, accessFlags := 0, code := none }
def k19c1 : Code := { maxStack := 2, maxLocals := 2, code := jdk_43_method_2_code, exceptionTable := #[], attributes := #[] }
def k19m1 : Method := { name := "charAt", desc := "([BI)C", sig := { parameters := [(.array .byte), .int], returnType := some .char }, accessFlags := 9, code := some k19c1 }
/-- java/lang/StringLatin1 -/
def k19 : Class := { plain "java/lang/StringLatin1" (some 0) with
  accessFlags := 48
  interfaces := #[]
  cf := some (fileOf pool19 14 #[.nestMembers #[390, 221]] #[{ accessFlags := 0, nameIndex := 7, descriptorIndex := 8, attributes := #[] }, { accessFlags := 9, nameIndex := 252, descriptorIndex := 53, attributes := #[] }] 48 4 #[] #[{ accessFlags := 4120, nameIndex := 121, descriptorIndex := 122, attributes := #[] }])
  fields := #[{ name := "$assertionsDisabled", type := .boolean, accessFlags := 4120, slot := 0, constantValue := 0 }]
  methods := #[k19m0, k19m1]
  instanceTypes := #[]
  staticTypes := #[.boolean]
  resolved := Array.replicate 395 none
  statics := none }

def pool20 : Array CpInfo := pool [(2, .class_ 4), (1, u "java/lang/Object"), (0, u "<init>"), (0, u "()V"), (17, .class_ 26), (1, u "jdk/internal/util/Preconditions"), (6, u "checkIndex"), (21, .class_ 56), (0, u "jdk/internal/util/Preconditions$4"), (57, .class_ 115), (0, u "jdk/internal/util/Preconditions$1"), (7, u "SIOOBE_FORMATTER"), (0, u "Ljava/util/function/BiFunction;"), (0, .class_ 126), (0, u "jdk/internal/util/Preconditions$2"), (3, u "AIOOBE_FORMATTER"), (0, .class_ 132), (0, u "jdk/internal/util/Preconditions$3"), (3, u "IOOBE_FORMATTER"), (41, u "(IILjava/util/function/BiFunction;)I")] 15

def k20m0 : Method := { name := "<init>", desc := "()V", sig := { parameters := [], returnType := none }, accessFlags := 1, code := none }
def k20c1 : Code := { maxStack := 3, maxLocals := 3, code := jdk_41_method_11_code, exceptionTable := #[], attributes := #[] }
def k20m1 : Method := { name := "checkIndex", desc := "(IILjava/util/function/BiFunction;)I", sig := { parameters := [.int, .int, (.object "java/util/function/BiFunction")], returnType := some .int }, accessFlags := 9, code := some k20c1 }
/-- jdk/internal/util/Preconditions -/
def k20 : Class := { plain "jdk/internal/util/Preconditions" (some 0) with
  accessFlags := 33
  interfaces := #[]
  cf := some (fileOf pool20 24 #[.nestMembers #[55, 131, 125, 114]] #[{ accessFlags := 1, nameIndex := 5, descriptorIndex := 6, attributes := #[] }, { accessFlags := 9, nameIndex := 33, descriptorIndex := 178, attributes := #[] }] 33 2 #[] #[{ accessFlags := 25, nameIndex := 123, descriptorIndex := 124, attributes := #[] }, { accessFlags := 25, nameIndex := 130, descriptorIndex := 124, attributes := #[] }, { accessFlags := 25, nameIndex := 136, descriptorIndex := 124, attributes := #[] }])
  fields := #[{ name := "SIOOBE_FORMATTER", type := (.object "java/util/function/BiFunction"), accessFlags := 25, slot := 0, constantValue := 0 }, { name := "AIOOBE_FORMATTER", type := (.object "java/util/function/BiFunction"), accessFlags := 25, slot := 1, constantValue := 0 }, { name := "IOOBE_FORMATTER", type := (.object "java/util/function/BiFunction"), accessFlags := 25, slot := 2, constantValue := 0 }]
  methods := #[k20m0, k20m1]
  instanceTypes := #[]
  staticTypes := #[(.object "java/util/function/BiFunction"), (.object "java/util/function/BiFunction"), (.object "java/util/function/BiFunction")]
  resolved := Array.replicate 194 none
  statics := some 2 }

def pool21 : Array CpInfo := pool [(9, u "<init>"), (6, .class_ 18), (1, u "java/lang/Object"), (0, u "()V"), (1, .class_ 23), (1, u "jdk/internal/util/ArraysSupport"), (0, u "LOG2_ARRAY_LONG_INDEX_SCALE"), (0, u "I"), (2, u "U"), (0, u "Ljdk/internal/misc/Unsafe;"), (8, u "BIG_ENDIAN"), (0, u "Z"), (8, u "LOG2_BYTE_BIT_SIZE"), (4, u "LOG2_ARRAY_INT_INDEX_SCALE"), (54, u "JLA"), (0, u "Ljdk/internal/access/JavaLangAccess;"), (11, u "LOG2_ARRAY_BOOLEAN_INDEX_SCALE"), (9, u "LOG2_ARRAY_BYTE_INDEX_SCALE"), (5, u "LOG2_ARRAY_CHAR_INDEX_SCALE"), (5, u "LOG2_ARRAY_SHORT_INDEX_SCALE"), (18, u "LOG2_ARRAY_FLOAT_INDEX_SCALE"), (24, u "LOG2_ARRAY_DOUBLE_INDEX_SCALE"), (89, u "T_BOOLEAN"), (2, u "T_CHAR"), (1, u "T_FLOAT"), (1, u "T_DOUBLE"), (1, u "T_BYTE"), (1, u "T_SHORT"), (1, u "T_INT"), (1, u "T_LONG"), (1, u "SOFT_MAX_ARRAY_LENGTH")] 83

def k21m0 : Method := { name := "<init>", desc := "()V", sig := { parameters := [], returnType := none }, accessFlags := 2, code := none }
/-- jdk/internal/util/ArraysSupport -/
def k21 : Class := { plain "jdk/internal/util/ArraysSupport" (some 0) with
  accessFlags := 33
  interfaces := #[]
  cf := some (fileOf pool21 21 #[] #[{ accessFlags := 2, nameIndex := 9, descriptorIndex := 19, attributes := #[] }] 33 16 #[] #[{ accessFlags := 24, nameIndex := 28, descriptorIndex := 29, attributes := #[] }, { accessFlags := 26, nameIndex := 38, descriptorIndex := 39, attributes := #[] }, { accessFlags := 25, nameIndex := 121, descriptorIndex := 25, attributes := #[] }, { accessFlags := 25, nameIndex := 131, descriptorIndex := 25, attributes := #[] }, { accessFlags := 25, nameIndex := 137, descriptorIndex := 25, attributes := #[] }, { accessFlags := 25, nameIndex := 143, descriptorIndex := 25, attributes := #[] }, { accessFlags := 25, nameIndex := 53, descriptorIndex := 25, attributes := #[] }, { accessFlags := 25, nameIndex := 24, descriptorIndex := 25, attributes := #[] }, { accessFlags := 25, nameIndex := 162, descriptorIndex := 25, attributes := #[] }, { accessFlags := 25, nameIndex := 187, descriptorIndex := 25, attributes := #[] }, { accessFlags := 26, nameIndex := 48, descriptorIndex := 25, attributes := #[] }, { accessFlags := 25, nameIndex := 277, descriptorIndex := 25, attributes := #[] }, { accessFlags := 25, nameIndex := 280, descriptorIndex := 25, attributes := #[] }, { accessFlags := 25, nameIndex := 282, descriptorIndex := 25, attributes := #[] }, { accessFlags := 25, nameIndex := 284, descriptorIndex := 25, attributes := #[] }, { accessFlags := 25, nameIndex := 286, descriptorIndex := 25, attributes := #[] }, { accessFlags := 25, nameIndex := 288, descriptorIndex := 25, attributes := #[] }, { accessFlags := 25, nameIndex := 290, descriptorIndex := 25, attributes := #[] }, { accessFlags := 25, nameIndex := 292, descriptorIndex := 25, attributes := #[] }, { accessFlags := 26, nameIndex := 108, descriptorIndex := 109, attributes := #[] }, { accessFlags := 25, nameIndex := 294, descriptorIndex := 25, attributes := #[] }])
  fields := #[{ name := "U", type := (.object "jdk/internal/misc/Unsafe"), accessFlags := 24, slot := 0, constantValue := 0 }, { name := "BIG_ENDIAN", type := .boolean, accessFlags := 26, slot := 1, constantValue := 0 }, { name := "LOG2_ARRAY_BOOLEAN_INDEX_SCALE", type := .int, accessFlags := 25, slot := 2, constantValue := 0 }, { name := "LOG2_ARRAY_BYTE_INDEX_SCALE", type := .int, accessFlags := 25, slot := 3, constantValue := 0 }, { name := "LOG2_ARRAY_CHAR_INDEX_SCALE", type := .int, accessFlags := 25, slot := 4, constantValue := 0 }, { name := "LOG2_ARRAY_SHORT_INDEX_SCALE", type := .int, accessFlags := 25, slot := 5, constantValue := 0 }, { name := "LOG2_ARRAY_INT_INDEX_SCALE", type := .int, accessFlags := 25, slot := 6, constantValue := 0 }, { name := "LOG2_ARRAY_LONG_INDEX_SCALE", type := .int, accessFlags := 25, slot := 7, constantValue := 0 }, { name := "LOG2_ARRAY_FLOAT_INDEX_SCALE", type := .int, accessFlags := 25, slot := 8, constantValue := 0 }, { name := "LOG2_ARRAY_DOUBLE_INDEX_SCALE", type := .int, accessFlags := 25, slot := 9, constantValue := 0 }, { name := "LOG2_BYTE_BIT_SIZE", type := .int, accessFlags := 26, slot := 10, constantValue := 0 }, { name := "T_BOOLEAN", type := .int, accessFlags := 25, slot := 11, constantValue := 0 }, { name := "T_CHAR", type := .int, accessFlags := 25, slot := 12, constantValue := 0 }, { name := "T_FLOAT", type := .int, accessFlags := 25, slot := 13, constantValue := 0 }, { name := "T_DOUBLE", type := .int, accessFlags := 25, slot := 14, constantValue := 0 }, { name := "T_BYTE", type := .int, accessFlags := 25, slot := 15, constantValue := 0 }, { name := "T_SHORT", type := .int, accessFlags := 25, slot := 16, constantValue := 0 }, { name := "T_INT", type := .int, accessFlags := 25, slot := 17, constantValue := 0 }, { name := "T_LONG", type := .int, accessFlags := 25, slot := 18, constantValue := 0 }, { name := "JLA", type := (.object "jdk/internal/access/JavaLangAccess"), accessFlags := 26, slot := 19, constantValue := 0 }, { name := "SOFT_MAX_ARRAY_LENGTH", type := .int, accessFlags := 25, slot := 20, constantValue := 0 }]
  methods := #[k21m0]
  instanceTypes := #[]
  staticTypes := #[(.object "jdk/internal/misc/Unsafe"), .boolean, .int, .int, .int, .int, .int, .int, .int, .int, .int, .int, .int, .int, .int, .int, .int, .int, .int, (.object "jdk/internal/access/JavaLangAccess"), .int]
  resolved := Array.replicate 378 none
  statics := none }

def pool22 : Array CpInfo := pool [(1, u "java/lang/Cloneable"), (0, .class_ 1), (0, u "java/lang/Object"), (0, .class_ 3)] 3

/-- java/lang/Cloneable -/
def k22 : Class := { plain "java/lang/Cloneable" (some 0) with
  accessFlags := 1537
  interfaces := #[]
  cf := some (fileOf pool22 2 #[] #[] 1537 4 #[] #[])
  fields := #[]
  methods := #[]
  instanceTypes := #[]
  staticTypes := #[]
  resolved := Array.replicate 8 none
  statics := none }

/-- the primitive byte -/
def k23 : Class := { plain "byte" none with kind := .primitive 'B', accessFlags := 0x411 }
/-- [B -/
def k24 : Class := { plain "[B" (some 0) with kind := .array 23 .byte, interfaces := #[22, 4], accessFlags := 1041 }

/-- the primitive char -/
def k25 : Class := { plain "char" none with kind := .primitive 'C', accessFlags := 0x411 }
/-- [C -/
def k26 : Class := { plain "[C" (some 0) with kind := .array 25 .char, interfaces := #[22, 4], accessFlags := 1041 }

/-- the primitive int -/
def k27 : Class := { plain "int" none with kind := .primitive 'I', accessFlags := 0x411 }
/-- [I -/
def k28 : Class := { plain "[I" (some 0) with kind := .array 27 .int, interfaces := #[22, 4], accessFlags := 1041 }

def heap : Heap := #[{ cls := 6, slots := #[.ref 5, .ref 8, .ref 11, .null], vm := .statics 6 },
  { cls := 9, slots := #[.long 0, .int 1, .null, .int 0, .null, .int 0, .int 0], vm := .statics 9 },
  { cls := 20, slots := #[.null, .null, .null], vm := .statics 20 },
  { cls := 24, slots := #[.int 119, .int 111, .int 114, .int 107], vm := .none },
  { cls := 9, slots := #[.ref 3, .int 0, .int 0, .int 0], vm := .none },
  { cls := 6, slots := #[.null, .int 0, .int 0, .ref 4], vm := .none },
  { cls := 24, slots := #[.int 100, .int 101, .int 108, .int 97, .int 121], vm := .none },
  { cls := 9, slots := #[.ref 6, .int 0, .int 0, .int 0], vm := .none },
  { cls := 6, slots := #[.null, .int 1, .int 0, .ref 7], vm := .none },
  { cls := 24, slots := #[.int 112, .int 97, .int 114, .int 107, .int 101, .int 100], vm := .none },
  { cls := 9, slots := #[.ref 9, .int 0, .int 0, .int 0], vm := .none },
  { cls := 6, slots := #[.null, .int 2, .int 0, .ref 10], vm := .none }]
def classes : Array Class := #[k0, k1, k2, k3, k4, k5, k6, k7, k8, k9, k10, k11, k12, k13, k14, k15, k16, k17, k18, k19, k20, k21, k22, k23, k24, k25, k26, k27, k28]
def interned : List (Array UInt16 × Addr) := []
def slotsUsed : Nat := 53
def theMethod : MethodId := ⟨1, 1⟩
def args0 : Array Value := #[.int 5, .int 5, .int 5, .int 5, .int 5]
def aboutOver (below : List Frame) : State where
  vm := { classes := classes, interned := interned.toArray }
  heap := heap
  slotsUsed := slotsUsed
  threads := #[{ frames := .invoking theMethod args0 :: below }]
def below0 : List Frame := [.native { method := ⟨0, 0⟩, args := #[] }]
def about1 : State := aboutOver below0
def p0 : Program := .bare "" "" ""
def e0 : Env := launch0.env 0 0 0
theorem w_frames : about1.frames = Frame.invoking theMethod args0 :: below0 := rfl
set_option maxRecDepth 65536 in
theorem w_args : argsFit about1.vm theMethod args0 = true := by decide +kernel
set_option maxRecDepth 65536 in
theorem w_heap : heapFits about1 = true := by decide +kernel
set_option maxRecDepth 65536 in
theorem w_runnable : about1.curStatus? = some .runnable := by decide +kernel
set_option maxRecDepth 65536 in
theorem w_alone : about1.alone = true := by decide +kernel
set_option maxRecDepth 65536 in
theorem w_named : about1.methodNamed? x = some theMethod := by decide +kernel
set_option maxRecDepth 65536 in
theorem w_hears : about1.hears theMethod below0 = true := by decide +kernel
set_option maxRecDepth 65536 in
theorem w_ripe : about1.ripe theMethod args0 below0 = true := by decide +kernel
theorem w_running : about1.status = .running := rfl
set_option maxRecDepth 65536 in
theorem w_room : about1.hasRoom e0.platform room_1 = true :=
  launch0.hasRoom_least _ room_1 (by decide +kernel) (by decide +kernel) (by decide +kernel) (by decide +kernel) (by decide +kernel) (by decide +kernel)
theorem allAtoms_all (ts : List Jvm.Cond) (a : Array Jvm.Value) (st : Jvm.State) : (allAtoms ts).before a st = ts.all (fun c => c.before a st) := by
  induction ts with
  | nil => rfl
  | cons c t ih =>
    show (Jvm.Cond.and c (allAtoms t)).before a st = _
    rw [Jvm.Cond.before_and, ih, List.all_cons]
def words1 : List Jvm.Cond := Jvm.Cond.code x code maxLocals ret :: tables_1
/-- a 'code' word, met by the world's own term for the bytes: nothing is compared byte by byte -/
theorem code_word {y : MethodName} {bytes : ByteArray} {mx : Nat} {rt : Option FieldType} {a : Array Value} {s : State} {m : MethodId} {meth : Method} {c : Code} (h1 : s.methodNamed? y = some m) (h2 : s.vm.method? m = some meth) (h3 : meth.code = some c) (h4 : c.code = bytes)
    (h5 : (c.maxLocals == mx && c.exceptionTable.isEmpty && decide (c.maxStack ≤ mostOperands) && decide (meth.sig.returnType = rt) && !meth.locks && decide (parseMethodDescriptor y.desc = some meth.sig)) = true) : (Jvm.Cond.code y bytes mx rt).before a s = true := by
  simp only [Bool.and_eq_true, beq_iff_eq, Bool.not_eq_true', decide_eq_true_eq] at h5
  obtain ⟨⟨⟨⟨⟨g1, g2⟩, g3⟩, g4⟩, g5⟩, g6⟩ := h5
  simp [Cond.before, Cond.holds, Cond.value, h1, h2, h3, h4, g1, g2, g3, g4, g5, g6]
def isCode : Jvm.Cond → Bool
  | .code _ _ _ _ => true
  | _ => false
theorem all_split {L : List Jvm.Cond} {P : Jvm.Cond → Bool} (h1 : L.all (fun c => isCode c || P c) = true) (h2 : ∀ c ∈ L.filter isCode, P c = true) : L.all P = true := by
  refine List.all_eq_true.mpr fun c hc => ?_
  have h := List.all_eq_true.mp h1 c hc
  rcases Bool.eq_false_or_eq_true (isCode c) with hi | hi
  · exact h2 c (List.mem_filter.mpr ⟨hc, hi⟩)
  · simpa [hi] using h
set_option maxRecDepth 65536 in
theorem w_c0 : (Jvm.Cond.code x code maxLocals ret).before args0 about1 = true := code_word (m := ⟨1, 1⟩) (meth := k1m1) (c := k1c1) (by decide +kernel) rfl rfl rfl (by decide +kernel)
set_option maxRecDepth 65536 in
theorem w_c1 : (Jvm.Cond.code ({ cls := "java/lang/String", name := "<init>", desc := "([C)V" } : Jvm.MethodName) jdk_42_method_3_code (2 : Nat) (Option.none : Option Jvm.ClassFile.FieldType)).before args0 about1 = true := code_word (m := ⟨9, 1⟩) (meth := k9m1) (c := k9c1) (by decide +kernel) rfl rfl rfl (by decide +kernel)
set_option maxRecDepth 65536 in
theorem w_c2 : (Jvm.Cond.code ({ cls := "java/lang/String", name := "<init>", desc := "([CIILjava/lang/Void;)V" } : Jvm.MethodName) jdk_42_method_149_code (6 : Nat) (Option.none : Option Jvm.ClassFile.FieldType)).before args0 about1 = true := code_word (m := ⟨9, 6⟩) (meth := k9m6) (c := k9c6) (by decide +kernel) rfl rfl rfl (by decide +kernel)
set_option maxRecDepth 65536 in
theorem w_c3 : (Jvm.Cond.code ({ cls := "java/lang/Object", name := "<init>", desc := "()V" } : Jvm.MethodName) object_method_1_code (1 : Nat) (Option.none : Option Jvm.ClassFile.FieldType)).before args0 about1 = true := code_word (m := ⟨0, 0⟩) (meth := k0m0) (c := k0c0) (by decide +kernel) rfl rfl rfl (by decide +kernel)
set_option maxRecDepth 65536 in
theorem w_c4 : (Jvm.Cond.code ({ cls := "java/lang/StringUTF16", name := "compress", desc := "([CII)[B" } : Jvm.MethodName) jdk_52_method_16_code (6 : Nat) (Option.some (Jvm.ClassFile.FieldType.array Jvm.ClassFile.FieldType.byte))).before args0 about1 = true := code_word (m := ⟨10, 2⟩) (meth := k10m2) (c := k10c2) (by decide +kernel) rfl rfl rfl (by decide +kernel)
set_option maxRecDepth 65536 in
theorem w_c5 : (Jvm.Cond.code ({ cls := "java/lang/StringUTF16", name := "compress", desc := "([CI[BII)I" } : Jvm.MethodName) jdk_52_method_21_code (7 : Nat) (Option.some Jvm.ClassFile.FieldType.int)).before args0 about1 = true := code_word (m := ⟨10, 3⟩) (meth := k10m3) (c := k10c3) (by decide +kernel) rfl rfl rfl (by decide +kernel)
set_option maxRecDepth 65536 in
theorem w_c6 : (Jvm.Cond.code ({ cls := "java/lang/StringUTF16", name := "coderFromArrayLen", desc := "([BI)B" } : Jvm.MethodName) jdk_52_method_15_code (2 : Nat) (Option.some Jvm.ClassFile.FieldType.byte)).before args0 about1 = true := code_word (m := ⟨10, 1⟩) (meth := k10m1) (c := k10c1) (by decide +kernel) rfl rfl rfl (by decide +kernel)
set_option maxRecDepth 65536 in
theorem w_c7 : (Jvm.Cond.code ({ cls := "com/example/gentle_retry/gentleretry/rabbitmq/SubscriptionQueue", name := "<init>", desc := "(Lcom/example/gentle_retry/gentleretry/rabbitmq/SubscriptionQueue$Role;Ljava/lang/String;)V" } : Jvm.MethodName) prog_5_method_1_code (3 : Nat) (Option.none : Option Jvm.ClassFile.FieldType)).before args0 about1 = true := code_word (m := ⟨11, 0⟩) (meth := k11m0) (c := k11c0) (by decide +kernel) rfl rfl rfl (by decide +kernel)
set_option maxRecDepth 65536 in
theorem w_c8 : (Jvm.Cond.code ({ cls := "java/util/Objects", name := "requireNonNull", desc := "(Ljava/lang/Object;Ljava/lang/String;)Ljava/lang/Object;" } : Jvm.MethodName) jdk_31_method_11_code (2 : Nat) (Option.some (Jvm.ClassFile.FieldType.object "java/lang/Object"))).before args0 about1 = true := code_word (m := ⟨12, 1⟩) (meth := k12m1) (c := k12c1) (by decide +kernel) rfl rfl rfl (by decide +kernel)
set_option maxRecDepth 65536 in
theorem w_c9 : (Jvm.Cond.code ({ cls := "com/example/gentle_retry/gentleretry/rabbitmq/SubscriptionQueue", name := "toString", desc := "()Ljava/lang/String;" } : Jvm.MethodName) prog_5_method_12_code (1 : Nat) (Option.some (Jvm.ClassFile.FieldType.object "java/lang/String"))).before args0 about1 = true := code_word (m := ⟨11, 1⟩) (meth := k11m1) (c := k11c1) (by decide +kernel) rfl rfl rfl (by decide +kernel)
set_option maxRecDepth 65536 in
theorem w_c10 : (Jvm.Cond.code ({ cls := "java/lang/StringBuilder", name := "<init>", desc := "()V" } : Jvm.MethodName) jdk_67_method_1_code (1 : Nat) (Option.none : Option Jvm.ClassFile.FieldType)).before args0 about1 = true := code_word (m := ⟨15, 0⟩) (meth := k15m0) (c := k15c0) (by decide +kernel) rfl rfl rfl (by decide +kernel)
set_option maxRecDepth 65536 in
theorem w_c11 : (Jvm.Cond.code ({ cls := "java/lang/AbstractStringBuilder", name := "<init>", desc := "(I)V" } : Jvm.MethodName) jdk_68_method_2_code (2 : Nat) (Option.none : Option Jvm.ClassFile.FieldType)).before args0 about1 = true := code_word (m := ⟨14, 1⟩) (meth := k14m1) (c := k14c1) (by decide +kernel) rfl rfl rfl (by decide +kernel)
set_option maxRecDepth 65536 in
theorem w_c12 : (Jvm.Cond.code ({ cls := "java/lang/StringBuilder", name := "append", desc := "(Ljava/lang/String;)Ljava/lang/StringBuilder;" } : Jvm.MethodName) jdk_67_method_7_code (2 : Nat) (Option.some (Jvm.ClassFile.FieldType.object "java/lang/StringBuilder"))).before args0 about1 = true := code_word (m := ⟨15, 1⟩) (meth := k15m1) (c := k15c1) (by decide +kernel) rfl rfl rfl (by decide +kernel)
set_option maxRecDepth 65536 in
theorem w_c13 : (Jvm.Cond.code ({ cls := "java/lang/AbstractStringBuilder", name := "append", desc := "(Ljava/lang/String;)Ljava/lang/AbstractStringBuilder;" } : Jvm.MethodName) jdk_68_method_22_code (3 : Nat) (Option.some (Jvm.ClassFile.FieldType.object "java/lang/AbstractStringBuilder"))).before args0 about1 = true := code_word (m := ⟨14, 4⟩) (meth := k14m4) (c := k14c4) (by decide +kernel) rfl rfl rfl (by decide +kernel)
set_option maxRecDepth 65536 in
theorem w_c14 : (Jvm.Cond.code ({ cls := "java/lang/String", name := "length", desc := "()I" } : Jvm.MethodName) jdk_42_method_54_code (1 : Nat) (Option.some Jvm.ClassFile.FieldType.int)).before args0 about1 = true := code_word (m := ⟨9, 3⟩) (meth := k9m3) (c := k9c3) (by decide +kernel) rfl rfl rfl (by decide +kernel)
set_option maxRecDepth 65536 in
theorem w_c15 : (Jvm.Cond.code ({ cls := "java/lang/String", name := "coder", desc := "()B" } : Jvm.MethodName) jdk_42_method_152_code (1 : Nat) (Option.some Jvm.ClassFile.FieldType.byte)).before args0 about1 = true := code_word (m := ⟨9, 8⟩) (meth := k9m8) (c := k9c8) (by decide +kernel) rfl rfl rfl (by decide +kernel)
set_option maxRecDepth 65536 in
theorem w_c16 : (Jvm.Cond.code ({ cls := "java/lang/AbstractStringBuilder", name := "ensureCapacityInternal", desc := "(I)V" } : Jvm.MethodName) jdk_68_method_9_code (3 : Nat) (Option.none : Option Jvm.ClassFile.FieldType)).before args0 about1 = true := code_word (m := ⟨14, 3⟩) (meth := k14m3) (c := k14c3) (by decide +kernel) rfl rfl rfl (by decide +kernel)
set_option maxRecDepth 65536 in
theorem w_c17 : (Jvm.Cond.code ({ cls := "java/lang/AbstractStringBuilder", name := "putStringAt", desc := "(ILjava/lang/String;)V" } : Jvm.MethodName) jdk_68_method_73_code (3 : Nat) (Option.none : Option Jvm.ClassFile.FieldType)).before args0 about1 = true := code_word (m := ⟨14, 8⟩) (meth := k14m8) (c := k14c8) (by decide +kernel) rfl rfl rfl (by decide +kernel)
set_option maxRecDepth 65536 in
theorem w_c18 : (Jvm.Cond.code ({ cls := "java/lang/AbstractStringBuilder", name := "inflateIfNeededFor", desc := "(Ljava/lang/String;)V" } : Jvm.MethodName) jdk_68_method_71_code (2 : Nat) (Option.none : Option Jvm.ClassFile.FieldType)).before args0 about1 = true := code_word (m := ⟨14, 7⟩) (meth := k14m7) (c := k14c7) (by decide +kernel) rfl rfl rfl (by decide +kernel)
set_option maxRecDepth 65536 in
theorem w_c19 : (Jvm.Cond.code ({ cls := "java/lang/String", name := "getBytes", desc := "([BIB)V" } : Jvm.MethodName) jdk_42_method_147_code (4 : Nat) (Option.none : Option Jvm.ClassFile.FieldType)).before args0 about1 = true := code_word (m := ⟨9, 5⟩) (meth := k9m5) (c := k9c5) (by decide +kernel) rfl rfl rfl (by decide +kernel)
set_option maxRecDepth 65536 in
theorem w_c20 : (Jvm.Cond.code ({ cls := "java/lang/StringBuilder", name := "toString", desc := "()Ljava/lang/String;" } : Jvm.MethodName) jdk_67_method_42_code (1 : Nat) (Option.some (Jvm.ClassFile.FieldType.object "java/lang/String"))).before args0 about1 = true := code_word (m := ⟨15, 2⟩) (meth := k15m2) (c := k15c2) (by decide +kernel) rfl rfl rfl (by decide +kernel)
set_option maxRecDepth 65536 in
theorem w_c21 : (Jvm.Cond.code ({ cls := "java/lang/String", name := "<init>", desc := "(Ljava/lang/StringBuilder;)V" } : Jvm.MethodName) jdk_42_method_53_code (2 : Nat) (Option.none : Option Jvm.ClassFile.FieldType)).before args0 about1 = true := code_word (m := ⟨9, 2⟩) (meth := k9m2) (c := k9c2) (by decide +kernel) rfl rfl rfl (by decide +kernel)
set_option maxRecDepth 65536 in
theorem w_c22 : (Jvm.Cond.code ({ cls := "java/lang/String", name := "<init>", desc := "(Ljava/lang/AbstractStringBuilder;Ljava/lang/Void;)V" } : Jvm.MethodName) jdk_42_method_150_code (5 : Nat) (Option.none : Option Jvm.ClassFile.FieldType)).before args0 about1 = true := code_word (m := ⟨9, 7⟩) (meth := k9m7) (c := k9c7) (by decide +kernel) rfl rfl rfl (by decide +kernel)
set_option maxRecDepth 65536 in
theorem w_c23 : (Jvm.Cond.code ({ cls := "java/lang/AbstractStringBuilder", name := "getValue", desc := "()[B" } : Jvm.MethodName) jdk_68_method_64_code (1 : Nat) (Option.some (Jvm.ClassFile.FieldType.array Jvm.ClassFile.FieldType.byte))).before args0 about1 = true := code_word (m := ⟨14, 5⟩) (meth := k14m5) (c := k14c5) (by decide +kernel) rfl rfl rfl (by decide +kernel)
set_option maxRecDepth 65536 in
theorem w_c24 : (Jvm.Cond.code ({ cls := "java/lang/StringBuilder", name := "length", desc := "()I" } : Jvm.MethodName) jdk_67_method_93_code (1 : Nat) (Option.some Jvm.ClassFile.FieldType.int)).before args0 about1 = true := code_word (m := ⟨15, 3⟩) (meth := k15m3) (c := k15c3) (by decide +kernel) rfl rfl rfl (by decide +kernel)
set_option maxRecDepth 65536 in
theorem w_c25 : (Jvm.Cond.code ({ cls := "java/lang/AbstractStringBuilder", name := "length", desc := "()I" } : Jvm.MethodName) jdk_68_method_6_code (1 : Nat) (Option.some Jvm.ClassFile.FieldType.int)).before args0 about1 = true := code_word (m := ⟨14, 2⟩) (meth := k14m2) (c := k14c2) (by decide +kernel) rfl rfl rfl (by decide +kernel)
set_option maxRecDepth 65536 in
theorem w_c26 : (Jvm.Cond.code ({ cls := "java/lang/AbstractStringBuilder", name := "isLatin1", desc := "()Z" } : Jvm.MethodName) jdk_68_method_68_code (1 : Nat) (Option.some Jvm.ClassFile.FieldType.boolean)).before args0 about1 = true := code_word (m := ⟨14, 6⟩) (meth := k14m6) (c := k14c6) (by decide +kernel) rfl rfl rfl (by decide +kernel)
set_option maxRecDepth 65536 in
theorem w_c27 : (Jvm.Cond.code ({ cls := "java/util/Arrays", name := "copyOfRange", desc := "([BII)[B" } : Jvm.MethodName) jdk_65_method_132_code (3 : Nat) (Option.some (Jvm.ClassFile.FieldType.array Jvm.ClassFile.FieldType.byte))).before args0 about1 = true := code_word (m := ⟨17, 2⟩) (meth := k17m2) (c := k17c2) (by decide +kernel) rfl rfl rfl (by decide +kernel)
set_option maxRecDepth 65536 in
theorem w_c28 : (Jvm.Cond.code ({ cls := "java/util/Arrays", name := "copyOfRangeByte", desc := "([BII)[B" } : Jvm.MethodName) jdk_65_method_133_code (5 : Nat) (Option.some (Jvm.ClassFile.FieldType.array Jvm.ClassFile.FieldType.byte))).before args0 about1 = true := code_word (m := ⟨17, 3⟩) (meth := k17m3) (c := k17c3) (by decide +kernel) rfl rfl rfl (by decide +kernel)
set_option maxRecDepth 65536 in
theorem w_c29 : (Jvm.Cond.code ({ cls := "java/util/Arrays", name := "checkLength", desc := "(II)V" } : Jvm.MethodName) jdk_65_method_131_code (2 : Nat) (Option.none : Option Jvm.ClassFile.FieldType)).before args0 about1 = true := code_word (m := ⟨17, 1⟩) (meth := k17m1) (c := k17c1) (by decide +kernel) rfl rfl rfl (by decide +kernel)
set_option maxRecDepth 65536 in
theorem w_c30 : (Jvm.Cond.code ({ cls := "java/lang/Math", name := "min", desc := "(II)I" } : Jvm.MethodName) jdk_29_method_69_code (2 : Nat) (Option.some Jvm.ClassFile.FieldType.int)).before args0 about1 = true := code_word (m := ⟨18, 1⟩) (meth := k18m1) (c := k18c1) (by decide +kernel) rfl rfl rfl (by decide +kernel)
set_option maxRecDepth 65536 in
theorem w_c31 : (Jvm.Cond.code ({ cls := "com/example/gentle_retry/gentleretry/rabbitmq/SubscriptionQueueToStringPinLaw", name := "prefix", desc := "(Ljava/lang/String;Ljava/lang/String;)Z" } : Jvm.MethodName) method_3_code (4 : Nat) (Option.some Jvm.ClassFile.FieldType.boolean)).before args0 about1 = true := code_word (m := ⟨1, 2⟩) (meth := k1m2) (c := k1c2) (by decide +kernel) rfl rfl rfl (by decide +kernel)
set_option maxRecDepth 65536 in
theorem w_c32 : (Jvm.Cond.code ({ cls := "java/lang/String", name := "charAt", desc := "(I)C" } : Jvm.MethodName) jdk_42_method_56_code (2 : Nat) (Option.some Jvm.ClassFile.FieldType.char)).before args0 about1 = true := code_word (m := ⟨9, 4⟩) (meth := k9m4) (c := k9c4) (by decide +kernel) rfl rfl rfl (by decide +kernel)
set_option maxRecDepth 65536 in
theorem w_c33 : (Jvm.Cond.code ({ cls := "java/lang/String", name := "isLatin1", desc := "()Z" } : Jvm.MethodName) jdk_42_method_154_code (1 : Nat) (Option.some Jvm.ClassFile.FieldType.boolean)).before args0 about1 = true := code_word (m := ⟨9, 9⟩) (meth := k9m9) (c := k9c9) (by decide +kernel) rfl rfl rfl (by decide +kernel)
set_option maxRecDepth 65536 in
theorem w_c34 : (Jvm.Cond.code ({ cls := "java/lang/StringLatin1", name := "charAt", desc := "([BI)C" } : Jvm.MethodName) jdk_43_method_2_code (2 : Nat) (Option.some Jvm.ClassFile.FieldType.char)).before args0 about1 = true := code_word (m := ⟨19, 1⟩) (meth := k19m1) (c := k19c1) (by decide +kernel) rfl rfl rfl (by decide +kernel)
set_option maxRecDepth 65536 in
theorem w_c35 : (Jvm.Cond.code ({ cls := "java/lang/String", name := "checkIndex", desc := "(II)V" } : Jvm.MethodName) jdk_42_method_155_code (2 : Nat) (Option.none : Option Jvm.ClassFile.FieldType)).before args0 about1 = true := code_word (m := ⟨9, 10⟩) (meth := k9m10) (c := k9c10) (by decide +kernel) rfl rfl rfl (by decide +kernel)
set_option maxRecDepth 65536 in
theorem w_c36 : (Jvm.Cond.code ({ cls := "jdk/internal/util/Preconditions", name := "checkIndex", desc := "(IILjava/util/function/BiFunction;)I" } : Jvm.MethodName) jdk_41_method_11_code (3 : Nat) (Option.some Jvm.ClassFile.FieldType.int)).before args0 about1 = true := code_word (m := ⟨20, 1⟩) (meth := k20m1) (c := k20c1) (by decide +kernel) rfl rfl rfl (by decide +kernel)
def codes1 : List Jvm.Cond := [Jvm.Cond.code x code maxLocals ret, Jvm.Cond.code ({ cls := "java/lang/String", name := "<init>", desc := "([C)V" } : Jvm.MethodName) jdk_42_method_3_code (2 : Nat) (Option.none : Option Jvm.ClassFile.FieldType), Jvm.Cond.code ({ cls := "java/lang/String", name := "<init>", desc := "([CIILjava/lang/Void;)V" } : Jvm.MethodName) jdk_42_method_149_code (6 : Nat) (Option.none : Option Jvm.ClassFile.FieldType), Jvm.Cond.code ({ cls := "java/lang/Object", name := "<init>", desc := "()V" } : Jvm.MethodName) object_method_1_code (1 : Nat) (Option.none : Option Jvm.ClassFile.FieldType), Jvm.Cond.code ({ cls := "java/lang/StringUTF16", name := "compress", desc := "([CII)[B" } : Jvm.MethodName) jdk_52_method_16_code (6 : Nat) (Option.some (Jvm.ClassFile.FieldType.array Jvm.ClassFile.FieldType.byte)), Jvm.Cond.code ({ cls := "java/lang/StringUTF16", name := "compress", desc := "([CI[BII)I" } : Jvm.MethodName) jdk_52_method_21_code (7 : Nat) (Option.some Jvm.ClassFile.FieldType.int), Jvm.Cond.code ({ cls := "java/lang/StringUTF16", name := "coderFromArrayLen", desc := "([BI)B" } : Jvm.MethodName) jdk_52_method_15_code (2 : Nat) (Option.some Jvm.ClassFile.FieldType.byte), Jvm.Cond.code ({ cls := "com/example/gentle_retry/gentleretry/rabbitmq/SubscriptionQueue", name := "<init>", desc := "(Lcom/example/gentle_retry/gentleretry/rabbitmq/SubscriptionQueue$Role;Ljava/lang/String;)V" } : Jvm.MethodName) prog_5_method_1_code (3 : Nat) (Option.none : Option Jvm.ClassFile.FieldType), Jvm.Cond.code ({ cls := "java/util/Objects", name := "requireNonNull", desc := "(Ljava/lang/Object;Ljava/lang/String;)Ljava/lang/Object;" } : Jvm.MethodName) jdk_31_method_11_code (2 : Nat) (Option.some (Jvm.ClassFile.FieldType.object "java/lang/Object")), Jvm.Cond.code ({ cls := "com/example/gentle_retry/gentleretry/rabbitmq/SubscriptionQueue", name := "toString", desc := "()Ljava/lang/String;" } : Jvm.MethodName) prog_5_method_12_code (1 : Nat) (Option.some (Jvm.ClassFile.FieldType.object "java/lang/String")), Jvm.Cond.code ({ cls := "java/lang/StringBuilder", name := "<init>", desc := "()V" } : Jvm.MethodName) jdk_67_method_1_code (1 : Nat) (Option.none : Option Jvm.ClassFile.FieldType), Jvm.Cond.code ({ cls := "java/lang/AbstractStringBuilder", name := "<init>", desc := "(I)V" } : Jvm.MethodName) jdk_68_method_2_code (2 : Nat) (Option.none : Option Jvm.ClassFile.FieldType), Jvm.Cond.code ({ cls := "java/lang/StringBuilder", name := "append", desc := "(Ljava/lang/String;)Ljava/lang/StringBuilder;" } : Jvm.MethodName) jdk_67_method_7_code (2 : Nat) (Option.some (Jvm.ClassFile.FieldType.object "java/lang/StringBuilder")), Jvm.Cond.code ({ cls := "java/lang/AbstractStringBuilder", name := "append", desc := "(Ljava/lang/String;)Ljava/lang/AbstractStringBuilder;" } : Jvm.MethodName) jdk_68_method_22_code (3 : Nat) (Option.some (Jvm.ClassFile.FieldType.object "java/lang/AbstractStringBuilder")), Jvm.Cond.code ({ cls := "java/lang/String", name := "length", desc := "()I" } : Jvm.MethodName) jdk_42_method_54_code (1 : Nat) (Option.some Jvm.ClassFile.FieldType.int), Jvm.Cond.code ({ cls := "java/lang/String", name := "coder", desc := "()B" } : Jvm.MethodName) jdk_42_method_152_code (1 : Nat) (Option.some Jvm.ClassFile.FieldType.byte), Jvm.Cond.code ({ cls := "java/lang/AbstractStringBuilder", name := "ensureCapacityInternal", desc := "(I)V" } : Jvm.MethodName) jdk_68_method_9_code (3 : Nat) (Option.none : Option Jvm.ClassFile.FieldType), Jvm.Cond.code ({ cls := "java/lang/AbstractStringBuilder", name := "putStringAt", desc := "(ILjava/lang/String;)V" } : Jvm.MethodName) jdk_68_method_73_code (3 : Nat) (Option.none : Option Jvm.ClassFile.FieldType), Jvm.Cond.code ({ cls := "java/lang/AbstractStringBuilder", name := "inflateIfNeededFor", desc := "(Ljava/lang/String;)V" } : Jvm.MethodName) jdk_68_method_71_code (2 : Nat) (Option.none : Option Jvm.ClassFile.FieldType), Jvm.Cond.code ({ cls := "java/lang/String", name := "getBytes", desc := "([BIB)V" } : Jvm.MethodName) jdk_42_method_147_code (4 : Nat) (Option.none : Option Jvm.ClassFile.FieldType), Jvm.Cond.code ({ cls := "java/lang/StringBuilder", name := "toString", desc := "()Ljava/lang/String;" } : Jvm.MethodName) jdk_67_method_42_code (1 : Nat) (Option.some (Jvm.ClassFile.FieldType.object "java/lang/String")), Jvm.Cond.code ({ cls := "java/lang/String", name := "<init>", desc := "(Ljava/lang/StringBuilder;)V" } : Jvm.MethodName) jdk_42_method_53_code (2 : Nat) (Option.none : Option Jvm.ClassFile.FieldType), Jvm.Cond.code ({ cls := "java/lang/String", name := "<init>", desc := "(Ljava/lang/AbstractStringBuilder;Ljava/lang/Void;)V" } : Jvm.MethodName) jdk_42_method_150_code (5 : Nat) (Option.none : Option Jvm.ClassFile.FieldType), Jvm.Cond.code ({ cls := "java/lang/AbstractStringBuilder", name := "getValue", desc := "()[B" } : Jvm.MethodName) jdk_68_method_64_code (1 : Nat) (Option.some (Jvm.ClassFile.FieldType.array Jvm.ClassFile.FieldType.byte)), Jvm.Cond.code ({ cls := "java/lang/StringBuilder", name := "length", desc := "()I" } : Jvm.MethodName) jdk_67_method_93_code (1 : Nat) (Option.some Jvm.ClassFile.FieldType.int), Jvm.Cond.code ({ cls := "java/lang/AbstractStringBuilder", name := "length", desc := "()I" } : Jvm.MethodName) jdk_68_method_6_code (1 : Nat) (Option.some Jvm.ClassFile.FieldType.int), Jvm.Cond.code ({ cls := "java/lang/AbstractStringBuilder", name := "isLatin1", desc := "()Z" } : Jvm.MethodName) jdk_68_method_68_code (1 : Nat) (Option.some Jvm.ClassFile.FieldType.boolean), Jvm.Cond.code ({ cls := "java/util/Arrays", name := "copyOfRange", desc := "([BII)[B" } : Jvm.MethodName) jdk_65_method_132_code (3 : Nat) (Option.some (Jvm.ClassFile.FieldType.array Jvm.ClassFile.FieldType.byte)), Jvm.Cond.code ({ cls := "java/util/Arrays", name := "copyOfRangeByte", desc := "([BII)[B" } : Jvm.MethodName) jdk_65_method_133_code (5 : Nat) (Option.some (Jvm.ClassFile.FieldType.array Jvm.ClassFile.FieldType.byte)), Jvm.Cond.code ({ cls := "java/util/Arrays", name := "checkLength", desc := "(II)V" } : Jvm.MethodName) jdk_65_method_131_code (2 : Nat) (Option.none : Option Jvm.ClassFile.FieldType), Jvm.Cond.code ({ cls := "java/lang/Math", name := "min", desc := "(II)I" } : Jvm.MethodName) jdk_29_method_69_code (2 : Nat) (Option.some Jvm.ClassFile.FieldType.int), Jvm.Cond.code ({ cls := "com/example/gentle_retry/gentleretry/rabbitmq/SubscriptionQueueToStringPinLaw", name := "prefix", desc := "(Ljava/lang/String;Ljava/lang/String;)Z" } : Jvm.MethodName) method_3_code (4 : Nat) (Option.some Jvm.ClassFile.FieldType.boolean), Jvm.Cond.code ({ cls := "java/lang/String", name := "charAt", desc := "(I)C" } : Jvm.MethodName) jdk_42_method_56_code (2 : Nat) (Option.some Jvm.ClassFile.FieldType.char), Jvm.Cond.code ({ cls := "java/lang/String", name := "isLatin1", desc := "()Z" } : Jvm.MethodName) jdk_42_method_154_code (1 : Nat) (Option.some Jvm.ClassFile.FieldType.boolean), Jvm.Cond.code ({ cls := "java/lang/StringLatin1", name := "charAt", desc := "([BI)C" } : Jvm.MethodName) jdk_43_method_2_code (2 : Nat) (Option.some Jvm.ClassFile.FieldType.char), Jvm.Cond.code ({ cls := "java/lang/String", name := "checkIndex", desc := "(II)V" } : Jvm.MethodName) jdk_42_method_155_code (2 : Nat) (Option.none : Option Jvm.ClassFile.FieldType), Jvm.Cond.code ({ cls := "jdk/internal/util/Preconditions", name := "checkIndex", desc := "(IILjava/util/function/BiFunction;)I" } : Jvm.MethodName) jdk_41_method_11_code (3 : Nat) (Option.some Jvm.ClassFile.FieldType.int)]
set_option maxRecDepth 65536 in
theorem codes_eq : words1.filter isCode = codes1 := rfl
theorem w_codes : ∀ c ∈ words1.filter isCode, c.before args0 about1 = true := by
  rw [codes_eq]
  intro c hc
  simp only [codes1, List.mem_cons, List.not_mem_nil, or_false] at hc
  rcases hc with rfl | rfl | rfl | rfl | rfl | rfl | rfl | rfl | rfl | rfl | rfl | rfl | rfl | rfl | rfl | rfl | rfl | rfl | rfl | rfl | rfl | rfl | rfl | rfl | rfl | rfl | rfl | rfl | rfl | rfl | rfl | rfl | rfl | rfl | rfl | rfl | rfl
  · exact w_c0
  · exact w_c1
  · exact w_c2
  · exact w_c3
  · exact w_c4
  · exact w_c5
  · exact w_c6
  · exact w_c7
  · exact w_c8
  · exact w_c9
  · exact w_c10
  · exact w_c11
  · exact w_c12
  · exact w_c13
  · exact w_c14
  · exact w_c15
  · exact w_c16
  · exact w_c17
  · exact w_c18
  · exact w_c19
  · exact w_c20
  · exact w_c21
  · exact w_c22
  · exact w_c23
  · exact w_c24
  · exact w_c25
  · exact w_c26
  · exact w_c27
  · exact w_c28
  · exact w_c29
  · exact w_c30
  · exact w_c31
  · exact w_c32
  · exact w_c33
  · exact w_c34
  · exact w_c35
  · exact w_c36
set_option maxRecDepth 65536 in
theorem w_t1 : (words1.take 24).all (fun c => isCode c || c.before args0 about1) = true := by decide +kernel
set_option maxRecDepth 65536 in
theorem w_t2 : ((words1.drop 24).take 24).all (fun c => isCode c || c.before args0 about1) = true := by decide +kernel
set_option maxRecDepth 65536 in
theorem w_t3 : (((words1.drop 24).drop 24).take 24).all (fun c => isCode c || c.before args0 about1) = true := by decide +kernel
set_option maxRecDepth 65536 in
theorem w_t4 : ((((words1.drop 24).drop 24).drop 24).take 24).all (fun c => isCode c || c.before args0 about1) = true := by decide +kernel
set_option maxRecDepth 65536 in
theorem w_t5 : (((((words1.drop 24).drop 24).drop 24).drop 24).take 24).all (fun c => isCode c || c.before args0 about1) = true := by decide +kernel
set_option maxRecDepth 65536 in
theorem w_t6 : ((((((words1.drop 24).drop 24).drop 24).drop 24).drop 24).take 24).all (fun c => isCode c || c.before args0 about1) = true := by decide +kernel
set_option maxRecDepth 65536 in
theorem w_t7 : (((((((words1.drop 24).drop 24).drop 24).drop 24).drop 24).drop 24).take 24).all (fun c => isCode c || c.before args0 about1) = true := by decide +kernel
set_option maxRecDepth 65536 in
theorem w_t8 : ((((((((words1.drop 24).drop 24).drop 24).drop 24).drop 24).drop 24).drop 24).take 24).all (fun c => isCode c || c.before args0 about1) = true := by decide +kernel
set_option maxRecDepth 65536 in
theorem w_t9 : ((((((((words1.drop 24).drop 24).drop 24).drop 24).drop 24).drop 24).drop 24).drop 24).all (fun c => isCode c || c.before args0 about1) = true := by decide +kernel
theorem w_tables : (allAtoms (Jvm.Cond.code x code maxLocals ret :: tables_1)).before args0 about1 = true := by
  rw [allAtoms_all]
  show words1.all (fun c => c.before args0 about1) = true
  refine all_split ?_ w_codes
  rw [← List.take_append_drop 24 words1, List.all_append, w_t1, ← List.take_append_drop 24 (words1.drop 24), List.all_append, w_t2, ← List.take_append_drop 24 ((words1.drop 24).drop 24), List.all_append, w_t3, ← List.take_append_drop 24 (((words1.drop 24).drop 24).drop 24), List.all_append, w_t4, ← List.take_append_drop 24 ((((words1.drop 24).drop 24).drop 24).drop 24), List.all_append, w_t5, ← List.take_append_drop 24 (((((words1.drop 24).drop 24).drop 24).drop 24).drop 24), List.all_append, w_t6, ← List.take_append_drop 24 ((((((words1.drop 24).drop 24).drop 24).drop 24).drop 24).drop 24), List.all_append, w_t7, ← List.take_append_drop 24 (((((((words1.drop 24).drop 24).drop 24).drop 24).drop 24).drop 24).drop 24), List.all_append, w_t8, w_t9]
  rfl
set_option maxRecDepth 65536 in
theorem w_rest : rest_1_c.before args0 about1 = true := by decide +kernel
set_option maxRecDepth 65536 in
theorem w_case : (Jvm.Cond.and given_1 narrow_1).before args0 about1 = true := by decide +kernel
set_option maxRecDepth 65536 in
theorem w_consts : constsHeld consts_1 about1 := Jvm.Lit.constsHeldB_iff.mp (by decide +kernel)
theorem w_applies : (headSpec (Jvm.Cond.code x code maxLocals ret :: tables_1) room_1).applies x e0.platform about1 = true :=
  (Spec.applies_iff w_frames).mpr ⟨w_running, w_runnable, w_alone, w_named, w_hears, w_ripe, w_room, w_tables⟩
theorem atStart : AtStart classFile x code maxLocals ret World_1 tables_1 room_1 Calls_1 rest_1 Pre_1 launch0 p0 e0 about1 theMethod args0 below0 :=
  ⟨lists_1, trivial, launch0.admits_env _ _ _, launch0.least_env, fairChoices_fair.cas, fairChoices_fair.clock, w_frames, w_args, w_heap, w_applies, ⟨w_consts, trivial⟩, w_rest, w_case⟩
end start1
theorem witness_1 : WitnessClaimed_1 := ⟨start1.p0, start1.e0, start1.about1, start1.theMethod, start1.args0, start1.below0, start1.atStart⟩
end Jvm.Pilot.@@N@@
