import JvmDerived
import JvmDerived.Pilot.@@N@@Statement
import JvmDerived.Pilot.@@N@@Code
set_option linter.unusedVariables false
set_option linter.unusedSimpArgs false
namespace Jvm.Pilot.@@N@@
open Jvm Jvm.ClassFile Sem Op Lib Jvm.Free Jvm.Stand Jvm.LawKit Jvm.RoadKit Bundle Jvm.Pilot.@@N@@.Jvm.D
/-! The shared layer: from every state that stands at pc (locals L, operands S, over the heap h) the body ends and returns a value of which Q holds. -/
section Own
variable {p : Program} {l : Launch} {e : Env} {R : Room} {s : State} {m : MethodId} {args : Array Value} {below : List Frame} {meth : Method} {c : Code} {n0 mc ms k n : Nat} {Q : Value → Heap → Prop} {h : Heap} {pc pc' : Nat} {L : Array Slot} {S : List Value}
def own_W (p : Program) (l : Launch) (e : Env) (R : Room) (s : State) (m : MethodId) (args : Array Value) (below : List Frame) (meth : Method) (c : Code) (n0 mc ms : Nat) (Q : Value → Heap → Prop) (k n : Nat) (h : Heap) (pc : Nat) (L : Array Slot) (S : List Value) : Prop :=
  ∀ (T : State) (locs : List Loc), Stand p l e R s m args below meth c T locs k n → T.heap = h → Fr n0 locs →
    ∃ (t : State) (o : Outcome), Steps p.tables e below (T.setTop (mkF m pc L S)) t ∧ t.status = .running ∧ Ended t below o ∧ ∃ (v : Value) (lo : List Loc), o = .returned (some v) ∧ (Q v t.heap ∧ Fr n0 lo) ∧ FrameEnd s o t lo mc ms
abbrev own_R0 : Room := { frames := 0, cells := 0, slots := 0, locals := 0 }
theorem own_step {L' : Array Slot} {S' : List Value} (st : ∀ (T : State) (locs : List Loc), Stand p l e R s m args below meth c T locs k n → ∀ t, Steps p.tables e below (T.setTop (mkF m pc' L' S')) t → Steps p.tables e below (T.setTop (mkF m pc L S)) t) (hr : own_W p l e R s m args below meth c n0 mc ms Q k n h pc' L' S') : own_W p l e R s m args below meth c n0 mc ms Q k n h pc L S := fun T locs X hh N => by
  obtain ⟨t, o, a, r⟩ := hr T locs X hh N
  exact ⟨t, o, st T locs X t a, r⟩
theorem own_iloadN (hx : p.tables.exec = Jvm.exec) {i : Fin 4} {v : Int32} (hd : decode c.code pc = .ok (.iload_n i, 1)) (hl : L[i.val]? = some (.val (.int v))) (hp : pc + 1 = pc') (hr : own_W p l e R s m args below meth c n0 mc ms Q k n h pc' L (.int v :: S)) : own_W p l e R s m args below meth c n0 mc ms Q k n h pc L S := by
  subst hp
  exact own_step (fun T locs X t a => XS.iloadN X.here hx rfl hd hl a) hr
theorem own_iload (hx : p.tables.exec = Jvm.exec) {i : Nat} {v : Int32} (hd : decode c.code pc = .ok (.iload i, 2)) (hl : L[i]? = some (.val (.int v))) (hp : pc + 2 = pc') (hr : own_W p l e R s m args below meth c n0 mc ms Q k n h pc' L (.int v :: S)) : own_W p l e R s m args below meth c n0 mc ms Q k n h pc L S := by
  subst hp
  exact own_step (fun T locs X t a => XS.iload X.here hx rfl hd hl a) hr
theorem own_aloadN (hx : p.tables.exec = Jvm.exec) {i : Fin 4} {v : Value} (hd : decode c.code pc = .ok (.aload_n i, 1)) (hl : L[i.val]? = some (.val v)) (hv : v.isRef = true) (hp : pc + 1 = pc') (hr : own_W p l e R s m args below meth c n0 mc ms Q k n h pc' L (v :: S)) : own_W p l e R s m args below meth c n0 mc ms Q k n h pc L S := by
  subst hp
  exact own_step (fun T locs X t a => XS.aloadN X.here hx rfl hd hl hv a) hr
theorem own_aload (hx : p.tables.exec = Jvm.exec) {i : Nat} {v : Value} (hd : decode c.code pc = .ok (.aload i, 2)) (hl : L[i]? = some (.val v)) (hv : v.isRef = true) (hp : pc + 2 = pc') (hr : own_W p l e R s m args below meth c n0 mc ms Q k n h pc' L (v :: S)) : own_W p l e R s m args below meth c n0 mc ms Q k n h pc L S := by
  subst hp
  exact own_step (fun T locs X t a => XS.aload X.here hx rfl hd hl hv a) hr
theorem own_iconst (hx : p.tables.exec = Jvm.exec) {i : Int} {z : Int32} (hd : decode c.code pc = .ok (.iconst i, 1)) (hz : Int32.ofInt i = z) (hp : pc + 1 = pc') (hr : own_W p l e R s m args below meth c n0 mc ms Q k n h pc' L (.int z :: S)) : own_W p l e R s m args below meth c n0 mc ms Q k n h pc L S := by
  subst hp
  exact own_step (fun T locs X t a => XS.iconst X.here hx rfl hd (by rw [hz]; exact a)) hr
theorem own_bipush (hx : p.tables.exec = Jvm.exec) {i : Int} {z : Int32} (hd : decode c.code pc = .ok (.bipush i, 2)) (hz : (Int8.ofInt i).toInt32 = z) (hp : pc + 2 = pc') (hr : own_W p l e R s m args below meth c n0 mc ms Q k n h pc' L (.int z :: S)) : own_W p l e R s m args below meth c n0 mc ms Q k n h pc L S := by
  subst hp
  exact own_step (fun T locs X t a => XS.bipush X.here hx rfl hd (by rw [hz]; exact a)) hr
theorem own_sipush (hx : p.tables.exec = Jvm.exec) {i : Int} {z : Int32} (hd : decode c.code pc = .ok (.sipush i, 3)) (hz : (Int16.ofInt i).toInt32 = z) (hp : pc + 3 = pc') (hr : own_W p l e R s m args below meth c n0 mc ms Q k n h pc' L (.int z :: S)) : own_W p l e R s m args below meth c n0 mc ms Q k n h pc L S := by
  subst hp
  exact own_step (fun T locs X t a => XS.sipush X.here hx rfl hd (by rw [hz]; exact a)) hr
theorem own_ldc (hx : p.tables.exec = Jvm.exec) {own : String} {i : Nat} {z : Int32} {Z : State} {a0 : Array Value} (hZ : Z.Warmed39 s.vm) (hown : s.vm.findClass own = some m.cls) (w : (Jvm.Cond.constant own i z).before a0 Z = true) (hd : decode c.code pc = .ok (.ldc i, 2))  (hp : pc + 2 = pc') (hr : own_W p l e R s m args below meth c n0 mc ms Q k n h pc' L (.int z :: S)) : own_W p l e R s m args below meth c n0 mc ms Q k n h pc L S := by
  subst hp
  exact own_step (fun T locs X t a => X.ldcInt hx hown (mvT hZ w) (g := mkF m pc L S) rfl hd _ a) hr
theorem own_ldc2 (hx : p.tables.exec = Jvm.exec) {own : String} {i : Nat} {z : Int64} {Z : State} {a0 : Array Value} (hZ : Z.Warmed39 s.vm) (hown : s.vm.findClass own = some m.cls) (w : (Jvm.Cond.constantLong own i z).before a0 Z = true) (hd : decode c.code pc = .ok (.ldc2_w i, 3))  (hp : pc + 3 = pc') (hr : own_W p l e R s m args below meth c n0 mc ms Q k n h pc' L (.long z :: S)) : own_W p l e R s m args below meth c n0 mc ms Q k n h pc L S := by
  subst hp
  exact own_step (fun T locs X t a => X.ldc2Long hx hown (mvT hZ w) (g := mkF m pc L S) rfl hd _ a) hr
theorem own_iadd (hx : p.tables.exec = Jvm.exec) {x y : Int32} (hd : decode c.code pc = .ok (.iadd, 1))  (hp : pc + 1 = pc') (hr : own_W p l e R s m args below meth c n0 mc ms Q k n h pc' L (.int (x + y) :: S)) : own_W p l e R s m args below meth c n0 mc ms Q k n h pc L (.int y :: .int x :: S) := by
  subst hp
  exact own_step (fun T locs X t a => XS.iadd X.here hx rfl hd rfl a) hr
theorem own_isub (hx : p.tables.exec = Jvm.exec) {x y : Int32} (hd : decode c.code pc = .ok (.isub, 1))  (hp : pc + 1 = pc') (hr : own_W p l e R s m args below meth c n0 mc ms Q k n h pc' L (.int (x - y) :: S)) : own_W p l e R s m args below meth c n0 mc ms Q k n h pc L (.int y :: .int x :: S) := by
  subst hp
  exact own_step (fun T locs X t a => XS.isub X.here hx rfl hd rfl a) hr
theorem own_iand (hx : p.tables.exec = Jvm.exec) {x y : Int32} (hd : decode c.code pc = .ok (.iand, 1))  (hp : pc + 1 = pc') (hr : own_W p l e R s m args below meth c n0 mc ms Q k n h pc' L (.int (x &&& y) :: S)) : own_W p l e R s m args below meth c n0 mc ms Q k n h pc L (.int y :: .int x :: S) := by
  subst hp
  exact own_step (fun T locs X t a => XS.iand X.here hx rfl hd rfl a) hr
theorem own_irem (hx : p.tables.exec = Jvm.exec) {x y : Int32} (hd : decode c.code pc = .ok (.irem, 1)) (hy : y ≠ 0) (hp : pc + 1 = pc') (hr : own_W p l e R s m args below meth c n0 mc ms Q k n h pc' L (.int (x % y) :: S)) : own_W p l e R s m args below meth c n0 mc ms Q k n h pc L (.int y :: .int x :: S) := by
  subst hp
  exact own_step (fun T locs X t a => XS.irem X.here hx rfl hd rfl hy (by rw [irem_eq_mod]; exact a)) hr
theorem own_ishr (hx : p.tables.exec = Jvm.exec) {x y : Int32} (hd : decode c.code pc = .ok (.ishr, 1))  (hp : pc + 1 = pc') (hr : own_W p l e R s m args below meth c n0 mc ms Q k n h pc' L (.int (x >>> (y &&& 31)) :: S)) : own_W p l e R s m args below meth c n0 mc ms Q k n h pc L (.int y :: .int x :: S) := by
  subst hp
  exact own_step (fun T locs X t a => XT.ishr X.here hx rfl hd rfl a) hr
theorem own_iushr (hx : p.tables.exec = Jvm.exec) {x y : Int32} (hd : decode c.code pc = .ok (.iushr, 1))  (hp : pc + 1 = pc') (hr : own_W p l e R s m args below meth c n0 mc ms Q k n h pc' L (.int (XT.ushr x y) :: S)) : own_W p l e R s m args below meth c n0 mc ms Q k n h pc L (.int y :: .int x :: S) := by
  subst hp
  exact own_step (fun T locs X t a => XT.iushr X.here hx rfl hd rfl a) hr
theorem own_i2c (hx : p.tables.exec = Jvm.exec) {x : Int32} (hd : decode c.code pc = .ok (.i2c, 1))  (hp : pc + 1 = pc') (hr : own_W p l e R s m args below meth c n0 mc ms Q k n h pc' L (.int (x.toUInt32.toUInt16.toUInt32.toInt32) :: S)) : own_W p l e R s m args below meth c n0 mc ms Q k n h pc L (.int x :: S) := by
  subst hp
  exact own_step (fun T locs X t a => XT.i2c X.here hx rfl hd rfl a) hr
theorem own_lushr (hx : p.tables.exec = Jvm.exec) {x : Int64} {y : Int32} (hd : decode c.code pc = .ok (.lushr, 1))  (hp : pc + 1 = pc') (hr : own_W p l e R s m args below meth c n0 mc ms Q k n h pc' L (.long (XT.ushrL x y) :: S)) : own_W p l e R s m args below meth c n0 mc ms Q k n h pc L (.int y :: .long x :: S) := by
  subst hp
  exact own_step (fun T locs X t a => XT.lushr X.here hx rfl hd rfl a) hr
theorem own_land (hx : p.tables.exec = Jvm.exec) {x y : Int64} (hd : decode c.code pc = .ok (.land, 1))  (hp : pc + 1 = pc') (hr : own_W p l e R s m args below meth c n0 mc ms Q k n h pc' L (.long (x &&& y) :: S)) : own_W p l e R s m args below meth c n0 mc ms Q k n h pc L (.long y :: .long x :: S) := by
  subst hp
  exact own_step (fun T locs X t a => XT.land X.here hx rfl hd rfl a) hr
theorem own_lconst (hx : p.tables.exec = Jvm.exec) {i : Fin 2} {z : Int64} (hd : decode c.code pc = .ok (.lconst i, 1)) (hz : Int64.ofNat i = z) (hp : pc + 1 = pc') (hr : own_W p l e R s m args below meth c n0 mc ms Q k n h pc' L (.long z :: S)) : own_W p l e R s m args below meth c n0 mc ms Q k n h pc L S := by
  subst hp
  exact own_step (fun T locs X t a => XT.lconst X.here hx rfl hd (by rw [hz]; exact a)) hr
theorem own_lcmp (hx : p.tables.exec = Jvm.exec) {x y : Int64} (hd : decode c.code pc = .ok (.lcmp, 1))  (hp : pc + 1 = pc') (hr : own_W p l e R s m args below meth c n0 mc ms Q k n h pc' L (.int (XT.cmpL x y) :: S)) : own_W p l e R s m args below meth c n0 mc ms Q k n h pc L (.long y :: .long x :: S) := by
  subst hp
  exact own_step (fun T locs X t a => XT.lcmp X.here hx rfl hd rfl a) hr
theorem own_dup (hx : p.tables.exec = Jvm.exec) {v : Value} (hd : decode c.code pc = .ok (.dup, 1)) (hv : v.category = 1) (hp : pc + 1 = pc') (hr : own_W p l e R s m args below meth c n0 mc ms Q k n h pc' L (v :: v :: S)) : own_W p l e R s m args below meth c n0 mc ms Q k n h pc L (v :: S) := by
  subst hp
  exact own_step (fun T locs X t a => XS.dup X.here hx rfl hd rfl hv a) hr
theorem own_istoreN (hx : p.tables.exec = Jvm.exec) {i : Fin 4} {x : Int32} {L' : Array Slot} (hd : decode c.code pc = .ok (.istore_n i, 1)) (hl : storeLocals L i.val (.int x) = some L') (hp : pc + 1 = pc') (hr : own_W p l e R s m args below meth c n0 mc ms Q k n h pc' L' S) : own_W p l e R s m args below meth c n0 mc ms Q k n h pc L (.int x :: S) := by
  subst hp
  exact own_step (fun T locs X t a => XS.istoreN X.here hx rfl hd rfl hl a) hr
theorem own_istore (hx : p.tables.exec = Jvm.exec) {i : Nat} {x : Int32} {L' : Array Slot} (hd : decode c.code pc = .ok (.istore i, 2)) (hl : storeLocals L i (.int x) = some L') (hp : pc + 2 = pc') (hr : own_W p l e R s m args below meth c n0 mc ms Q k n h pc' L' S) : own_W p l e R s m args below meth c n0 mc ms Q k n h pc L (.int x :: S) := by
  subst hp
  exact own_step (fun T locs X t a => XS.istore X.here hx rfl hd rfl hl a) hr
theorem own_astoreN (hx : p.tables.exec = Jvm.exec) {i : Fin 4} {v : Value} {L' : Array Slot} (hd : decode c.code pc = .ok (.astore_n i, 1)) (hv : v.isRef = true) (hl : storeLocals L i.val v = some L') (hp : pc + 1 = pc') (hr : own_W p l e R s m args below meth c n0 mc ms Q k n h pc' L' S) : own_W p l e R s m args below meth c n0 mc ms Q k n h pc L (v :: S) := by
  subst hp
  exact own_step (fun T locs X t a => XS.astoreN X.here hx rfl hd rfl hv hl a) hr
theorem own_astore (hx : p.tables.exec = Jvm.exec) {i : Nat} {v : Value} {L' : Array Slot} (hd : decode c.code pc = .ok (.astore i, 2)) (hv : v.isRef = true) (hl : storeLocals L i v = some L') (hp : pc + 2 = pc') (hr : own_W p l e R s m args below meth c n0 mc ms Q k n h pc' L' S) : own_W p l e R s m args below meth c n0 mc ms Q k n h pc L (v :: S) := by
  subst hp
  exact own_step (fun T locs X t a => XS.astore X.here hx rfl hd rfl hv hl a) hr
theorem own_goto (hx : p.tables.exec = Jvm.exec) {o : Int} (hd : decode c.code pc = .ok (.goto o, 3)) (ho : 0 ≤ (pc : Int) + o) (hp : ((pc : Int) + o).toNat = pc') (hr : own_W p l e R s m args below meth c n0 mc ms Q k n h pc' L S) : own_W p l e R s m args below meth c n0 mc ms Q k n h pc L S :=
  own_step (fun T locs X t a => XS.goto X.here hx rfl (pc0 := pc) rfl hd ho hp a) hr
theorem own_icmp (hx : p.tables.exec = Jvm.exec) {cd : ClassFile.Cond} {o : Int} {x y : Int32} {pc2 : Nat} (hd : decode c.code pc = .ok (.if_icmp cd o, 3)) (ho : 0 ≤ (pc : Int) + o) (hp : ((pc : Int) + o).toNat = pc') (h3 : pc + 3 = pc2) (hy : if_icmp.holds cd x y = true → own_W p l e R s m args below meth c n0 mc ms Q k n h pc' L S) (hn : if_icmp.holds cd x y = false → own_W p l e R s m args below meth c n0 mc ms Q k n h pc2 L S) : own_W p l e R s m args below meth c n0 mc ms Q k n h pc L (.int y :: .int x :: S) := by
  subst h3
  cases q : if_icmp.holds cd x y with
  | true => exact own_step (fun T locs X t a => XS.icmpYes X.here hx rfl (pc0 := pc) rfl hd rfl q ho hp a) (hy q)
  | false => exact own_step (fun T locs X t a => XS.icmpNo X.here hx rfl hd rfl q a) (hn q)
theorem own_ifc (hx : p.tables.exec = Jvm.exec) {cd : ClassFile.Cond} {o : Int} {x : Int32} {pc2 : Nat} (hd : decode c.code pc = .ok (.ifCond cd o, 3)) (ho : 0 ≤ (pc : Int) + o) (hp : ((pc : Int) + o).toNat = pc') (h3 : pc + 3 = pc2) (hy : ifCond.holds cd x = true → own_W p l e R s m args below meth c n0 mc ms Q k n h pc' L S) (hn : ifCond.holds cd x = false → own_W p l e R s m args below meth c n0 mc ms Q k n h pc2 L S) : own_W p l e R s m args below meth c n0 mc ms Q k n h pc L (.int x :: S) := by
  subst h3
  cases q : ifCond.holds cd x with
  | true => exact own_step (fun T locs X t a => XS.ifYes X.here hx rfl (pc0 := pc) rfl hd rfl q ho hp a) (hy q)
  | false => exact own_step (fun T locs X t a => XS.ifNo X.here hx rfl hd rfl q a) (hn q)
theorem own_ilt (hx : p.tables.exec = Jvm.exec) {α : Type} {A B r : α} {o : Int} {x y : Int32} {pc2 : Nat} (hd : decode c.code pc = .ok (.if_icmp .lt o, 3)) (ho : 0 ≤ (pc : Int) + o) (hp : ((pc : Int) + o).toNat = pc') (h3 : pc + 3 = pc2) (hf : (if x < y then A else B) = r) (hy : A = r → own_W p l e R s m args below meth c n0 mc ms Q k n h pc' L S) (hn : B = r → own_W p l e R s m args below meth c n0 mc ms Q k n h pc2 L S) : own_W p l e R s m args below meth c n0 mc ms Q k n h pc L (.int y :: .int x :: S) := by
  refine own_icmp hx hd ho hp h3 (fun q => hy ?_) (fun q => hn ?_)
  · have q' : x < y := by simpa [if_icmp.holds] using q
    rw [if_pos q'] at hf; exact hf
  · have q' : ¬ (x < y) := by simpa [if_icmp.holds] using q
    rw [if_neg q'] at hf; exact hf
theorem own_ilt0 (hx : p.tables.exec = Jvm.exec) {α : Type} {A B r : α} {o : Int} {x : Int32} {pc2 : Nat} (hd : decode c.code pc = .ok (.ifCond .lt o, 3)) (ho : 0 ≤ (pc : Int) + o) (hp : ((pc : Int) + o).toNat = pc') (h3 : pc + 3 = pc2) (hf : (if x < 0 then A else B) = r) (hy : A = r → own_W p l e R s m args below meth c n0 mc ms Q k n h pc' L S) (hn : B = r → own_W p l e R s m args below meth c n0 mc ms Q k n h pc2 L S) : own_W p l e R s m args below meth c n0 mc ms Q k n h pc L (.int x :: S) := by
  refine own_ifc hx hd ho hp h3 (fun q => hy ?_) (fun q => hn ?_)
  · have q' : x < 0 := by simpa [ifCond.holds] using q
    rw [if_pos q'] at hf; exact hf
  · have q' : ¬ (x < 0) := by simpa [ifCond.holds] using q
    rw [if_neg q'] at hf; exact hf
theorem own_ige (hx : p.tables.exec = Jvm.exec) {α : Type} {A B r : α} {o : Int} {x y : Int32} {pc2 : Nat} (hd : decode c.code pc = .ok (.if_icmp .ge o, 3)) (ho : 0 ≤ (pc : Int) + o) (hp : ((pc : Int) + o).toNat = pc') (h3 : pc + 3 = pc2) (hf : (if y ≤ x then A else B) = r) (hy : A = r → own_W p l e R s m args below meth c n0 mc ms Q k n h pc' L S) (hn : B = r → own_W p l e R s m args below meth c n0 mc ms Q k n h pc2 L S) : own_W p l e R s m args below meth c n0 mc ms Q k n h pc L (.int y :: .int x :: S) := by
  refine own_icmp hx hd ho hp h3 (fun q => hy ?_) (fun q => hn ?_)
  · have q' : y ≤ x := by simpa [if_icmp.holds] using q
    rw [if_pos q'] at hf; exact hf
  · have q' : ¬ (y ≤ x) := by simpa [if_icmp.holds] using q
    rw [if_neg q'] at hf; exact hf
theorem own_ige0 (hx : p.tables.exec = Jvm.exec) {α : Type} {A B r : α} {o : Int} {x : Int32} {pc2 : Nat} (hd : decode c.code pc = .ok (.ifCond .ge o, 3)) (ho : 0 ≤ (pc : Int) + o) (hp : ((pc : Int) + o).toNat = pc') (h3 : pc + 3 = pc2) (hf : (if 0 ≤ x then A else B) = r) (hy : A = r → own_W p l e R s m args below meth c n0 mc ms Q k n h pc' L S) (hn : B = r → own_W p l e R s m args below meth c n0 mc ms Q k n h pc2 L S) : own_W p l e R s m args below meth c n0 mc ms Q k n h pc L (.int x :: S) := by
  refine own_ifc hx hd ho hp h3 (fun q => hy ?_) (fun q => hn ?_)
  · have q' : 0 ≤ x := by simpa [ifCond.holds] using q
    rw [if_pos q'] at hf; exact hf
  · have q' : ¬ (0 ≤ x) := by simpa [ifCond.holds] using q
    rw [if_neg q'] at hf; exact hf
theorem own_igt (hx : p.tables.exec = Jvm.exec) {α : Type} {A B r : α} {o : Int} {x y : Int32} {pc2 : Nat} (hd : decode c.code pc = .ok (.if_icmp .gt o, 3)) (ho : 0 ≤ (pc : Int) + o) (hp : ((pc : Int) + o).toNat = pc') (h3 : pc + 3 = pc2) (hf : (if y < x then A else B) = r) (hy : A = r → own_W p l e R s m args below meth c n0 mc ms Q k n h pc' L S) (hn : B = r → own_W p l e R s m args below meth c n0 mc ms Q k n h pc2 L S) : own_W p l e R s m args below meth c n0 mc ms Q k n h pc L (.int y :: .int x :: S) := by
  refine own_icmp hx hd ho hp h3 (fun q => hy ?_) (fun q => hn ?_)
  · have q' : y < x := by simpa [if_icmp.holds] using q
    rw [if_pos q'] at hf; exact hf
  · have q' : ¬ (y < x) := by simpa [if_icmp.holds] using q
    rw [if_neg q'] at hf; exact hf
theorem own_igt0 (hx : p.tables.exec = Jvm.exec) {α : Type} {A B r : α} {o : Int} {x : Int32} {pc2 : Nat} (hd : decode c.code pc = .ok (.ifCond .gt o, 3)) (ho : 0 ≤ (pc : Int) + o) (hp : ((pc : Int) + o).toNat = pc') (h3 : pc + 3 = pc2) (hf : (if 0 < x then A else B) = r) (hy : A = r → own_W p l e R s m args below meth c n0 mc ms Q k n h pc' L S) (hn : B = r → own_W p l e R s m args below meth c n0 mc ms Q k n h pc2 L S) : own_W p l e R s m args below meth c n0 mc ms Q k n h pc L (.int x :: S) := by
  refine own_ifc hx hd ho hp h3 (fun q => hy ?_) (fun q => hn ?_)
  · have q' : 0 < x := by simpa [ifCond.holds] using q
    rw [if_pos q'] at hf; exact hf
  · have q' : ¬ (0 < x) := by simpa [ifCond.holds] using q
    rw [if_neg q'] at hf; exact hf
theorem own_ile (hx : p.tables.exec = Jvm.exec) {α : Type} {A B r : α} {o : Int} {x y : Int32} {pc2 : Nat} (hd : decode c.code pc = .ok (.if_icmp .le o, 3)) (ho : 0 ≤ (pc : Int) + o) (hp : ((pc : Int) + o).toNat = pc') (h3 : pc + 3 = pc2) (hf : (if x ≤ y then A else B) = r) (hy : A = r → own_W p l e R s m args below meth c n0 mc ms Q k n h pc' L S) (hn : B = r → own_W p l e R s m args below meth c n0 mc ms Q k n h pc2 L S) : own_W p l e R s m args below meth c n0 mc ms Q k n h pc L (.int y :: .int x :: S) := by
  refine own_icmp hx hd ho hp h3 (fun q => hy ?_) (fun q => hn ?_)
  · have q' : x ≤ y := by simpa [if_icmp.holds] using q
    rw [if_pos q'] at hf; exact hf
  · have q' : ¬ (x ≤ y) := by simpa [if_icmp.holds] using q
    rw [if_neg q'] at hf; exact hf
theorem own_ile0 (hx : p.tables.exec = Jvm.exec) {α : Type} {A B r : α} {o : Int} {x : Int32} {pc2 : Nat} (hd : decode c.code pc = .ok (.ifCond .le o, 3)) (ho : 0 ≤ (pc : Int) + o) (hp : ((pc : Int) + o).toNat = pc') (h3 : pc + 3 = pc2) (hf : (if x ≤ 0 then A else B) = r) (hy : A = r → own_W p l e R s m args below meth c n0 mc ms Q k n h pc' L S) (hn : B = r → own_W p l e R s m args below meth c n0 mc ms Q k n h pc2 L S) : own_W p l e R s m args below meth c n0 mc ms Q k n h pc L (.int x :: S) := by
  refine own_ifc hx hd ho hp h3 (fun q => hy ?_) (fun q => hn ?_)
  · have q' : x ≤ 0 := by simpa [ifCond.holds] using q
    rw [if_pos q'] at hf; exact hf
  · have q' : ¬ (x ≤ 0) := by simpa [ifCond.holds] using q
    rw [if_neg q'] at hf; exact hf
theorem own_ieq (hx : p.tables.exec = Jvm.exec) {α : Type} {A B r : α} {o : Int} {x y : Int32} {pc2 : Nat} (hd : decode c.code pc = .ok (.if_icmp .eq o, 3)) (ho : 0 ≤ (pc : Int) + o) (hp : ((pc : Int) + o).toNat = pc') (h3 : pc + 3 = pc2) (hf : (if x = y then A else B) = r) (hy : A = r → own_W p l e R s m args below meth c n0 mc ms Q k n h pc' L S) (hn : B = r → own_W p l e R s m args below meth c n0 mc ms Q k n h pc2 L S) : own_W p l e R s m args below meth c n0 mc ms Q k n h pc L (.int y :: .int x :: S) := by
  refine own_icmp hx hd ho hp h3 (fun q => hy ?_) (fun q => hn ?_)
  · have q' : x = y := by simpa [if_icmp.holds] using q
    rw [if_pos q'] at hf; exact hf
  · have q' : ¬ (x = y) := by simpa [if_icmp.holds] using q
    rw [if_neg q'] at hf; exact hf
theorem own_ieq0 (hx : p.tables.exec = Jvm.exec) {α : Type} {A B r : α} {o : Int} {x : Int32} {pc2 : Nat} (hd : decode c.code pc = .ok (.ifCond .eq o, 3)) (ho : 0 ≤ (pc : Int) + o) (hp : ((pc : Int) + o).toNat = pc') (h3 : pc + 3 = pc2) (hf : (if x = 0 then A else B) = r) (hy : A = r → own_W p l e R s m args below meth c n0 mc ms Q k n h pc' L S) (hn : B = r → own_W p l e R s m args below meth c n0 mc ms Q k n h pc2 L S) : own_W p l e R s m args below meth c n0 mc ms Q k n h pc L (.int x :: S) := by
  refine own_ifc hx hd ho hp h3 (fun q => hy ?_) (fun q => hn ?_)
  · have q' : x = 0 := by simpa [ifCond.holds] using q
    rw [if_pos q'] at hf; exact hf
  · have q' : ¬ (x = 0) := by simpa [ifCond.holds] using q
    rw [if_neg q'] at hf; exact hf
theorem own_ine (hx : p.tables.exec = Jvm.exec) {α : Type} {A B r : α} {o : Int} {x y : Int32} {pc2 : Nat} (hd : decode c.code pc = .ok (.if_icmp .ne o, 3)) (ho : 0 ≤ (pc : Int) + o) (hp : ((pc : Int) + o).toNat = pc') (h3 : pc + 3 = pc2) (hf : (if x = y then A else B) = r) (hy : B = r → own_W p l e R s m args below meth c n0 mc ms Q k n h pc' L S) (hn : A = r → own_W p l e R s m args below meth c n0 mc ms Q k n h pc2 L S) : own_W p l e R s m args below meth c n0 mc ms Q k n h pc L (.int y :: .int x :: S) := by
  refine own_icmp hx hd ho hp h3 (fun q => hy ?_) (fun q => hn ?_)
  · have q' : ¬ (x = y) := by simpa [if_icmp.holds] using q
    rw [if_neg q'] at hf; exact hf
  · have q' : x = y := by simpa [if_icmp.holds] using q
    rw [if_pos q'] at hf; exact hf
theorem own_ine0 (hx : p.tables.exec = Jvm.exec) {α : Type} {A B r : α} {o : Int} {x : Int32} {pc2 : Nat} (hd : decode c.code pc = .ok (.ifCond .ne o, 3)) (ho : 0 ≤ (pc : Int) + o) (hp : ((pc : Int) + o).toNat = pc') (h3 : pc + 3 = pc2) (hf : (if x = 0 then A else B) = r) (hy : B = r → own_W p l e R s m args below meth c n0 mc ms Q k n h pc' L S) (hn : A = r → own_W p l e R s m args below meth c n0 mc ms Q k n h pc2 L S) : own_W p l e R s m args below meth c n0 mc ms Q k n h pc L (.int x :: S) := by
  refine own_ifc hx hd ho hp h3 (fun q => hy ?_) (fun q => hn ?_)
  · have q' : ¬ (x = 0) := by simpa [ifCond.holds] using q
    rw [if_neg q'] at hf; exact hf
  · have q' : x = 0 := by simpa [ifCond.holds] using q
    rw [if_pos q'] at hf; exact hf
theorem own_aeq (hx : p.tables.exec = Jvm.exec) {α : Type} {A B r : α} {o : Int} {x y : Addr} {pc2 : Nat} (hd : decode c.code pc = .ok (.if_acmp .eq o, 3)) (ho : 0 ≤ (pc : Int) + o) (hp : ((pc : Int) + o).toNat = pc') (h3 : pc + 3 = pc2) (hf : (if x = y then A else B) = r) (hy : A = r → own_W p l e R s m args below meth c n0 mc ms Q k n h pc' L S) (hn : B = r → own_W p l e R s m args below meth c n0 mc ms Q k n h pc2 L S) : own_W p l e R s m args below meth c n0 mc ms Q k n h pc L (.ref y :: .ref x :: S) := by
  subst h3
  by_cases q : x = y
  · rw [if_pos q] at hf
    exact own_step (fun T locs X t a => XT.acmpYes X.here hx rfl (pc0 := pc) rfl hd rfl rfl rfl (by simp [XT.acmp, q]) ho hp a) (hy hf)
  · rw [if_neg q] at hf
    exact own_step (fun T locs X t a => XT.acmpNo X.here hx rfl hd rfl rfl rfl (by simp [XT.acmp, q]) a) (hn hf)
theorem own_ane (hx : p.tables.exec = Jvm.exec) {α : Type} {A B r : α} {o : Int} {x y : Addr} {pc2 : Nat} (hd : decode c.code pc = .ok (.if_acmp .ne o, 3)) (ho : 0 ≤ (pc : Int) + o) (hp : ((pc : Int) + o).toNat = pc') (h3 : pc + 3 = pc2) (hf : (if x = y then A else B) = r) (hy : B = r → own_W p l e R s m args below meth c n0 mc ms Q k n h pc' L S) (hn : A = r → own_W p l e R s m args below meth c n0 mc ms Q k n h pc2 L S) : own_W p l e R s m args below meth c n0 mc ms Q k n h pc L (.ref y :: .ref x :: S) := by
  subst h3
  by_cases q : x = y
  · rw [if_pos q] at hf
    exact own_step (fun T locs X t a => XT.acmpNo X.here hx rfl hd rfl rfl rfl (by simp [XT.acmp, q]) a) (hn hf)
  · rw [if_neg q] at hf
    exact own_step (fun T locs X t a => XT.acmpYes X.here hx rfl (pc0 := pc) rfl hd rfl rfl rfl (by simp [XT.acmp, q]) ho hp a) (hy hf)
theorem own_ifnonnull (hx : p.tables.exec = Jvm.exec) {o : Int} {x : Addr} (hd : decode c.code pc = .ok (.ifnonnull o, 3)) (ho : 0 ≤ (pc : Int) + o) (hp : ((pc : Int) + o).toNat = pc') (hr : own_W p l e R s m args below meth c n0 mc ms Q k n h pc' L S) : own_W p l e R s m args below meth c n0 mc ms Q k n h pc L (.ref x :: S) :=
  own_step (fun T locs X t a => XT.ifnonnullYes X.here hx rfl (pc0 := pc) rfl hd rfl ho hp a) hr
theorem own_ifnullNo (hx : p.tables.exec = Jvm.exec) {o : Int} {x : Addr} (hd : decode c.code pc = .ok (.ifnull o, 3)) (hp : pc + 3 = pc') (hr : own_W p l e R s m args below meth c n0 mc ms Q k n h pc' L S) : own_W p l e R s m args below meth c n0 mc ms Q k n h pc L (.ref x :: S) := by
  subst hp
  exact own_step (fun T locs X t a => XS.ifnullNo X.here hx rfl hd rfl a) hr
theorem own_ifnullYes (hx : p.tables.exec = Jvm.exec) {o : Int} (hd : decode c.code pc = .ok (.ifnull o, 3)) (ho : 0 ≤ (pc : Int) + o) (hp : ((pc : Int) + o).toNat = pc') (hr : own_W p l e R s m args below meth c n0 mc ms Q k n h pc' L S) : own_W p l e R s m args below meth c n0 mc ms Q k n h pc L (.null :: S) :=
  own_step (fun T locs X t a => XS.ifnullYes X.here hx rfl (pc0 := pc) rfl hd rfl ho hp a) hr
theorem own_tswIn (hx : p.tables.exec = Jvm.exec) {dflt low high o : Int} {offs : Array Int} {len : Nat} {i : Int32} (hd : decode c.code pc = .ok (.tableswitch dflt low high offs, len)) (hin : ¬ (i.toInt < low ∨ i.toInt > high)) (hoff : offs[(i.toInt - low).toNat]? = some o) (ho : 0 ≤ (pc : Int) + o) (hp : ((pc : Int) + o).toNat = pc') (hr : own_W p l e R s m args below meth c n0 mc ms Q k n h pc' L S) : own_W p l e R s m args below meth c n0 mc ms Q k n h pc L (.int i :: S) :=
  own_step (fun T locs X t a => XS.tswIn X.here hx rfl (pc0 := pc) rfl hd rfl hin hoff ho hp a) hr
theorem own_tswOut (hx : p.tables.exec = Jvm.exec) {dflt low high : Int} {offs : Array Int} {len : Nat} {i : Int32} (hd : decode c.code pc = .ok (.tableswitch dflt low high offs, len)) (hout : i.toInt < low ∨ i.toInt > high) (ho : 0 ≤ (pc : Int) + dflt) (hp : ((pc : Int) + dflt).toNat = pc') (hr : own_W p l e R s m args below meth c n0 mc ms Q k n h pc' L S) : own_W p l e R s m args below meth c n0 mc ms Q k n h pc L (.int i :: S) :=
  own_step (fun T locs X t a => XS.tswOut X.here hx rfl (pc0 := pc) rfl hd rfl hout ho hp a) hr
theorem own_ret (hx : p.tables.exec = Jvm.exec) {w : Value} {t0 : FieldType} {i : Instr} (hret : meth.sig.returnType = some t0) (hlk : meth.locks = false) (hn : narrow t0 w = w)
    (hi : (i = .ireturn ∧ (t0 = .int ∨ t0 = .boolean ∨ t0 = .byte ∨ t0 = .char ∨ t0 = .short) ∧ ∃ z, w = .int z) ∨ (i = .lreturn ∧ t0 = .long ∧ ∃ z, w = .long z) ∨ (i = .dreturn ∧ t0 = .double ∧ ∃ z, w = .double z) ∨ (i = .freturn ∧ t0 = .float ∧ ∃ z, w = .float z) ∨ (i = .areturn ∧ t0.isReference = true ∧ w.isRef = true))
    (hd : decode c.code pc = .ok (i, 1)) (hk : k ≤ mc) (hs : n ≤ ms) (hq : Q w h) : own_W p l e R s m args below meth c n0 mc ms Q k n h pc L (w :: S) := fun T locs X hh N => by
  obtain ⟨fs, hr, hrun, hended, hW, hsame⟩ := X.leave (v := some w) (fun q => by rw [hret] at q; cases q) hlk
  refine ⟨_, _, retOut X hx hret hn hi hd hr, hrun, hended, w, locs, rfl, ⟨?_, N⟩, ⟨_, rfl⟩, hW, hsame.mono hk hs⟩
  show Q w T.heap
  rw [hh]; exact hq
theorem own_retI (hx : p.tables.exec = Jvm.exec) {z : Int32} (hret : meth.sig.returnType = some .int) (hlk : meth.locks = false) (hd : decode c.code pc = .ok (.ireturn, 1)) (hk : k ≤ mc) (hs : n ≤ ms) (hq : Q (.int z) h) : own_W p l e R s m args below meth c n0 mc ms Q k n h pc L (.int z :: S) :=
  own_ret hx hret hlk rfl (Or.inl ⟨rfl, Or.inl rfl, z, rfl⟩) hd hk hs hq
theorem own_retZ (hx : p.tables.exec = Jvm.exec) {z : Int32} (hret : meth.sig.returnType = some .boolean) (hlk : meth.locks = false) (hz : narrow .boolean (.int z) = .int z) (hd : decode c.code pc = .ok (.ireturn, 1)) (hk : k ≤ mc) (hs : n ≤ ms) (hq : Q (.int z) h) : own_W p l e R s m args below meth c n0 mc ms Q k n h pc L (.int z :: S) :=
  own_ret hx hret hlk hz (Or.inl ⟨rfl, Or.inr (Or.inl rfl), z, rfl⟩) hd hk hs hq
theorem own_retA (hx : p.tables.exec = Jvm.exec) {C : String} {a : Addr} (hret : meth.sig.returnType = some (.object C)) (hlk : meth.locks = false) (hd : decode c.code pc = .ok (.areturn, 1)) (hk : k ≤ mc) (hs : n ≤ ms) (hq : Q (.ref a) h) : own_W p l e R s m args below meth c n0 mc ms Q k n h pc L (.ref a :: S) :=
  own_ret hx hret hlk rfl (Or.inr (Or.inr (Or.inr (Or.inr ⟨rfl, rfl, rfl⟩)))) hd hk hs hq
theorem own_getS (hx : p.tables.exec = Jvm.exec) {Z : State} {a0 : Array Value} (hZ : Z.Warmed39 s.vm) {own : String} (hown : s.vm.findClass own = some m.cls) {C nm d : String} {i : Nat} {v : Value} (w : (Jvm.Cond.fieldLink own i C nm d).before a0 Z = true) (F : Sta Z h C nm d v) (hd : decode c.code pc = .ok (.getstatic i, 3)) (hp : pc + 3 = pc') (hr : own_W p l e R s m args below meth c n0 mc ms Q k n h pc' L (v :: S)) : own_W p l e R s m args below meth c n0 mc ms Q k n h pc L S := fun T locs X hh N => by
  subst hp
  obtain ⟨T', X', e', st⟩ := getS X hx hZ (host := "") hown w Via.refl hh F (g := mkF m pc L S) rfl hd
  obtain ⟨t, o, a, r⟩ := hr T' locs X' e' N
  exact ⟨t, o, st t a, r⟩
theorem own_getF (hx : p.tables.exec = Jvm.exec) {Z : State} {a0 : Array Value} (hZ : Z.Warmed39 s.vm) {own : String} (hown : s.vm.findClass own = some m.cls) {C nm d : String} {i : Nat} {b : Addr} {v : Value} (w : (Jvm.Cond.fieldLink own i C nm d).before a0 Z = true) (F : Fld Z h b C nm d v) (hd : decode c.code pc = .ok (.getfield i, 3)) (hp : pc + 3 = pc') (hr : own_W p l e R s m args below meth c n0 mc ms Q k n h pc' L (v :: S)) : own_W p l e R s m args below meth c n0 mc ms Q k n h pc L (.ref b :: S) := fun T locs X hh N => by
  subst hp
  obtain ⟨T', X', e', st⟩ := getF X hx hZ hown (host := "") (Or.inl w) Via.refl hh F (g := mkF m pc L (.ref b :: S)) rfl rfl hd
  obtain ⟨t, o, a, r⟩ := hr T' locs X' e' N
  exact ⟨t, o, st t a, r⟩
def own_IA (Z : State) (h : Heap) (a : Addr) (len : Nat) : Prop := ∃ cl : Cell, Arr Z h a cl .int ∧ cl.slots.size = len ∧ ∀ i, i < len → ∃ x : Int32, cl.slots[i]? = some (.int x)
theorem own_newI (hx : p.tables.exec = Jvm.exec) {Z : State} {a0 : Array Value} (hZ : Z.Warmed39 s.vm) (w : (Jvm.Cond.arrayClass .int).before a0 Z = true) {z : Int32} (hd : decode c.code pc = .ok (.newarray .int, 2)) (hz : ¬ z < 0) {cap : Nat} (hcap : z.toNatClampNeg = cap) (hb : cap * 8 ≤ 536870912) (hc : k + 1 ≤ R.cells) (hl : n + cap ≤ R.slots) (Z0 : n0 ≤ h.size) (hp : pc + 2 = pc')
    (hr : ∀ (h' : Heap) (a : Addr), own_IA Z h' a cap → n0 ≤ a → own_W p l e R s m args below meth c n0 mc ms Q (k + 1) (n + cap) h' pc' L (.ref a :: S)) : own_W p l e R s m args below meth c n0 mc ms Q k n h pc L (.int z :: S) := fun T locs X hh N => by
  subst hp
  obtain ⟨T', h', cA, X', e', E', A', st⟩ := newP X hx hZ (aty := .int) w hh (g := mkF m pc L (.int z :: S)) rfl hd rfl hz (Nat.le_of_eq hcap) hb hc hl
  have I' : own_IA Z h' h.size cap := ⟨_, A', by rw [sz_new]; exact hcap, fun i hi => ⟨0, by
    have hi' : i < z.toNatClampNeg := by omega
    simp [newA, newarray.typeOf, defaultValue, hi']⟩⟩
  obtain ⟨t, o, a, r⟩ := hr h' h.size I' Z0 T' locs X' e' N
  exact ⟨t, o, st t a, r⟩
theorem own_stI (hx : p.tables.exec = Jvm.exec) {Z : State} (hZ : Z.Warmed39 s.vm) {a : Addr} {len : Nat} (A : own_IA Z h a len) (ga : n0 ≤ a) {j x : Int32} (hj : ¬ j < 0) (hj2 : j.toNatClampNeg < len) (hd : decode c.code pc = .ok (.iastore, 1)) (hp : pc + 1 = pc') (hr : ∀ h' : Heap, own_IA Z h' a len → own_W p l e R s m args below meth c n0 mc ms Q k n h' pc' L S) : own_W p l e R s m args below meth c n0 mc ms Q k n h pc L (.int x :: .int j :: .ref a :: S) := fun T locs X hh N => by
  subst hp
  obtain ⟨cl, Ar, sz, el⟩ := A
  obtain ⟨T', h', X', e', W', st⟩ := stI X hx hZ hh Ar (j := j) (x := x) (by rw [sz]; exact fun q => q.elim hj fun r => Nat.not_lt.mpr r hj2) (g := mkF m pc L (.int x :: .int j :: .ref a :: S)) rfl rfl hd
  have I' : own_IA Z h' a len := ⟨_, Ar.same W', by rw [sz_set]; exact sz, fun i hi => by
    by_cases q : j.toNatClampNeg = i
    · exact ⟨x, by subst q; simp [Cell.setSlot, sz, hj2]⟩
    · obtain ⟨y, hy⟩ := el i hi
      exact ⟨y, by rw [show (cl.setSlot j.toNatClampNeg (.int x)).slots = cl.slots.setIfInBounds j.toNatClampNeg (.int x) from rfl, Array.getElem?_setIfInBounds_ne q]; exact hy⟩⟩
  obtain ⟨t, o, b, r⟩ := hr h' I' T' _ X' e' (Fr.snoc X' N ga)
  exact ⟨t, o, st t b, r⟩
theorem own_ldI (hx : p.tables.exec = Jvm.exec) {Z : State} (hZ : Z.Warmed39 s.vm) {a : Addr} {len : Nat} (A : own_IA Z h a len) {j : Int32} (hj : ¬ j < 0) (hj2 : j.toNatClampNeg < len) (hd : decode c.code pc = .ok (.iaload, 1)) (hp : pc + 1 = pc') (hr : ∀ x : Int32, own_W p l e R s m args below meth c n0 mc ms Q k n h pc' L (.int x :: S)) : own_W p l e R s m args below meth c n0 mc ms Q k n h pc L (.int j :: .ref a :: S) := fun T locs X hh N => by
  subst hp
  obtain ⟨cl, Ar, sz, el⟩ := A
  obtain ⟨x, hx'⟩ := el _ hj2
  obtain ⟨t, o, b, r⟩ := hr x T locs X hh N
  exact ⟨t, o, X.iaload hx (j := j) (v := .int x) (by rw [hh]; exact Ar.1) (State.isArrayOf_alike hZ.alike Ar.2.1) Ar.2.2 (by rw [sz]; exact fun q => q.elim hj fun r => Nat.not_lt.mpr r hj2) hx' (g := mkF m pc L (.int j :: .ref a :: S)) rfl rfl hd _ b, r⟩
/-- the callee y, handed as' over the heap h, returns r, and keeps the heap -/
def own_C (l : Launch) (Z : State) (y : MethodName) (bytes : ByteArray) (maxL : Nat) (ret : Option FieldType) (as' : Array Value) (n0 : Nat) (h : Heap) (r : Value) : Prop :=
  MetFree l y (head1 [Jvm.Cond.code y bytes maxL ret] own_R0) (fun a U => a = as' ∧ Z.Warmed39 U.vm ∧ U.heap = h) (fun _ _ _ _ _ => True) (fun _ U o U' => ∃ v Lq, o = .returned v ∧ (∃ w, v = some w ∧ (w = r ∧ U'.heap = h) ∧ Fr n0 Lq) ∧ FrameEnd U o U' Lq own_R0.cells own_R0.slots)
theorem own_callS (hx : p.tables.exec = Jvm.exec) {Z : State} {a0 : Array Value} (hZ : Z.Warmed39 s.vm) {own : String} (hown : s.vm.findClass own = some m.cls) {i : Nat} {y : MethodName} {bytes : ByteArray} {maxL : Nat} {ret : Option FieldType} (w1 : (Jvm.Cond.methodLink own i y).before a0 Z = true) (w2 : (Jvm.Cond.static y).before a0 Z = true) (w3 : (Jvm.Cond.initialized y.cls).before a0 Z = true) (w4 : (Jvm.Cond.code y bytes maxL ret).before a0 Z = true) (hy : y.cls ≠ "java/lang/invoke/MethodHandle" ∧ y.cls ≠ "java/lang/invoke/VarHandle") {argsL : List Value} {r : Value} (hC : own_C l Z y bytes maxL ret argsL.toArray n0 h r) {ps : List FieldType} {rr : Option FieldType} (hps : parseMethodDescriptor y.desc = some ⟨ps, rr⟩) (hlen : argsL.length = ps.length) (hfr : 0 + 1 ≤ R.frames) (hlo : (S.map fun v => v.category).sum + (maxL + 11) + 0 ≤ R.locals) (hml : L.size = c.maxLocals) {S0 : List Value} (hS : S0 = argsL.reverse ++ S) (hd : decode c.code pc = .ok (.invokestatic i, 3)) (hkc : k + 0 ≤ R.cells) (hns : n + 0 ≤ R.slots) (hp : pc + 3 = pc') (hr : own_W p l e R s m args below meth c n0 mc ms Q k n h pc' L (r :: S)) : own_W p l e R s m args below meth c n0 mc ms Q k n h pc L S0 := fun T locs X hh N => by
  subst hp
  obtain ⟨_, _, ⟨T1, L1, k1, n1⟩, -, X1, ⟨Lc, hQ, hl, hk, hn⟩, st⟩ := Jvm.LawKit.callS X hx (y := y) hown (mvT hZ w1) (mvT hZ w2) (mvT hZ w3) (mvT hZ w4) hy (backOf (Q := fun v h' Lq => ∃ w, v = some w ∧ (w = r ∧ h' = h) ∧ Fr n0 Lq) (W := (S.map fun v => v.category).sum) hC hZ w4 w3 hfr hlo) (g := mkF m pc L S0) rfl hml (argsL := argsL) (rest := S) (lenOf hps hlen) hS (by show 2 * 0 + _ ≤ _; omega) hd (fun _ _ => ⟨rfl, hh, hkc, hns⟩)
  dsimp only [Pt.U, Pt.locs, Pt.cells, Pt.slots] at X1 hl hk hn st hQ
  obtain ⟨w, rfl, ⟨rfl, e1⟩, N1⟩ := hQ
  subst hl hk hn
  obtain ⟨t, o, a, q⟩ := hr T1 _ X1 e1 (Fr.app N N1)
  exact ⟨t, o, st t a, q⟩
theorem own_callV (hx : p.tables.exec = Jvm.exec) {Z : State} {a0 : Array Value} (hZ : Z.Warmed39 s.vm) {own : String} (hown : s.vm.findClass own = some m.cls) {i : Nat} {y : MethodName} {bytes : ByteArray} {maxL : Nat} {ret : Option FieldType} (w1 : (Jvm.Cond.methodLink own i y).before a0 Z = true) (w2 : (Jvm.Cond.declares y).before a0 Z = true) (w3 : (Jvm.Cond.instanceMethod y).before a0 Z = true) (w5 : (Jvm.Cond.selects y.cls y y).before a0 Z = true) (wz : (Jvm.Cond.initialized y.cls).before a0 Z = true) (w4 : (Jvm.Cond.code y bytes maxL ret).before a0 Z = true) (hy : y.cls ≠ "java/lang/invoke/MethodHandle" ∧ y.cls ≠ "java/lang/invoke/VarHandle") {argsL : List Value} {b : Addr} {r : Value} (E : Exa Z h b y.cls) (hC : own_C l Z y bytes maxL ret (.ref b :: argsL).toArray n0 h r) {ps : List FieldType} {rr : Option FieldType} (hps : parseMethodDescriptor y.desc = some ⟨ps, rr⟩) (hlen : argsL.length = ps.length) (hfr : 0 + 1 ≤ R.frames) (hlo : (S.map fun v => v.category).sum + (maxL + 11) + 0 ≤ R.locals) (hml : L.size = c.maxLocals) {S0 : List Value} (hS : S0 = argsL.reverse ++ .ref b :: S) (hd : decode c.code pc = .ok (.invokevirtual i, 3)) (hkc : k + 0 ≤ R.cells) (hns : n + 0 ≤ R.slots) (hp : pc + 3 = pc') (hr : own_W p l e R s m args below meth c n0 mc ms Q k n h pc' L (r :: S)) : own_W p l e R s m args below meth c n0 mc ms Q k n h pc L S0 := fun T locs X hh N => by
  subst hp
  obtain ⟨cq, kq, qa, qb, qc⟩ := isOf hZ hh E
  obtain ⟨_, _, ⟨T1, L1, k1, n1⟩, -, X1, ⟨Lc, hQ, hl, hk, hn⟩, st⟩ := X.virtualBack hx (y := y) (z := y) hown (mvT hZ w1) (mvT hZ w2) (notFace_of_selects (args := #[]) (mvT hZ w5)) (mvT hZ w5) (mvT hZ w3) hy (backOf (Q := fun v h' Lq => ∃ w, v = some w ∧ (w = r ∧ h' = h) ∧ Fr n0 Lq) (W := (S.map fun v => v.category).sum) hC hZ w4 wz hfr hlo) qa qc (g := mkF m pc L S0) rfl hml (Steps.refl _) (argsL := argsL) (rest := S) (lenOf hps hlen) hS (by show 2 * 0 + _ ≤ _; omega) hd (fun _ _ => ⟨rfl, hh, hkc, hns⟩)
  dsimp only [Pt.U, Pt.locs, Pt.cells, Pt.slots] at X1 hl hk hn st hQ
  obtain ⟨w, rfl, ⟨rfl, e1⟩, N1⟩ := hQ
  subst hl hk hn
  obtain ⟨t, o, a, q⟩ := hr T1 _ X1 e1 (Fr.app N N1)
  exact ⟨t, o, st.trans a, q⟩
theorem own_met {Z : State} {y : MethodName} {bytes : ByteArray} {maxL : Nat} {ret : Option FieldType} {ws : List Jvm.Cond} {as' : Array Value} {L0 : Array Slot} (hpl : plainName y.cls = true) (hef : ∀ m : MethodId, entryFrame m as' maxL = mkF m 0 L0 [])
    (body : ∀ (p : Program) (e : Env) (s : State) (m : MethodId) (below : List Frame) (meth : Method) (c : Code), p.tables.exec = Jvm.exec → c.code = bytes → c.maxLocals = maxL → s.vm.findClass y.cls = some m.cls → Z.Warmed39 s.vm → meth.sig.returnType = ret → meth.locks = false → own_W p l e R s m as' below meth c n0 mc ms Q 0 0 h 0 L0 []) :
    MetFree l y (head1 (Jvm.Cond.code y bytes maxL ret :: ws) R) (fun a U => a = as' ∧ Z.Warmed39 U.vm ∧ U.heap = h) (fun _ _ _ _ _ => True) (fun _ U o U' => ∃ v Lq, o = .returned v ∧ (∃ w, v = some w ∧ Q w U'.heap ∧ Fr n0 Lq) ∧ FrameEnd U o U' Lq mc ms) := by
  refine MetFree.of_bodySF (plainFor_of_name hpl) hisR ?_
  intro p e s m args below meth c s₁ Bd hml0 hP hK
  obtain ⟨rfl, hZ, hh⟩ := hP
  have X0 : Stand p l e R s m _ below meth c s₁ [] 0 0 := Stand.of_body Bd
  have e0 : s₁.heap = h := by rw [← hh, Bd.state]; rfl
  obtain ⟨t, o, st, h1, h2, v, lo, rfl, ⟨hq, hN⟩, hF⟩ := body p e s m below meth c Bd.exec Bd.bytes hml0 (findClass_of_methodNamed Bd.named) hZ Bd.returns Bd.notSynchronized s₁ [] X0 e0 (Fr.nil n0)
  exact ⟨t, _, castTop (hef m) st, h1, h2, some v, lo, rfl, ⟨v, rfl, hq, hN⟩, hF⟩
end Own

section Own2
variable {p : Program} {l : Launch} {e : Env} {R : Room} {s : State} {m : MethodId} {args : Array Value} {below : List Frame} {meth : Method} {c : Code} {n0 mc ms k n : Nat} {Q : Value → Heap → Prop} {h : Heap} {pc pc' : Nat} {L : Array Slot} {S : List Value}
theorem own_dg_d0 : decode method_2_code 0 = .ok (.iload_n 0, 1) := by decide +kernel
theorem own_dg_d1 : decode method_2_code 1 = .ok (.bipush 10, 2) := by decide +kernel
theorem own_dg_d3 : decode method_2_code 3 = .ok (.if_icmp .ge 8, 3) := by decide +kernel
theorem own_dg_d6 : decode method_2_code 6 = .ok (.bipush 48, 2) := by decide +kernel
theorem own_dg_d8 : decode method_2_code 8 = .ok (.iload_n 0, 1) := by decide +kernel
theorem own_dg_d9 : decode method_2_code 9 = .ok (.iadd, 1) := by decide +kernel
theorem own_dg_d10 : decode method_2_code 10 = .ok (.ireturn, 1) := by decide +kernel
theorem own_dg_d11 : decode method_2_code 11 = .ok (.iload_n 1, 1) := by decide +kernel
theorem own_dg_d12 : decode method_2_code 12 = .ok (.ifCond .eq 8, 3) := by decide +kernel
theorem own_dg_d15 : decode method_2_code 15 = .ok (.bipush 65, 2) := by decide +kernel
theorem own_dg_d17 : decode method_2_code 17 = .ok (.goto 5, 3) := by decide +kernel
theorem own_dg_d20 : decode method_2_code 20 = .ok (.bipush 97, 2) := by decide +kernel
theorem own_dg_d22 : decode method_2_code 22 = .ok (.iload_n 0, 1) := by decide +kernel
theorem own_dg_d23 : decode method_2_code 23 = .ok (.bipush 10, 2) := by decide +kernel
theorem own_dg_d25 : decode method_2_code 25 = .ok (.isub, 1) := by decide +kernel
theorem own_dg_d26 : decode method_2_code 26 = .ok (.iadd, 1) := by decide +kernel
theorem own_dg_d27 : decode method_2_code 27 = .ok (.ireturn, 1) := by decide +kernel
def own_dg_f0  (x0 : Int32) (x1 : Int32) : Int32 := (if (10 : Int32) ≤ x0 then (if x1 = 0 then ((97 : Int32) + (x0 - (10 : Int32))) else ((65 : Int32) + (x0 - (10 : Int32)))) else ((48 : Int32) + x0))
set_option maxRecDepth 65536 in
set_option maxHeartbeats 4000000 in
theorem own_dg_b0 (hx : p.tables.exec = Jvm.exec) (hby : c.code = method_2_code) (hml : c.maxLocals = 2) (hown : s.vm.findClass "com/example/querne/querne/functions/PercentEncodingHexValuePinLaw" = some m.cls) {Z : State} {a0 : Array Value} (hZ : Z.Warmed39 s.vm) (hw : ∀ d ∈ tables_1, d.before a0 Z = true) (hret : meth.sig.returnType = some .int) (hlk : meth.locks = false)  (x0 : Int32) (x1 : Int32) (r : Int32) (hf : own_dg_f0  x0 x1 = r) : own_W p l e own_R0 s m args below meth c n0 0 0 (fun v h' => v = .int r ∧ h' = h) 0 0 h 0 #[.val (.int x0), .val (.int x1)] [] := by
  unfold own_dg_f0 at hf
  refine own_iloadN hx (hb hby own_dg_d0) rfl (pc' := 1) rfl ?_
  refine own_bipush hx (z := (10 : Int32)) (hb hby own_dg_d1) (by decide) (pc' := 3) rfl ?_
  refine own_ige hx (hb hby own_dg_d3) (by decide) (pc' := 11) (by decide) (pc2 := 6) rfl hf (fun hf => ?_) (fun hf => ?_)
  · refine own_iloadN hx (hb hby own_dg_d11) rfl (pc' := 12) rfl ?_
    refine own_ieq0 hx (hb hby own_dg_d12) (by decide) (pc' := 20) (by decide) (pc2 := 15) rfl hf (fun hf => ?_) (fun hf => ?_)
    · refine own_bipush hx (z := (97 : Int32)) (hb hby own_dg_d20) (by decide) (pc' := 22) rfl ?_
      refine own_iloadN hx (hb hby own_dg_d22) rfl (pc' := 23) rfl ?_
      refine own_bipush hx (z := (10 : Int32)) (hb hby own_dg_d23) (by decide) (pc' := 25) rfl ?_
      refine own_isub hx (hb hby own_dg_d25) (pc' := 26) rfl ?_
      refine own_iadd hx (hb hby own_dg_d26) (pc' := 27) rfl ?_
      exact own_retI hx hret hlk (hb hby own_dg_d27) (Nat.le_of_ble_eq_true rfl) (Nat.le_of_ble_eq_true rfl) ⟨congrArg _ hf, rfl⟩
    · refine own_bipush hx (z := (65 : Int32)) (hb hby own_dg_d15) (by decide) (pc' := 17) rfl ?_
      refine own_goto hx (hb hby own_dg_d17) (by decide) (pc' := 22) (by decide) ?_
      refine own_iloadN hx (hb hby own_dg_d22) rfl (pc' := 23) rfl ?_
      refine own_bipush hx (z := (10 : Int32)) (hb hby own_dg_d23) (by decide) (pc' := 25) rfl ?_
      refine own_isub hx (hb hby own_dg_d25) (pc' := 26) rfl ?_
      refine own_iadd hx (hb hby own_dg_d26) (pc' := 27) rfl ?_
      exact own_retI hx hret hlk (hb hby own_dg_d27) (Nat.le_of_ble_eq_true rfl) (Nat.le_of_ble_eq_true rfl) ⟨congrArg _ hf, rfl⟩
  · refine own_bipush hx (z := (48 : Int32)) (hb hby own_dg_d6) (by decide) (pc' := 8) rfl ?_
    refine own_iloadN hx (hb hby own_dg_d8) rfl (pc' := 9) rfl ?_
    refine own_iadd hx (hb hby own_dg_d9) (pc' := 10) rfl ?_
    exact own_retI hx hret hlk (hb hby own_dg_d10) (Nat.le_of_ble_eq_true rfl) (Nat.le_of_ble_eq_true rfl) ⟨congrArg _ hf, rfl⟩
theorem own_dg_pn : plainName "com/example/querne/querne/functions/PercentEncodingHexValuePinLaw" = true := by first | (simp [plainName, overriddenIn]; done) | decide +kernel
theorem own_dg_ef (m : MethodId) (x0 : Int32) (x1 : Int32) : entryFrame m #[.int x0, .int x1] 2 = mkF m 0 #[.val (.int x0), .val (.int x1)] [] := by first | (simp [entryFrame, mkF, argsToLocals, Value.category]; done) | rfl
theorem own_dg_C (l : Launch) (Z : State) (a0 : Array Value) (hw : ∀ d ∈ tables_1, d.before a0 Z = true) (n0 : Nat) (h : Heap)  (x0 : Int32) (x1 : Int32) : own_C l Z ⟨"com/example/querne/querne/functions/PercentEncodingHexValuePinLaw", "digit", "(IZ)I"⟩ method_2_code 2 (some .int) #[.int x0, .int x1] n0 h (.int (own_dg_f0 x0 x1)) :=
  own_met own_dg_pn (fun m => own_dg_ef m x0 x1) fun p e s m below meth c hx hby hml hown hZ hret hlk => own_dg_b0 hx hby hml hown hZ hw hret hlk  x0 x1 _ rfl
theorem own_hx_d0 : decode prog_85_method_4_code 0 = .ok (.iconst (-1), 1) := by decide +kernel
theorem own_hx_d1 : decode prog_85_method_4_code 1 = .ok (.istore_n 1, 1) := by decide +kernel
theorem own_hx_d2 : decode prog_85_method_4_code 2 = .ok (.iload_n 0, 1) := by decide +kernel
theorem own_hx_d3 : decode prog_85_method_4_code 3 = .ok (.bipush 48, 2) := by decide +kernel
theorem own_hx_d5 : decode prog_85_method_4_code 5 = .ok (.if_icmp .lt 17, 3) := by decide +kernel
theorem own_hx_d8 : decode prog_85_method_4_code 8 = .ok (.iload_n 0, 1) := by decide +kernel
theorem own_hx_d9 : decode prog_85_method_4_code 9 = .ok (.bipush 57, 2) := by decide +kernel
theorem own_hx_d11 : decode prog_85_method_4_code 11 = .ok (.if_icmp .gt 11, 3) := by decide +kernel
theorem own_hx_d14 : decode prog_85_method_4_code 14 = .ok (.iload_n 0, 1) := by decide +kernel
theorem own_hx_d15 : decode prog_85_method_4_code 15 = .ok (.bipush 48, 2) := by decide +kernel
theorem own_hx_d17 : decode prog_85_method_4_code 17 = .ok (.isub, 1) := by decide +kernel
theorem own_hx_d18 : decode prog_85_method_4_code 18 = .ok (.istore_n 1, 1) := by decide +kernel
theorem own_hx_d19 : decode prog_85_method_4_code 19 = .ok (.goto 46, 3) := by decide +kernel
theorem own_hx_d22 : decode prog_85_method_4_code 22 = .ok (.iload_n 0, 1) := by decide +kernel
theorem own_hx_d23 : decode prog_85_method_4_code 23 = .ok (.bipush 65, 2) := by decide +kernel
theorem own_hx_d25 : decode prog_85_method_4_code 25 = .ok (.if_icmp .lt 20, 3) := by decide +kernel
theorem own_hx_d28 : decode prog_85_method_4_code 28 = .ok (.iload_n 0, 1) := by decide +kernel
theorem own_hx_d29 : decode prog_85_method_4_code 29 = .ok (.bipush 70, 2) := by decide +kernel
theorem own_hx_d31 : decode prog_85_method_4_code 31 = .ok (.if_icmp .gt 14, 3) := by decide +kernel
theorem own_hx_d34 : decode prog_85_method_4_code 34 = .ok (.iload_n 0, 1) := by decide +kernel
theorem own_hx_d35 : decode prog_85_method_4_code 35 = .ok (.bipush 65, 2) := by decide +kernel
theorem own_hx_d37 : decode prog_85_method_4_code 37 = .ok (.isub, 1) := by decide +kernel
theorem own_hx_d38 : decode prog_85_method_4_code 38 = .ok (.bipush 10, 2) := by decide +kernel
theorem own_hx_d40 : decode prog_85_method_4_code 40 = .ok (.iadd, 1) := by decide +kernel
theorem own_hx_d41 : decode prog_85_method_4_code 41 = .ok (.istore_n 1, 1) := by decide +kernel
theorem own_hx_d42 : decode prog_85_method_4_code 42 = .ok (.goto 23, 3) := by decide +kernel
theorem own_hx_d45 : decode prog_85_method_4_code 45 = .ok (.iload_n 0, 1) := by decide +kernel
theorem own_hx_d46 : decode prog_85_method_4_code 46 = .ok (.bipush 97, 2) := by decide +kernel
theorem own_hx_d48 : decode prog_85_method_4_code 48 = .ok (.if_icmp .lt 17, 3) := by decide +kernel
theorem own_hx_d51 : decode prog_85_method_4_code 51 = .ok (.iload_n 0, 1) := by decide +kernel
theorem own_hx_d52 : decode prog_85_method_4_code 52 = .ok (.bipush 102, 2) := by decide +kernel
theorem own_hx_d54 : decode prog_85_method_4_code 54 = .ok (.if_icmp .gt 11, 3) := by decide +kernel
theorem own_hx_d57 : decode prog_85_method_4_code 57 = .ok (.iload_n 0, 1) := by decide +kernel
theorem own_hx_d58 : decode prog_85_method_4_code 58 = .ok (.bipush 97, 2) := by decide +kernel
theorem own_hx_d60 : decode prog_85_method_4_code 60 = .ok (.isub, 1) := by decide +kernel
theorem own_hx_d61 : decode prog_85_method_4_code 61 = .ok (.bipush 10, 2) := by decide +kernel
theorem own_hx_d63 : decode prog_85_method_4_code 63 = .ok (.iadd, 1) := by decide +kernel
theorem own_hx_d64 : decode prog_85_method_4_code 64 = .ok (.istore_n 1, 1) := by decide +kernel
theorem own_hx_d65 : decode prog_85_method_4_code 65 = .ok (.iload_n 1, 1) := by decide +kernel
theorem own_hx_d66 : decode prog_85_method_4_code 66 = .ok (.ireturn, 1) := by decide +kernel
def own_hx_f65  (x0 : Int32) (x1 : Int32) : Int32 := x1
set_option maxRecDepth 65536 in
set_option maxHeartbeats 4000000 in
theorem own_hx_b65 (hx : p.tables.exec = Jvm.exec) (hby : c.code = prog_85_method_4_code) (hml : c.maxLocals = 2) (hown : s.vm.findClass "com/example/querne/querne/functions/PercentEncoding" = some m.cls) {Z : State} {a0 : Array Value} (hZ : Z.Warmed39 s.vm) (hw : ∀ d ∈ tables_1, d.before a0 Z = true) (hret : meth.sig.returnType = some .int) (hlk : meth.locks = false)  (x0 : Int32) (x1 : Int32) (r : Int32) (hf : own_hx_f65  x0 x1 = r) : own_W p l e own_R0 s m args below meth c n0 0 0 (fun v h' => v = .int r ∧ h' = h) 0 0 h 65 #[.val (.int x0), .val (.int x1)] [] := by
  unfold own_hx_f65 at hf
  refine own_iloadN hx (hb hby own_hx_d65) rfl (pc' := 66) rfl ?_
  exact own_retI hx hret hlk (hb hby own_hx_d66) (Nat.le_of_ble_eq_true rfl) (Nat.le_of_ble_eq_true rfl) ⟨congrArg _ hf, rfl⟩
def own_hx_f45  (x0 : Int32) (x1 : Int32) : Int32 := (if x0 < (97 : Int32) then own_hx_f65 x0 x1 else (if (102 : Int32) < x0 then own_hx_f65 x0 x1 else own_hx_f65 x0 ((x0 - (97 : Int32)) + (10 : Int32))))
set_option maxRecDepth 65536 in
set_option maxHeartbeats 4000000 in
theorem own_hx_b45 (hx : p.tables.exec = Jvm.exec) (hby : c.code = prog_85_method_4_code) (hml : c.maxLocals = 2) (hown : s.vm.findClass "com/example/querne/querne/functions/PercentEncoding" = some m.cls) {Z : State} {a0 : Array Value} (hZ : Z.Warmed39 s.vm) (hw : ∀ d ∈ tables_1, d.before a0 Z = true) (hret : meth.sig.returnType = some .int) (hlk : meth.locks = false)  (x0 : Int32) (x1 : Int32) (r : Int32) (hf : own_hx_f45  x0 x1 = r) : own_W p l e own_R0 s m args below meth c n0 0 0 (fun v h' => v = .int r ∧ h' = h) 0 0 h 45 #[.val (.int x0), .val (.int x1)] [] := by
  unfold own_hx_f45 at hf
  refine own_iloadN hx (hb hby own_hx_d45) rfl (pc' := 46) rfl ?_
  refine own_bipush hx (z := (97 : Int32)) (hb hby own_hx_d46) (by decide) (pc' := 48) rfl ?_
  refine own_ilt hx (hb hby own_hx_d48) (by decide) (pc' := 65) (by decide) (pc2 := 51) rfl hf (fun hf => ?_) (fun hf => ?_)
  · exact own_hx_b65 hx hby hml hown hZ hw hret hlk  x0 x1 r hf
  · refine own_iloadN hx (hb hby own_hx_d51) rfl (pc' := 52) rfl ?_
    refine own_bipush hx (z := (102 : Int32)) (hb hby own_hx_d52) (by decide) (pc' := 54) rfl ?_
    refine own_igt hx (hb hby own_hx_d54) (by decide) (pc' := 65) (by decide) (pc2 := 57) rfl hf (fun hf => ?_) (fun hf => ?_)
    · exact own_hx_b65 hx hby hml hown hZ hw hret hlk  x0 x1 r hf
    · refine own_iloadN hx (hb hby own_hx_d57) rfl (pc' := 58) rfl ?_
      refine own_bipush hx (z := (97 : Int32)) (hb hby own_hx_d58) (by decide) (pc' := 60) rfl ?_
      refine own_isub hx (hb hby own_hx_d60) (pc' := 61) rfl ?_
      refine own_bipush hx (z := (10 : Int32)) (hb hby own_hx_d61) (by decide) (pc' := 63) rfl ?_
      refine own_iadd hx (hb hby own_hx_d63) (pc' := 64) rfl ?_
      refine own_istoreN hx (L' := #[.val (.int x0), .val (.int ((x0 - (97 : Int32)) + (10 : Int32)))]) (hb hby own_hx_d64) rfl (pc' := 65) rfl ?_
      exact own_hx_b65 hx hby hml hown hZ hw hret hlk  x0 ((x0 - (97 : Int32)) + (10 : Int32)) r hf
def own_hx_f22  (x0 : Int32) (x1 : Int32) : Int32 := (if x0 < (65 : Int32) then own_hx_f45 x0 x1 else (if (70 : Int32) < x0 then own_hx_f45 x0 x1 else own_hx_f65 x0 ((x0 - (65 : Int32)) + (10 : Int32))))
set_option maxRecDepth 65536 in
set_option maxHeartbeats 4000000 in
theorem own_hx_b22 (hx : p.tables.exec = Jvm.exec) (hby : c.code = prog_85_method_4_code) (hml : c.maxLocals = 2) (hown : s.vm.findClass "com/example/querne/querne/functions/PercentEncoding" = some m.cls) {Z : State} {a0 : Array Value} (hZ : Z.Warmed39 s.vm) (hw : ∀ d ∈ tables_1, d.before a0 Z = true) (hret : meth.sig.returnType = some .int) (hlk : meth.locks = false)  (x0 : Int32) (x1 : Int32) (r : Int32) (hf : own_hx_f22  x0 x1 = r) : own_W p l e own_R0 s m args below meth c n0 0 0 (fun v h' => v = .int r ∧ h' = h) 0 0 h 22 #[.val (.int x0), .val (.int x1)] [] := by
  unfold own_hx_f22 at hf
  refine own_iloadN hx (hb hby own_hx_d22) rfl (pc' := 23) rfl ?_
  refine own_bipush hx (z := (65 : Int32)) (hb hby own_hx_d23) (by decide) (pc' := 25) rfl ?_
  refine own_ilt hx (hb hby own_hx_d25) (by decide) (pc' := 45) (by decide) (pc2 := 28) rfl hf (fun hf => ?_) (fun hf => ?_)
  · exact own_hx_b45 hx hby hml hown hZ hw hret hlk  x0 x1 r hf
  · refine own_iloadN hx (hb hby own_hx_d28) rfl (pc' := 29) rfl ?_
    refine own_bipush hx (z := (70 : Int32)) (hb hby own_hx_d29) (by decide) (pc' := 31) rfl ?_
    refine own_igt hx (hb hby own_hx_d31) (by decide) (pc' := 45) (by decide) (pc2 := 34) rfl hf (fun hf => ?_) (fun hf => ?_)
    · exact own_hx_b45 hx hby hml hown hZ hw hret hlk  x0 x1 r hf
    · refine own_iloadN hx (hb hby own_hx_d34) rfl (pc' := 35) rfl ?_
      refine own_bipush hx (z := (65 : Int32)) (hb hby own_hx_d35) (by decide) (pc' := 37) rfl ?_
      refine own_isub hx (hb hby own_hx_d37) (pc' := 38) rfl ?_
      refine own_bipush hx (z := (10 : Int32)) (hb hby own_hx_d38) (by decide) (pc' := 40) rfl ?_
      refine own_iadd hx (hb hby own_hx_d40) (pc' := 41) rfl ?_
      refine own_istoreN hx (L' := #[.val (.int x0), .val (.int ((x0 - (65 : Int32)) + (10 : Int32)))]) (hb hby own_hx_d41) rfl (pc' := 42) rfl ?_
      refine own_goto hx (hb hby own_hx_d42) (by decide) (pc' := 65) (by decide) ?_
      exact own_hx_b65 hx hby hml hown hZ hw hret hlk  x0 ((x0 - (65 : Int32)) + (10 : Int32)) r hf
def own_hx_f0  (x0 : Int32) : Int32 := (if x0 < (48 : Int32) then own_hx_f22 x0 (-1 : Int32) else (if (57 : Int32) < x0 then own_hx_f22 x0 (-1 : Int32) else own_hx_f65 x0 (x0 - (48 : Int32))))
set_option maxRecDepth 65536 in
set_option maxHeartbeats 4000000 in
theorem own_hx_b0 (hx : p.tables.exec = Jvm.exec) (hby : c.code = prog_85_method_4_code) (hml : c.maxLocals = 2) (hown : s.vm.findClass "com/example/querne/querne/functions/PercentEncoding" = some m.cls) {Z : State} {a0 : Array Value} (hZ : Z.Warmed39 s.vm) (hw : ∀ d ∈ tables_1, d.before a0 Z = true) (hret : meth.sig.returnType = some .int) (hlk : meth.locks = false)  (x0 : Int32) (r : Int32) (hf : own_hx_f0  x0 = r) : own_W p l e own_R0 s m args below meth c n0 0 0 (fun v h' => v = .int r ∧ h' = h) 0 0 h 0 #[.val (.int x0), .unset] [] := by
  unfold own_hx_f0 at hf
  refine own_iconst hx (z := (-1 : Int32)) (hb hby own_hx_d0) (by decide) (pc' := 1) rfl ?_
  refine own_istoreN hx (L' := #[.val (.int x0), .val (.int (-1 : Int32))]) (hb hby own_hx_d1) rfl (pc' := 2) rfl ?_
  refine own_iloadN hx (hb hby own_hx_d2) rfl (pc' := 3) rfl ?_
  refine own_bipush hx (z := (48 : Int32)) (hb hby own_hx_d3) (by decide) (pc' := 5) rfl ?_
  refine own_ilt hx (hb hby own_hx_d5) (by decide) (pc' := 22) (by decide) (pc2 := 8) rfl hf (fun hf => ?_) (fun hf => ?_)
  · exact own_hx_b22 hx hby hml hown hZ hw hret hlk  x0 (-1 : Int32) r hf
  · refine own_iloadN hx (hb hby own_hx_d8) rfl (pc' := 9) rfl ?_
    refine own_bipush hx (z := (57 : Int32)) (hb hby own_hx_d9) (by decide) (pc' := 11) rfl ?_
    refine own_igt hx (hb hby own_hx_d11) (by decide) (pc' := 22) (by decide) (pc2 := 14) rfl hf (fun hf => ?_) (fun hf => ?_)
    · exact own_hx_b22 hx hby hml hown hZ hw hret hlk  x0 (-1 : Int32) r hf
    · refine own_iloadN hx (hb hby own_hx_d14) rfl (pc' := 15) rfl ?_
      refine own_bipush hx (z := (48 : Int32)) (hb hby own_hx_d15) (by decide) (pc' := 17) rfl ?_
      refine own_isub hx (hb hby own_hx_d17) (pc' := 18) rfl ?_
      refine own_istoreN hx (L' := #[.val (.int x0), .val (.int (x0 - (48 : Int32)))]) (hb hby own_hx_d18) rfl (pc' := 19) rfl ?_
      refine own_goto hx (hb hby own_hx_d19) (by decide) (pc' := 65) (by decide) ?_
      exact own_hx_b65 hx hby hml hown hZ hw hret hlk  x0 (x0 - (48 : Int32)) r hf
theorem own_hx_pn : plainName "com/example/querne/querne/functions/PercentEncoding" = true := by first | (simp [plainName, overriddenIn]; done) | decide +kernel
theorem own_hx_ef (m : MethodId) (x0 : Int32) : entryFrame m #[.int x0] 2 = mkF m 0 #[.val (.int x0), .unset] [] := by first | (simp [entryFrame, mkF, argsToLocals, Value.category]; done) | rfl
theorem own_hx_C (l : Launch) (Z : State) (a0 : Array Value) (hw : ∀ d ∈ tables_1, d.before a0 Z = true) (n0 : Nat) (h : Heap)  (x0 : Int32) : own_C l Z ⟨"com/example/querne/querne/functions/PercentEncoding", "hexValue", "(I)I"⟩ prog_85_method_4_code 2 (some .int) #[.int x0] n0 h (.int (own_hx_f0 x0)) :=
  own_met own_hx_pn (fun m => own_hx_ef m x0) fun p e s m below meth c hx hby hml hown hZ hret hlk => own_hx_b0 hx hby hml hown hZ hw hret hlk  x0 _ rfl
theorem own_pdD : parseMethodDescriptor "(IZ)I" = some ⟨[.int, .boolean], some .int⟩ := by decide +kernel
theorem own_pdH : parseMethodDescriptor "(I)I" = some ⟨[.int], some .int⟩ := by decide +kernel
def own_law_f39  (x0 : Int32) (x1 : Int32) (x2 : Int32) (x3 : Int32) (x4 : Int32) (x5 : Int32) : Int32 := (if x5 = (-1 : Int32) then (1 : Int32) else (if x5 < 0 then (0 : Int32) else (if x5 ≤ (15 : Int32) then (if x0 = (own_dg_f0 x5 (1 : Int32)) then (1 : Int32) else (if x0 = (own_dg_f0 x5 (0 : Int32)) then (1 : Int32) else (0 : Int32))) else (0 : Int32))))
set_option maxRecDepth 65536 in
set_option maxHeartbeats 4000000 in
theorem own_law_b39 (hx : p.tables.exec = Jvm.exec) (hby : c.code = code) (hml : c.maxLocals = maxLocals) (hown : s.vm.findClass "com/example/querne/querne/functions/PercentEncodingHexValuePinLaw" = some m.cls) {Z : State} {a0 : Array Value} (hZ : Z.Warmed39 s.vm) (hw : ∀ d ∈ tables_1, d.before a0 Z = true) (hret : meth.sig.returnType = some .boolean) (hlk : meth.locks = false)  (x0 : Int32) (x1 : Int32) (x2 : Int32) (x3 : Int32) (x4 : Int32) (x5 : Int32) (r : Int32) (hf : own_law_f39  x0 x1 x2 x3 x4 x5 = r) : own_W p l e room_1 s m args below meth c n0 0 0 (fun v _ => v = .int r) 0 0 h 39 #[.val (.int x0), .val (.int x1), .val (.int x2), .val (.int x3), .val (.int x4), .val (.int x5)] [] := by
  unfold own_law_f39 at hf
  refine own_iload hx (hb hby at_39) rfl (pc' := 41) rfl ?_
  refine own_iconst hx (z := (-1 : Int32)) (hb hby at_41) (by decide) (pc' := 42) rfl ?_
  refine own_ine hx (hb hby at_42) (by decide) (pc' := 47) (by decide) (pc2 := 45) rfl hf (fun hf => ?_) (fun hf => ?_)
  · refine own_iload hx (hb hby at_47) rfl (pc' := 49) rfl ?_
    refine own_ilt0 hx (hb hby at_49) (by decide) (pc' := 59) (by decide) (pc2 := 52) rfl hf (fun hf => ?_) (fun hf => ?_)
    · refine own_iconst hx (z := (0 : Int32)) (hb hby at_59) (by decide) (pc' := 60) rfl ?_
      exact own_retZ hx hret hlk rfl (hb hby at_60) (Nat.le_of_ble_eq_true rfl) (Nat.le_of_ble_eq_true rfl) (congrArg _ hf)
    · refine own_iload hx (hb hby at_52) rfl (pc' := 54) rfl ?_
      refine own_bipush hx (z := (15 : Int32)) (hb hby at_54) (by decide) (pc' := 56) rfl ?_
      refine own_ile hx (hb hby at_56) (by decide) (pc' := 61) (by decide) (pc2 := 59) rfl hf (fun hf => ?_) (fun hf => ?_)
      · refine own_iloadN hx (hb hby at_61) rfl (pc' := 62) rfl ?_
        refine own_iload hx (hb hby at_62) rfl (pc' := 64) rfl ?_
        refine own_iconst hx (z := (1 : Int32)) (hb hby at_64) (by decide) (pc' := 65) rfl ?_
        refine own_callS hx hZ hown (hw _ (List.mem_of_getElem? (i := 0) rfl)) (hw _ (List.mem_of_getElem? (i := 1) rfl)) (hw _ (List.mem_of_getElem? (i := 2) rfl)) (hw _ (List.mem_of_getElem? (i := 3) rfl)) (by decide) (argsL := [(.int x5), (.int (1 : Int32))]) (S := [(.int x0)]) (own_dg_C l Z a0 hw n0 h x5 (1 : Int32)) own_pdD rfl (by decide) (Nat.le_of_ble_eq_true rfl) (by rw [hml]; rfl) rfl (hb hby at_65) (by decide) (by decide) (pc' := 68) rfl ?_
        refine own_ieq hx (hb hby at_68) (by decide) (pc' := 81) (by decide) (pc2 := 71) rfl hf (fun hf => ?_) (fun hf => ?_)
        · refine own_iconst hx (z := (1 : Int32)) (hb hby at_81) (by decide) (pc' := 82) rfl ?_
          refine own_goto hx (hb hby at_82) (by decide) (pc' := 86) (by decide) ?_
          exact own_retZ hx hret hlk rfl (hb hby at_86) (Nat.le_of_ble_eq_true rfl) (Nat.le_of_ble_eq_true rfl) (congrArg _ hf)
        · refine own_iloadN hx (hb hby at_71) rfl (pc' := 72) rfl ?_
          refine own_iload hx (hb hby at_72) rfl (pc' := 74) rfl ?_
          refine own_iconst hx (z := (0 : Int32)) (hb hby at_74) (by decide) (pc' := 75) rfl ?_
          refine own_callS hx hZ hown (hw _ (List.mem_of_getElem? (i := 0) rfl)) (hw _ (List.mem_of_getElem? (i := 1) rfl)) (hw _ (List.mem_of_getElem? (i := 2) rfl)) (hw _ (List.mem_of_getElem? (i := 3) rfl)) (by decide) (argsL := [(.int x5), (.int (0 : Int32))]) (S := [(.int x0)]) (own_dg_C l Z a0 hw n0 h x5 (0 : Int32)) own_pdD rfl (by decide) (Nat.le_of_ble_eq_true rfl) (by rw [hml]; rfl) rfl (hb hby at_75) (by decide) (by decide) (pc' := 78) rfl ?_
          refine own_ine hx (hb hby at_78) (by decide) (pc' := 85) (by decide) (pc2 := 81) rfl hf (fun hf => ?_) (fun hf => ?_)
          · refine own_iconst hx (z := (0 : Int32)) (hb hby at_85) (by decide) (pc' := 86) rfl ?_
            exact own_retZ hx hret hlk rfl (hb hby at_86) (Nat.le_of_ble_eq_true rfl) (Nat.le_of_ble_eq_true rfl) (congrArg _ hf)
          · refine own_iconst hx (z := (1 : Int32)) (hb hby at_81) (by decide) (pc' := 82) rfl ?_
            refine own_goto hx (hb hby at_82) (by decide) (pc' := 86) (by decide) ?_
            exact own_retZ hx hret hlk rfl (hb hby at_86) (Nat.le_of_ble_eq_true rfl) (Nat.le_of_ble_eq_true rfl) (congrArg _ hf)
      · refine own_iconst hx (z := (0 : Int32)) (hb hby at_59) (by decide) (pc' := 60) rfl ?_
        exact own_retZ hx hret hlk rfl (hb hby at_60) (Nat.le_of_ble_eq_true rfl) (Nat.le_of_ble_eq_true rfl) (congrArg _ hf)
  · refine own_iconst hx (z := (1 : Int32)) (hb hby at_45) (by decide) (pc' := 46) rfl ?_
    exact own_retZ hx hret hlk rfl (hb hby at_46) (Nat.le_of_ble_eq_true rfl) (Nat.le_of_ble_eq_true rfl) (congrArg _ hf)
def own_law_f33  (x0 : Int32) (x1 : Int32) (x2 : Int32) (x3 : Int32) (x4 : Int32) : Int32 := own_law_f39 x0 x1 x2 x3 x4 (own_hx_f0 x0)
set_option maxRecDepth 65536 in
set_option maxHeartbeats 4000000 in
theorem own_law_b33 (hx : p.tables.exec = Jvm.exec) (hby : c.code = code) (hml : c.maxLocals = maxLocals) (hown : s.vm.findClass "com/example/querne/querne/functions/PercentEncodingHexValuePinLaw" = some m.cls) {Z : State} {a0 : Array Value} (hZ : Z.Warmed39 s.vm) (hw : ∀ d ∈ tables_1, d.before a0 Z = true) (hret : meth.sig.returnType = some .boolean) (hlk : meth.locks = false)  (x0 : Int32) (x1 : Int32) (x2 : Int32) (x3 : Int32) (x4 : Int32) (r : Int32) (hf : own_law_f33  x0 x1 x2 x3 x4 = r) : own_W p l e room_1 s m args below meth c n0 0 0 (fun v _ => v = .int r) 0 0 h 33 #[.val (.int x0), .val (.int x1), .val (.int x2), .val (.int x3), .val (.int x4), .unset] [] := by
  unfold own_law_f33 at hf
  refine own_iloadN hx (hb hby at_33) rfl (pc' := 34) rfl ?_
  refine own_callS hx hZ hown (hw _ (List.mem_of_getElem? (i := 4) rfl)) (hw _ (List.mem_of_getElem? (i := 5) rfl)) (hw _ (List.mem_of_getElem? (i := 6) rfl)) (hw _ (List.mem_of_getElem? (i := 7) rfl)) (by decide) (argsL := [(.int x0)]) (S := []) (own_hx_C l Z a0 hw n0 h x0) own_pdH rfl (by decide) (Nat.le_of_ble_eq_true rfl) (by rw [hml]; rfl) rfl (hb hby at_34) (by decide) (by decide) (pc' := 37) rfl ?_
  refine own_istore hx (L' := #[.val (.int x0), .val (.int x1), .val (.int x2), .val (.int x3), .val (.int x4), .val (.int (own_hx_f0 x0))]) (hb hby at_37) rfl (pc' := 39) rfl ?_
  exact own_law_b39 hx hby hml hown hZ hw hret hlk  x0 x1 x2 x3 x4 (own_hx_f0 x0) r hf
def own_law_f16  (x0 : Int32) (x1 : Int32) (x2 : Int32) (x3 : Int32) (s0 : Int32) : Int32 := (if (own_hx_f0 (own_dg_f0 x3 s0)) = x3 then own_law_f33 x0 x1 x2 x3 s0 else (0 : Int32))
set_option maxRecDepth 65536 in
set_option maxHeartbeats 4000000 in
theorem own_law_b16 (hx : p.tables.exec = Jvm.exec) (hby : c.code = code) (hml : c.maxLocals = maxLocals) (hown : s.vm.findClass "com/example/querne/querne/functions/PercentEncodingHexValuePinLaw" = some m.cls) {Z : State} {a0 : Array Value} (hZ : Z.Warmed39 s.vm) (hw : ∀ d ∈ tables_1, d.before a0 Z = true) (hret : meth.sig.returnType = some .boolean) (hlk : meth.locks = false)  (x0 : Int32) (x1 : Int32) (x2 : Int32) (x3 : Int32) (s0 : Int32) (r : Int32) (hf : own_law_f16  x0 x1 x2 x3 s0 = r) : own_W p l e room_1 s m args below meth c n0 0 0 (fun v _ => v = .int r) 0 0 h 16 #[.val (.int x0), .val (.int x1), .val (.int x2), .val (.int x3), .unset, .unset] [(.int s0)] := by
  unfold own_law_f16 at hf
  refine own_istore hx (L' := #[.val (.int x0), .val (.int x1), .val (.int x2), .val (.int x3), .val (.int s0), .unset]) (hb hby at_16) rfl (pc' := 18) rfl ?_
  refine own_iloadN hx (hb hby at_18) rfl (pc' := 19) rfl ?_
  refine own_iload hx (hb hby at_19) rfl (pc' := 21) rfl ?_
  refine own_callS hx hZ hown (hw _ (List.mem_of_getElem? (i := 0) rfl)) (hw _ (List.mem_of_getElem? (i := 1) rfl)) (hw _ (List.mem_of_getElem? (i := 2) rfl)) (hw _ (List.mem_of_getElem? (i := 3) rfl)) (by decide) (argsL := [(.int x3), (.int s0)]) (S := []) (own_dg_C l Z a0 hw n0 h x3 s0) own_pdD rfl (by decide) (Nat.le_of_ble_eq_true rfl) (by rw [hml]; rfl) rfl (hb hby at_21) (by decide) (by decide) (pc' := 24) rfl ?_
  refine own_callS hx hZ hown (hw _ (List.mem_of_getElem? (i := 4) rfl)) (hw _ (List.mem_of_getElem? (i := 5) rfl)) (hw _ (List.mem_of_getElem? (i := 6) rfl)) (hw _ (List.mem_of_getElem? (i := 7) rfl)) (by decide) (argsL := [(.int (own_dg_f0 x3 s0))]) (S := []) (own_hx_C l Z a0 hw n0 h (own_dg_f0 x3 s0)) own_pdH rfl (by decide) (Nat.le_of_ble_eq_true rfl) (by rw [hml]; rfl) rfl (hb hby at_24) (by decide) (by decide) (pc' := 27) rfl ?_
  refine own_iloadN hx (hb hby at_27) rfl (pc' := 28) rfl ?_
  refine own_ieq hx (hb hby at_28) (by decide) (pc' := 33) (by decide) (pc2 := 31) rfl hf (fun hf => ?_) (fun hf => ?_)
  · exact own_law_b33 hx hby hml hown hZ hw hret hlk  x0 x1 x2 x3 s0 r hf
  · refine own_iconst hx (z := (0 : Int32)) (hb hby at_31) (by decide) (pc' := 32) rfl ?_
    exact own_retZ hx hret hlk rfl (hb hby at_32) (Nat.le_of_ble_eq_true rfl) (Nat.le_of_ble_eq_true rfl) (congrArg _ hf)
def own_law_f0  (x0 : Int32) (x1 : Int32) (x2 : Int32) : Int32 := (if (x2 &&& (1 : Int32)) = 0 then own_law_f16 x0 x1 x2 (x1 &&& (15 : Int32)) (0 : Int32) else own_law_f16 x0 x1 x2 (x1 &&& (15 : Int32)) (1 : Int32))
set_option maxRecDepth 65536 in
set_option maxHeartbeats 4000000 in
theorem own_law_b0 (hx : p.tables.exec = Jvm.exec) (hby : c.code = code) (hml : c.maxLocals = maxLocals) (hown : s.vm.findClass "com/example/querne/querne/functions/PercentEncodingHexValuePinLaw" = some m.cls) {Z : State} {a0 : Array Value} (hZ : Z.Warmed39 s.vm) (hw : ∀ d ∈ tables_1, d.before a0 Z = true) (hret : meth.sig.returnType = some .boolean) (hlk : meth.locks = false)  (x0 : Int32) (x1 : Int32) (x2 : Int32) (r : Int32) (hf : own_law_f0  x0 x1 x2 = r) : own_W p l e room_1 s m args below meth c n0 0 0 (fun v _ => v = .int r) 0 0 h 0 #[.val (.int x0), .val (.int x1), .val (.int x2), .unset, .unset, .unset] [] := by
  unfold own_law_f0 at hf
  refine own_iloadN hx (hb hby at_0) rfl (pc' := 1) rfl ?_
  refine own_bipush hx (z := (15 : Int32)) (hb hby at_1) (by decide) (pc' := 3) rfl ?_
  refine own_iand hx (hb hby at_3) (pc' := 4) rfl ?_
  refine own_istoreN hx (L' := #[.val (.int x0), .val (.int x1), .val (.int x2), .val (.int (x1 &&& (15 : Int32))), .unset, .unset]) (hb hby at_4) rfl (pc' := 5) rfl ?_
  refine own_iloadN hx (hb hby at_5) rfl (pc' := 6) rfl ?_
  refine own_iconst hx (z := (1 : Int32)) (hb hby at_6) (by decide) (pc' := 7) rfl ?_
  refine own_iand hx (hb hby at_7) (pc' := 8) rfl ?_
  refine own_ieq0 hx (hb hby at_8) (by decide) (pc' := 15) (by decide) (pc2 := 11) rfl hf (fun hf => ?_) (fun hf => ?_)
  · refine own_iconst hx (z := (0 : Int32)) (hb hby at_15) (by decide) (pc' := 16) rfl ?_
    exact own_law_b16 hx hby hml hown hZ hw hret hlk  x0 x1 x2 (x1 &&& (15 : Int32)) (0 : Int32) r hf
  · refine own_iconst hx (z := (1 : Int32)) (hb hby at_11) (by decide) (pc' := 12) rfl ?_
    refine own_goto hx (hb hby at_12) (by decide) (pc' := 16) (by decide) ?_
    exact own_law_b16 hx hby hml hown hZ hw hret hlk  x0 x1 x2 (x1 &&& (15 : Int32)) (1 : Int32) r hf
/-! the plain law -/
theorem own_of (c : Int32) (k : Nat) (h0 : 0 ≤ c.toInt) (h1 : c.toInt < k) (hk : k < 2 ^ 31) : ∃ i : Fin k, c = Int32.ofNat i.val := by
  refine ⟨⟨c.toInt.toNat, by omega⟩, ?_⟩
  apply Int32.toInt_inj.mp
  show c.toInt = (Int32.ofNat c.toInt.toNat).toInt
  rw [Int32.toInt_ofNat_of_lt (by omega)]; omega
theorem own_dig : ∀ i : Fin 16, decide (own_hx_f0 (own_dg_f0 (Int32.ofNat i.val) 0) = Int32.ofNat i.val ∧ own_hx_f0 (own_dg_f0 (Int32.ofNat i.val) 1) = Int32.ofNat i.val) = true := by decide +kernel
theorem own_asc : ∀ i : Fin 128, decide (own_law_f33 (Int32.ofNat i.val) 0 0 0 0 = 1) = true := by decide +kernel
theorem own_f33_any (a b c d e : Int32) : own_law_f33 a b c d e = own_law_f33 a 0 0 0 0 := rfl
theorem own_back (x b c d e : Int32) : own_law_f33 x b c d e = 1 := by
  rw [own_f33_any]
  have L : ∀ z : Int32, (x < z ↔ x.toInt < z.toInt) := fun z => Int32.lt_iff_toInt_lt
  have G : ∀ z : Int32, (z < x ↔ z.toInt < x.toInt) := fun z => Int32.lt_iff_toInt_lt
  by_cases h0 : x.toInt < 0
  · have e1 : own_hx_f0 x = -1 := by
      unfold own_hx_f0 own_hx_f22 own_hx_f45 own_hx_f65
      rw [if_pos ((L 48).mpr (Int.lt_trans h0 (by decide))), if_pos ((L 65).mpr (Int.lt_trans h0 (by decide))), if_pos ((L 97).mpr (Int.lt_trans h0 (by decide)))]
    unfold own_law_f33 own_law_f39
    rw [e1, if_pos rfl]
  · by_cases h1 : x.toInt < 128
    · obtain ⟨i, rfl⟩ := own_of x 128 (by omega) h1 (by decide)
      exact of_decide_eq_true (own_asc i)
    · have g : ∀ z : Int32, z.toInt < 128 → ¬ x < z ∧ z < x := fun z hz => by rw [L, G]; omega
      have e1 : own_hx_f0 x = -1 := by
        unfold own_hx_f0 own_hx_f22 own_hx_f45 own_hx_f65
        rw [if_neg (g 48 (by decide)).1, if_pos (g 57 (by decide)).2, if_neg (g 65 (by decide)).1, if_pos (g 70 (by decide)).2, if_neg (g 97 (by decide)).1, if_pos (g 102 (by decide)).2]
      unfold own_law_f33 own_law_f39
      rw [e1, if_pos rfl]
theorem own_plain (x v flag : Int32) : own_law_f0 x v flag = 1 := by
  have hm := c_mask v 15 4 (by decide) (by decide)
  have hm' : (v &&& 15).toInt = v.toInt % 16 := hm
  obtain ⟨i, hi⟩ := own_of (v &&& 15) 16 (by omega) (by omega) (by decide)
  have hd := of_decide_eq_true (own_dig i)
  rw [← hi] at hd
  unfold own_law_f0 own_law_f16
  split
  · rw [if_pos hd.1]; exact own_back _ _ _ _ _
  · rw [if_pos hd.2]; exact own_back _ _ _ _ _

theorem own_pn : plainName x.cls = true := by first | (simp [x, plainName, overriddenIn]; done) | decide +kernel

theorem own_law_ef (m : MethodId) (i0 : Int32) (i1 : Int32) (i2 : Int32) : entryFrame m #[(.int i0), (.int i1), (.int i2)] maxLocals = mkF m 0 #[.val (.int i0), .val (.int i1), .val (.int i2), .unset, .unset, .unset] [] := by first | (simp [entryFrame, mkF, argsToLocals, Value.category, maxLocals]; done) | rfl
theorem own_law_M (l : Launch) (Z : State) (a0 : Array Value) (hw : ∀ d ∈ tables_1, d.before a0 Z = true) (n0 : Nat) (h : Heap) (Z0 : n0 ≤ h.size)  (i0 : Int32) (i1 : Int32) (i2 : Int32) :
    MetFree l x (head1 (Jvm.Cond.code x code maxLocals ret :: tables_1) room_1) (fun a U => a = #[(.int i0), (.int i1), (.int i2)] ∧ Z.Warmed39 U.vm ∧ U.heap = h) (fun _ _ _ _ _ => True) (fun _ U o U' => ∃ v Lq, o = .returned v ∧ (∃ w, v = some w ∧ w = .int 1 ∧ Fr n0 Lq) ∧ FrameEnd U o U' Lq 0 0) :=
  own_met (Q := fun v _ => v = .int 1) own_pn (fun m => own_law_ef m i0 i1 i2) fun p e s m below meth c hx hby hml hown hZ hret hlk => own_law_b0 hx hby hml hown hZ hw hret hlk i0 i1 i2 1 (own_plain i0 i1 i2)

end Own2
set_option maxRecDepth 65536 in
set_option maxHeartbeats 40000000 in
theorem own_comes {Post : Tables → Env → Array Value → State → Outcome → State → Prop} (hpost : ∀ tb e args s v u, (limb_1_1.after args s (.returned v) u = true ∧ limb_1_2.after args s (.returned v) u = true ∧ True) → FrameEnd s (.returned v) u (Jvm.fieldLocs frame_1_writes args s ++ Jvm.arrayLocs frame_1_arrays args s ++ Jvm.staticLocs frame_1_statics s) 0 0 → Post tb e args s (.returned v) u) :
    ArmFor flags0 classFile x code maxLocals ret World_1 tables_1 room_1 Calls_1 rest_1 Pre_1 Post := by
  intro l hfl _ _ p e ha hc hk s m args below hf hA hF happ hP
  obtain ⟨hcalls, hrest, hpre⟩ := hP
  obtain ⟨-, -, -, hnamed, -, -, -, hat⟩ := (Spec.applies_iff hf).mp happ
  obtain ⟨hg, hn⟩ := and_e (Cond.before_iff.mp (show (Jvm.Cond.and given_1 narrow_1).before args s = true from hpre))
  obtain ⟨g0, t0⟩ := and_e hg
  obtain ⟨g1, t1⟩ := and_e t0
  obtain ⟨g2, t2⟩ := and_e t1
  obtain ⟨w0, w1, w2, rfl⟩ : ∃ w0 w1 w2 : Value, args = #[w0, w1, w2] := by
    have hs : args.size = 3 := by simpa [Cond.value, given_1] using g0
    obtain ⟨L⟩ := args
    match L, hs with
    | [w0, w1, w2], _ => exact ⟨w0, w1, w2, rfl⟩
  have hw := fun d (hd : d ∈ tables_1) => atoms_spec (ws := Jvm.Cond.code x code maxLocals ret :: tables_1) hat d (List.mem_cons_of_mem _ hd)
  obtain ⟨i0, e0⟩ := is_v g1
  obtain rfl : w0 = (.int i0) := Option.some.inj e0
  obtain ⟨i1, e1⟩ := is_v g2
  obtain rfl : w1 = (.int i1) := Option.some.inj e1
  obtain ⟨i2, e2⟩ := is_v t2
  obtain rfl : w2 = (.int i2) := Option.some.inj e2
  obtain ⟨n, o, h1, h2, h3, _, L, rfl, ⟨_, rfl, rfl, N⟩, hq⟩ := own_law_M l s _ hw s.heap.size s.heap (Nat.le_refl _)  i0 i1 i2 p e ha hc hk s m _ below hf ((Spec.applies_iff_loose hf).mp happ).1 ⟨rfl, State.Warmed39.refl s, rfl⟩ trivial
  refine ⟨n, _, h1, h2, h3, hpost _ _ _ _ _ _ ⟨Cond.after_iff.mpr rfl, Cond.after_iff.mpr (eq_i res_at (Term.int_eval (1)) rfl), trivial⟩ ⟨hq.1, hq.2.1, (hq.2.2.sift fun y hy => Or.inr (N y hy)).mono (by decide) (by decide)⟩⟩
theorem main_1_1 : Claimed_1_1 := own_comes fun _ _ _ _ _ _ h hF => ⟨h.1, hF⟩
theorem main_1_2 : Claimed_1_2 := own_comes fun _ _ _ _ _ _ h hF => ⟨h.2.1, hF⟩
end Jvm.Pilot.@@N@@
namespace Jvm.Pilot.@@N@@
open Jvm Jvm.ClassFile Sem Op Lib Jvm.Free Jvm.Stand Jvm.Pilot.@@N@@.Jvm.D
/-! MADE BY PROGRAM (witnessworld.py) out of the Statement's table words and the real class files: 9 classes; the members and pool entries that the words name. The judged class is class 1, her method 2. -/
namespace start1
open Jvm.ClassFile
def u (s : String) : CpInfo := .utf8 (stringToUtf16 s)
/-- a pool by its gaps: so many unusable entries, then the entry; so many at the end -/
def gap : Nat → List CpInfo → List CpInfo
  | 0, r => r
  | n + 1, r => .unusable :: gap n r
def poolList (es : List (Nat × CpInfo)) (last : Nat) : List CpInfo := es.foldr (fun e r => gap e.1 (e.2 :: r)) (gap last [])
def pool (es : List (Nat × CpInfo)) (last : Nat) : Array CpInfo := ⟨poolList es last⟩
def fileOf (pool : Array CpInfo) (this : Nat) (attrs : Array Attribute := #[]) (ms : Array MethodInfo := #[]) (fl : Nat := 33) (sup : Nat := 0) (ifs : Array Nat := #[]) (fds : Array FieldInfo := #[]) : ClassFile where
  minorVersion := 0
  majorVersion := 65
  constantPool := pool
  accessFlags := fl
  thisClass := this
  superClass := sup
  interfaces := ifs
  fields := fds
  methods := ms
  attributes := attrs
def plain (name : String) (sup : Option ClassId) : Class where
  name := name
  kind := .ordinary
  loader := none
  accessFlags := 33
  super := sup
  interfaces := #[]
  cf := none
  fields := #[]
  methods := #[]
  instanceTypes := #[]
  staticTypes := #[]
  resolved := #[]
  callSites := []
  init := .initialized
  statics := none
  mirror := none

def pool0 : Array CpInfo := pool [(5, u "<init>"), (0, u "()V"), (1, .class_ 10), (1, u "java/lang/Object")] 113

def k0m0 : Method := { name := "<init>", desc := "()V", sig := { parameters := [], returnType := none }, accessFlags := 1, code := none }
/-- java/lang/Object -/
def k0 : Class := { plain "java/lang/Object" none with
  accessFlags := 33
  interfaces := #[]
  cf := some (fileOf pool0 8 #[] #[{ accessFlags := 1, nameIndex := 5, descriptorIndex := 6, attributes := #[] }] 33 0 #[] #[])
  fields := #[]
  methods := #[k0m0]
  instanceTypes := #[]
  staticTypes := #[]
  resolved := Array.replicate 124 none
  statics := none }

def pool1 : Array CpInfo := pool [(2, .class_ 4), (1, u "java/lang/Object"), (0, u "<init>"), (0, u "()V"), (0, .methodref 8 9), (0, .class_ 10), (0, .nameAndType 11 12), (0, u "com/example/querne/querne/functions/PercentEncodingHexValuePinLaw"), (0, u "digit"), (0, u "(IZ)I"), (0, .methodref 14 15), (0, .class_ 16), (0, .nameAndType 17 18), (0, u "com/example/querne/querne/functions/PercentEncoding"), (0, u "hexValue"), (0, u "(I)I"), (3, u "law"), (0, u "(III)Z")] 2

def k1m0 : Method := { name := "<init>", desc := "()V", sig := { parameters := [], returnType := none }, accessFlags := 1, code := none }
def k1c1 : Code := { maxStack := 3, maxLocals := 2, code := method_2_code, exceptionTable := #[], attributes := #[] }
def k1m1 : Method := { name := "digit", desc := "(IZ)I", sig := { parameters := [.int, .boolean], returnType := some .int }, accessFlags := 10, code := some k1c1 }
def k1c2 : Code := { maxStack := 3, maxLocals := 6, code := code, exceptionTable := #[], attributes := #[] }
def k1m2 : Method := { name := "law", desc := "(III)Z", sig := { parameters := [.int, .int, .int], returnType := some .boolean }, accessFlags := 9, code := some k1c2 }
/-- com/example/querne/querne/functions/PercentEncodingHexValuePinLaw -/
def k1 : Class := { plain "com/example/querne/querne/functions/PercentEncodingHexValuePinLaw" (some 0) with
  accessFlags := 49
  interfaces := #[]
  cf := some (fileOf pool1 8 #[] #[{ accessFlags := 1, nameIndex := 5, descriptorIndex := 6, attributes := #[] }, { accessFlags := 10, nameIndex := 11, descriptorIndex := 12, attributes := #[] }, { accessFlags := 9, nameIndex := 22, descriptorIndex := 23, attributes := #[] }] 49 2 #[] #[])
  fields := #[]
  methods := #[k1m0, k1m1, k1m2]
  instanceTypes := #[]
  staticTypes := #[]
  resolved := Array.replicate 26 none
  statics := none }

def pool2 : Array CpInfo := pool [(2, .class_ 4), (1, u "java/lang/Object"), (0, u "<init>"), (0, u "()V"), (19, u "(I)I"), (27, .class_ 56), (1, u "com/example/querne/querne/functions/PercentEncoding"), (0, u "HEX_DIGITS"), (0, u "[C"), (15, u "hexValue"), (5, u "REPLACEMENT"), (0, u "[B")] 37

def k2m0 : Method := { name := "<init>", desc := "()V", sig := { parameters := [], returnType := none }, accessFlags := 2, code := none }
def k2c1 : Code := { maxStack := 2, maxLocals := 2, code := prog_85_method_4_code, exceptionTable := #[], attributes := #[] }
def k2m1 : Method := { name := "hexValue", desc := "(I)I", sig := { parameters := [.int], returnType := some .int }, accessFlags := 8, code := some k2c1 }
/-- com/example/querne/querne/functions/PercentEncoding -/
def k2 : Class := { plain "com/example/querne/querne/functions/PercentEncoding" (some 0) with
  accessFlags := 48
  interfaces := #[]
  cf := some (fileOf pool2 54 #[] #[{ accessFlags := 2, nameIndex := 5, descriptorIndex := 6, attributes := #[] }, { accessFlags := 8, nameIndex := 74, descriptorIndex := 26, attributes := #[] }] 48 2 #[] #[{ accessFlags := 26, nameIndex := 57, descriptorIndex := 58, attributes := #[] }, { accessFlags := 26, nameIndex := 80, descriptorIndex := 81, attributes := #[] }])
  fields := #[{ name := "HEX_DIGITS", type := (.array .char), accessFlags := 26, slot := 0, constantValue := 0 }, { name := "REPLACEMENT", type := (.array .byte), accessFlags := 26, slot := 1, constantValue := 0 }]
  methods := #[k2m0, k2m1]
  instanceTypes := #[]
  staticTypes := #[(.array .char), (.array .byte)]
  resolved := Array.replicate 119 none
  statics := none }

def pool3 : Array CpInfo := pool [(1, u "java/lang/Cloneable"), (0, .class_ 1), (0, u "java/lang/Object"), (0, .class_ 3)] 3

/-- java/lang/Cloneable -/
def k3 : Class := { plain "java/lang/Cloneable" (some 0) with
  accessFlags := 1537
  interfaces := #[]
  cf := some (fileOf pool3 2 #[] #[] 1537 4 #[] #[])
  fields := #[]
  methods := #[]
  instanceTypes := #[]
  staticTypes := #[]
  resolved := Array.replicate 8 none
  statics := none }

def pool4 : Array CpInfo := pool [(1, u "java/io/Serializable"), (0, .class_ 1), (0, u "java/lang/Object"), (0, .class_ 3)] 3

/-- java/io/Serializable -/
def k4 : Class := { plain "java/io/Serializable" (some 0) with
  accessFlags := 1537
  interfaces := #[]
  cf := some (fileOf pool4 2 #[] #[] 1537 4 #[] #[])
  fields := #[]
  methods := #[]
  instanceTypes := #[]
  staticTypes := #[]
  resolved := Array.replicate 8 none
  statics := none }

/-- the primitive byte -/
def k5 : Class := { plain "byte" none with kind := .primitive 'B', accessFlags := 0x411 }
/-- [B -/
def k6 : Class := { plain "[B" (some 0) with kind := .array 5 .byte, interfaces := #[3, 4], accessFlags := 1041 }

/-- the primitive int -/
def k7 : Class := { plain "int" none with kind := .primitive 'I', accessFlags := 0x411 }
/-- [I -/
def k8 : Class := { plain "[I" (some 0) with kind := .array 7 .int, interfaces := #[3, 4], accessFlags := 1041 }

def heap : Heap := #[]
def classes : Array Class := #[k0, k1, k2, k3, k4, k5, k6, k7, k8]
def interned : List (Array UInt16 × Addr) := []
def slotsUsed : Nat := 0
def theMethod : MethodId := ⟨1, 2⟩
def args0 : Array Value := #[.int 5, .int 300, .int 7]
def aboutOver (below : List Frame) : State where
  vm := { classes := classes, interned := interned.toArray }
  heap := heap
  slotsUsed := slotsUsed
  threads := #[{ frames := .invoking theMethod args0 :: below }]
def below0 : List Frame := [.native { method := ⟨0, 0⟩, args := #[] }]
def about1 : State := aboutOver below0
def p0 : Program := .bare "" "" ""
def e0 : Env := launch0.env 0 0 0
theorem w_frames : about1.frames = Frame.invoking theMethod args0 :: below0 := rfl
set_option maxRecDepth 65536 in
theorem w_args : argsFit about1.vm theMethod args0 = true := by decide +kernel
set_option maxRecDepth 65536 in
theorem w_heap : heapFits about1 = true := by decide +kernel
set_option maxRecDepth 65536 in
theorem w_runnable : about1.curStatus? = some .runnable := by decide +kernel
set_option maxRecDepth 65536 in
theorem w_alone : about1.alone = true := by decide +kernel
set_option maxRecDepth 65536 in
theorem w_named : about1.methodNamed? x = some theMethod := by decide +kernel
set_option maxRecDepth 65536 in
theorem w_hears : about1.hears theMethod below0 = true := by decide +kernel
set_option maxRecDepth 65536 in
theorem w_ripe : about1.ripe theMethod args0 below0 = true := by decide +kernel
theorem w_running : about1.status = .running := rfl
set_option maxRecDepth 65536 in
theorem w_room : about1.hasRoom e0.platform room_1 = true :=
  launch0.hasRoom_least _ room_1 (by decide +kernel) (by decide +kernel) (by decide +kernel) (by decide +kernel) (by decide +kernel) (by decide +kernel)
theorem allAtoms_all (ts : List Jvm.Cond) (a : Array Jvm.Value) (st : Jvm.State) : (allAtoms ts).before a st = ts.all (fun c => c.before a st) := by
  induction ts with
  | nil => rfl
  | cons c t ih =>
    show (Jvm.Cond.and c (allAtoms t)).before a st = _
    rw [Jvm.Cond.before_and, ih, List.all_cons]
def words1 : List Jvm.Cond := Jvm.Cond.code x code maxLocals ret :: tables_1
/-- a 'code' word, met by the world's own term for the bytes: nothing is compared byte by byte -/
theorem code_word {y : MethodName} {bytes : ByteArray} {mx : Nat} {rt : Option FieldType} {a : Array Value} {s : State} {m : MethodId} {meth : Method} {c : Code} (h1 : s.methodNamed? y = some m) (h2 : s.vm.method? m = some meth) (h3 : meth.code = some c) (h4 : c.code = bytes)
    (h5 : (c.maxLocals == mx && c.exceptionTable.isEmpty && decide (c.maxStack ≤ mostOperands) && decide (meth.sig.returnType = rt) && !meth.locks && decide (parseMethodDescriptor y.desc = some meth.sig)) = true) : (Jvm.Cond.code y bytes mx rt).before a s = true := by
  simp only [Bool.and_eq_true, beq_iff_eq, Bool.not_eq_true', decide_eq_true_eq] at h5
  obtain ⟨⟨⟨⟨⟨g1, g2⟩, g3⟩, g4⟩, g5⟩, g6⟩ := h5
  simp [Cond.before, Cond.holds, Cond.value, h1, h2, h3, h4, g1, g2, g3, g4, g5, g6]
def isCode : Jvm.Cond → Bool
  | .code _ _ _ _ => true
  | _ => false
theorem all_split {L : List Jvm.Cond} {P : Jvm.Cond → Bool} (h1 : L.all (fun c => isCode c || P c) = true) (h2 : ∀ c ∈ L.filter isCode, P c = true) : L.all P = true := by
  refine List.all_eq_true.mpr fun c hc => ?_
  have h := List.all_eq_true.mp h1 c hc
  rcases Bool.eq_false_or_eq_true (isCode c) with hi | hi
  · exact h2 c (List.mem_filter.mpr ⟨hc, hi⟩)
  · simpa [hi] using h
set_option maxRecDepth 65536 in
theorem w_c0 : (Jvm.Cond.code x code maxLocals ret).before args0 about1 = true := code_word (m := ⟨1, 2⟩) (meth := k1m2) (c := k1c2) (by decide +kernel) rfl rfl rfl (by decide +kernel)
set_option maxRecDepth 65536 in
theorem w_c1 : (Jvm.Cond.code ({ cls := "com/example/querne/querne/functions/PercentEncodingHexValuePinLaw", name := "digit", desc := "(IZ)I" } : Jvm.MethodName) method_2_code (2 : Nat) (Option.some Jvm.ClassFile.FieldType.int)).before args0 about1 = true := code_word (m := ⟨1, 1⟩) (meth := k1m1) (c := k1c1) (by decide +kernel) rfl rfl rfl (by decide +kernel)
set_option maxRecDepth 65536 in
theorem w_c2 : (Jvm.Cond.code ({ cls := "com/example/querne/querne/functions/PercentEncoding", name := "hexValue", desc := "(I)I" } : Jvm.MethodName) prog_85_method_4_code (2 : Nat) (Option.some Jvm.ClassFile.FieldType.int)).before args0 about1 = true := code_word (m := ⟨2, 1⟩) (meth := k2m1) (c := k2c1) (by decide +kernel) rfl rfl rfl (by decide +kernel)
def codes1 : List Jvm.Cond := [Jvm.Cond.code x code maxLocals ret, Jvm.Cond.code ({ cls := "com/example/querne/querne/functions/PercentEncodingHexValuePinLaw", name := "digit", desc := "(IZ)I" } : Jvm.MethodName) method_2_code (2 : Nat) (Option.some Jvm.ClassFile.FieldType.int), Jvm.Cond.code ({ cls := "com/example/querne/querne/functions/PercentEncoding", name := "hexValue", desc := "(I)I" } : Jvm.MethodName) prog_85_method_4_code (2 : Nat) (Option.some Jvm.ClassFile.FieldType.int)]
set_option maxRecDepth 65536 in
theorem codes_eq : words1.filter isCode = codes1 := rfl
theorem w_codes : ∀ c ∈ words1.filter isCode, c.before args0 about1 = true := by
  rw [codes_eq]
  intro c hc
  simp only [codes1, List.mem_cons, List.not_mem_nil, or_false] at hc
  rcases hc with rfl | rfl | rfl
  · exact w_c0
  · exact w_c1
  · exact w_c2
set_option maxRecDepth 65536 in
theorem w_t1 : words1.all (fun c => isCode c || c.before args0 about1) = true := by decide +kernel
theorem w_tables : (allAtoms (Jvm.Cond.code x code maxLocals ret :: tables_1)).before args0 about1 = true := by
  rw [allAtoms_all]
  show words1.all (fun c => c.before args0 about1) = true
  refine all_split ?_ w_codes
  rw [w_t1]
set_option maxRecDepth 65536 in
theorem w_case : (Jvm.Cond.and given_1 narrow_1).before args0 about1 = true := by decide +kernel
theorem w_applies : (headSpec (Jvm.Cond.code x code maxLocals ret :: tables_1) room_1).applies x e0.platform about1 = true :=
  (Spec.applies_iff w_frames).mpr ⟨w_running, w_runnable, w_alone, w_named, w_hears, w_ripe, w_room, w_tables⟩
theorem atStart : AtStart classFile x code maxLocals ret World_1 tables_1 room_1 Calls_1 rest_1 Pre_1 launch0 p0 e0 about1 theMethod args0 below0 :=
  ⟨lists_1, trivial, launch0.admits_env _ _ _, launch0.least_env, fairChoices_fair.cas, fairChoices_fair.clock, w_frames, w_args, w_heap, w_applies, trivial, trivial, w_case⟩
end start1
theorem witness_1 : WitnessClaimed_1 := ⟨start1.p0, start1.e0, start1.about1, start1.theMethod, start1.args0, start1.below0, start1.atStart⟩
end Jvm.Pilot.@@N@@
