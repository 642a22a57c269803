import JvmDerived
import JvmDerived.Pilot.@@N@@Statement
import JvmDerived.Pilot.@@N@@Code
set_option linter.unusedVariables false
set_option linter.unusedSimpArgs false
namespace Jvm.Pilot.@@N@@
open Jvm Jvm.ClassFile Sem Op Lib Jvm.Free Jvm.Stand Jvm.LawKit Jvm.RoadKit Bundle Jvm.Pilot.@@N@@.Jvm.D
/-! The shared layer: from every state that stands at pc (locals L, operands S, over the heap h) the body ends and returns a value of which Q holds. -/
section Own
variable {p : Program} {l : Launch} {e : Env} {R : Room} {s : State} {m : MethodId} {args : Array Value} {below : List Frame} {meth : Method} {c : Code} {n0 mc ms k n : Nat} {Q : Value → Heap → Prop} {h : Heap} {pc pc' : Nat} {L : Array Slot} {S : List Value}
def own_W (p : Program) (l : Launch) (e : Env) (R : Room) (s : State) (m : MethodId) (args : Array Value) (below : List Frame) (meth : Method) (c : Code) (n0 mc ms : Nat) (Q : Value → Heap → Prop) (k n : Nat) (h : Heap) (pc : Nat) (L : Array Slot) (S : List Value) : Prop :=
  ∀ (T : State) (locs : List Loc), Stand p l e R s m args below meth c T locs k n → T.heap = h → Fr n0 locs →
    ∃ (t : State) (o : Outcome), Steps p.tables e below (T.setTop (mkF m pc L S)) t ∧ t.status = .running ∧ Ended t below o ∧ ∃ (v : Value) (lo : List Loc), o = .returned (some v) ∧ (Q v t.heap ∧ Fr n0 lo) ∧ FrameEnd s o t lo mc ms
abbrev own_R0 : Room := { frames := 0, cells := 0, slots := 0, locals := 0 }
theorem own_step {L' : Array Slot} {S' : List Value} (st : ∀ (T : State) (locs : List Loc), Stand p l e R s m args below meth c T locs k n → ∀ t, Steps p.tables e below (T.setTop (mkF m pc' L' S')) t → Steps p.tables e below (T.setTop (mkF m pc L S)) t) (hr : own_W p l e R s m args below meth c n0 mc ms Q k n h pc' L' S') : own_W p l e R s m args below meth c n0 mc ms Q k n h pc L S := fun T locs X hh N => by
  obtain ⟨t, o, a, r⟩ := hr T locs X hh N
  exact ⟨t, o, st T locs X t a, r⟩
theorem own_iloadN (hx : p.tables.exec = Jvm.exec) {i : Fin 4} {v : Int32} (hd : decode c.code pc = .ok (.iload_n i, 1)) (hl : L[i.val]? = some (.val (.int v))) (hp : pc + 1 = pc') (hr : own_W p l e R s m args below meth c n0 mc ms Q k n h pc' L (.int v :: S)) : own_W p l e R s m args below meth c n0 mc ms Q k n h pc L S := by
  subst hp
  exact own_step (fun T locs X t a => XS.iloadN X.here hx rfl hd hl a) hr
theorem own_iload (hx : p.tables.exec = Jvm.exec) {i : Nat} {v : Int32} (hd : decode c.code pc = .ok (.iload i, 2)) (hl : L[i]? = some (.val (.int v))) (hp : pc + 2 = pc') (hr : own_W p l e R s m args below meth c n0 mc ms Q k n h pc' L (.int v :: S)) : own_W p l e R s m args below meth c n0 mc ms Q k n h pc L S := by
  subst hp
  exact own_step (fun T locs X t a => XS.iload X.here hx rfl hd hl a) hr
theorem own_aloadN (hx : p.tables.exec = Jvm.exec) {i : Fin 4} {v : Value} (hd : decode c.code pc = .ok (.aload_n i, 1)) (hl : L[i.val]? = some (.val v)) (hv : v.isRef = true) (hp : pc + 1 = pc') (hr : own_W p l e R s m args below meth c n0 mc ms Q k n h pc' L (v :: S)) : own_W p l e R s m args below meth c n0 mc ms Q k n h pc L S := by
  subst hp
  exact own_step (fun T locs X t a => XS.aloadN X.here hx rfl hd hl hv a) hr
theorem own_aload (hx : p.tables.exec = Jvm.exec) {i : Nat} {v : Value} (hd : decode c.code pc = .ok (.aload i, 2)) (hl : L[i]? = some (.val v)) (hv : v.isRef = true) (hp : pc + 2 = pc') (hr : own_W p l e R s m args below meth c n0 mc ms Q k n h pc' L (v :: S)) : own_W p l e R s m args below meth c n0 mc ms Q k n h pc L S := by
  subst hp
  exact own_step (fun T locs X t a => XS.aload X.here hx rfl hd hl hv a) hr
theorem own_iconst (hx : p.tables.exec = Jvm.exec) {i : Int} {z : Int32} (hd : decode c.code pc = .ok (.iconst i, 1)) (hz : Int32.ofInt i = z) (hp : pc + 1 = pc') (hr : own_W p l e R s m args below meth c n0 mc ms Q k n h pc' L (.int z :: S)) : own_W p l e R s m args below meth c n0 mc ms Q k n h pc L S := by
  subst hp
  exact own_step (fun T locs X t a => XS.iconst X.here hx rfl hd (by rw [hz]; exact a)) hr
theorem own_bipush (hx : p.tables.exec = Jvm.exec) {i : Int} {z : Int32} (hd : decode c.code pc = .ok (.bipush i, 2)) (hz : (Int8.ofInt i).toInt32 = z) (hp : pc + 2 = pc') (hr : own_W p l e R s m args below meth c n0 mc ms Q k n h pc' L (.int z :: S)) : own_W p l e R s m args below meth c n0 mc ms Q k n h pc L S := by
  subst hp
  exact own_step (fun T locs X t a => XS.bipush X.here hx rfl hd (by rw [hz]; exact a)) hr
theorem own_sipush (hx : p.tables.exec = Jvm.exec) {i : Int} {z : Int32} (hd : decode c.code pc = .ok (.sipush i, 3)) (hz : (Int16.ofInt i).toInt32 = z) (hp : pc + 3 = pc') (hr : own_W p l e R s m args below meth c n0 mc ms Q k n h pc' L (.int z :: S)) : own_W p l e R s m args below meth c n0 mc ms Q k n h pc L S := by
  subst hp
  exact own_step (fun T locs X t a => XS.sipush X.here hx rfl hd (by rw [hz]; exact a)) hr
theorem own_ldc (hx : p.tables.exec = Jvm.exec) {own : String} {i : Nat} {z : Int32} {Z : State} {a0 : Array Value} (hZ : Z.Warmed39 s.vm) (hown : s.vm.findClass own = some m.cls) (w : (Jvm.Cond.constant own i z).before a0 Z = true) (hd : decode c.code pc = .ok (.ldc i, 2))  (hp : pc + 2 = pc') (hr : own_W p l e R s m args below meth c n0 mc ms Q k n h pc' L (.int z :: S)) : own_W p l e R s m args below meth c n0 mc ms Q k n h pc L S := by
  subst hp
  exact own_step (fun T locs X t a => X.ldcInt hx hown (mvT hZ w) (g := mkF m pc L S) rfl hd _ a) hr
theorem own_ldc2 (hx : p.tables.exec = Jvm.exec) {own : String} {i : Nat} {z : Int64} {Z : State} {a0 : Array Value} (hZ : Z.Warmed39 s.vm) (hown : s.vm.findClass own = some m.cls) (w : (Jvm.Cond.constantLong own i z).before a0 Z = true) (hd : decode c.code pc = .ok (.ldc2_w i, 3))  (hp : pc + 3 = pc') (hr : own_W p l e R s m args below meth c n0 mc ms Q k n h pc' L (.long z :: S)) : own_W p l e R s m args below meth c n0 mc ms Q k n h pc L S := by
  subst hp
  exact own_step (fun T locs X t a => X.ldc2Long hx hown (mvT hZ w) (g := mkF m pc L S) rfl hd _ a) hr
theorem own_iadd (hx : p.tables.exec = Jvm.exec) {x y : Int32} (hd : decode c.code pc = .ok (.iadd, 1))  (hp : pc + 1 = pc') (hr : own_W p l e R s m args below meth c n0 mc ms Q k n h pc' L (.int (x + y) :: S)) : own_W p l e R s m args below meth c n0 mc ms Q k n h pc L (.int y :: .int x :: S) := by
  subst hp
  exact own_step (fun T locs X t a => XS.iadd X.here hx rfl hd rfl a) hr
theorem own_isub (hx : p.tables.exec = Jvm.exec) {x y : Int32} (hd : decode c.code pc = .ok (.isub, 1))  (hp : pc + 1 = pc') (hr : own_W p l e R s m args below meth c n0 mc ms Q k n h pc' L (.int (x - y) :: S)) : own_W p l e R s m args below meth c n0 mc ms Q k n h pc L (.int y :: .int x :: S) := by
  subst hp
  exact own_step (fun T locs X t a => XS.isub X.here hx rfl hd rfl a) hr
theorem own_iand (hx : p.tables.exec = Jvm.exec) {x y : Int32} (hd : decode c.code pc = .ok (.iand, 1))  (hp : pc + 1 = pc') (hr : own_W p l e R s m args below meth c n0 mc ms Q k n h pc' L (.int (x &&& y) :: S)) : own_W p l e R s m args below meth c n0 mc ms Q k n h pc L (.int y :: .int x :: S) := by
  subst hp
  exact own_step (fun T locs X t a => XS.iand X.here hx rfl hd rfl a) hr
theorem own_irem (hx : p.tables.exec = Jvm.exec) {x y : Int32} (hd : decode c.code pc = .ok (.irem, 1)) (hy : y ≠ 0) (hp : pc + 1 = pc') (hr : own_W p l e R s m args below meth c n0 mc ms Q k n h pc' L (.int (x % y) :: S)) : own_W p l e R s m args below meth c n0 mc ms Q k n h pc L (.int y :: .int x :: S) := by
  subst hp
  exact own_step (fun T locs X t a => XS.irem X.here hx rfl hd rfl hy (by rw [irem_eq_mod]; exact a)) hr
theorem own_ishr (hx : p.tables.exec = Jvm.exec) {x y : Int32} (hd : decode c.code pc = .ok (.ishr, 1))  (hp : pc + 1 = pc') (hr : own_W p l e R s m args below meth c n0 mc ms Q k n h pc' L (.int (x >>> (y &&& 31)) :: S)) : own_W p l e R s m args below meth c n0 mc ms Q k n h pc L (.int y :: .int x :: S) := by
  subst hp
  exact own_step (fun T locs X t a => XT.ishr X.here hx rfl hd rfl a) hr
theorem own_iushr (hx : p.tables.exec = Jvm.exec) {x y : Int32} (hd : decode c.code pc = .ok (.iushr, 1))  (hp : pc + 1 = pc') (hr : own_W p l e R s m args below meth c n0 mc ms Q k n h pc' L (.int (XT.ushr x y) :: S)) : own_W p l e R s m args below meth c n0 mc ms Q k n h pc L (.int y :: .int x :: S) := by
  subst hp
  exact own_step (fun T locs X t a => XT.iushr X.here hx rfl hd rfl a) hr
theorem own_i2c (hx : p.tables.exec = Jvm.exec) {x : Int32} (hd : decode c.code pc = .ok (.i2c, 1))  (hp : pc + 1 = pc') (hr : own_W p l e R s m args below meth c n0 mc ms Q k n h pc' L (.int (x.toUInt32.toUInt16.toUInt32.toInt32) :: S)) : own_W p l e R s m args below meth c n0 mc ms Q k n h pc L (.int x :: S) := by
  subst hp
  exact own_step (fun T locs X t a => XT.i2c X.here hx rfl hd rfl a) hr
theorem own_lushr (hx : p.tables.exec = Jvm.exec) {x : Int64} {y : Int32} (hd : decode c.code pc = .ok (.lushr, 1))  (hp : pc + 1 = pc') (hr : own_W p l e R s m args below meth c n0 mc ms Q k n h pc' L (.long (XT.ushrL x y) :: S)) : own_W p l e R s m args below meth c n0 mc ms Q k n h pc L (.int y :: .long x :: S) := by
  subst hp
  exact own_step (fun T locs X t a => XT.lushr X.here hx rfl hd rfl a) hr
theorem own_land (hx : p.tables.exec = Jvm.exec) {x y : Int64} (hd : decode c.code pc = .ok (.land, 1))  (hp : pc + 1 = pc') (hr : own_W p l e R s m args below meth c n0 mc ms Q k n h pc' L (.long (x &&& y) :: S)) : own_W p l e R s m args below meth c n0 mc ms Q k n h pc L (.long y :: .long x :: S) := by
  subst hp
  exact own_step (fun T locs X t a => XT.land X.here hx rfl hd rfl a) hr
theorem own_lconst (hx : p.tables.exec = Jvm.exec) {i : Fin 2} {z : Int64} (hd : decode c.code pc = .ok (.lconst i, 1)) (hz : Int64.ofNat i = z) (hp : pc + 1 = pc') (hr : own_W p l e R s m args below meth c n0 mc ms Q k n h pc' L (.long z :: S)) : own_W p l e R s m args below meth c n0 mc ms Q k n h pc L S := by
  subst hp
  exact own_step (fun T locs X t a => XT.lconst X.here hx rfl hd (by rw [hz]; exact a)) hr
theorem own_lcmp (hx : p.tables.exec = Jvm.exec) {x y : Int64} (hd : decode c.code pc = .ok (.lcmp, 1))  (hp : pc + 1 = pc') (hr : own_W p l e R s m args below meth c n0 mc ms Q k n h pc' L (.int (XT.cmpL x y) :: S)) : own_W p l e R s m args below meth c n0 mc ms Q k n h pc L (.long y :: .long x :: S) := by
  subst hp
  exact own_step (fun T locs X t a => XT.lcmp X.here hx rfl hd rfl a) hr
theorem own_dup (hx : p.tables.exec = Jvm.exec) {v : Value} (hd : decode c.code pc = .ok (.dup, 1)) (hv : v.category = 1) (hp : pc + 1 = pc') (hr : own_W p l e R s m args below meth c n0 mc ms Q k n h pc' L (v :: v :: S)) : own_W p l e R s m args below meth c n0 mc ms Q k n h pc L (v :: S) := by
  subst hp
  exact own_step (fun T locs X t a => XS.dup X.here hx rfl hd rfl hv a) hr
theorem own_istoreN (hx : p.tables.exec = Jvm.exec) {i : Fin 4} {x : Int32} {L' : Array Slot} (hd : decode c.code pc = .ok (.istore_n i, 1)) (hl : storeLocals L i.val (.int x) = some L') (hp : pc + 1 = pc') (hr : own_W p l e R s m args below meth c n0 mc ms Q k n h pc' L' S) : own_W p l e R s m args below meth c n0 mc ms Q k n h pc L (.int x :: S) := by
  subst hp
  exact own_step (fun T locs X t a => XS.istoreN X.here hx rfl hd rfl hl a) hr
theorem own_istore (hx : p.tables.exec = Jvm.exec) {i : Nat} {x : Int32} {L' : Array Slot} (hd : decode c.code pc = .ok (.istore i, 2)) (hl : storeLocals L i (.int x) = some L') (hp : pc + 2 = pc') (hr : own_W p l e R s m args below meth c n0 mc ms Q k n h pc' L' S) : own_W p l e R s m args below meth c n0 mc ms Q k n h pc L (.int x :: S) := by
  subst hp
  exact own_step (fun T locs X t a => XS.istore X.here hx rfl hd rfl hl a) hr
theorem own_astoreN (hx : p.tables.exec = Jvm.exec) {i : Fin 4} {v : Value} {L' : Array Slot} (hd : decode c.code pc = .ok (.astore_n i, 1)) (hv : v.isRef = true) (hl : storeLocals L i.val v = some L') (hp : pc + 1 = pc') (hr : own_W p l e R s m args below meth c n0 mc ms Q k n h pc' L' S) : own_W p l e R s m args below meth c n0 mc ms Q k n h pc L (v :: S) := by
  subst hp
  exact own_step (fun T locs X t a => XS.astoreN X.here hx rfl hd rfl hv hl a) hr
theorem own_astore (hx : p.tables.exec = Jvm.exec) {i : Nat} {v : Value} {L' : Array Slot} (hd : decode c.code pc = .ok (.astore i, 2)) (hv : v.isRef = true) (hl : storeLocals L i v = some L') (hp : pc + 2 = pc') (hr : own_W p l e R s m args below meth c n0 mc ms Q k n h pc' L' S) : own_W p l e R s m args below meth c n0 mc ms Q k n h pc L (v :: S) := by
  subst hp
  exact own_step (fun T locs X t a => XS.astore X.here hx rfl hd rfl hv hl a) hr
theorem own_goto (hx : p.tables.exec = Jvm.exec) {o : Int} (hd : decode c.code pc = .ok (.goto o, 3)) (ho : 0 ≤ (pc : Int) + o) (hp : ((pc : Int) + o).toNat = pc') (hr : own_W p l e R s m args below meth c n0 mc ms Q k n h pc' L S) : own_W p l e R s m args below meth c n0 mc ms Q k n h pc L S :=
  own_step (fun T locs X t a => XS.goto X.here hx rfl (pc0 := pc) rfl hd ho hp a) hr
theorem own_icmp (hx : p.tables.exec = Jvm.exec) {cd : ClassFile.Cond} {o : Int} {x y : Int32} {pc2 : Nat} (hd : decode c.code pc = .ok (.if_icmp cd o, 3)) (ho : 0 ≤ (pc : Int) + o) (hp : ((pc : Int) + o).toNat = pc') (h3 : pc + 3 = pc2) (hy : if_icmp.holds cd x y = true → own_W p l e R s m args below meth c n0 mc ms Q k n h pc' L S) (hn : if_icmp.holds cd x y = false → own_W p l e R s m args below meth c n0 mc ms Q k n h pc2 L S) : own_W p l e R s m args below meth c n0 mc ms Q k n h pc L (.int y :: .int x :: S) := by
  subst h3
  cases q : if_icmp.holds cd x y with
  | true => exact own_step (fun T locs X t a => XS.icmpYes X.here hx rfl (pc0 := pc) rfl hd rfl q ho hp a) (hy q)
  | false => exact own_step (fun T locs X t a => XS.icmpNo X.here hx rfl hd rfl q a) (hn q)
theorem own_ifc (hx : p.tables.exec = Jvm.exec) {cd : ClassFile.Cond} {o : Int} {x : Int32} {pc2 : Nat} (hd : decode c.code pc = .ok (.ifCond cd o, 3)) (ho : 0 ≤ (pc : Int) + o) (hp : ((pc : Int) + o).toNat = pc') (h3 : pc + 3 = pc2) (hy : ifCond.holds cd x = true → own_W p l e R s m args below meth c n0 mc ms Q k n h pc' L S) (hn : ifCond.holds cd x = false → own_W p l e R s m args below meth c n0 mc ms Q k n h pc2 L S) : own_W p l e R s m args below meth c n0 mc ms Q k n h pc L (.int x :: S) := by
  subst h3
  cases q : ifCond.holds cd x with
  | true => exact own_step (fun T locs X t a => XS.ifYes X.here hx rfl (pc0 := pc) rfl hd rfl q ho hp a) (hy q)
  | false => exact own_step (fun T locs X t a => XS.ifNo X.here hx rfl hd rfl q a) (hn q)
theorem own_ilt (hx : p.tables.exec = Jvm.exec) {α : Type} {A B r : α} {o : Int} {x y : Int32} {pc2 : Nat} (hd : decode c.code pc = .ok (.if_icmp .lt o, 3)) (ho : 0 ≤ (pc : Int) + o) (hp : ((pc : Int) + o).toNat = pc') (h3 : pc + 3 = pc2) (hf : (if x < y then A else B) = r) (hy : A = r → own_W p l e R s m args below meth c n0 mc ms Q k n h pc' L S) (hn : B = r → own_W p l e R s m args below meth c n0 mc ms Q k n h pc2 L S) : own_W p l e R s m args below meth c n0 mc ms Q k n h pc L (.int y :: .int x :: S) := by
  refine own_icmp hx hd ho hp h3 (fun q => hy ?_) (fun q => hn ?_)
  · have q' : x < y := by simpa [if_icmp.holds] using q
    rw [if_pos q'] at hf; exact hf
  · have q' : ¬ (x < y) := by simpa [if_icmp.holds] using q
    rw [if_neg q'] at hf; exact hf
theorem own_ilt0 (hx : p.tables.exec = Jvm.exec) {α : Type} {A B r : α} {o : Int} {x : Int32} {pc2 : Nat} (hd : decode c.code pc = .ok (.ifCond .lt o, 3)) (ho : 0 ≤ (pc : Int) + o) (hp : ((pc : Int) + o).toNat = pc') (h3 : pc + 3 = pc2) (hf : (if x < 0 then A else B) = r) (hy : A = r → own_W p l e R s m args below meth c n0 mc ms Q k n h pc' L S) (hn : B = r → own_W p l e R s m args below meth c n0 mc ms Q k n h pc2 L S) : own_W p l e R s m args below meth c n0 mc ms Q k n h pc L (.int x :: S) := by
  refine own_ifc hx hd ho hp h3 (fun q => hy ?_) (fun q => hn ?_)
  · have q' : x < 0 := by simpa [ifCond.holds] using q
    rw [if_pos q'] at hf; exact hf
  · have q' : ¬ (x < 0) := by simpa [ifCond.holds] using q
    rw [if_neg q'] at hf; exact hf
theorem own_ige (hx : p.tables.exec = Jvm.exec) {α : Type} {A B r : α} {o : Int} {x y : Int32} {pc2 : Nat} (hd : decode c.code pc = .ok (.if_icmp .ge o, 3)) (ho : 0 ≤ (pc : Int) + o) (hp : ((pc : Int) + o).toNat = pc') (h3 : pc + 3 = pc2) (hf : (if y ≤ x then A else B) = r) (hy : A = r → own_W p l e R s m args below meth c n0 mc ms Q k n h pc' L S) (hn : B = r → own_W p l e R s m args below meth c n0 mc ms Q k n h pc2 L S) : own_W p l e R s m args below meth c n0 mc ms Q k n h pc L (.int y :: .int x :: S) := by
  refine own_icmp hx hd ho hp h3 (fun q => hy ?_) (fun q => hn ?_)
  · have q' : y ≤ x := by simpa [if_icmp.holds] using q
    rw [if_pos q'] at hf; exact hf
  · have q' : ¬ (y ≤ x) := by simpa [if_icmp.holds] using q
    rw [if_neg q'] at hf; exact hf
theorem own_ige0 (hx : p.tables.exec = Jvm.exec) {α : Type} {A B r : α} {o : Int} {x : Int32} {pc2 : Nat} (hd : decode c.code pc = .ok (.ifCond .ge o, 3)) (ho : 0 ≤ (pc : Int) + o) (hp : ((pc : Int) + o).toNat = pc') (h3 : pc + 3 = pc2) (hf : (if 0 ≤ x then A else B) = r) (hy : A = r → own_W p l e R s m args below meth c n0 mc ms Q k n h pc' L S) (hn : B = r → own_W p l e R s m args below meth c n0 mc ms Q k n h pc2 L S) : own_W p l e R s m args below meth c n0 mc ms Q k n h pc L (.int x :: S) := by
  refine own_ifc hx hd ho hp h3 (fun q => hy ?_) (fun q => hn ?_)
  · have q' : 0 ≤ x := by simpa [ifCond.holds] using q
    rw [if_pos q'] at hf; exact hf
  · have q' : ¬ (0 ≤ x) := by simpa [ifCond.holds] using q
    rw [if_neg q'] at hf; exact hf
theorem own_igt (hx : p.tables.exec = Jvm.exec) {α : Type} {A B r : α} {o : Int} {x y : Int32} {pc2 : Nat} (hd : decode c.code pc = .ok (.if_icmp .gt o, 3)) (ho : 0 ≤ (pc : Int) + o) (hp : ((pc : Int) + o).toNat = pc') (h3 : pc + 3 = pc2) (hf : (if y < x then A else B) = r) (hy : A = r → own_W p l e R s m args below meth c n0 mc ms Q k n h pc' L S) (hn : B = r → own_W p l e R s m args below meth c n0 mc ms Q k n h pc2 L S) : own_W p l e R s m args below meth c n0 mc ms Q k n h pc L (.int y :: .int x :: S) := by
  refine own_icmp hx hd ho hp h3 (fun q => hy ?_) (fun q => hn ?_)
  · have q' : y < x := by simpa [if_icmp.holds] using q
    rw [if_pos q'] at hf; exact hf
  · have q' : ¬ (y < x) := by simpa [if_icmp.holds] using q
    rw [if_neg q'] at hf; exact hf
theorem own_igt0 (hx : p.tables.exec = Jvm.exec) {α : Type} {A B r : α} {o : Int} {x : Int32} {pc2 : Nat} (hd : decode c.code pc = .ok (.ifCond .gt o, 3)) (ho : 0 ≤ (pc : Int) + o) (hp : ((pc : Int) + o).toNat = pc') (h3 : pc + 3 = pc2) (hf : (if 0 < x then A else B) = r) (hy : A = r → own_W p l e R s m args below meth c n0 mc ms Q k n h pc' L S) (hn : B = r → own_W p l e R s m args below meth c n0 mc ms Q k n h pc2 L S) : own_W p l e R s m args below meth c n0 mc ms Q k n h pc L (.int x :: S) := by
  refine own_ifc hx hd ho hp h3 (fun q => hy ?_) (fun q => hn ?_)
  · have q' : 0 < x := by simpa [ifCond.holds] using q
    rw [if_pos q'] at hf; exact hf
  · have q' : ¬ (0 < x) := by simpa [ifCond.holds] using q
    rw [if_neg q'] at hf; exact hf
theorem own_ile (hx : p.tables.exec = Jvm.exec) {α : Type} {A B r : α} {o : Int} {x y : Int32} {pc2 : Nat} (hd : decode c.code pc = .ok (.if_icmp .le o, 3)) (ho : 0 ≤ (pc : Int) + o) (hp : ((pc : Int) + o).toNat = pc') (h3 : pc + 3 = pc2) (hf : (if x ≤ y then A else B) = r) (hy : A = r → own_W p l e R s m args below meth c n0 mc ms Q k n h pc' L S) (hn : B = r → own_W p l e R s m args below meth c n0 mc ms Q k n h pc2 L S) : own_W p l e R s m args below meth c n0 mc ms Q k n h pc L (.int y :: .int x :: S) := by
  refine own_icmp hx hd ho hp h3 (fun q => hy ?_) (fun q => hn ?_)
  · have q' : x ≤ y := by simpa [if_icmp.holds] using q
    rw [if_pos q'] at hf; exact hf
  · have q' : ¬ (x ≤ y) := by simpa [if_icmp.holds] using q
    rw [if_neg q'] at hf; exact hf
theorem own_ile0 (hx : p.tables.exec = Jvm.exec) {α : Type} {A B r : α} {o : Int} {x : Int32} {pc2 : Nat} (hd : decode c.code pc = .ok (.ifCond .le o, 3)) (ho : 0 ≤ (pc : Int) + o) (hp : ((pc : Int) + o).toNat = pc') (h3 : pc + 3 = pc2) (hf : (if x ≤ 0 then A else B) = r) (hy : A = r → own_W p l e R s m args below meth c n0 mc ms Q k n h pc' L S) (hn : B = r → own_W p l e R s m args below meth c n0 mc ms Q k n h pc2 L S) : own_W p l e R s m args below meth c n0 mc ms Q k n h pc L (.int x :: S) := by
  refine own_ifc hx hd ho hp h3 (fun q => hy ?_) (fun q => hn ?_)
  · have q' : x ≤ 0 := by simpa [ifCond.holds] using q
    rw [if_pos q'] at hf; exact hf
  · have q' : ¬ (x ≤ 0) := by simpa [ifCond.holds] using q
    rw [if_neg q'] at hf; exact hf
theorem own_ieq (hx : p.tables.exec = Jvm.exec) {α : Type} {A B r : α} {o : Int} {x y : Int32} {pc2 : Nat} (hd : decode c.code pc = .ok (.if_icmp .eq o, 3)) (ho : 0 ≤ (pc : Int) + o) (hp : ((pc : Int) + o).toNat = pc') (h3 : pc + 3 = pc2) (hf : (if x = y then A else B) = r) (hy : A = r → own_W p l e R s m args below meth c n0 mc ms Q k n h pc' L S) (hn : B = r → own_W p l e R s m args below meth c n0 mc ms Q k n h pc2 L S) : own_W p l e R s m args below meth c n0 mc ms Q k n h pc L (.int y :: .int x :: S) := by
  refine own_icmp hx hd ho hp h3 (fun q => hy ?_) (fun q => hn ?_)
  · have q' : x = y := by simpa [if_icmp.holds] using q
    rw [if_pos q'] at hf; exact hf
  · have q' : ¬ (x = y) := by simpa [if_icmp.holds] using q
    rw [if_neg q'] at hf; exact hf
theorem own_ieq0 (hx : p.tables.exec = Jvm.exec) {α : Type} {A B r : α} {o : Int} {x : Int32} {pc2 : Nat} (hd : decode c.code pc = .ok (.ifCond .eq o, 3)) (ho : 0 ≤ (pc : Int) + o) (hp : ((pc : Int) + o).toNat = pc') (h3 : pc + 3 = pc2) (hf : (if x = 0 then A else B) = r) (hy : A = r → own_W p l e R s m args below meth c n0 mc ms Q k n h pc' L S) (hn : B = r → own_W p l e R s m args below meth c n0 mc ms Q k n h pc2 L S) : own_W p l e R s m args below meth c n0 mc ms Q k n h pc L (.int x :: S) := by
  refine own_ifc hx hd ho hp h3 (fun q => hy ?_) (fun q => hn ?_)
  · have q' : x = 0 := by simpa [ifCond.holds] using q
    rw [if_pos q'] at hf; exact hf
  · have q' : ¬ (x = 0) := by simpa [ifCond.holds] using q
    rw [if_neg q'] at hf; exact hf
theorem own_ine (hx : p.tables.exec = Jvm.exec) {α : Type} {A B r : α} {o : Int} {x y : Int32} {pc2 : Nat} (hd : decode c.code pc = .ok (.if_icmp .ne o, 3)) (ho : 0 ≤ (pc : Int) + o) (hp : ((pc : Int) + o).toNat = pc') (h3 : pc + 3 = pc2) (hf : (if x = y then A else B) = r) (hy : B = r → own_W p l e R s m args below meth c n0 mc ms Q k n h pc' L S) (hn : A = r → own_W p l e R s m args below meth c n0 mc ms Q k n h pc2 L S) : own_W p l e R s m args below meth c n0 mc ms Q k n h pc L (.int y :: .int x :: S) := by
  refine own_icmp hx hd ho hp h3 (fun q => hy ?_) (fun q => hn ?_)
  · have q' : ¬ (x = y) := by simpa [if_icmp.holds] using q
    rw [if_neg q'] at hf; exact hf
  · have q' : x = y := by simpa [if_icmp.holds] using q
    rw [if_pos q'] at hf; exact hf
theorem own_ine0 (hx : p.tables.exec = Jvm.exec) {α : Type} {A B r : α} {o : Int} {x : Int32} {pc2 : Nat} (hd : decode c.code pc = .ok (.ifCond .ne o, 3)) (ho : 0 ≤ (pc : Int) + o) (hp : ((pc : Int) + o).toNat = pc') (h3 : pc + 3 = pc2) (hf : (if x = 0 then A else B) = r) (hy : B = r → own_W p l e R s m args below meth c n0 mc ms Q k n h pc' L S) (hn : A = r → own_W p l e R s m args below meth c n0 mc ms Q k n h pc2 L S) : own_W p l e R s m args below meth c n0 mc ms Q k n h pc L (.int x :: S) := by
  refine own_ifc hx hd ho hp h3 (fun q => hy ?_) (fun q => hn ?_)
  · have q' : ¬ (x = 0) := by simpa [ifCond.holds] using q
    rw [if_neg q'] at hf; exact hf
  · have q' : x = 0 := by simpa [ifCond.holds] using q
    rw [if_pos q'] at hf; exact hf
theorem own_aeq (hx : p.tables.exec = Jvm.exec) {α : Type} {A B r : α} {o : Int} {x y : Addr} {pc2 : Nat} (hd : decode c.code pc = .ok (.if_acmp .eq o, 3)) (ho : 0 ≤ (pc : Int) + o) (hp : ((pc : Int) + o).toNat = pc') (h3 : pc + 3 = pc2) (hf : (if x = y then A else B) = r) (hy : A = r → own_W p l e R s m args below meth c n0 mc ms Q k n h pc' L S) (hn : B = r → own_W p l e R s m args below meth c n0 mc ms Q k n h pc2 L S) : own_W p l e R s m args below meth c n0 mc ms Q k n h pc L (.ref y :: .ref x :: S) := by
  subst h3
  by_cases q : x = y
  · rw [if_pos q] at hf
    exact own_step (fun T locs X t a => XT.acmpYes X.here hx rfl (pc0 := pc) rfl hd rfl rfl rfl (by simp [XT.acmp, q]) ho hp a) (hy hf)
  · rw [if_neg q] at hf
    exact own_step (fun T locs X t a => XT.acmpNo X.here hx rfl hd rfl rfl rfl (by simp [XT.acmp, q]) a) (hn hf)
theorem own_ane (hx : p.tables.exec = Jvm.exec) {α : Type} {A B r : α} {o : Int} {x y : Addr} {pc2 : Nat} (hd : decode c.code pc = .ok (.if_acmp .ne o, 3)) (ho : 0 ≤ (pc : Int) + o) (hp : ((pc : Int) + o).toNat = pc') (h3 : pc + 3 = pc2) (hf : (if x = y then A else B) = r) (hy : B = r → own_W p l e R s m args below meth c n0 mc ms Q k n h pc' L S) (hn : A = r → own_W p l e R s m args below meth c n0 mc ms Q k n h pc2 L S) : own_W p l e R s m args below meth c n0 mc ms Q k n h pc L (.ref y :: .ref x :: S) := by
  subst h3
  by_cases q : x = y
  · rw [if_pos q] at hf
    exact own_step (fun T locs X t a => XT.acmpNo X.here hx rfl hd rfl rfl rfl (by simp [XT.acmp, q]) a) (hn hf)
  · rw [if_neg q] at hf
    exact own_step (fun T locs X t a => XT.acmpYes X.here hx rfl (pc0 := pc) rfl hd rfl rfl rfl (by simp [XT.acmp, q]) ho hp a) (hy hf)
theorem own_ifnonnull (hx : p.tables.exec = Jvm.exec) {o : Int} {x : Addr} (hd : decode c.code pc = .ok (.ifnonnull o, 3)) (ho : 0 ≤ (pc : Int) + o) (hp : ((pc : Int) + o).toNat = pc') (hr : own_W p l e R s m args below meth c n0 mc ms Q k n h pc' L S) : own_W p l e R s m args below meth c n0 mc ms Q k n h pc L (.ref x :: S) :=
  own_step (fun T locs X t a => XT.ifnonnullYes X.here hx rfl (pc0 := pc) rfl hd rfl ho hp a) hr
theorem own_ifnullNo (hx : p.tables.exec = Jvm.exec) {o : Int} {x : Addr} (hd : decode c.code pc = .ok (.ifnull o, 3)) (hp : pc + 3 = pc') (hr : own_W p l e R s m args below meth c n0 mc ms Q k n h pc' L S) : own_W p l e R s m args below meth c n0 mc ms Q k n h pc L (.ref x :: S) := by
  subst hp
  exact own_step (fun T locs X t a => XS.ifnullNo X.here hx rfl hd rfl a) hr
theorem own_ifnullYes (hx : p.tables.exec = Jvm.exec) {o : Int} (hd : decode c.code pc = .ok (.ifnull o, 3)) (ho : 0 ≤ (pc : Int) + o) (hp : ((pc : Int) + o).toNat = pc') (hr : own_W p l e R s m args below meth c n0 mc ms Q k n h pc' L S) : own_W p l e R s m args below meth c n0 mc ms Q k n h pc L (.null :: S) :=
  own_step (fun T locs X t a => XS.ifnullYes X.here hx rfl (pc0 := pc) rfl hd rfl ho hp a) hr
theorem own_tswIn (hx : p.tables.exec = Jvm.exec) {dflt low high o : Int} {offs : Array Int} {len : Nat} {i : Int32} (hd : decode c.code pc = .ok (.tableswitch dflt low high offs, len)) (hin : ¬ (i.toInt < low ∨ i.toInt > high)) (hoff : offs[(i.toInt - low).toNat]? = some o) (ho : 0 ≤ (pc : Int) + o) (hp : ((pc : Int) + o).toNat = pc') (hr : own_W p l e R s m args below meth c n0 mc ms Q k n h pc' L S) : own_W p l e R s m args below meth c n0 mc ms Q k n h pc L (.int i :: S) :=
  own_step (fun T locs X t a => XS.tswIn X.here hx rfl (pc0 := pc) rfl hd rfl hin hoff ho hp a) hr
theorem own_tswOut (hx : p.tables.exec = Jvm.exec) {dflt low high : Int} {offs : Array Int} {len : Nat} {i : Int32} (hd : decode c.code pc = .ok (.tableswitch dflt low high offs, len)) (hout : i.toInt < low ∨ i.toInt > high) (ho : 0 ≤ (pc : Int) + dflt) (hp : ((pc : Int) + dflt).toNat = pc') (hr : own_W p l e R s m args below meth c n0 mc ms Q k n h pc' L S) : own_W p l e R s m args below meth c n0 mc ms Q k n h pc L (.int i :: S) :=
  own_step (fun T locs X t a => XS.tswOut X.here hx rfl (pc0 := pc) rfl hd rfl hout ho hp a) hr
theorem own_ret (hx : p.tables.exec = Jvm.exec) {w : Value} {t0 : FieldType} {i : Instr} (hret : meth.sig.returnType = some t0) (hlk : meth.locks = false) (hn : narrow t0 w = w)
    (hi : (i = .ireturn ∧ (t0 = .int ∨ t0 = .boolean ∨ t0 = .byte ∨ t0 = .char ∨ t0 = .short) ∧ ∃ z, w = .int z) ∨ (i = .lreturn ∧ t0 = .long ∧ ∃ z, w = .long z) ∨ (i = .dreturn ∧ t0 = .double ∧ ∃ z, w = .double z) ∨ (i = .freturn ∧ t0 = .float ∧ ∃ z, w = .float z) ∨ (i = .areturn ∧ t0.isReference = true ∧ w.isRef = true))
    (hd : decode c.code pc = .ok (i, 1)) (hk : k ≤ mc) (hs : n ≤ ms) (hq : Q w h) : own_W p l e R s m args below meth c n0 mc ms Q k n h pc L (w :: S) := fun T locs X hh N => by
  obtain ⟨fs, hr, hrun, hended, hW, hsame⟩ := X.leave (v := some w) (fun q => by rw [hret] at q; cases q) hlk
  refine ⟨_, _, retOut X hx hret hn hi hd hr, hrun, hended, w, locs, rfl, ⟨?_, N⟩, ⟨_, rfl⟩, hW, hsame.mono hk hs⟩
  show Q w T.heap
  rw [hh]; exact hq
theorem own_retI (hx : p.tables.exec = Jvm.exec) {z : Int32} (hret : meth.sig.returnType = some .int) (hlk : meth.locks = false) (hd : decode c.code pc = .ok (.ireturn, 1)) (hk : k ≤ mc) (hs : n ≤ ms) (hq : Q (.int z) h) : own_W p l e R s m args below meth c n0 mc ms Q k n h pc L (.int z :: S) :=
  own_ret hx hret hlk rfl (Or.inl ⟨rfl, Or.inl rfl, z, rfl⟩) hd hk hs hq
theorem own_retZ (hx : p.tables.exec = Jvm.exec) {z : Int32} (hret : meth.sig.returnType = some .boolean) (hlk : meth.locks = false) (hz : narrow .boolean (.int z) = .int z) (hd : decode c.code pc = .ok (.ireturn, 1)) (hk : k ≤ mc) (hs : n ≤ ms) (hq : Q (.int z) h) : own_W p l e R s m args below meth c n0 mc ms Q k n h pc L (.int z :: S) :=
  own_ret hx hret hlk hz (Or.inl ⟨rfl, Or.inr (Or.inl rfl), z, rfl⟩) hd hk hs hq
theorem own_retA (hx : p.tables.exec = Jvm.exec) {C : String} {a : Addr} (hret : meth.sig.returnType = some (.object C)) (hlk : meth.locks = false) (hd : decode c.code pc = .ok (.areturn, 1)) (hk : k ≤ mc) (hs : n ≤ ms) (hq : Q (.ref a) h) : own_W p l e R s m args below meth c n0 mc ms Q k n h pc L (.ref a :: S) :=
  own_ret hx hret hlk rfl (Or.inr (Or.inr (Or.inr (Or.inr ⟨rfl, rfl, rfl⟩)))) hd hk hs hq
theorem own_getS (hx : p.tables.exec = Jvm.exec) {Z : State} {a0 : Array Value} (hZ : Z.Warmed39 s.vm) {own : String} (hown : s.vm.findClass own = some m.cls) {C nm d : String} {i : Nat} {v : Value} (w : (Jvm.Cond.fieldLink own i C nm d).before a0 Z = true) (F : Sta Z h C nm d v) (hd : decode c.code pc = .ok (.getstatic i, 3)) (hp : pc + 3 = pc') (hr : own_W p l e R s m args below meth c n0 mc ms Q k n h pc' L (v :: S)) : own_W p l e R s m args below meth c n0 mc ms Q k n h pc L S := fun T locs X hh N => by
  subst hp
  obtain ⟨T', X', e', st⟩ := getS X hx hZ (host := "") hown w Via.refl hh F (g := mkF m pc L S) rfl hd
  obtain ⟨t, o, a, r⟩ := hr T' locs X' e' N
  exact ⟨t, o, st t a, r⟩
theorem own_getF (hx : p.tables.exec = Jvm.exec) {Z : State} {a0 : Array Value} (hZ : Z.Warmed39 s.vm) {own : String} (hown : s.vm.findClass own = some m.cls) {C nm d : String} {i : Nat} {b : Addr} {v : Value} (w : (Jvm.Cond.fieldLink own i C nm d).before a0 Z = true) (F : Fld Z h b C nm d v) (hd : decode c.code pc = .ok (.getfield i, 3)) (hp : pc + 3 = pc') (hr : own_W p l e R s m args below meth c n0 mc ms Q k n h pc' L (v :: S)) : own_W p l e R s m args below meth c n0 mc ms Q k n h pc L (.ref b :: S) := fun T locs X hh N => by
  subst hp
  obtain ⟨T', X', e', st⟩ := getF X hx hZ hown (host := "") (Or.inl w) Via.refl hh F (g := mkF m pc L (.ref b :: S)) rfl rfl hd
  obtain ⟨t, o, a, r⟩ := hr T' locs X' e' N
  exact ⟨t, o, st t a, r⟩
def own_IA (Z : State) (h : Heap) (a : Addr) (len : Nat) : Prop := ∃ cl : Cell, Arr Z h a cl .int ∧ cl.slots.size = len ∧ ∀ i, i < len → ∃ x : Int32, cl.slots[i]? = some (.int x)
theorem own_newI (hx : p.tables.exec = Jvm.exec) {Z : State} {a0 : Array Value} (hZ : Z.Warmed39 s.vm) (w : (Jvm.Cond.arrayClass .int).before a0 Z = true) {z : Int32} (hd : decode c.code pc = .ok (.newarray .int, 2)) (hz : ¬ z < 0) {cap : Nat} (hcap : z.toNatClampNeg = cap) (hb : cap * 8 ≤ 536870912) (hc : k + 1 ≤ R.cells) (hl : n + cap ≤ R.slots) (Z0 : n0 ≤ h.size) (hp : pc + 2 = pc')
    (hr : ∀ (h' : Heap) (a : Addr), own_IA Z h' a cap → n0 ≤ a → own_W p l e R s m args below meth c n0 mc ms Q (k + 1) (n + cap) h' pc' L (.ref a :: S)) : own_W p l e R s m args below meth c n0 mc ms Q k n h pc L (.int z :: S) := fun T locs X hh N => by
  subst hp
  obtain ⟨T', h', cA, X', e', E', A', st⟩ := newP X hx hZ (aty := .int) w hh (g := mkF m pc L (.int z :: S)) rfl hd rfl hz (Nat.le_of_eq hcap) hb hc hl
  have I' : own_IA Z h' h.size cap := ⟨_, A', by rw [sz_new]; exact hcap, fun i hi => ⟨0, by
    have hi' : i < z.toNatClampNeg := by omega
    simp [newA, newarray.typeOf, defaultValue, hi']⟩⟩
  obtain ⟨t, o, a, r⟩ := hr h' h.size I' Z0 T' locs X' e' N
  exact ⟨t, o, st t a, r⟩
theorem own_stI (hx : p.tables.exec = Jvm.exec) {Z : State} (hZ : Z.Warmed39 s.vm) {a : Addr} {len : Nat} (A : own_IA Z h a len) (ga : n0 ≤ a) {j x : Int32} (hj : ¬ j < 0) (hj2 : j.toNatClampNeg < len) (hd : decode c.code pc = .ok (.iastore, 1)) (hp : pc + 1 = pc') (hr : ∀ h' : Heap, own_IA Z h' a len → own_W p l e R s m args below meth c n0 mc ms Q k n h' pc' L S) : own_W p l e R s m args below meth c n0 mc ms Q k n h pc L (.int x :: .int j :: .ref a :: S) := fun T locs X hh N => by
  subst hp
  obtain ⟨cl, Ar, sz, el⟩ := A
  obtain ⟨T', h', X', e', W', st⟩ := stI X hx hZ hh Ar (j := j) (x := x) (by rw [sz]; exact fun q => q.elim hj fun r => Nat.not_lt.mpr r hj2) (g := mkF m pc L (.int x :: .int j :: .ref a :: S)) rfl rfl hd
  have I' : own_IA Z h' a len := ⟨_, Ar.same W', by rw [sz_set]; exact sz, fun i hi => by
    by_cases q : j.toNatClampNeg = i
    · exact ⟨x, by subst q; simp [Cell.setSlot, sz, hj2]⟩
    · obtain ⟨y, hy⟩ := el i hi
      exact ⟨y, by rw [show (cl.setSlot j.toNatClampNeg (.int x)).slots = cl.slots.setIfInBounds j.toNatClampNeg (.int x) from rfl, Array.getElem?_setIfInBounds_ne q]; exact hy⟩⟩
  obtain ⟨t, o, b, r⟩ := hr h' I' T' _ X' e' (Fr.snoc X' N ga)
  exact ⟨t, o, st t b, r⟩
theorem own_ldI (hx : p.tables.exec = Jvm.exec) {Z : State} (hZ : Z.Warmed39 s.vm) {a : Addr} {len : Nat} (A : own_IA Z h a len) {j : Int32} (hj : ¬ j < 0) (hj2 : j.toNatClampNeg < len) (hd : decode c.code pc = .ok (.iaload, 1)) (hp : pc + 1 = pc') (hr : ∀ x : Int32, own_W p l e R s m args below meth c n0 mc ms Q k n h pc' L (.int x :: S)) : own_W p l e R s m args below meth c n0 mc ms Q k n h pc L (.int j :: .ref a :: S) := fun T locs X hh N => by
  subst hp
  obtain ⟨cl, Ar, sz, el⟩ := A
  obtain ⟨x, hx'⟩ := el _ hj2
  obtain ⟨t, o, b, r⟩ := hr x T locs X hh N
  exact ⟨t, o, X.iaload hx (j := j) (v := .int x) (by rw [hh]; exact Ar.1) (State.isArrayOf_alike hZ.alike Ar.2.1) Ar.2.2 (by rw [sz]; exact fun q => q.elim hj fun r => Nat.not_lt.mpr r hj2) hx' (g := mkF m pc L (.int j :: .ref a :: S)) rfl rfl hd _ b, r⟩
/-- the callee y, handed as' over the heap h, returns r, and keeps the heap -/
def own_C (l : Launch) (Z : State) (y : MethodName) (bytes : ByteArray) (maxL : Nat) (ret : Option FieldType) (as' : Array Value) (n0 : Nat) (h : Heap) (r : Value) : Prop :=
  MetFree l y (head1 [Jvm.Cond.code y bytes maxL ret] own_R0) (fun a U => a = as' ∧ Z.Warmed39 U.vm ∧ U.heap = h) (fun _ _ _ _ _ => True) (fun _ U o U' => ∃ v Lq, o = .returned v ∧ (∃ w, v = some w ∧ (w = r ∧ U'.heap = h) ∧ Fr n0 Lq) ∧ FrameEnd U o U' Lq own_R0.cells own_R0.slots)
theorem own_callS (hx : p.tables.exec = Jvm.exec) {Z : State} {a0 : Array Value} (hZ : Z.Warmed39 s.vm) {own : String} (hown : s.vm.findClass own = some m.cls) {i : Nat} {y : MethodName} {bytes : ByteArray} {maxL : Nat} {ret : Option FieldType} (w1 : (Jvm.Cond.methodLink own i y).before a0 Z = true) (w2 : (Jvm.Cond.static y).before a0 Z = true) (w3 : (Jvm.Cond.initialized y.cls).before a0 Z = true) (w4 : (Jvm.Cond.code y bytes maxL ret).before a0 Z = true) (hy : y.cls ≠ "java/lang/invoke/MethodHandle" ∧ y.cls ≠ "java/lang/invoke/VarHandle") {argsL : List Value} {r : Value} (hC : own_C l Z y bytes maxL ret argsL.toArray n0 h r) {ps : List FieldType} {rr : Option FieldType} (hps : parseMethodDescriptor y.desc = some ⟨ps, rr⟩) (hlen : argsL.length = ps.length) (hfr : 0 + 1 ≤ R.frames) (hlo : (S.map fun v => v.category).sum + (maxL + 11) + 0 ≤ R.locals) (hml : L.size = c.maxLocals) {S0 : List Value} (hS : S0 = argsL.reverse ++ S) (hd : decode c.code pc = .ok (.invokestatic i, 3)) (hkc : k + 0 ≤ R.cells) (hns : n + 0 ≤ R.slots) (hp : pc + 3 = pc') (hr : own_W p l e R s m args below meth c n0 mc ms Q k n h pc' L (r :: S)) : own_W p l e R s m args below meth c n0 mc ms Q k n h pc L S0 := fun T locs X hh N => by
  subst hp
  obtain ⟨_, _, ⟨T1, L1, k1, n1⟩, -, X1, ⟨Lc, hQ, hl, hk, hn⟩, st⟩ := Jvm.LawKit.callS X hx (y := y) hown (mvT hZ w1) (mvT hZ w2) (mvT hZ w3) (mvT hZ w4) hy (backOf (Q := fun v h' Lq => ∃ w, v = some w ∧ (w = r ∧ h' = h) ∧ Fr n0 Lq) (W := (S.map fun v => v.category).sum) hC hZ w4 w3 hfr hlo) (g := mkF m pc L S0) rfl hml (argsL := argsL) (rest := S) (lenOf hps hlen) hS (by show 2 * 0 + _ ≤ _; omega) hd (fun _ _ => ⟨rfl, hh, hkc, hns⟩)
  dsimp only [Pt.U, Pt.locs, Pt.cells, Pt.slots] at X1 hl hk hn st hQ
  obtain ⟨w, rfl, ⟨rfl, e1⟩, N1⟩ := hQ
  subst hl hk hn
  obtain ⟨t, o, a, q⟩ := hr T1 _ X1 e1 (Fr.app N N1)
  exact ⟨t, o, st t a, q⟩
theorem own_callV (hx : p.tables.exec = Jvm.exec) {Z : State} {a0 : Array Value} (hZ : Z.Warmed39 s.vm) {own : String} (hown : s.vm.findClass own = some m.cls) {i : Nat} {y : MethodName} {bytes : ByteArray} {maxL : Nat} {ret : Option FieldType} (w1 : (Jvm.Cond.methodLink own i y).before a0 Z = true) (w2 : (Jvm.Cond.declares y).before a0 Z = true) (w3 : (Jvm.Cond.instanceMethod y).before a0 Z = true) (w5 : (Jvm.Cond.selects y.cls y y).before a0 Z = true) (wz : (Jvm.Cond.initialized y.cls).before a0 Z = true) (w4 : (Jvm.Cond.code y bytes maxL ret).before a0 Z = true) (hy : y.cls ≠ "java/lang/invoke/MethodHandle" ∧ y.cls ≠ "java/lang/invoke/VarHandle") {argsL : List Value} {b : Addr} {r : Value} (E : Exa Z h b y.cls) (hC : own_C l Z y bytes maxL ret (.ref b :: argsL).toArray n0 h r) {ps : List FieldType} {rr : Option FieldType} (hps : parseMethodDescriptor y.desc = some ⟨ps, rr⟩) (hlen : argsL.length = ps.length) (hfr : 0 + 1 ≤ R.frames) (hlo : (S.map fun v => v.category).sum + (maxL + 11) + 0 ≤ R.locals) (hml : L.size = c.maxLocals) {S0 : List Value} (hS : S0 = argsL.reverse ++ .ref b :: S) (hd : decode c.code pc = .ok (.invokevirtual i, 3)) (hkc : k + 0 ≤ R.cells) (hns : n + 0 ≤ R.slots) (hp : pc + 3 = pc') (hr : own_W p l e R s m args below meth c n0 mc ms Q k n h pc' L (r :: S)) : own_W p l e R s m args below meth c n0 mc ms Q k n h pc L S0 := fun T locs X hh N => by
  subst hp
  obtain ⟨cq, kq, qa, qb, qc⟩ := isOf hZ hh E
  obtain ⟨_, _, ⟨T1, L1, k1, n1⟩, -, X1, ⟨Lc, hQ, hl, hk, hn⟩, st⟩ := X.virtualBack hx (y := y) (z := y) hown (mvT hZ w1) (mvT hZ w2) (notFace_of_selects (args := #[]) (mvT hZ w5)) (mvT hZ w5) (mvT hZ w3) hy (backOf (Q := fun v h' Lq => ∃ w, v = some w ∧ (w = r ∧ h' = h) ∧ Fr n0 Lq) (W := (S.map fun v => v.category).sum) hC hZ w4 wz hfr hlo) qa qc (g := mkF m pc L S0) rfl hml (Steps.refl _) (argsL := argsL) (rest := S) (lenOf hps hlen) hS (by show 2 * 0 + _ ≤ _; omega) hd (fun _ _ => ⟨rfl, hh, hkc, hns⟩)
  dsimp only [Pt.U, Pt.locs, Pt.cells, Pt.slots] at X1 hl hk hn st hQ
  obtain ⟨w, rfl, ⟨rfl, e1⟩, N1⟩ := hQ
  subst hl hk hn
  obtain ⟨t, o, a, q⟩ := hr T1 _ X1 e1 (Fr.app N N1)
  exact ⟨t, o, st.trans a, q⟩
theorem own_met {Z : State} {y : MethodName} {bytes : ByteArray} {maxL : Nat} {ret : Option FieldType} {ws : List Jvm.Cond} {as' : Array Value} {L0 : Array Slot} (hpl : plainName y.cls = true) (hef : ∀ m : MethodId, entryFrame m as' maxL = mkF m 0 L0 [])
    (body : ∀ (p : Program) (e : Env) (s : State) (m : MethodId) (below : List Frame) (meth : Method) (c : Code), p.tables.exec = Jvm.exec → c.code = bytes → c.maxLocals = maxL → s.vm.findClass y.cls = some m.cls → Z.Warmed39 s.vm → meth.sig.returnType = ret → meth.locks = false → own_W p l e R s m as' below meth c n0 mc ms Q 0 0 h 0 L0 []) :
    MetFree l y (head1 (Jvm.Cond.code y bytes maxL ret :: ws) R) (fun a U => a = as' ∧ Z.Warmed39 U.vm ∧ U.heap = h) (fun _ _ _ _ _ => True) (fun _ U o U' => ∃ v Lq, o = .returned v ∧ (∃ w, v = some w ∧ Q w U'.heap ∧ Fr n0 Lq) ∧ FrameEnd U o U' Lq mc ms) := by
  refine MetFree.of_bodySF (plainFor_of_name hpl) hisR ?_
  intro p e s m args below meth c s₁ Bd hml0 hP hK
  obtain ⟨rfl, hZ, hh⟩ := hP
  have X0 : Stand p l e R s m _ below meth c s₁ [] 0 0 := Stand.of_body Bd
  have e0 : s₁.heap = h := by rw [← hh, Bd.state]; rfl
  obtain ⟨t, o, st, h1, h2, v, lo, rfl, ⟨hq, hN⟩, hF⟩ := body p e s m below meth c Bd.exec Bd.bytes hml0 (findClass_of_methodNamed Bd.named) hZ Bd.returns Bd.notSynchronized s₁ [] X0 e0 (Fr.nil n0)
  exact ⟨t, _, castTop (hef m) st, h1, h2, some v, lo, rfl, ⟨v, rfl, hq, hN⟩, hF⟩
end Own

section Own2
variable {p : Program} {l : Launch} {e : Env} {R : Room} {s : State} {m : MethodId} {args : Array Value} {below : List Frame} {meth : Method} {c : Code} {n0 mc ms k n : Nat} {Q : Value → Heap → Prop} {h : Heap} {pc pc' : Nat} {L : Array Slot} {S : List Value}
theorem own_xc_d0 : decode prog_355_method_6_code 0 = .ok (.iload_n 0, 1) := by decide +kernel
theorem own_xc_d1 : decode prog_355_method_6_code 1 = .ok (.bipush 9, 2) := by decide +kernel
theorem own_xc_d3 : decode prog_355_method_6_code 3 = .ok (.if_icmp .eq 51, 3) := by decide +kernel
theorem own_xc_d6 : decode prog_355_method_6_code 6 = .ok (.iload_n 0, 1) := by decide +kernel
theorem own_xc_d7 : decode prog_355_method_6_code 7 = .ok (.bipush 10, 2) := by decide +kernel
theorem own_xc_d9 : decode prog_355_method_6_code 9 = .ok (.if_icmp .eq 45, 3) := by decide +kernel
theorem own_xc_d12 : decode prog_355_method_6_code 12 = .ok (.iload_n 0, 1) := by decide +kernel
theorem own_xc_d13 : decode prog_355_method_6_code 13 = .ok (.bipush 13, 2) := by decide +kernel
theorem own_xc_d15 : decode prog_355_method_6_code 15 = .ok (.if_icmp .eq 39, 3) := by decide +kernel
theorem own_xc_d18 : decode prog_355_method_6_code 18 = .ok (.iload_n 0, 1) := by decide +kernel
theorem own_xc_d19 : decode prog_355_method_6_code 19 = .ok (.bipush 32, 2) := by decide +kernel
theorem own_xc_d21 : decode prog_355_method_6_code 21 = .ok (.if_icmp .lt 9, 3) := by decide +kernel
theorem own_xc_d24 : decode prog_355_method_6_code 24 = .ok (.iload_n 0, 1) := by decide +kernel
theorem own_xc_d25 : decode prog_355_method_6_code 25 = .ok (.ldc 25, 2) := by decide +kernel
theorem own_xc_d27 : decode prog_355_method_6_code 27 = .ok (.if_icmp .le 27, 3) := by decide +kernel
theorem own_xc_d30 : decode prog_355_method_6_code 30 = .ok (.iload_n 0, 1) := by decide +kernel
theorem own_xc_d31 : decode prog_355_method_6_code 31 = .ok (.ldc 26, 2) := by decide +kernel
theorem own_xc_d33 : decode prog_355_method_6_code 33 = .ok (.if_icmp .lt 9, 3) := by decide +kernel
theorem own_xc_d36 : decode prog_355_method_6_code 36 = .ok (.iload_n 0, 1) := by decide +kernel
theorem own_xc_d37 : decode prog_355_method_6_code 37 = .ok (.ldc 27, 2) := by decide +kernel
theorem own_xc_d39 : decode prog_355_method_6_code 39 = .ok (.if_icmp .le 15, 3) := by decide +kernel
theorem own_xc_d42 : decode prog_355_method_6_code 42 = .ok (.iload_n 0, 1) := by decide +kernel
theorem own_xc_d43 : decode prog_355_method_6_code 43 = .ok (.ldc 28, 2) := by decide +kernel
theorem own_xc_d45 : decode prog_355_method_6_code 45 = .ok (.if_icmp .lt 13, 3) := by decide +kernel
theorem own_xc_d48 : decode prog_355_method_6_code 48 = .ok (.iload_n 0, 1) := by decide +kernel
theorem own_xc_d49 : decode prog_355_method_6_code 49 = .ok (.ldc 29, 2) := by decide +kernel
theorem own_xc_d51 : decode prog_355_method_6_code 51 = .ok (.if_icmp .gt 7, 3) := by decide +kernel
theorem own_xc_d54 : decode prog_355_method_6_code 54 = .ok (.iconst 1, 1) := by decide +kernel
theorem own_xc_d55 : decode prog_355_method_6_code 55 = .ok (.goto 4, 3) := by decide +kernel
theorem own_xc_d58 : decode prog_355_method_6_code 58 = .ok (.iconst 0, 1) := by decide +kernel
theorem own_xc_d59 : decode prog_355_method_6_code 59 = .ok (.ireturn, 1) := by decide +kernel
def own_xc_f42  (x0 : Int32) : Int32 := (if x0 < (65536 : Int32) then (0 : Int32) else (if (1114111 : Int32) < x0 then (0 : Int32) else (1 : Int32)))
set_option maxRecDepth 65536 in
set_option maxHeartbeats 4000000 in
theorem own_xc_b42 (hx : p.tables.exec = Jvm.exec) (hby : c.code = prog_355_method_6_code) (hml : c.maxLocals = 1) (hown : s.vm.findClass "com/example/querne/querne/values/StringValue" = some m.cls) {Z : State} {a0 : Array Value} (hZ : Z.Warmed39 s.vm) (hw : ∀ d ∈ tables_1, d.before a0 Z = true) (hret : meth.sig.returnType = some .boolean) (hlk : meth.locks = false)  (x0 : Int32) (r : Int32) (hf : own_xc_f42  x0 = r) : own_W p l e own_R0 s m args below meth c n0 0 0 (fun v h' => v = .int r ∧ h' = h) 0 0 h 42 #[.val (.int x0)] [] := by
  unfold own_xc_f42 at hf
  refine own_iloadN hx (hb hby own_xc_d42) rfl (pc' := 43) rfl ?_
  refine own_ldc hx hZ hown (hw _ (List.mem_of_getElem? (i := 18) rfl)) (hb hby own_xc_d43) (pc' := 45) rfl ?_
  refine own_ilt hx (hb hby own_xc_d45) (by decide) (pc' := 58) (by decide) (pc2 := 48) rfl hf (fun hf => ?_) (fun hf => ?_)
  · refine own_iconst hx (z := (0 : Int32)) (hb hby own_xc_d58) (by decide) (pc' := 59) rfl ?_
    exact own_retZ hx hret hlk rfl (hb hby own_xc_d59) (Nat.le_of_ble_eq_true rfl) (Nat.le_of_ble_eq_true rfl) ⟨congrArg _ hf, rfl⟩
  · refine own_iloadN hx (hb hby own_xc_d48) rfl (pc' := 49) rfl ?_
    refine own_ldc hx hZ hown (hw _ (List.mem_of_getElem? (i := 25) rfl)) (hb hby own_xc_d49) (pc' := 51) rfl ?_
    refine own_igt hx (hb hby own_xc_d51) (by decide) (pc' := 58) (by decide) (pc2 := 54) rfl hf (fun hf => ?_) (fun hf => ?_)
    · refine own_iconst hx (z := (0 : Int32)) (hb hby own_xc_d58) (by decide) (pc' := 59) rfl ?_
      exact own_retZ hx hret hlk rfl (hb hby own_xc_d59) (Nat.le_of_ble_eq_true rfl) (Nat.le_of_ble_eq_true rfl) ⟨congrArg _ hf, rfl⟩
    · refine own_iconst hx (z := (1 : Int32)) (hb hby own_xc_d54) (by decide) (pc' := 55) rfl ?_
      refine own_goto hx (hb hby own_xc_d55) (by decide) (pc' := 59) (by decide) ?_
      exact own_retZ hx hret hlk rfl (hb hby own_xc_d59) (Nat.le_of_ble_eq_true rfl) (Nat.le_of_ble_eq_true rfl) ⟨congrArg _ hf, rfl⟩
def own_xc_f30  (x0 : Int32) : Int32 := (if x0 < (57344 : Int32) then own_xc_f42 x0 else (if x0 ≤ (65533 : Int32) then (1 : Int32) else own_xc_f42 x0))
set_option maxRecDepth 65536 in
set_option maxHeartbeats 4000000 in
theorem own_xc_b30 (hx : p.tables.exec = Jvm.exec) (hby : c.code = prog_355_method_6_code) (hml : c.maxLocals = 1) (hown : s.vm.findClass "com/example/querne/querne/values/StringValue" = some m.cls) {Z : State} {a0 : Array Value} (hZ : Z.Warmed39 s.vm) (hw : ∀ d ∈ tables_1, d.before a0 Z = true) (hret : meth.sig.returnType = some .boolean) (hlk : meth.locks = false)  (x0 : Int32) (r : Int32) (hf : own_xc_f30  x0 = r) : own_W p l e own_R0 s m args below meth c n0 0 0 (fun v h' => v = .int r ∧ h' = h) 0 0 h 30 #[.val (.int x0)] [] := by
  unfold own_xc_f30 at hf
  refine own_iloadN hx (hb hby own_xc_d30) rfl (pc' := 31) rfl ?_
  refine own_ldc hx hZ hown (hw _ (List.mem_of_getElem? (i := 17) rfl)) (hb hby own_xc_d31) (pc' := 33) rfl ?_
  refine own_ilt hx (hb hby own_xc_d33) (by decide) (pc' := 42) (by decide) (pc2 := 36) rfl hf (fun hf => ?_) (fun hf => ?_)
  · exact own_xc_b42 hx hby hml hown hZ hw hret hlk  x0 r hf
  · refine own_iloadN hx (hb hby own_xc_d36) rfl (pc' := 37) rfl ?_
    refine own_ldc hx hZ hown (hw _ (List.mem_of_getElem? (i := 24) rfl)) (hb hby own_xc_d37) (pc' := 39) rfl ?_
    refine own_ile hx (hb hby own_xc_d39) (by decide) (pc' := 54) (by decide) (pc2 := 42) rfl hf (fun hf => ?_) (fun hf => ?_)
    · refine own_iconst hx (z := (1 : Int32)) (hb hby own_xc_d54) (by decide) (pc' := 55) rfl ?_
      refine own_goto hx (hb hby own_xc_d55) (by decide) (pc' := 59) (by decide) ?_
      exact own_retZ hx hret hlk rfl (hb hby own_xc_d59) (Nat.le_of_ble_eq_true rfl) (Nat.le_of_ble_eq_true rfl) ⟨congrArg _ hf, rfl⟩
    · exact own_xc_b42 hx hby hml hown hZ hw hret hlk  x0 r hf
def own_xc_f18  (x0 : Int32) : Int32 := (if x0 < (32 : Int32) then own_xc_f30 x0 else (if x0 ≤ (55295 : Int32) then (1 : Int32) else own_xc_f30 x0))
set_option maxRecDepth 65536 in
set_option maxHeartbeats 4000000 in
theorem own_xc_b18 (hx : p.tables.exec = Jvm.exec) (hby : c.code = prog_355_method_6_code) (hml : c.maxLocals = 1) (hown : s.vm.findClass "com/example/querne/querne/values/StringValue" = some m.cls) {Z : State} {a0 : Array Value} (hZ : Z.Warmed39 s.vm) (hw : ∀ d ∈ tables_1, d.before a0 Z = true) (hret : meth.sig.returnType = some .boolean) (hlk : meth.locks = false)  (x0 : Int32) (r : Int32) (hf : own_xc_f18  x0 = r) : own_W p l e own_R0 s m args below meth c n0 0 0 (fun v h' => v = .int r ∧ h' = h) 0 0 h 18 #[.val (.int x0)] [] := by
  unfold own_xc_f18 at hf
  refine own_iloadN hx (hb hby own_xc_d18) rfl (pc' := 19) rfl ?_
  refine own_bipush hx (z := (32 : Int32)) (hb hby own_xc_d19) (by decide) (pc' := 21) rfl ?_
  refine own_ilt hx (hb hby own_xc_d21) (by decide) (pc' := 30) (by decide) (pc2 := 24) rfl hf (fun hf => ?_) (fun hf => ?_)
  · exact own_xc_b30 hx hby hml hown hZ hw hret hlk  x0 r hf
  · refine own_iloadN hx (hb hby own_xc_d24) rfl (pc' := 25) rfl ?_
    refine own_ldc hx hZ hown (hw _ (List.mem_of_getElem? (i := 23) rfl)) (hb hby own_xc_d25) (pc' := 27) rfl ?_
    refine own_ile hx (hb hby own_xc_d27) (by decide) (pc' := 54) (by decide) (pc2 := 30) rfl hf (fun hf => ?_) (fun hf => ?_)
    · refine own_iconst hx (z := (1 : Int32)) (hb hby own_xc_d54) (by decide) (pc' := 55) rfl ?_
      refine own_goto hx (hb hby own_xc_d55) (by decide) (pc' := 59) (by decide) ?_
      exact own_retZ hx hret hlk rfl (hb hby own_xc_d59) (Nat.le_of_ble_eq_true rfl) (Nat.le_of_ble_eq_true rfl) ⟨congrArg _ hf, rfl⟩
    · exact own_xc_b30 hx hby hml hown hZ hw hret hlk  x0 r hf
def own_xc_f0  (x0 : Int32) : Int32 := (if x0 = (9 : Int32) then (1 : Int32) else (if x0 = (10 : Int32) then (1 : Int32) else (if x0 = (13 : Int32) then (1 : Int32) else own_xc_f18 x0)))
set_option maxRecDepth 65536 in
set_option maxHeartbeats 4000000 in
theorem own_xc_b0 (hx : p.tables.exec = Jvm.exec) (hby : c.code = prog_355_method_6_code) (hml : c.maxLocals = 1) (hown : s.vm.findClass "com/example/querne/querne/values/StringValue" = some m.cls) {Z : State} {a0 : Array Value} (hZ : Z.Warmed39 s.vm) (hw : ∀ d ∈ tables_1, d.before a0 Z = true) (hret : meth.sig.returnType = some .boolean) (hlk : meth.locks = false)  (x0 : Int32) (r : Int32) (hf : own_xc_f0  x0 = r) : own_W p l e own_R0 s m args below meth c n0 0 0 (fun v h' => v = .int r ∧ h' = h) 0 0 h 0 #[.val (.int x0)] [] := by
  unfold own_xc_f0 at hf
  refine own_iloadN hx (hb hby own_xc_d0) rfl (pc' := 1) rfl ?_
  refine own_bipush hx (z := (9 : Int32)) (hb hby own_xc_d1) (by decide) (pc' := 3) rfl ?_
  refine own_ieq hx (hb hby own_xc_d3) (by decide) (pc' := 54) (by decide) (pc2 := 6) rfl hf (fun hf => ?_) (fun hf => ?_)
  · refine own_iconst hx (z := (1 : Int32)) (hb hby own_xc_d54) (by decide) (pc' := 55) rfl ?_
    refine own_goto hx (hb hby own_xc_d55) (by decide) (pc' := 59) (by decide) ?_
    exact own_retZ hx hret hlk rfl (hb hby own_xc_d59) (Nat.le_of_ble_eq_true rfl) (Nat.le_of_ble_eq_true rfl) ⟨congrArg _ hf, rfl⟩
  · refine own_iloadN hx (hb hby own_xc_d6) rfl (pc' := 7) rfl ?_
    refine own_bipush hx (z := (10 : Int32)) (hb hby own_xc_d7) (by decide) (pc' := 9) rfl ?_
    refine own_ieq hx (hb hby own_xc_d9) (by decide) (pc' := 54) (by decide) (pc2 := 12) rfl hf (fun hf => ?_) (fun hf => ?_)
    · refine own_iconst hx (z := (1 : Int32)) (hb hby own_xc_d54) (by decide) (pc' := 55) rfl ?_
      refine own_goto hx (hb hby own_xc_d55) (by decide) (pc' := 59) (by decide) ?_
      exact own_retZ hx hret hlk rfl (hb hby own_xc_d59) (Nat.le_of_ble_eq_true rfl) (Nat.le_of_ble_eq_true rfl) ⟨congrArg _ hf, rfl⟩
    · refine own_iloadN hx (hb hby own_xc_d12) rfl (pc' := 13) rfl ?_
      refine own_bipush hx (z := (13 : Int32)) (hb hby own_xc_d13) (by decide) (pc' := 15) rfl ?_
      refine own_ieq hx (hb hby own_xc_d15) (by decide) (pc' := 54) (by decide) (pc2 := 18) rfl hf (fun hf => ?_) (fun hf => ?_)
      · refine own_iconst hx (z := (1 : Int32)) (hb hby own_xc_d54) (by decide) (pc' := 55) rfl ?_
        refine own_goto hx (hb hby own_xc_d55) (by decide) (pc' := 59) (by decide) ?_
        exact own_retZ hx hret hlk rfl (hb hby own_xc_d59) (Nat.le_of_ble_eq_true rfl) (Nat.le_of_ble_eq_true rfl) ⟨congrArg _ hf, rfl⟩
      · exact own_xc_b18 hx hby hml hown hZ hw hret hlk  x0 r hf
theorem own_xc_pn : plainName "com/example/querne/querne/values/StringValue" = true := by first | (simp [plainName, overriddenIn]; done) | decide +kernel
theorem own_xc_ef (m : MethodId) (x0 : Int32) : entryFrame m #[.int x0] 1 = mkF m 0 #[.val (.int x0)] [] := by first | (simp [entryFrame, mkF, argsToLocals, Value.category]; done) | rfl
theorem own_xc_C (l : Launch) (Z : State) (a0 : Array Value) (hw : ∀ d ∈ tables_1, d.before a0 Z = true) (n0 : Nat) (h : Heap)  (x0 : Int32) : own_C l Z ⟨"com/example/querne/querne/values/StringValue", "isXmlCharacter", "(I)Z"⟩ prog_355_method_6_code 1 (some .boolean) #[.int x0] n0 h (.int (own_xc_f0 x0)) :=
  own_met own_xc_pn (fun m => own_xc_ef m x0) fun p e s m below meth c hx hby hml hown hZ hret hlk => own_xc_b0 hx hby hml hown hZ hw hret hlk  x0 _ rfl
theorem own_rf_d0 : decode method_2_code 0 = .ok (.iload_n 0, 1) := by decide +kernel
theorem own_rf_d1 : decode method_2_code 1 = .ok (.ifCond .lt 9, 3) := by decide +kernel
theorem own_rf_d4 : decode method_2_code 4 = .ok (.iload_n 0, 1) := by decide +kernel
theorem own_rf_d5 : decode method_2_code 5 = .ok (.ldc 7, 2) := by decide +kernel
theorem own_rf_d7 : decode method_2_code 7 = .ok (.if_icmp .le 5, 3) := by decide +kernel
theorem own_rf_d10 : decode method_2_code 10 = .ok (.iconst 0, 1) := by decide +kernel
theorem own_rf_d11 : decode method_2_code 11 = .ok (.ireturn, 1) := by decide +kernel
theorem own_rf_d12 : decode method_2_code 12 = .ok (.iload_n 0, 1) := by decide +kernel
theorem own_rf_d13 : decode method_2_code 13 = .ok (.bipush 32, 2) := by decide +kernel
theorem own_rf_d15 : decode method_2_code 15 = .ok (.if_icmp .ge 27, 3) := by decide +kernel
theorem own_rf_d18 : decode method_2_code 18 = .ok (.iload_n 0, 1) := by decide +kernel
theorem own_rf_d19 : decode method_2_code 19 = .ok (.bipush 9, 2) := by decide +kernel
theorem own_rf_d21 : decode method_2_code 21 = .ok (.if_icmp .eq 15, 3) := by decide +kernel
theorem own_rf_d24 : decode method_2_code 24 = .ok (.iload_n 0, 1) := by decide +kernel
theorem own_rf_d25 : decode method_2_code 25 = .ok (.bipush 10, 2) := by decide +kernel
theorem own_rf_d27 : decode method_2_code 27 = .ok (.if_icmp .eq 9, 3) := by decide +kernel
theorem own_rf_d30 : decode method_2_code 30 = .ok (.iload_n 0, 1) := by decide +kernel
theorem own_rf_d31 : decode method_2_code 31 = .ok (.bipush 13, 2) := by decide +kernel
theorem own_rf_d33 : decode method_2_code 33 = .ok (.if_icmp .ne 7, 3) := by decide +kernel
theorem own_rf_d36 : decode method_2_code 36 = .ok (.iconst 1, 1) := by decide +kernel
theorem own_rf_d37 : decode method_2_code 37 = .ok (.goto 4, 3) := by decide +kernel
theorem own_rf_d40 : decode method_2_code 40 = .ok (.iconst 0, 1) := by decide +kernel
theorem own_rf_d41 : decode method_2_code 41 = .ok (.ireturn, 1) := by decide +kernel
theorem own_rf_d42 : decode method_2_code 42 = .ok (.iload_n 0, 1) := by decide +kernel
theorem own_rf_d43 : decode method_2_code 43 = .ok (.ldc 8, 2) := by decide +kernel
theorem own_rf_d45 : decode method_2_code 45 = .ok (.if_icmp .lt 11, 3) := by decide +kernel
theorem own_rf_d48 : decode method_2_code 48 = .ok (.iload_n 0, 1) := by decide +kernel
theorem own_rf_d49 : decode method_2_code 49 = .ok (.ldc 9, 2) := by decide +kernel
theorem own_rf_d51 : decode method_2_code 51 = .ok (.if_icmp .gt 5, 3) := by decide +kernel
theorem own_rf_d54 : decode method_2_code 54 = .ok (.iconst 0, 1) := by decide +kernel
theorem own_rf_d55 : decode method_2_code 55 = .ok (.ireturn, 1) := by decide +kernel
theorem own_rf_d56 : decode method_2_code 56 = .ok (.iload_n 0, 1) := by decide +kernel
theorem own_rf_d57 : decode method_2_code 57 = .ok (.ldc 10, 2) := by decide +kernel
theorem own_rf_d59 : decode method_2_code 59 = .ok (.if_icmp .eq 9, 3) := by decide +kernel
theorem own_rf_d62 : decode method_2_code 62 = .ok (.iload_n 0, 1) := by decide +kernel
theorem own_rf_d63 : decode method_2_code 63 = .ok (.ldc 11, 2) := by decide +kernel
theorem own_rf_d65 : decode method_2_code 65 = .ok (.if_icmp .ne 5, 3) := by decide +kernel
theorem own_rf_d68 : decode method_2_code 68 = .ok (.iconst 0, 1) := by decide +kernel
theorem own_rf_d69 : decode method_2_code 69 = .ok (.ireturn, 1) := by decide +kernel
theorem own_rf_d70 : decode method_2_code 70 = .ok (.iconst 1, 1) := by decide +kernel
theorem own_rf_d71 : decode method_2_code 71 = .ok (.ireturn, 1) := by decide +kernel
def own_rf_f56  (x0 : Int32) : Int32 := (if x0 = (65534 : Int32) then (0 : Int32) else (if x0 = (65535 : Int32) then (0 : Int32) else (1 : Int32)))
set_option maxRecDepth 65536 in
set_option maxHeartbeats 4000000 in
theorem own_rf_b56 (hx : p.tables.exec = Jvm.exec) (hby : c.code = method_2_code) (hml : c.maxLocals = 1) (hown : s.vm.findClass "com/example/querne/querne/values/StringValueIsXmlCharacterPinLaw" = some m.cls) {Z : State} {a0 : Array Value} (hZ : Z.Warmed39 s.vm) (hw : ∀ d ∈ tables_1, d.before a0 Z = true) (hret : meth.sig.returnType = some .boolean) (hlk : meth.locks = false)  (x0 : Int32) (r : Int32) (hf : own_rf_f56  x0 = r) : own_W p l e own_R0 s m args below meth c n0 0 0 (fun v h' => v = .int r ∧ h' = h) 0 0 h 56 #[.val (.int x0)] [] := by
  unfold own_rf_f56 at hf
  refine own_iloadN hx (hb hby own_rf_d56) rfl (pc' := 57) rfl ?_
  refine own_ldc hx hZ hown (hw _ (List.mem_of_getElem? (i := 6) rfl)) (hb hby own_rf_d57) (pc' := 59) rfl ?_
  refine own_ieq hx (hb hby own_rf_d59) (by decide) (pc' := 68) (by decide) (pc2 := 62) rfl hf (fun hf => ?_) (fun hf => ?_)
  · refine own_iconst hx (z := (0 : Int32)) (hb hby own_rf_d68) (by decide) (pc' := 69) rfl ?_
    exact own_retZ hx hret hlk rfl (hb hby own_rf_d69) (Nat.le_of_ble_eq_true rfl) (Nat.le_of_ble_eq_true rfl) ⟨congrArg _ hf, rfl⟩
  · refine own_iloadN hx (hb hby own_rf_d62) rfl (pc' := 63) rfl ?_
    refine own_ldc hx hZ hown (hw _ (List.mem_of_getElem? (i := 7) rfl)) (hb hby own_rf_d63) (pc' := 65) rfl ?_
    refine own_ine hx (hb hby own_rf_d65) (by decide) (pc' := 70) (by decide) (pc2 := 68) rfl hf (fun hf => ?_) (fun hf => ?_)
    · refine own_iconst hx (z := (1 : Int32)) (hb hby own_rf_d70) (by decide) (pc' := 71) rfl ?_
      exact own_retZ hx hret hlk rfl (hb hby own_rf_d71) (Nat.le_of_ble_eq_true rfl) (Nat.le_of_ble_eq_true rfl) ⟨congrArg _ hf, rfl⟩
    · refine own_iconst hx (z := (0 : Int32)) (hb hby own_rf_d68) (by decide) (pc' := 69) rfl ?_
      exact own_retZ hx hret hlk rfl (hb hby own_rf_d69) (Nat.le_of_ble_eq_true rfl) (Nat.le_of_ble_eq_true rfl) ⟨congrArg _ hf, rfl⟩
def own_rf_f42  (x0 : Int32) : Int32 := (if x0 < (55296 : Int32) then own_rf_f56 x0 else (if (57343 : Int32) < x0 then own_rf_f56 x0 else (0 : Int32)))
set_option maxRecDepth 65536 in
set_option maxHeartbeats 4000000 in
theorem own_rf_b42 (hx : p.tables.exec = Jvm.exec) (hby : c.code = method_2_code) (hml : c.maxLocals = 1) (hown : s.vm.findClass "com/example/querne/querne/values/StringValueIsXmlCharacterPinLaw" = some m.cls) {Z : State} {a0 : Array Value} (hZ : Z.Warmed39 s.vm) (hw : ∀ d ∈ tables_1, d.before a0 Z = true) (hret : meth.sig.returnType = some .boolean) (hlk : meth.locks = false)  (x0 : Int32) (r : Int32) (hf : own_rf_f42  x0 = r) : own_W p l e own_R0 s m args below meth c n0 0 0 (fun v h' => v = .int r ∧ h' = h) 0 0 h 42 #[.val (.int x0)] [] := by
  unfold own_rf_f42 at hf
  refine own_iloadN hx (hb hby own_rf_d42) rfl (pc' := 43) rfl ?_
  refine own_ldc hx hZ hown (hw _ (List.mem_of_getElem? (i := 2) rfl)) (hb hby own_rf_d43) (pc' := 45) rfl ?_
  refine own_ilt hx (hb hby own_rf_d45) (by decide) (pc' := 56) (by decide) (pc2 := 48) rfl hf (fun hf => ?_) (fun hf => ?_)
  · exact own_rf_b56 hx hby hml hown hZ hw hret hlk  x0 r hf
  · refine own_iloadN hx (hb hby own_rf_d48) rfl (pc' := 49) rfl ?_
    refine own_ldc hx hZ hown (hw _ (List.mem_of_getElem? (i := 3) rfl)) (hb hby own_rf_d49) (pc' := 51) rfl ?_
    refine own_igt hx (hb hby own_rf_d51) (by decide) (pc' := 56) (by decide) (pc2 := 54) rfl hf (fun hf => ?_) (fun hf => ?_)
    · exact own_rf_b56 hx hby hml hown hZ hw hret hlk  x0 r hf
    · refine own_iconst hx (z := (0 : Int32)) (hb hby own_rf_d54) (by decide) (pc' := 55) rfl ?_
      exact own_retZ hx hret hlk rfl (hb hby own_rf_d55) (Nat.le_of_ble_eq_true rfl) (Nat.le_of_ble_eq_true rfl) ⟨congrArg _ hf, rfl⟩
def own_rf_f12  (x0 : Int32) : Int32 := (if (32 : Int32) ≤ x0 then own_rf_f42 x0 else (if x0 = (9 : Int32) then (1 : Int32) else (if x0 = (10 : Int32) then (1 : Int32) else (if x0 = (13 : Int32) then (1 : Int32) else (0 : Int32)))))
set_option maxRecDepth 65536 in
set_option maxHeartbeats 4000000 in
theorem own_rf_b12 (hx : p.tables.exec = Jvm.exec) (hby : c.code = method_2_code) (hml : c.maxLocals = 1) (hown : s.vm.findClass "com/example/querne/querne/values/StringValueIsXmlCharacterPinLaw" = some m.cls) {Z : State} {a0 : Array Value} (hZ : Z.Warmed39 s.vm) (hw : ∀ d ∈ tables_1, d.before a0 Z = true) (hret : meth.sig.returnType = some .boolean) (hlk : meth.locks = false)  (x0 : Int32) (r : Int32) (hf : own_rf_f12  x0 = r) : own_W p l e own_R0 s m args below meth c n0 0 0 (fun v h' => v = .int r ∧ h' = h) 0 0 h 12 #[.val (.int x0)] [] := by
  unfold own_rf_f12 at hf
  refine own_iloadN hx (hb hby own_rf_d12) rfl (pc' := 13) rfl ?_
  refine own_bipush hx (z := (32 : Int32)) (hb hby own_rf_d13) (by decide) (pc' := 15) rfl ?_
  refine own_ige hx (hb hby own_rf_d15) (by decide) (pc' := 42) (by decide) (pc2 := 18) rfl hf (fun hf => ?_) (fun hf => ?_)
  · exact own_rf_b42 hx hby hml hown hZ hw hret hlk  x0 r hf
  · refine own_iloadN hx (hb hby own_rf_d18) rfl (pc' := 19) rfl ?_
    refine own_bipush hx (z := (9 : Int32)) (hb hby own_rf_d19) (by decide) (pc' := 21) rfl ?_
    refine own_ieq hx (hb hby own_rf_d21) (by decide) (pc' := 36) (by decide) (pc2 := 24) rfl hf (fun hf => ?_) (fun hf => ?_)
    · refine own_iconst hx (z := (1 : Int32)) (hb hby own_rf_d36) (by decide) (pc' := 37) rfl ?_
      refine own_goto hx (hb hby own_rf_d37) (by decide) (pc' := 41) (by decide) ?_
      exact own_retZ hx hret hlk rfl (hb hby own_rf_d41) (Nat.le_of_ble_eq_true rfl) (Nat.le_of_ble_eq_true rfl) ⟨congrArg _ hf, rfl⟩
    · refine own_iloadN hx (hb hby own_rf_d24) rfl (pc' := 25) rfl ?_
      refine own_bipush hx (z := (10 : Int32)) (hb hby own_rf_d25) (by decide) (pc' := 27) rfl ?_
      refine own_ieq hx (hb hby own_rf_d27) (by decide) (pc' := 36) (by decide) (pc2 := 30) rfl hf (fun hf => ?_) (fun hf => ?_)
      · refine own_iconst hx (z := (1 : Int32)) (hb hby own_rf_d36) (by decide) (pc' := 37) rfl ?_
        refine own_goto hx (hb hby own_rf_d37) (by decide) (pc' := 41) (by decide) ?_
        exact own_retZ hx hret hlk rfl (hb hby own_rf_d41) (Nat.le_of_ble_eq_true rfl) (Nat.le_of_ble_eq_true rfl) ⟨congrArg _ hf, rfl⟩
      · refine own_iloadN hx (hb hby own_rf_d30) rfl (pc' := 31) rfl ?_
        refine own_bipush hx (z := (13 : Int32)) (hb hby own_rf_d31) (by decide) (pc' := 33) rfl ?_
        refine own_ine hx (hb hby own_rf_d33) (by decide) (pc' := 40) (by decide) (pc2 := 36) rfl hf (fun hf => ?_) (fun hf => ?_)
        · refine own_iconst hx (z := (0 : Int32)) (hb hby own_rf_d40) (by decide) (pc' := 41) rfl ?_
          exact own_retZ hx hret hlk rfl (hb hby own_rf_d41) (Nat.le_of_ble_eq_true rfl) (Nat.le_of_ble_eq_true rfl) ⟨congrArg _ hf, rfl⟩
        · refine own_iconst hx (z := (1 : Int32)) (hb hby own_rf_d36) (by decide) (pc' := 37) rfl ?_
          refine own_goto hx (hb hby own_rf_d37) (by decide) (pc' := 41) (by decide) ?_
          exact own_retZ hx hret hlk rfl (hb hby own_rf_d41) (Nat.le_of_ble_eq_true rfl) (Nat.le_of_ble_eq_true rfl) ⟨congrArg _ hf, rfl⟩
def own_rf_f0  (x0 : Int32) : Int32 := (if x0 < 0 then (0 : Int32) else (if x0 ≤ (1114111 : Int32) then own_rf_f12 x0 else (0 : Int32)))
set_option maxRecDepth 65536 in
set_option maxHeartbeats 4000000 in
theorem own_rf_b0 (hx : p.tables.exec = Jvm.exec) (hby : c.code = method_2_code) (hml : c.maxLocals = 1) (hown : s.vm.findClass "com/example/querne/querne/values/StringValueIsXmlCharacterPinLaw" = some m.cls) {Z : State} {a0 : Array Value} (hZ : Z.Warmed39 s.vm) (hw : ∀ d ∈ tables_1, d.before a0 Z = true) (hret : meth.sig.returnType = some .boolean) (hlk : meth.locks = false)  (x0 : Int32) (r : Int32) (hf : own_rf_f0  x0 = r) : own_W p l e own_R0 s m args below meth c n0 0 0 (fun v h' => v = .int r ∧ h' = h) 0 0 h 0 #[.val (.int x0)] [] := by
  unfold own_rf_f0 at hf
  refine own_iloadN hx (hb hby own_rf_d0) rfl (pc' := 1) rfl ?_
  refine own_ilt0 hx (hb hby own_rf_d1) (by decide) (pc' := 10) (by decide) (pc2 := 4) rfl hf (fun hf => ?_) (fun hf => ?_)
  · refine own_iconst hx (z := (0 : Int32)) (hb hby own_rf_d10) (by decide) (pc' := 11) rfl ?_
    exact own_retZ hx hret hlk rfl (hb hby own_rf_d11) (Nat.le_of_ble_eq_true rfl) (Nat.le_of_ble_eq_true rfl) ⟨congrArg _ hf, rfl⟩
  · refine own_iloadN hx (hb hby own_rf_d4) rfl (pc' := 5) rfl ?_
    refine own_ldc hx hZ hown (hw _ (List.mem_of_getElem? (i := 9) rfl)) (hb hby own_rf_d5) (pc' := 7) rfl ?_
    refine own_ile hx (hb hby own_rf_d7) (by decide) (pc' := 12) (by decide) (pc2 := 10) rfl hf (fun hf => ?_) (fun hf => ?_)
    · exact own_rf_b12 hx hby hml hown hZ hw hret hlk  x0 r hf
    · refine own_iconst hx (z := (0 : Int32)) (hb hby own_rf_d10) (by decide) (pc' := 11) rfl ?_
      exact own_retZ hx hret hlk rfl (hb hby own_rf_d11) (Nat.le_of_ble_eq_true rfl) (Nat.le_of_ble_eq_true rfl) ⟨congrArg _ hf, rfl⟩
theorem own_rf_pn : plainName "com/example/querne/querne/values/StringValueIsXmlCharacterPinLaw" = true := by first | (simp [plainName, overriddenIn]; done) | decide +kernel
theorem own_rf_ef (m : MethodId) (x0 : Int32) : entryFrame m #[.int x0] 1 = mkF m 0 #[.val (.int x0)] [] := by first | (simp [entryFrame, mkF, argsToLocals, Value.category]; done) | rfl
theorem own_rf_C (l : Launch) (Z : State) (a0 : Array Value) (hw : ∀ d ∈ tables_1, d.before a0 Z = true) (n0 : Nat) (h : Heap)  (x0 : Int32) : own_C l Z ⟨"com/example/querne/querne/values/StringValueIsXmlCharacterPinLaw", "reference", "(I)Z"⟩ method_2_code 1 (some .boolean) #[.int x0] n0 h (.int (own_rf_f0 x0)) :=
  own_met own_rf_pn (fun m => own_rf_ef m x0) fun p e s m below meth c hx hby hml hown hZ hret hlk => own_rf_b0 hx hby hml hown hZ hw hret hlk  x0 _ rfl
theorem own_pdI : parseMethodDescriptor "(I)Z" = some ⟨[.int], some .boolean⟩ := by decide +kernel
/-! the plain law -/
theorem own_ltP {x : Int32} (z : Int32) {k : Int} (hz : z.toInt = k) (h : x.toInt < k) : x < z := Int32.lt_iff_toInt_lt.mpr (by omega)
theorem own_ltN {x : Int32} (z : Int32) {k : Int} (hz : z.toInt = k) (h : k ≤ x.toInt) : ¬ x < z := fun q => by have := Int32.lt_iff_toInt_lt.mp q; omega
theorem own_leP {x : Int32} (z : Int32) {k : Int} (hz : z.toInt = k) (h : x.toInt ≤ k) : x ≤ z := Int32.le_iff_toInt_le.mpr (by omega)
theorem own_leN {x : Int32} (z : Int32) {k : Int} (hz : z.toInt = k) (h : k < x.toInt) : ¬ x ≤ z := fun q => by have := Int32.le_iff_toInt_le.mp q; omega
theorem own_geP {x : Int32} (z : Int32) {k : Int} (hz : z.toInt = k) (h : k ≤ x.toInt) : z ≤ x := Int32.le_iff_toInt_le.mpr (by omega)
theorem own_geN {x : Int32} (z : Int32) {k : Int} (hz : z.toInt = k) (h : x.toInt < k) : ¬ z ≤ x := fun q => by have := Int32.le_iff_toInt_le.mp q; omega
theorem own_gtP {x : Int32} (z : Int32) {k : Int} (hz : z.toInt = k) (h : k < x.toInt) : z < x := Int32.lt_iff_toInt_lt.mpr (by omega)
theorem own_gtN {x : Int32} (z : Int32) {k : Int} (hz : z.toInt = k) (h : x.toInt ≤ k) : ¬ z < x := fun q => by have := Int32.lt_iff_toInt_lt.mp q; omega
theorem own_eqP {x : Int32} (z : Int32) {k : Int} (hz : z.toInt = k) (h : x.toInt = k) : x = z := Int32.toInt_inj.mp (by omega)
theorem own_eqN {x : Int32} (z : Int32) {k : Int} (hz : z.toInt = k) (h : x.toInt < k ∨ k < x.toInt) : ¬ x = z := fun q => by subst q; omega

theorem own_xc_i0 (x0 : Int32) (h2 : x0.toInt ≤ -1) : own_xc_f0 x0 = (0 : Int32) := by
  unfold own_xc_f0
  rw [if_neg (own_eqN (9 : Int32) (k := 9) rfl (by omega))]
  rw [if_neg (own_eqN (10 : Int32) (k := 10) rfl (by omega))]
  rw [if_neg (own_eqN (13 : Int32) (k := 13) rfl (by omega))]
  unfold own_xc_f18
  rw [if_pos (own_ltP (32 : Int32) (k := 32) rfl (by omega))]
  unfold own_xc_f30
  rw [if_pos (own_ltP (57344 : Int32) (k := 57344) rfl (by omega))]
  unfold own_xc_f42
  rw [if_pos (own_ltP (65536 : Int32) (k := 65536) rfl (by omega))]
theorem own_rf_i0 (x0 : Int32) (h2 : x0.toInt ≤ -1) : own_rf_f0 x0 = (0 : Int32) := by
  unfold own_rf_f0
  rw [if_pos (own_ltP (0 : Int32) (k := 0) rfl (by omega))]
theorem own_xc_i1 (x0 : Int32) (h1 : 0 ≤ x0.toInt) (h2 : x0.toInt ≤ 8) : own_xc_f0 x0 = (0 : Int32) := by
  unfold own_xc_f0
  rw [if_neg (own_eqN (9 : Int32) (k := 9) rfl (by omega))]
  rw [if_neg (own_eqN (10 : Int32) (k := 10) rfl (by omega))]
  rw [if_neg (own_eqN (13 : Int32) (k := 13) rfl (by omega))]
  unfold own_xc_f18
  rw [if_pos (own_ltP (32 : Int32) (k := 32) rfl (by omega))]
  unfold own_xc_f30
  rw [if_pos (own_ltP (57344 : Int32) (k := 57344) rfl (by omega))]
  unfold own_xc_f42
  rw [if_pos (own_ltP (65536 : Int32) (k := 65536) rfl (by omega))]
theorem own_rf_i1 (x0 : Int32) (h1 : 0 ≤ x0.toInt) (h2 : x0.toInt ≤ 8) : own_rf_f0 x0 = (0 : Int32) := by
  unfold own_rf_f0
  rw [if_neg (own_ltN (0 : Int32) (k := 0) rfl (by omega))]
  rw [if_pos (own_leP (1114111 : Int32) (k := 1114111) rfl (by omega))]
  unfold own_rf_f12
  rw [if_neg (own_geN (32 : Int32) (k := 32) rfl (by omega))]
  rw [if_neg (own_eqN (9 : Int32) (k := 9) rfl (by omega))]
  rw [if_neg (own_eqN (10 : Int32) (k := 10) rfl (by omega))]
  rw [if_neg (own_eqN (13 : Int32) (k := 13) rfl (by omega))]
theorem own_xc_i2 (x0 : Int32) (h1 : 9 ≤ x0.toInt) (h2 : x0.toInt ≤ 9) : own_xc_f0 x0 = (1 : Int32) := by
  unfold own_xc_f0
  rw [if_pos (own_eqP (9 : Int32) (k := 9) rfl (by omega))]
theorem own_rf_i2 (x0 : Int32) (h1 : 9 ≤ x0.toInt) (h2 : x0.toInt ≤ 9) : own_rf_f0 x0 = (1 : Int32) := by
  unfold own_rf_f0
  rw [if_neg (own_ltN (0 : Int32) (k := 0) rfl (by omega))]
  rw [if_pos (own_leP (1114111 : Int32) (k := 1114111) rfl (by omega))]
  unfold own_rf_f12
  rw [if_neg (own_geN (32 : Int32) (k := 32) rfl (by omega))]
  rw [if_pos (own_eqP (9 : Int32) (k := 9) rfl (by omega))]
theorem own_xc_i3 (x0 : Int32) (h1 : 10 ≤ x0.toInt) (h2 : x0.toInt ≤ 10) : own_xc_f0 x0 = (1 : Int32) := by
  unfold own_xc_f0
  rw [if_neg (own_eqN (9 : Int32) (k := 9) rfl (by omega))]
  rw [if_pos (own_eqP (10 : Int32) (k := 10) rfl (by omega))]
theorem own_rf_i3 (x0 : Int32) (h1 : 10 ≤ x0.toInt) (h2 : x0.toInt ≤ 10) : own_rf_f0 x0 = (1 : Int32) := by
  unfold own_rf_f0
  rw [if_neg (own_ltN (0 : Int32) (k := 0) rfl (by omega))]
  rw [if_pos (own_leP (1114111 : Int32) (k := 1114111) rfl (by omega))]
  unfold own_rf_f12
  rw [if_neg (own_geN (32 : Int32) (k := 32) rfl (by omega))]
  rw [if_neg (own_eqN (9 : Int32) (k := 9) rfl (by omega))]
  rw [if_pos (own_eqP (10 : Int32) (k := 10) rfl (by omega))]
theorem own_xc_i4 (x0 : Int32) (h1 : 11 ≤ x0.toInt) (h2 : x0.toInt ≤ 12) : own_xc_f0 x0 = (0 : Int32) := by
  unfold own_xc_f0
  rw [if_neg (own_eqN (9 : Int32) (k := 9) rfl (by omega))]
  rw [if_neg (own_eqN (10 : Int32) (k := 10) rfl (by omega))]
  rw [if_neg (own_eqN (13 : Int32) (k := 13) rfl (by omega))]
  unfold own_xc_f18
  rw [if_pos (own_ltP (32 : Int32) (k := 32) rfl (by omega))]
  unfold own_xc_f30
  rw [if_pos (own_ltP (57344 : Int32) (k := 57344) rfl (by omega))]
  unfold own_xc_f42
  rw [if_pos (own_ltP (65536 : Int32) (k := 65536) rfl (by omega))]
theorem own_rf_i4 (x0 : Int32) (h1 : 11 ≤ x0.toInt) (h2 : x0.toInt ≤ 12) : own_rf_f0 x0 = (0 : Int32) := by
  unfold own_rf_f0
  rw [if_neg (own_ltN (0 : Int32) (k := 0) rfl (by omega))]
  rw [if_pos (own_leP (1114111 : Int32) (k := 1114111) rfl (by omega))]
  unfold own_rf_f12
  rw [if_neg (own_geN (32 : Int32) (k := 32) rfl (by omega))]
  rw [if_neg (own_eqN (9 : Int32) (k := 9) rfl (by omega))]
  rw [if_neg (own_eqN (10 : Int32) (k := 10) rfl (by omega))]
  rw [if_neg (own_eqN (13 : Int32) (k := 13) rfl (by omega))]
theorem own_xc_i5 (x0 : Int32) (h1 : 13 ≤ x0.toInt) (h2 : x0.toInt ≤ 13) : own_xc_f0 x0 = (1 : Int32) := by
  unfold own_xc_f0
  rw [if_neg (own_eqN (9 : Int32) (k := 9) rfl (by omega))]
  rw [if_neg (own_eqN (10 : Int32) (k := 10) rfl (by omega))]
  rw [if_pos (own_eqP (13 : Int32) (k := 13) rfl (by omega))]
theorem own_rf_i5 (x0 : Int32) (h1 : 13 ≤ x0.toInt) (h2 : x0.toInt ≤ 13) : own_rf_f0 x0 = (1 : Int32) := by
  unfold own_rf_f0
  rw [if_neg (own_ltN (0 : Int32) (k := 0) rfl (by omega))]
  rw [if_pos (own_leP (1114111 : Int32) (k := 1114111) rfl (by omega))]
  unfold own_rf_f12
  rw [if_neg (own_geN (32 : Int32) (k := 32) rfl (by omega))]
  rw [if_neg (own_eqN (9 : Int32) (k := 9) rfl (by omega))]
  rw [if_neg (own_eqN (10 : Int32) (k := 10) rfl (by omega))]
  rw [if_pos (own_eqP (13 : Int32) (k := 13) rfl (by omega))]
theorem own_xc_i6 (x0 : Int32) (h1 : 14 ≤ x0.toInt) (h2 : x0.toInt ≤ 31) : own_xc_f0 x0 = (0 : Int32) := by
  unfold own_xc_f0
  rw [if_neg (own_eqN (9 : Int32) (k := 9) rfl (by omega))]
  rw [if_neg (own_eqN (10 : Int32) (k := 10) rfl (by omega))]
  rw [if_neg (own_eqN (13 : Int32) (k := 13) rfl (by omega))]
  unfold own_xc_f18
  rw [if_pos (own_ltP (32 : Int32) (k := 32) rfl (by omega))]
  unfold own_xc_f30
  rw [if_pos (own_ltP (57344 : Int32) (k := 57344) rfl (by omega))]
  unfold own_xc_f42
  rw [if_pos (own_ltP (65536 : Int32) (k := 65536) rfl (by omega))]
theorem own_rf_i6 (x0 : Int32) (h1 : 14 ≤ x0.toInt) (h2 : x0.toInt ≤ 31) : own_rf_f0 x0 = (0 : Int32) := by
  unfold own_rf_f0
  rw [if_neg (own_ltN (0 : Int32) (k := 0) rfl (by omega))]
  rw [if_pos (own_leP (1114111 : Int32) (k := 1114111) rfl (by omega))]
  unfold own_rf_f12
  rw [if_neg (own_geN (32 : Int32) (k := 32) rfl (by omega))]
  rw [if_neg (own_eqN (9 : Int32) (k := 9) rfl (by omega))]
  rw [if_neg (own_eqN (10 : Int32) (k := 10) rfl (by omega))]
  rw [if_neg (own_eqN (13 : Int32) (k := 13) rfl (by omega))]
theorem own_xc_i7 (x0 : Int32) (h1 : 32 ≤ x0.toInt) (h2 : x0.toInt ≤ 55295) : own_xc_f0 x0 = (1 : Int32) := by
  unfold own_xc_f0
  rw [if_neg (own_eqN (9 : Int32) (k := 9) rfl (by omega))]
  rw [if_neg (own_eqN (10 : Int32) (k := 10) rfl (by omega))]
  rw [if_neg (own_eqN (13 : Int32) (k := 13) rfl (by omega))]
  unfold own_xc_f18
  rw [if_neg (own_ltN (32 : Int32) (k := 32) rfl (by omega))]
  rw [if_pos (own_leP (55295 : Int32) (k := 55295) rfl (by omega))]
theorem own_rf_i7 (x0 : Int32) (h1 : 32 ≤ x0.toInt) (h2 : x0.toInt ≤ 55295) : own_rf_f0 x0 = (1 : Int32) := by
  unfold own_rf_f0
  rw [if_neg (own_ltN (0 : Int32) (k := 0) rfl (by omega))]
  rw [if_pos (own_leP (1114111 : Int32) (k := 1114111) rfl (by omega))]
  unfold own_rf_f12
  rw [if_pos (own_geP (32 : Int32) (k := 32) rfl (by omega))]
  unfold own_rf_f42
  rw [if_pos (own_ltP (55296 : Int32) (k := 55296) rfl (by omega))]
  unfold own_rf_f56
  rw [if_neg (own_eqN (65534 : Int32) (k := 65534) rfl (by omega))]
  rw [if_neg (own_eqN (65535 : Int32) (k := 65535) rfl (by omega))]
theorem own_xc_i8 (x0 : Int32) (h1 : 55296 ≤ x0.toInt) (h2 : x0.toInt ≤ 57343) : own_xc_f0 x0 = (0 : Int32) := by
  unfold own_xc_f0
  rw [if_neg (own_eqN (9 : Int32) (k := 9) rfl (by omega))]
  rw [if_neg (own_eqN (10 : Int32) (k := 10) rfl (by omega))]
  rw [if_neg (own_eqN (13 : Int32) (k := 13) rfl (by omega))]
  unfold own_xc_f18
  rw [if_neg (own_ltN (32 : Int32) (k := 32) rfl (by omega))]
  rw [if_neg (own_leN (55295 : Int32) (k := 55295) rfl (by omega))]
  unfold own_xc_f30
  rw [if_pos (own_ltP (57344 : Int32) (k := 57344) rfl (by omega))]
  unfold own_xc_f42
  rw [if_pos (own_ltP (65536 : Int32) (k := 65536) rfl (by omega))]
theorem own_rf_i8 (x0 : Int32) (h1 : 55296 ≤ x0.toInt) (h2 : x0.toInt ≤ 57343) : own_rf_f0 x0 = (0 : Int32) := by
  unfold own_rf_f0
  rw [if_neg (own_ltN (0 : Int32) (k := 0) rfl (by omega))]
  rw [if_pos (own_leP (1114111 : Int32) (k := 1114111) rfl (by omega))]
  unfold own_rf_f12
  rw [if_pos (own_geP (32 : Int32) (k := 32) rfl (by omega))]
  unfold own_rf_f42
  rw [if_neg (own_ltN (55296 : Int32) (k := 55296) rfl (by omega))]
  rw [if_neg (own_gtN (57343 : Int32) (k := 57343) rfl (by omega))]
theorem own_xc_i9 (x0 : Int32) (h1 : 57344 ≤ x0.toInt) (h2 : x0.toInt ≤ 65533) : own_xc_f0 x0 = (1 : Int32) := by
  unfold own_xc_f0
  rw [if_neg (own_eqN (9 : Int32) (k := 9) rfl (by omega))]
  rw [if_neg (own_eqN (10 : Int32) (k := 10) rfl (by omega))]
  rw [if_neg (own_eqN (13 : Int32) (k := 13) rfl (by omega))]
  unfold own_xc_f18
  rw [if_neg (own_ltN (32 : Int32) (k := 32) rfl (by omega))]
  rw [if_neg (own_leN (55295 : Int32) (k := 55295) rfl (by omega))]
  unfold own_xc_f30
  rw [if_neg (own_ltN (57344 : Int32) (k := 57344) rfl (by omega))]
  rw [if_pos (own_leP (65533 : Int32) (k := 65533) rfl (by omega))]
theorem own_rf_i9 (x0 : Int32) (h1 : 57344 ≤ x0.toInt) (h2 : x0.toInt ≤ 65533) : own_rf_f0 x0 = (1 : Int32) := by
  unfold own_rf_f0
  rw [if_neg (own_ltN (0 : Int32) (k := 0) rfl (by omega))]
  rw [if_pos (own_leP (1114111 : Int32) (k := 1114111) rfl (by omega))]
  unfold own_rf_f12
  rw [if_pos (own_geP (32 : Int32) (k := 32) rfl (by omega))]
  unfold own_rf_f42
  rw [if_neg (own_ltN (55296 : Int32) (k := 55296) rfl (by omega))]
  rw [if_pos (own_gtP (57343 : Int32) (k := 57343) rfl (by omega))]
  unfold own_rf_f56
  rw [if_neg (own_eqN (65534 : Int32) (k := 65534) rfl (by omega))]
  rw [if_neg (own_eqN (65535 : Int32) (k := 65535) rfl (by omega))]
theorem own_xc_i10 (x0 : Int32) (h1 : 65534 ≤ x0.toInt) (h2 : x0.toInt ≤ 65534) : own_xc_f0 x0 = (0 : Int32) := by
  unfold own_xc_f0
  rw [if_neg (own_eqN (9 : Int32) (k := 9) rfl (by omega))]
  rw [if_neg (own_eqN (10 : Int32) (k := 10) rfl (by omega))]
  rw [if_neg (own_eqN (13 : Int32) (k := 13) rfl (by omega))]
  unfold own_xc_f18
  rw [if_neg (own_ltN (32 : Int32) (k := 32) rfl (by omega))]
  rw [if_neg (own_leN (55295 : Int32) (k := 55295) rfl (by omega))]
  unfold own_xc_f30
  rw [if_neg (own_ltN (57344 : Int32) (k := 57344) rfl (by omega))]
  rw [if_neg (own_leN (65533 : Int32) (k := 65533) rfl (by omega))]
  unfold own_xc_f42
  rw [if_pos (own_ltP (65536 : Int32) (k := 65536) rfl (by omega))]
theorem own_rf_i10 (x0 : Int32) (h1 : 65534 ≤ x0.toInt) (h2 : x0.toInt ≤ 65534) : own_rf_f0 x0 = (0 : Int32) := by
  unfold own_rf_f0
  rw [if_neg (own_ltN (0 : Int32) (k := 0) rfl (by omega))]
  rw [if_pos (own_leP (1114111 : Int32) (k := 1114111) rfl (by omega))]
  unfold own_rf_f12
  rw [if_pos (own_geP (32 : Int32) (k := 32) rfl (by omega))]
  unfold own_rf_f42
  rw [if_neg (own_ltN (55296 : Int32) (k := 55296) rfl (by omega))]
  rw [if_pos (own_gtP (57343 : Int32) (k := 57343) rfl (by omega))]
  unfold own_rf_f56
  rw [if_pos (own_eqP (65534 : Int32) (k := 65534) rfl (by omega))]
theorem own_xc_i11 (x0 : Int32) (h1 : 65535 ≤ x0.toInt) (h2 : x0.toInt ≤ 65535) : own_xc_f0 x0 = (0 : Int32) := by
  unfold own_xc_f0
  rw [if_neg (own_eqN (9 : Int32) (k := 9) rfl (by omega))]
  rw [if_neg (own_eqN (10 : Int32) (k := 10) rfl (by omega))]
  rw [if_neg (own_eqN (13 : Int32) (k := 13) rfl (by omega))]
  unfold own_xc_f18
  rw [if_neg (own_ltN (32 : Int32) (k := 32) rfl (by omega))]
  rw [if_neg (own_leN (55295 : Int32) (k := 55295) rfl (by omega))]
  unfold own_xc_f30
  rw [if_neg (own_ltN (57344 : Int32) (k := 57344) rfl (by omega))]
  rw [if_neg (own_leN (65533 : Int32) (k := 65533) rfl (by omega))]
  unfold own_xc_f42
  rw [if_pos (own_ltP (65536 : Int32) (k := 65536) rfl (by omega))]
theorem own_rf_i11 (x0 : Int32) (h1 : 65535 ≤ x0.toInt) (h2 : x0.toInt ≤ 65535) : own_rf_f0 x0 = (0 : Int32) := by
  unfold own_rf_f0
  rw [if_neg (own_ltN (0 : Int32) (k := 0) rfl (by omega))]
  rw [if_pos (own_leP (1114111 : Int32) (k := 1114111) rfl (by omega))]
  unfold own_rf_f12
  rw [if_pos (own_geP (32 : Int32) (k := 32) rfl (by omega))]
  unfold own_rf_f42
  rw [if_neg (own_ltN (55296 : Int32) (k := 55296) rfl (by omega))]
  rw [if_pos (own_gtP (57343 : Int32) (k := 57343) rfl (by omega))]
  unfold own_rf_f56
  rw [if_neg (own_eqN (65534 : Int32) (k := 65534) rfl (by omega))]
  rw [if_pos (own_eqP (65535 : Int32) (k := 65535) rfl (by omega))]
theorem own_xc_i12 (x0 : Int32) (h1 : 65536 ≤ x0.toInt) (h2 : x0.toInt ≤ 1114111) : own_xc_f0 x0 = (1 : Int32) := by
  unfold own_xc_f0
  rw [if_neg (own_eqN (9 : Int32) (k := 9) rfl (by omega))]
  rw [if_neg (own_eqN (10 : Int32) (k := 10) rfl (by omega))]
  rw [if_neg (own_eqN (13 : Int32) (k := 13) rfl (by omega))]
  unfold own_xc_f18
  rw [if_neg (own_ltN (32 : Int32) (k := 32) rfl (by omega))]
  rw [if_neg (own_leN (55295 : Int32) (k := 55295) rfl (by omega))]
  unfold own_xc_f30
  rw [if_neg (own_ltN (57344 : Int32) (k := 57344) rfl (by omega))]
  rw [if_neg (own_leN (65533 : Int32) (k := 65533) rfl (by omega))]
  unfold own_xc_f42
  rw [if_neg (own_ltN (65536 : Int32) (k := 65536) rfl (by omega))]
  rw [if_neg (own_gtN (1114111 : Int32) (k := 1114111) rfl (by omega))]
theorem own_rf_i12 (x0 : Int32) (h1 : 65536 ≤ x0.toInt) (h2 : x0.toInt ≤ 1114111) : own_rf_f0 x0 = (1 : Int32) := by
  unfold own_rf_f0
  rw [if_neg (own_ltN (0 : Int32) (k := 0) rfl (by omega))]
  rw [if_pos (own_leP (1114111 : Int32) (k := 1114111) rfl (by omega))]
  unfold own_rf_f12
  rw [if_pos (own_geP (32 : Int32) (k := 32) rfl (by omega))]
  unfold own_rf_f42
  rw [if_neg (own_ltN (55296 : Int32) (k := 55296) rfl (by omega))]
  rw [if_pos (own_gtP (57343 : Int32) (k := 57343) rfl (by omega))]
  unfold own_rf_f56
  rw [if_neg (own_eqN (65534 : Int32) (k := 65534) rfl (by omega))]
  rw [if_neg (own_eqN (65535 : Int32) (k := 65535) rfl (by omega))]
theorem own_xc_i13 (x0 : Int32) (h1 : 1114112 ≤ x0.toInt) : own_xc_f0 x0 = (0 : Int32) := by
  unfold own_xc_f0
  rw [if_neg (own_eqN (9 : Int32) (k := 9) rfl (by omega))]
  rw [if_neg (own_eqN (10 : Int32) (k := 10) rfl (by omega))]
  rw [if_neg (own_eqN (13 : Int32) (k := 13) rfl (by omega))]
  unfold own_xc_f18
  rw [if_neg (own_ltN (32 : Int32) (k := 32) rfl (by omega))]
  rw [if_neg (own_leN (55295 : Int32) (k := 55295) rfl (by omega))]
  unfold own_xc_f30
  rw [if_neg (own_ltN (57344 : Int32) (k := 57344) rfl (by omega))]
  rw [if_neg (own_leN (65533 : Int32) (k := 65533) rfl (by omega))]
  unfold own_xc_f42
  rw [if_neg (own_ltN (65536 : Int32) (k := 65536) rfl (by omega))]
  rw [if_pos (own_gtP (1114111 : Int32) (k := 1114111) rfl (by omega))]
theorem own_rf_i13 (x0 : Int32) (h1 : 1114112 ≤ x0.toInt) : own_rf_f0 x0 = (0 : Int32) := by
  unfold own_rf_f0
  rw [if_neg (own_ltN (0 : Int32) (k := 0) rfl (by omega))]
  rw [if_neg (own_leN (1114111 : Int32) (k := 1114111) rfl (by omega))]
theorem own_same (x0 : Int32) : own_xc_f0 x0 = own_rf_f0 x0 := by
  by_cases h0 : x0.toInt ≤ -1
  · exact (own_xc_i0 x0 h0).trans (own_rf_i0 x0 h0).symm
  by_cases h1 : x0.toInt ≤ 8
  · exact (own_xc_i1 x0 (by omega) h1).trans (own_rf_i1 x0 (by omega) h1).symm
  by_cases h2 : x0.toInt ≤ 9
  · exact (own_xc_i2 x0 (by omega) h2).trans (own_rf_i2 x0 (by omega) h2).symm
  by_cases h3 : x0.toInt ≤ 10
  · exact (own_xc_i3 x0 (by omega) h3).trans (own_rf_i3 x0 (by omega) h3).symm
  by_cases h4 : x0.toInt ≤ 12
  · exact (own_xc_i4 x0 (by omega) h4).trans (own_rf_i4 x0 (by omega) h4).symm
  by_cases h5 : x0.toInt ≤ 13
  · exact (own_xc_i5 x0 (by omega) h5).trans (own_rf_i5 x0 (by omega) h5).symm
  by_cases h6 : x0.toInt ≤ 31
  · exact (own_xc_i6 x0 (by omega) h6).trans (own_rf_i6 x0 (by omega) h6).symm
  by_cases h7 : x0.toInt ≤ 55295
  · exact (own_xc_i7 x0 (by omega) h7).trans (own_rf_i7 x0 (by omega) h7).symm
  by_cases h8 : x0.toInt ≤ 57343
  · exact (own_xc_i8 x0 (by omega) h8).trans (own_rf_i8 x0 (by omega) h8).symm
  by_cases h9 : x0.toInt ≤ 65533
  · exact (own_xc_i9 x0 (by omega) h9).trans (own_rf_i9 x0 (by omega) h9).symm
  by_cases h10 : x0.toInt ≤ 65534
  · exact (own_xc_i10 x0 (by omega) h10).trans (own_rf_i10 x0 (by omega) h10).symm
  by_cases h11 : x0.toInt ≤ 65535
  · exact (own_xc_i11 x0 (by omega) h11).trans (own_rf_i11 x0 (by omega) h11).symm
  by_cases h12 : x0.toInt ≤ 1114111
  · exact (own_xc_i12 x0 (by omega) h12).trans (own_rf_i12 x0 (by omega) h12).symm
  exact (own_xc_i13 x0 (by omega)).trans (own_rf_i13 x0 (by omega)).symm
theorem own_idx (x y : Int32) (d : Nat) (hx : 0 ≤ x.toInt) (hy : y.toInt = d) (hd : 0 < d) : ¬ (x % y) < 0 ∧ (x % y).toNatClampNeg < d := by
  have q := (c_irem x y d hy).1 hx
  have q1 := Int.emod_nonneg x.toInt (show (d : Int) ≠ 0 by omega)
  have q2 := Int.emod_lt_of_pos x.toInt (show (0 : Int) < d by omega)
  refine ⟨fun r => ?_, ?_⟩
  · have := Int32.lt_iff_toInt_lt.mp r
    have e : (0 : Int32).toInt = 0 := rfl
    omega
  · show (x % y).toInt.toNat < d
    omega

def own_law_f164  (x0 : Int32) (x1 : Int32) (x2 : Int32) (x3 : Addr) (x4 : Int32) (x5 : Int32) (x6 : Int32) (x7 : Int32) (s0 : Int32) : Int32 := (if x7 = 0 then (0 : Int32) else (if s0 = 0 then (0 : Int32) else (1 : Int32)))
set_option maxRecDepth 65536 in
set_option maxHeartbeats 4000000 in
theorem own_law_b164 (hx : p.tables.exec = Jvm.exec) (hby : c.code = code) (hml : c.maxLocals = maxLocals) (hown : s.vm.findClass "com/example/querne/querne/values/StringValueIsXmlCharacterPinLaw" = some m.cls) {Z : State} {a0 : Array Value} (hZ : Z.Warmed39 s.vm) (hw : ∀ d ∈ tables_1, d.before a0 Z = true) (hret : meth.sig.returnType = some .boolean) (hlk : meth.locks = false)  (x0 : Int32) (x1 : Int32) (x2 : Int32) (x3 : Addr) (x4 : Int32) (x5 : Int32) (x6 : Int32) (x7 : Int32) (s0 : Int32) (r : Int32) (hf : own_law_f164  x0 x1 x2 x3 x4 x5 x6 x7 s0 = r) : own_W p l e room_1 s m args below meth c n0 16 128 (fun v _ => v = .int r) 1 17 h 164 #[.val (.int x0), .val (.int x1), .val (.int x2), .val (.ref x3), .val (.int x4), .val (.int x5), .val (.int x6), .val (.int x7), .unset] [(.int s0)] := by
  unfold own_law_f164 at hf
  refine own_istore hx (L' := #[.val (.int x0), .val (.int x1), .val (.int x2), .val (.ref x3), .val (.int x4), .val (.int x5), .val (.int x6), .val (.int x7), .val (.int s0)]) (hb hby at_164) rfl (pc' := 166) rfl ?_
  refine own_iload hx (hb hby at_166) rfl (pc' := 168) rfl ?_
  refine own_ieq0 hx (hb hby at_168) (by decide) (pc' := 180) (by decide) (pc2 := 171) rfl hf (fun hf => ?_) (fun hf => ?_)
  · refine own_iconst hx (z := (0 : Int32)) (hb hby at_180) (by decide) (pc' := 181) rfl ?_
    exact own_retZ hx hret hlk rfl (hb hby at_181) (Nat.le_of_ble_eq_true rfl) (Nat.le_of_ble_eq_true rfl) (congrArg _ hf)
  · refine own_iload hx (hb hby at_171) rfl (pc' := 173) rfl ?_
    refine own_ieq0 hx (hb hby at_173) (by decide) (pc' := 180) (by decide) (pc2 := 176) rfl hf (fun hf => ?_) (fun hf => ?_)
    · refine own_iconst hx (z := (0 : Int32)) (hb hby at_180) (by decide) (pc' := 181) rfl ?_
      exact own_retZ hx hret hlk rfl (hb hby at_181) (Nat.le_of_ble_eq_true rfl) (Nat.le_of_ble_eq_true rfl) (congrArg _ hf)
    · refine own_iconst hx (z := (1 : Int32)) (hb hby at_176) (by decide) (pc' := 177) rfl ?_
      refine own_goto hx (hb hby at_177) (by decide) (pc' := 181) (by decide) ?_
      exact own_retZ hx hret hlk rfl (hb hby at_181) (Nat.le_of_ble_eq_true rfl) (Nat.le_of_ble_eq_true rfl) (congrArg _ hf)
def own_law_f144  (x0 : Int32) (x1 : Int32) (x2 : Int32) (x3 : Addr) (x4 : Int32) (x5 : Int32) (x6 : Int32) (s0 : Int32) : Int32 := (if (own_xc_f0 x6) = (own_rf_f0 x6) then own_law_f164 x0 x1 x2 x3 x4 x5 x6 s0 (1 : Int32) else own_law_f164 x0 x1 x2 x3 x4 x5 x6 s0 (0 : Int32))
set_option maxRecDepth 65536 in
set_option maxHeartbeats 4000000 in
theorem own_law_b144 (hx : p.tables.exec = Jvm.exec) (hby : c.code = code) (hml : c.maxLocals = maxLocals) (hown : s.vm.findClass "com/example/querne/querne/values/StringValueIsXmlCharacterPinLaw" = some m.cls) {Z : State} {a0 : Array Value} (hZ : Z.Warmed39 s.vm) (hw : ∀ d ∈ tables_1, d.before a0 Z = true) (hret : meth.sig.returnType = some .boolean) (hlk : meth.locks = false)  (x0 : Int32) (x1 : Int32) (x2 : Int32) (x3 : Addr) (x4 : Int32) (x5 : Int32) (x6 : Int32) (s0 : Int32) (r : Int32) (hf : own_law_f144  x0 x1 x2 x3 x4 x5 x6 s0 = r) : own_W p l e room_1 s m args below meth c n0 16 128 (fun v _ => v = .int r) 1 17 h 144 #[.val (.int x0), .val (.int x1), .val (.int x2), .val (.ref x3), .val (.int x4), .val (.int x5), .val (.int x6), .unset, .unset] [(.int s0)] := by
  unfold own_law_f144 at hf
  refine own_istore hx (L' := #[.val (.int x0), .val (.int x1), .val (.int x2), .val (.ref x3), .val (.int x4), .val (.int x5), .val (.int x6), .val (.int s0), .unset]) (hb hby at_144) rfl (pc' := 146) rfl ?_
  refine own_iload hx (hb hby at_146) rfl (pc' := 148) rfl ?_
  refine own_callS hx hZ hown (hw _ (List.mem_of_getElem? (i := 13) rfl)) (hw _ (List.mem_of_getElem? (i := 14) rfl)) (hw _ (List.mem_of_getElem? (i := 15) rfl)) (hw _ (List.mem_of_getElem? (i := 16) rfl)) (by decide) (argsL := [(.int x6)]) (S := []) (own_xc_C l Z a0 hw n0 h x6) own_pdI rfl (by decide) (Nat.le_of_ble_eq_true rfl) (by rw [hml]; rfl) rfl (hb hby at_148) (by decide) (by decide) (pc' := 151) rfl ?_
  refine own_iload hx (hb hby at_151) rfl (pc' := 153) rfl ?_
  refine own_callS hx hZ hown (hw _ (List.mem_of_getElem? (i := 19) rfl)) (hw _ (List.mem_of_getElem? (i := 20) rfl)) (hw _ (List.mem_of_getElem? (i := 21) rfl)) (hw _ (List.mem_of_getElem? (i := 22) rfl)) (by decide) (argsL := [(.int x6)]) (S := [(.int (own_xc_f0 x6))]) (own_rf_C l Z a0 hw n0 h x6) own_pdI rfl (by decide) (Nat.le_of_ble_eq_true rfl) (by rw [hml]; rfl) rfl (hb hby at_153) (by decide) (by decide) (pc' := 156) rfl ?_
  refine own_ine hx (hb hby at_156) (by decide) (pc' := 163) (by decide) (pc2 := 159) rfl hf (fun hf => ?_) (fun hf => ?_)
  · refine own_iconst hx (z := (0 : Int32)) (hb hby at_163) (by decide) (pc' := 164) rfl ?_
    exact own_law_b164 hx hby hml hown hZ hw hret hlk  x0 x1 x2 x3 x4 x5 x6 s0 (0 : Int32) r hf
  · refine own_iconst hx (z := (1 : Int32)) (hb hby at_159) (by decide) (pc' := 160) rfl ?_
    refine own_goto hx (hb hby at_160) (by decide) (pc' := 164) (by decide) ?_
    exact own_law_b164 hx hby hml hown hZ hw hret hlk  x0 x1 x2 x3 x4 x5 x6 s0 (1 : Int32) r hf
def own_law_f128  (x0 : Int32) (x1 : Int32) (x2 : Int32) (x3 : Addr) (x4 : Int32) (x5 : Int32) (x6 : Int32) : Int32 := (if (own_xc_f0 x0) = (own_rf_f0 x0) then own_law_f144 x0 x1 x2 x3 x4 x5 x6 (1 : Int32) else own_law_f144 x0 x1 x2 x3 x4 x5 x6 (0 : Int32))
set_option maxRecDepth 65536 in
set_option maxHeartbeats 4000000 in
theorem own_law_b128 (hx : p.tables.exec = Jvm.exec) (hby : c.code = code) (hml : c.maxLocals = maxLocals) (hown : s.vm.findClass "com/example/querne/querne/values/StringValueIsXmlCharacterPinLaw" = some m.cls) {Z : State} {a0 : Array Value} (hZ : Z.Warmed39 s.vm) (hw : ∀ d ∈ tables_1, d.before a0 Z = true) (hret : meth.sig.returnType = some .boolean) (hlk : meth.locks = false)  (x0 : Int32) (x1 : Int32) (x2 : Int32) (x3 : Addr) (x4 : Int32) (x5 : Int32) (x6 : Int32) (r : Int32) (hf : own_law_f128  x0 x1 x2 x3 x4 x5 x6 = r) : own_W p l e room_1 s m args below meth c n0 16 128 (fun v _ => v = .int r) 1 17 h 128 #[.val (.int x0), .val (.int x1), .val (.int x2), .val (.ref x3), .val (.int x4), .val (.int x5), .val (.int x6), .unset, .unset] [] := by
  unfold own_law_f128 at hf
  refine own_iloadN hx (hb hby at_128) rfl (pc' := 129) rfl ?_
  refine own_callS hx hZ hown (hw _ (List.mem_of_getElem? (i := 13) rfl)) (hw _ (List.mem_of_getElem? (i := 14) rfl)) (hw _ (List.mem_of_getElem? (i := 15) rfl)) (hw _ (List.mem_of_getElem? (i := 16) rfl)) (by decide) (argsL := [(.int x0)]) (S := []) (own_xc_C l Z a0 hw n0 h x0) own_pdI rfl (by decide) (Nat.le_of_ble_eq_true rfl) (by rw [hml]; rfl) rfl (hb hby at_129) (by decide) (by decide) (pc' := 132) rfl ?_
  refine own_iloadN hx (hb hby at_132) rfl (pc' := 133) rfl ?_
  refine own_callS hx hZ hown (hw _ (List.mem_of_getElem? (i := 19) rfl)) (hw _ (List.mem_of_getElem? (i := 20) rfl)) (hw _ (List.mem_of_getElem? (i := 21) rfl)) (hw _ (List.mem_of_getElem? (i := 22) rfl)) (by decide) (argsL := [(.int x0)]) (S := [(.int (own_xc_f0 x0))]) (own_rf_C l Z a0 hw n0 h x0) own_pdI rfl (by decide) (Nat.le_of_ble_eq_true rfl) (by rw [hml]; rfl) rfl (hb hby at_133) (by decide) (by decide) (pc' := 136) rfl ?_
  refine own_ine hx (hb hby at_136) (by decide) (pc' := 143) (by decide) (pc2 := 139) rfl hf (fun hf => ?_) (fun hf => ?_)
  · refine own_iconst hx (z := (0 : Int32)) (hb hby at_143) (by decide) (pc' := 144) rfl ?_
    exact own_law_b144 hx hby hml hown hZ hw hret hlk  x0 x1 x2 x3 x4 x5 x6 (0 : Int32) r hf
  · refine own_iconst hx (z := (1 : Int32)) (hb hby at_139) (by decide) (pc' := 140) rfl ?_
    refine own_goto hx (hb hby at_140) (by decide) (pc' := 144) (by decide) ?_
    exact own_law_b144 hx hby hml hown hZ hw hret hlk  x0 x1 x2 x3 x4 x5 x6 (1 : Int32) r hf
theorem own_plain (x0 x1 x2 : Int32) (x3 : Addr) (x4 x5 x6 : Int32) : own_law_f128 x0 x1 x2 x3 x4 x5 x6 = 1 := by
  unfold own_law_f128
  rw [if_pos (own_same x0)]
  unfold own_law_f144
  rw [if_pos (own_same x6)]
  rfl
set_option maxRecDepth 65536 in
set_option maxHeartbeats 4000000 in
theorem own_law_b0 (hx : p.tables.exec = Jvm.exec) (hby : c.code = code) (hml : c.maxLocals = maxLocals) (hown : s.vm.findClass "com/example/querne/querne/values/StringValueIsXmlCharacterPinLaw" = some m.cls) {Z : State} {a0 : Array Value} (hZ : Z.Warmed39 s.vm) (hw : ∀ d ∈ tables_1, d.before a0 Z = true) (hret : meth.sig.returnType = some .boolean) (hlk : meth.locks = false)  (Z0 : n0 ≤ h.size) (x0 x1 x2 : Int32) : own_W p l e room_1 s m args below meth c n0 16 128 (fun v _ => v = .int 1) 0 0 h 0 #[.val (.int x0), .val (.int x1), .val (.int x2), .unset, .unset, .unset, .unset, .unset, .unset] [] := by
  refine own_bipush hx (z := (17 : Int32)) (hb hby at_0) (by decide) (pc' := 2) rfl ?_
  refine own_newI hx hZ (hw _ (List.mem_of_getElem? (i := 0) rfl)) (hb hby at_2) (by decide) (cap := 17) (by decide) (by decide) (by decide) (by decide) Z0 (pc' := 4) rfl (fun h a I ga => ?_)
  refine own_dup hx (hb hby at_4) rfl (pc' := 5) rfl ?_
  refine own_iconst hx (z := (0 : Int32)) (hb hby at_5) (by decide) (pc' := 6) rfl ?_
  refine own_iconst hx (z := (0 : Int32)) (hb hby at_6) (by decide) (pc' := 7) rfl ?_
  refine own_stI hx hZ I ga (by decide) (by decide) (hb hby at_7) (pc' := 8) rfl (fun h I => ?_)
  refine own_dup hx (hb hby at_8) rfl (pc' := 9) rfl ?_
  refine own_iconst hx (z := (1 : Int32)) (hb hby at_9) (by decide) (pc' := 10) rfl ?_
  refine own_bipush hx (z := (9 : Int32)) (hb hby at_10) (by decide) (pc' := 12) rfl ?_
  refine own_stI hx hZ I ga (by decide) (by decide) (hb hby at_12) (pc' := 13) rfl (fun h I => ?_)
  refine own_dup hx (hb hby at_13) rfl (pc' := 14) rfl ?_
  refine own_iconst hx (z := (2 : Int32)) (hb hby at_14) (by decide) (pc' := 15) rfl ?_
  refine own_bipush hx (z := (10 : Int32)) (hb hby at_15) (by decide) (pc' := 17) rfl ?_
  refine own_stI hx hZ I ga (by decide) (by decide) (hb hby at_17) (pc' := 18) rfl (fun h I => ?_)
  refine own_dup hx (hb hby at_18) rfl (pc' := 19) rfl ?_
  refine own_iconst hx (z := (3 : Int32)) (hb hby at_19) (by decide) (pc' := 20) rfl ?_
  refine own_bipush hx (z := (13 : Int32)) (hb hby at_20) (by decide) (pc' := 22) rfl ?_
  refine own_stI hx hZ I ga (by decide) (by decide) (hb hby at_22) (pc' := 23) rfl (fun h I => ?_)
  refine own_dup hx (hb hby at_23) rfl (pc' := 24) rfl ?_
  refine own_iconst hx (z := (4 : Int32)) (hb hby at_24) (by decide) (pc' := 25) rfl ?_
  refine own_bipush hx (z := (32 : Int32)) (hb hby at_25) (by decide) (pc' := 27) rfl ?_
  refine own_stI hx hZ I ga (by decide) (by decide) (hb hby at_27) (pc' := 28) rfl (fun h I => ?_)
  refine own_dup hx (hb hby at_28) rfl (pc' := 29) rfl ?_
  refine own_iconst hx (z := (5 : Int32)) (hb hby at_29) (by decide) (pc' := 30) rfl ?_
  refine own_ldc hx hZ hown (hw _ (List.mem_of_getElem? (i := 1) rfl)) (hb hby at_30) (pc' := 32) rfl ?_
  refine own_stI hx hZ I ga (by decide) (by decide) (hb hby at_32) (pc' := 33) rfl (fun h I => ?_)
  refine own_dup hx (hb hby at_33) rfl (pc' := 34) rfl ?_
  refine own_bipush hx (z := (6 : Int32)) (hb hby at_34) (by decide) (pc' := 36) rfl ?_
  refine own_ldc hx hZ hown (hw _ (List.mem_of_getElem? (i := 2) rfl)) (hb hby at_36) (pc' := 38) rfl ?_
  refine own_stI hx hZ I ga (by decide) (by decide) (hb hby at_38) (pc' := 39) rfl (fun h I => ?_)
  refine own_dup hx (hb hby at_39) rfl (pc' := 40) rfl ?_
  refine own_bipush hx (z := (7 : Int32)) (hb hby at_40) (by decide) (pc' := 42) rfl ?_
  refine own_ldc hx hZ hown (hw _ (List.mem_of_getElem? (i := 3) rfl)) (hb hby at_42) (pc' := 44) rfl ?_
  refine own_stI hx hZ I ga (by decide) (by decide) (hb hby at_44) (pc' := 45) rfl (fun h I => ?_)
  refine own_dup hx (hb hby at_45) rfl (pc' := 46) rfl ?_
  refine own_bipush hx (z := (8 : Int32)) (hb hby at_46) (by decide) (pc' := 48) rfl ?_
  refine own_ldc hx hZ hown (hw _ (List.mem_of_getElem? (i := 4) rfl)) (hb hby at_48) (pc' := 50) rfl ?_
  refine own_stI hx hZ I ga (by decide) (by decide) (hb hby at_50) (pc' := 51) rfl (fun h I => ?_)
  refine own_dup hx (hb hby at_51) rfl (pc' := 52) rfl ?_
  refine own_bipush hx (z := (9 : Int32)) (hb hby at_52) (by decide) (pc' := 54) rfl ?_
  refine own_ldc hx hZ hown (hw _ (List.mem_of_getElem? (i := 5) rfl)) (hb hby at_54) (pc' := 56) rfl ?_
  refine own_stI hx hZ I ga (by decide) (by decide) (hb hby at_56) (pc' := 57) rfl (fun h I => ?_)
  refine own_dup hx (hb hby at_57) rfl (pc' := 58) rfl ?_
  refine own_bipush hx (z := (10 : Int32)) (hb hby at_58) (by decide) (pc' := 60) rfl ?_
  refine own_ldc hx hZ hown (hw _ (List.mem_of_getElem? (i := 6) rfl)) (hb hby at_60) (pc' := 62) rfl ?_
  refine own_stI hx hZ I ga (by decide) (by decide) (hb hby at_62) (pc' := 63) rfl (fun h I => ?_)
  refine own_dup hx (hb hby at_63) rfl (pc' := 64) rfl ?_
  refine own_bipush hx (z := (11 : Int32)) (hb hby at_64) (by decide) (pc' := 66) rfl ?_
  refine own_ldc hx hZ hown (hw _ (List.mem_of_getElem? (i := 7) rfl)) (hb hby at_66) (pc' := 68) rfl ?_
  refine own_stI hx hZ I ga (by decide) (by decide) (hb hby at_68) (pc' := 69) rfl (fun h I => ?_)
  refine own_dup hx (hb hby at_69) rfl (pc' := 70) rfl ?_
  refine own_bipush hx (z := (12 : Int32)) (hb hby at_70) (by decide) (pc' := 72) rfl ?_
  refine own_ldc hx hZ hown (hw _ (List.mem_of_getElem? (i := 8) rfl)) (hb hby at_72) (pc' := 74) rfl ?_
  refine own_stI hx hZ I ga (by decide) (by decide) (hb hby at_74) (pc' := 75) rfl (fun h I => ?_)
  refine own_dup hx (hb hby at_75) rfl (pc' := 76) rfl ?_
  refine own_bipush hx (z := (13 : Int32)) (hb hby at_76) (by decide) (pc' := 78) rfl ?_
  refine own_ldc hx hZ hown (hw _ (List.mem_of_getElem? (i := 9) rfl)) (hb hby at_78) (pc' := 80) rfl ?_
  refine own_stI hx hZ I ga (by decide) (by decide) (hb hby at_80) (pc' := 81) rfl (fun h I => ?_)
  refine own_dup hx (hb hby at_81) rfl (pc' := 82) rfl ?_
  refine own_bipush hx (z := (14 : Int32)) (hb hby at_82) (by decide) (pc' := 84) rfl ?_
  refine own_ldc hx hZ hown (hw _ (List.mem_of_getElem? (i := 10) rfl)) (hb hby at_84) (pc' := 86) rfl ?_
  refine own_stI hx hZ I ga (by decide) (by decide) (hb hby at_86) (pc' := 87) rfl (fun h I => ?_)
  refine own_dup hx (hb hby at_87) rfl (pc' := 88) rfl ?_
  refine own_bipush hx (z := (15 : Int32)) (hb hby at_88) (by decide) (pc' := 90) rfl ?_
  refine own_ldc hx hZ hown (hw _ (List.mem_of_getElem? (i := 11) rfl)) (hb hby at_90) (pc' := 92) rfl ?_
  refine own_stI hx hZ I ga (by decide) (by decide) (hb hby at_92) (pc' := 93) rfl (fun h I => ?_)
  refine own_dup hx (hb hby at_93) rfl (pc' := 94) rfl ?_
  refine own_bipush hx (z := (16 : Int32)) (hb hby at_94) (by decide) (pc' := 96) rfl ?_
  refine own_ldc hx hZ hown (hw _ (List.mem_of_getElem? (i := 12) rfl)) (hb hby at_96) (pc' := 98) rfl ?_
  refine own_stI hx hZ I ga (by decide) (by decide) (hb hby at_98) (pc' := 99) rfl (fun h I => ?_)
  refine own_astoreN hx (L' := #[.val (.int x0), .val (.int x1), .val (.int x2), .val (.ref a), .unset, .unset, .unset, .unset, .unset]) (hb hby at_99) rfl rfl (pc' := 100) rfl ?_
  refine own_iloadN hx (hb hby at_100) rfl (pc' := 101) rfl ?_
  refine own_ldc hx hZ hown (hw _ (List.mem_of_getElem? (i := 12) rfl)) (hb hby at_101) (pc' := 103) rfl ?_
  refine own_iand hx (hb hby at_103) (pc' := 104) rfl ?_
  refine own_bipush hx (z := (17 : Int32)) (hb hby at_104) (by decide) (pc' := 106) rfl ?_
  refine own_irem hx (hb hby at_106) (by decide) (pc' := 107) rfl ?_
  refine own_istore hx (L' := #[.val (.int x0), .val (.int x1), .val (.int x2), .val (.ref a), .val (.int ((x1 &&& (2147483647 : Int32)) % (17 : Int32))), .unset, .unset, .unset, .unset]) (hb hby at_107) rfl (pc' := 109) rfl ?_
  refine own_iloadN hx (hb hby at_109) rfl (pc' := 110) rfl ?_
  refine own_ldc hx hZ hown (hw _ (List.mem_of_getElem? (i := 12) rfl)) (hb hby at_110) (pc' := 112) rfl ?_
  refine own_iand hx (hb hby at_112) (pc' := 113) rfl ?_
  refine own_iconst hx (z := (5 : Int32)) (hb hby at_113) (by decide) (pc' := 114) rfl ?_
  refine own_irem hx (hb hby at_114) (by decide) (pc' := 115) rfl ?_
  refine own_iconst hx (z := (2 : Int32)) (hb hby at_115) (by decide) (pc' := 116) rfl ?_
  refine own_isub hx (hb hby at_116) (pc' := 117) rfl ?_
  refine own_istore hx (L' := #[.val (.int x0), .val (.int x1), .val (.int x2), .val (.ref a), .val (.int ((x1 &&& (2147483647 : Int32)) % (17 : Int32))), .val (.int (((x2 &&& (2147483647 : Int32)) % (5 : Int32)) - (2 : Int32))), .unset, .unset, .unset]) (hb hby at_117) rfl (pc' := 119) rfl ?_
  refine own_aloadN hx (hb hby at_119) rfl rfl (pc' := 120) rfl ?_
  refine own_iload hx (hb hby at_120) rfl (pc' := 122) rfl ?_
  refine own_ldI hx hZ I (own_idx _ _ 17 (c_and x1 2147483647 (by decide)).1 rfl (by decide)).1 (own_idx _ _ 17 (c_and x1 2147483647 (by decide)).1 rfl (by decide)).2 (hb hby at_122) (pc' := 123) rfl (fun v => ?_)
  refine own_iload hx (hb hby at_123) rfl (pc' := 125) rfl ?_
  refine own_iadd hx (hb hby at_125) (pc' := 126) rfl ?_
  refine own_istore hx (L' := #[.val (.int x0), .val (.int x1), .val (.int x2), .val (.ref a), .val (.int ((x1 &&& (2147483647 : Int32)) % (17 : Int32))), .val (.int (((x2 &&& (2147483647 : Int32)) % (5 : Int32)) - (2 : Int32))), .val (.int (v + (((x2 &&& (2147483647 : Int32)) % (5 : Int32)) - (2 : Int32)))), .unset, .unset]) (hb hby at_126) rfl (pc' := 128) rfl ?_
  exact own_law_b128 hx hby hml hown hZ hw hret hlk x0 x1 x2 a ((x1 &&& (2147483647 : Int32)) % (17 : Int32)) (((x2 &&& (2147483647 : Int32)) % (5 : Int32)) - (2 : Int32)) (v + (((x2 &&& (2147483647 : Int32)) % (5 : Int32)) - (2 : Int32))) 1 (own_plain _ _ _ _ _ _ _)
theorem own_pn : plainName x.cls = true := by first | (simp [x, plainName, overriddenIn]; done) | decide +kernel

theorem own_law_ef (m : MethodId) (i0 : Int32) (i1 : Int32) (i2 : Int32) : entryFrame m #[(.int i0), (.int i1), (.int i2)] maxLocals = mkF m 0 #[.val (.int i0), .val (.int i1), .val (.int i2), .unset, .unset, .unset, .unset, .unset, .unset] [] := by first | (simp [entryFrame, mkF, argsToLocals, Value.category, maxLocals]; done) | rfl
theorem own_law_M (l : Launch) (Z : State) (a0 : Array Value) (hw : ∀ d ∈ tables_1, d.before a0 Z = true) (n0 : Nat) (h : Heap) (Z0 : n0 ≤ h.size)  (i0 : Int32) (i1 : Int32) (i2 : Int32) :
    MetFree l x (head1 (Jvm.Cond.code x code maxLocals ret :: tables_1) room_1) (fun a U => a = #[(.int i0), (.int i1), (.int i2)] ∧ Z.Warmed39 U.vm ∧ U.heap = h) (fun _ _ _ _ _ => True) (fun _ U o U' => ∃ v Lq, o = .returned v ∧ (∃ w, v = some w ∧ w = .int 1 ∧ Fr n0 Lq) ∧ FrameEnd U o U' Lq 16 128) :=
  own_met (Q := fun v _ => v = .int 1) own_pn (fun m => own_law_ef m i0 i1 i2) fun p e s m below meth c hx hby hml hown hZ hret hlk => own_law_b0 hx hby hml hown hZ hw hret hlk Z0 i0 i1 i2

end Own2
set_option maxRecDepth 65536 in
set_option maxHeartbeats 40000000 in
theorem own_comes {Post : Tables → Env → Array Value → State → Outcome → State → Prop} (hpost : ∀ tb e args s v u, (limb_1_1.after args s (.returned v) u = true ∧ limb_1_2.after args s (.returned v) u = true ∧ True) → FrameEnd s (.returned v) u (Jvm.fieldLocs frame_1_writes args s ++ Jvm.arrayLocs frame_1_arrays args s ++ Jvm.staticLocs frame_1_statics s) 16 128 → Post tb e args s (.returned v) u) :
    ArmFor flags0 classFile x code maxLocals ret World_1 tables_1 room_1 Calls_1 rest_1 Pre_1 Post := by
  intro l hfl _ _ p e ha hc hk s m args below hf hA hF happ hP
  obtain ⟨hcalls, hrest, hpre⟩ := hP
  obtain ⟨-, -, -, hnamed, -, -, -, hat⟩ := (Spec.applies_iff hf).mp happ
  obtain ⟨hg, hn⟩ := and_e (Cond.before_iff.mp (show (Jvm.Cond.and given_1 narrow_1).before args s = true from hpre))
  obtain ⟨g0, t0⟩ := and_e hg
  obtain ⟨g1, t1⟩ := and_e t0
  obtain ⟨g2, t2⟩ := and_e t1
  obtain ⟨w0, w1, w2, rfl⟩ : ∃ w0 w1 w2 : Value, args = #[w0, w1, w2] := by
    have hs : args.size = 3 := by simpa [Cond.value, given_1] using g0
    obtain ⟨L⟩ := args
    match L, hs with
    | [w0, w1, w2], _ => exact ⟨w0, w1, w2, rfl⟩
  have hw := fun d (hd : d ∈ tables_1) => atoms_spec (ws := Jvm.Cond.code x code maxLocals ret :: tables_1) hat d (List.mem_cons_of_mem _ hd)
  obtain ⟨i0, e0⟩ := is_v g1
  obtain rfl : w0 = (.int i0) := Option.some.inj e0
  obtain ⟨i1, e1⟩ := is_v g2
  obtain rfl : w1 = (.int i1) := Option.some.inj e1
  obtain ⟨i2, e2⟩ := is_v t2
  obtain rfl : w2 = (.int i2) := Option.some.inj e2
  obtain ⟨n, o, h1, h2, h3, _, L, rfl, ⟨_, rfl, rfl, N⟩, hq⟩ := own_law_M l s _ hw s.heap.size s.heap (Nat.le_refl _)  i0 i1 i2 p e ha hc hk s m _ below hf ((Spec.applies_iff_loose hf).mp happ).1 ⟨rfl, State.Warmed39.refl s, rfl⟩ trivial
  refine ⟨n, _, h1, h2, h3, hpost _ _ _ _ _ _ ⟨Cond.after_iff.mpr rfl, Cond.after_iff.mpr (eq_i res_at (Term.int_eval (1)) rfl), trivial⟩ ⟨hq.1, hq.2.1, (hq.2.2.sift fun y hy => Or.inr (N y hy)).mono (by decide) (by decide)⟩⟩
theorem main_1_1 : Claimed_1_1 := own_comes fun _ _ _ _ _ _ h hF => ⟨h.1, hF⟩
theorem main_1_2 : Claimed_1_2 := own_comes fun _ _ _ _ _ _ h hF => ⟨h.2.1, hF⟩
end Jvm.Pilot.@@N@@
namespace Jvm.Pilot.@@N@@
open Jvm Jvm.ClassFile Sem Op Lib Jvm.Free Jvm.Stand Jvm.Pilot.@@N@@.Jvm.D
/-! MADE BY PROGRAM (witnessworld.py) out of the Statement's table words and the real class files: 13 classes; the members and pool entries that the words name. The judged class is class 1, her method 2. -/
namespace start1
open Jvm.ClassFile
def u (s : String) : CpInfo := .utf8 (stringToUtf16 s)
/-- a pool by its gaps: so many unusable entries, then the entry; so many at the end -/
def gap : Nat → List CpInfo → List CpInfo
  | 0, r => r
  | n + 1, r => .unusable :: gap n r
def poolList (es : List (Nat × CpInfo)) (last : Nat) : List CpInfo := es.foldr (fun e r => gap e.1 (e.2 :: r)) (gap last [])
def pool (es : List (Nat × CpInfo)) (last : Nat) : Array CpInfo := ⟨poolList es last⟩
def fileOf (pool : Array CpInfo) (this : Nat) (attrs : Array Attribute := #[]) (ms : Array MethodInfo := #[]) (fl : Nat := 33) (sup : Nat := 0) (ifs : Array Nat := #[]) (fds : Array FieldInfo := #[]) : ClassFile where
  minorVersion := 0
  majorVersion := 65
  constantPool := pool
  accessFlags := fl
  thisClass := this
  superClass := sup
  interfaces := ifs
  fields := fds
  methods := ms
  attributes := attrs
def plain (name : String) (sup : Option ClassId) : Class where
  name := name
  kind := .ordinary
  loader := none
  accessFlags := 33
  super := sup
  interfaces := #[]
  cf := none
  fields := #[]
  methods := #[]
  instanceTypes := #[]
  staticTypes := #[]
  resolved := #[]
  callSites := []
  init := .initialized
  statics := none
  mirror := none

def pool0 : Array CpInfo := pool [(5, u "<init>"), (0, u "()V"), (1, .class_ 10), (1, u "java/lang/Object")] 113

def k0m0 : Method := { name := "<init>", desc := "()V", sig := { parameters := [], returnType := none }, accessFlags := 1, code := none }
/-- java/lang/Object -/
def k0 : Class := { plain "java/lang/Object" none with
  accessFlags := 33
  interfaces := #[]
  cf := some (fileOf pool0 8 #[] #[{ accessFlags := 1, nameIndex := 5, descriptorIndex := 6, attributes := #[] }] 33 0 #[] #[])
  fields := #[]
  methods := #[k0m0]
  instanceTypes := #[]
  staticTypes := #[]
  resolved := Array.replicate 124 none
  statics := none }

def pool1 : Array CpInfo := pool [(2, .class_ 4), (1, u "java/lang/Object"), (0, u "<init>"), (0, u "()V"), (0, .integer 1114111), (0, .integer 55296), (0, .integer 57343), (0, .integer 65534), (0, .integer 65535), (0, .integer 55295), (0, .integer 57344), (0, .integer 65533), (0, .integer 65536), (0, .integer 1114112), (2, .integer 2147483648), (0, .integer 2147483647), (0, .methodref 22 23), (0, .class_ 24), (0, .nameAndType 25 26), (0, u "com/example/querne/querne/values/StringValue"), (0, u "isXmlCharacter"), (0, u "(I)Z"), (0, .methodref 28 29), (0, .class_ 30), (0, .nameAndType 31 26), (0, u "com/example/querne/querne/values/StringValueIsXmlCharacterPinLaw"), (0, u "reference"), (3, u "law"), (0, u "(III)Z")] 4

def k1m0 : Method := { name := "<init>", desc := "()V", sig := { parameters := [], returnType := none }, accessFlags := 2, code := none }
def k1c1 : Code := { maxStack := 2, maxLocals := 1, code := method_2_code, exceptionTable := #[], attributes := #[] }
def k1m1 : Method := { name := "reference", desc := "(I)Z", sig := { parameters := [.int], returnType := some .boolean }, accessFlags := 10, code := some k1c1 }
def k1c2 : Code := { maxStack := 4, maxLocals := 9, code := code, exceptionTable := #[], attributes := #[] }
def k1m2 : Method := { name := "law", desc := "(III)Z", sig := { parameters := [.int, .int, .int], returnType := some .boolean }, accessFlags := 9, code := some k1c2 }
/-- com/example/querne/querne/values/StringValueIsXmlCharacterPinLaw -/
def k1 : Class := { plain "com/example/querne/querne/values/StringValueIsXmlCharacterPinLaw" (some 0) with
  accessFlags := 49
  interfaces := #[]
  cf := some (fileOf pool1 28 #[] #[{ accessFlags := 2, nameIndex := 5, descriptorIndex := 6, attributes := #[] }, { accessFlags := 10, nameIndex := 31, descriptorIndex := 26, attributes := #[] }, { accessFlags := 9, nameIndex := 35, descriptorIndex := 36, attributes := #[] }] 49 2 #[] #[])
  fields := #[]
  methods := #[k1m0, k1m1, k1m2]
  instanceTypes := #[]
  staticTypes := #[]
  resolved := Array.replicate 41 none
  statics := none }

def pool2 : Array CpInfo := pool [(8, .class_ 10), (1, u "java/lang/Iterable"), (24, .class_ 36), (0, u "java/lang/Object")] 25

/-- java/lang/Iterable -/
def k2 : Class := { plain "java/lang/Iterable" (some 0) with
  accessFlags := 1537
  interfaces := #[]
  cf := some (fileOf pool2 8 #[] #[] 1537 35 #[] #[])
  fields := #[]
  methods := #[]
  instanceTypes := #[]
  staticTypes := #[]
  resolved := Array.replicate 62 none
  statics := none }

def pool3 : Array CpInfo := pool [(14, .class_ 16), (1, u "com/example/querne/querne/values/Sequence"), (103, .class_ 121), (0, u "java/lang/Object"), (0, .class_ 123), (0, u "java/lang/Iterable")] 43

/-- com/example/querne/querne/values/Sequence -/
def k3 : Class := { plain "com/example/querne/querne/values/Sequence" (some 0) with
  accessFlags := 1537
  interfaces := #[2]
  cf := some (fileOf pool3 14 #[] #[] 1537 120 #[122] #[])
  fields := #[]
  methods := #[]
  instanceTypes := #[]
  staticTypes := #[]
  resolved := Array.replicate 167 none
  statics := none }

def pool4 : Array CpInfo := pool [(18, .class_ 20), (1, u "com/example/querne/querne/values/Sequence"), (6, .class_ 28), (0, u "com/example/querne/querne/values/Item"), (0, .class_ 30), (0, u "java/lang/Object")] 20

/-- com/example/querne/querne/values/Item -/
def k4 : Class := { plain "com/example/querne/querne/values/Item" (some 0) with
  accessFlags := 1537
  interfaces := #[3]
  cf := some (fileOf pool4 27 #[] #[] 1537 29 #[18] #[])
  fields := #[]
  methods := #[]
  instanceTypes := #[]
  staticTypes := #[]
  resolved := Array.replicate 51 none
  statics := none }

def pool5 : Array CpInfo := pool [(2, .class_ 4), (1, u "java/lang/Object"), (0, u "<init>"), (0, u "()V"), (1, .class_ 10), (1, u "com/example/querne/querne/values/AtomicValue"), (53, .class_ 65), (0, u "com/example/querne/querne/values/Item")] 30

def k5m0 : Method := { name := "<init>", desc := "()V", sig := { parameters := [], returnType := none }, accessFlags := 1, code := none }
/-- com/example/querne/querne/values/AtomicValue -/
def k5 : Class := { plain "com/example/querne/querne/values/AtomicValue" (some 0) with
  accessFlags := 1057
  interfaces := #[4]
  cf := some (fileOf pool5 8 #[] #[{ accessFlags := 1, nameIndex := 5, descriptorIndex := 6, attributes := #[] }] 1057 2 #[64] #[])
  fields := #[]
  methods := #[k5m0]
  instanceTypes := #[]
  staticTypes := #[]
  resolved := Array.replicate 96 none
  statics := none }

def pool6 : Array CpInfo := pool [(6, u "Lcom/example/querne/querne/values/AtomicType;"), (1, .class_ 10), (1, u "com/example/querne/querne/values/StringValue"), (3, .class_ 16), (1, u "com/example/querne/querne/values/AtomicValue"), (3, u "value"), (0, u "Ljava/lang/String;"), (2, u "type"), (0, .integer 55295), (0, .integer 57344), (0, .integer 65533), (0, .integer 65536), (0, .integer 1114111), (6, u "isXmlCharacter"), (0, u "(I)Z")] 3

def k6c0 : Code := { maxStack := 2, maxLocals := 1, code := prog_355_method_6_code, exceptionTable := #[], attributes := #[] }
def k6m0 : Method := { name := "isXmlCharacter", desc := "(I)Z", sig := { parameters := [.int], returnType := some .boolean }, accessFlags := 9, code := some k6c0 }
/-- com/example/querne/querne/values/StringValue -/
def k6 : Class := { plain "com/example/querne/querne/values/StringValue" (some 5) with
  accessFlags := 49
  interfaces := #[]
  cf := some (fileOf pool6 8 #[] #[{ accessFlags := 9, nameIndex := 36, descriptorIndex := 37, attributes := #[] }] 49 14 #[] #[{ accessFlags := 18, nameIndex := 20, descriptorIndex := 21, attributes := #[] }, { accessFlags := 18, nameIndex := 24, descriptorIndex := 6, attributes := #[] }])
  fields := #[{ name := "value", type := (.object "java/lang/String"), accessFlags := 18, slot := 0, constantValue := 0 }, { name := "type", type := (.object "com/example/querne/querne/values/AtomicType"), accessFlags := 18, slot := 1, constantValue := 0 }]
  methods := #[k6m0]
  instanceTypes := #[(.object "java/lang/String"), (.object "com/example/querne/querne/values/AtomicType")]
  staticTypes := #[]
  resolved := Array.replicate 41 none
  statics := none }

def pool7 : Array CpInfo := pool [(1, u "java/lang/Cloneable"), (0, .class_ 1), (0, u "java/lang/Object"), (0, .class_ 3)] 3

/-- java/lang/Cloneable -/
def k7 : Class := { plain "java/lang/Cloneable" (some 0) with
  accessFlags := 1537
  interfaces := #[]
  cf := some (fileOf pool7 2 #[] #[] 1537 4 #[] #[])
  fields := #[]
  methods := #[]
  instanceTypes := #[]
  staticTypes := #[]
  resolved := Array.replicate 8 none
  statics := none }

def pool8 : Array CpInfo := pool [(1, u "java/io/Serializable"), (0, .class_ 1), (0, u "java/lang/Object"), (0, .class_ 3)] 3

/-- java/io/Serializable -/
def k8 : Class := { plain "java/io/Serializable" (some 0) with
  accessFlags := 1537
  interfaces := #[]
  cf := some (fileOf pool8 2 #[] #[] 1537 4 #[] #[])
  fields := #[]
  methods := #[]
  instanceTypes := #[]
  staticTypes := #[]
  resolved := Array.replicate 8 none
  statics := none }

/-- the primitive byte -/
def k9 : Class := { plain "byte" none with kind := .primitive 'B', accessFlags := 0x411 }
/-- [B -/
def k10 : Class := { plain "[B" (some 0) with kind := .array 9 .byte, interfaces := #[7, 8], accessFlags := 1041 }

/-- the primitive int -/
def k11 : Class := { plain "int" none with kind := .primitive 'I', accessFlags := 0x411 }
/-- [I -/
def k12 : Class := { plain "[I" (some 0) with kind := .array 11 .int, interfaces := #[7, 8], accessFlags := 1041 }

def heap : Heap := #[]
def classes : Array Class := #[k0, k1, k2, k3, k4, k5, k6, k7, k8, k9, k10, k11, k12]
def interned : List (Array UInt16 × Addr) := []
def slotsUsed : Nat := 0
def theMethod : MethodId := ⟨1, 2⟩
def args0 : Array Value := #[.int 5, .int 300, .int 7]
def aboutOver (below : List Frame) : State where
  vm := { classes := classes, interned := interned.toArray }
  heap := heap
  slotsUsed := slotsUsed
  threads := #[{ frames := .invoking theMethod args0 :: below }]
def below0 : List Frame := [.native { method := ⟨0, 0⟩, args := #[] }]
def about1 : State := aboutOver below0
def p0 : Program := .bare "" "" ""
def e0 : Env := launch0.env 0 0 0
theorem w_frames : about1.frames = Frame.invoking theMethod args0 :: below0 := rfl
set_option maxRecDepth 65536 in
theorem w_args : argsFit about1.vm theMethod args0 = true := by decide +kernel
set_option maxRecDepth 65536 in
theorem w_heap : heapFits about1 = true := by decide +kernel
set_option maxRecDepth 65536 in
theorem w_runnable : about1.curStatus? = some .runnable := by decide +kernel
set_option maxRecDepth 65536 in
theorem w_alone : about1.alone = true := by decide +kernel
set_option maxRecDepth 65536 in
theorem w_named : about1.methodNamed? x = some theMethod := by decide +kernel
set_option maxRecDepth 65536 in
theorem w_hears : about1.hears theMethod below0 = true := by decide +kernel
set_option maxRecDepth 65536 in
theorem w_ripe : about1.ripe theMethod args0 below0 = true := by decide +kernel
theorem w_running : about1.status = .running := rfl
set_option maxRecDepth 65536 in
theorem w_room : about1.hasRoom e0.platform room_1 = true :=
  launch0.hasRoom_least _ room_1 (by decide +kernel) (by decide +kernel) (by decide +kernel) (by decide +kernel) (by decide +kernel) (by decide +kernel)
theorem allAtoms_all (ts : List Jvm.Cond) (a : Array Jvm.Value) (st : Jvm.State) : (allAtoms ts).before a st = ts.all (fun c => c.before a st) := by
  induction ts with
  | nil => rfl
  | cons c t ih =>
    show (Jvm.Cond.and c (allAtoms t)).before a st = _
    rw [Jvm.Cond.before_and, ih, List.all_cons]
def words1 : List Jvm.Cond := Jvm.Cond.code x code maxLocals ret :: tables_1
/-- a 'code' word, met by the world's own term for the bytes: nothing is compared byte by byte -/
theorem code_word {y : MethodName} {bytes : ByteArray} {mx : Nat} {rt : Option FieldType} {a : Array Value} {s : State} {m : MethodId} {meth : Method} {c : Code} (h1 : s.methodNamed? y = some m) (h2 : s.vm.method? m = some meth) (h3 : meth.code = some c) (h4 : c.code = bytes)
    (h5 : (c.maxLocals == mx && c.exceptionTable.isEmpty && decide (c.maxStack ≤ mostOperands) && decide (meth.sig.returnType = rt) && !meth.locks && decide (parseMethodDescriptor y.desc = some meth.sig)) = true) : (Jvm.Cond.code y bytes mx rt).before a s = true := by
  simp only [Bool.and_eq_true, beq_iff_eq, Bool.not_eq_true', decide_eq_true_eq] at h5
  obtain ⟨⟨⟨⟨⟨g1, g2⟩, g3⟩, g4⟩, g5⟩, g6⟩ := h5
  simp [Cond.before, Cond.holds, Cond.value, h1, h2, h3, h4, g1, g2, g3, g4, g5, g6]
def isCode : Jvm.Cond → Bool
  | .code _ _ _ _ => true
  | _ => false
theorem all_split {L : List Jvm.Cond} {P : Jvm.Cond → Bool} (h1 : L.all (fun c => isCode c || P c) = true) (h2 : ∀ c ∈ L.filter isCode, P c = true) : L.all P = true := by
  refine List.all_eq_true.mpr fun c hc => ?_
  have h := List.all_eq_true.mp h1 c hc
  rcases Bool.eq_false_or_eq_true (isCode c) with hi | hi
  · exact h2 c (List.mem_filter.mpr ⟨hc, hi⟩)
  · simpa [hi] using h
set_option maxRecDepth 65536 in
theorem w_c0 : (Jvm.Cond.code x code maxLocals ret).before args0 about1 = true := code_word (m := ⟨1, 2⟩) (meth := k1m2) (c := k1c2) (by decide +kernel) rfl rfl rfl (by decide +kernel)
set_option maxRecDepth 65536 in
theorem w_c1 : (Jvm.Cond.code ({ cls := "com/example/querne/querne/values/StringValue", name := "isXmlCharacter", desc := "(I)Z" } : Jvm.MethodName) prog_355_method_6_code (1 : Nat) (Option.some Jvm.ClassFile.FieldType.boolean)).before args0 about1 = true := code_word (m := ⟨6, 0⟩) (meth := k6m0) (c := k6c0) (by decide +kernel) rfl rfl rfl (by decide +kernel)
set_option maxRecDepth 65536 in
theorem w_c2 : (Jvm.Cond.code ({ cls := "com/example/querne/querne/values/StringValueIsXmlCharacterPinLaw", name := "reference", desc := "(I)Z" } : Jvm.MethodName) method_2_code (1 : Nat) (Option.some Jvm.ClassFile.FieldType.boolean)).before args0 about1 = true := code_word (m := ⟨1, 1⟩) (meth := k1m1) (c := k1c1) (by decide +kernel) rfl rfl rfl (by decide +kernel)
def codes1 : List Jvm.Cond := [Jvm.Cond.code x code maxLocals ret, Jvm.Cond.code ({ cls := "com/example/querne/querne/values/StringValue", name := "isXmlCharacter", desc := "(I)Z" } : Jvm.MethodName) prog_355_method_6_code (1 : Nat) (Option.some Jvm.ClassFile.FieldType.boolean), Jvm.Cond.code ({ cls := "com/example/querne/querne/values/StringValueIsXmlCharacterPinLaw", name := "reference", desc := "(I)Z" } : Jvm.MethodName) method_2_code (1 : Nat) (Option.some Jvm.ClassFile.FieldType.boolean)]
set_option maxRecDepth 65536 in
theorem codes_eq : words1.filter isCode = codes1 := rfl
theorem w_codes : ∀ c ∈ words1.filter isCode, c.before args0 about1 = true := by
  rw [codes_eq]
  intro c hc
  simp only [codes1, List.mem_cons, List.not_mem_nil, or_false] at hc
  rcases hc with rfl | rfl | rfl
  · exact w_c0
  · exact w_c1
  · exact w_c2
set_option maxRecDepth 65536 in
theorem w_t1 : (words1.take 24).all (fun c => isCode c || c.before args0 about1) = true := by decide +kernel
set_option maxRecDepth 65536 in
theorem w_t2 : (words1.drop 24).all (fun c => isCode c || c.before args0 about1) = true := by decide +kernel
theorem w_tables : (allAtoms (Jvm.Cond.code x code maxLocals ret :: tables_1)).before args0 about1 = true := by
  rw [allAtoms_all]
  show words1.all (fun c => c.before args0 about1) = true
  refine all_split ?_ w_codes
  rw [← List.take_append_drop 24 words1, List.all_append, w_t1, w_t2]
  rfl
set_option maxRecDepth 65536 in
theorem w_case : (Jvm.Cond.and given_1 narrow_1).before args0 about1 = true := by decide +kernel
theorem w_applies : (headSpec (Jvm.Cond.code x code maxLocals ret :: tables_1) room_1).applies x e0.platform about1 = true :=
  (Spec.applies_iff w_frames).mpr ⟨w_running, w_runnable, w_alone, w_named, w_hears, w_ripe, w_room, w_tables⟩
theorem atStart : AtStart classFile x code maxLocals ret World_1 tables_1 room_1 Calls_1 rest_1 Pre_1 launch0 p0 e0 about1 theMethod args0 below0 :=
  ⟨lists_1, trivial, launch0.admits_env _ _ _, launch0.least_env, fairChoices_fair.cas, fairChoices_fair.clock, w_frames, w_args, w_heap, w_applies, trivial, trivial, w_case⟩
end start1
theorem witness_1 : WitnessClaimed_1 := ⟨start1.p0, start1.e0, start1.about1, start1.theMethod, start1.args0, start1.below0, start1.atStart⟩
end Jvm.Pilot.@@N@@
