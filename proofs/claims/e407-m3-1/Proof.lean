import JvmDerived
import JvmDerived.Pilot.@@N@@Statement
import JvmDerived.Pilot.@@N@@Code
set_option linter.unusedVariables false
set_option linter.unusedSimpArgs false
namespace Jvm.Pilot.@@N@@
open Jvm Jvm.ClassFile Sem Op Lib Jvm.Free Jvm.Stand Jvm.LawKit Jvm.RoadKit Bundle Jvm.Pilot.@@N@@.Jvm.D
/-! The shared layer: from every state that stands at pc (locals L, operands S, over the heap h) the body ends and returns a value of which Q holds. -/
section Own
variable {p : Program} {l : Launch} {e : Env} {R : Room} {s : State} {m : MethodId} {args : Array Value} {below : List Frame} {meth : Method} {c : Code} {n0 mc ms k n : Nat} {Q : Value → Heap → Prop} {h : Heap} {pc pc' : Nat} {L : Array Slot} {S : List Value}
def own_W (p : Program) (l : Launch) (e : Env) (R : Room) (s : State) (m : MethodId) (args : Array Value) (below : List Frame) (meth : Method) (c : Code) (n0 mc ms : Nat) (Q : Value → Heap → Prop) (k n : Nat) (h : Heap) (pc : Nat) (L : Array Slot) (S : List Value) : Prop :=
  ∀ (T : State) (locs : List Loc), Stand p l e R s m args below meth c T locs k n → T.heap = h → Fr n0 locs →
    ∃ (t : State) (o : Outcome), Steps p.tables e below (T.setTop (mkF m pc L S)) t ∧ t.status = .running ∧ Ended t below o ∧ ∃ (v : Value) (lo : List Loc), o = .returned (some v) ∧ (Q v t.heap ∧ Fr n0 lo) ∧ FrameEnd s o t lo mc ms
abbrev own_R0 : Room := { frames := 0, cells := 0, slots := 0, locals := 0 }
theorem own_step {L' : Array Slot} {S' : List Value} (st : ∀ (T : State) (locs : List Loc), Stand p l e R s m args below meth c T locs k n → ∀ t, Steps p.tables e below (T.setTop (mkF m pc' L' S')) t → Steps p.tables e below (T.setTop (mkF m pc L S)) t) (hr : own_W p l e R s m args below meth c n0 mc ms Q k n h pc' L' S') : own_W p l e R s m args below meth c n0 mc ms Q k n h pc L S := fun T locs X hh N => by
  obtain ⟨t, o, a, r⟩ := hr T locs X hh N
  exact ⟨t, o, st T locs X t a, r⟩
theorem own_iloadN (hx : p.tables.exec = Jvm.exec) {i : Fin 4} {v : Int32} (hd : decode c.code pc = .ok (.iload_n i, 1)) (hl : L[i.val]? = some (.val (.int v))) (hp : pc + 1 = pc') (hr : own_W p l e R s m args below meth c n0 mc ms Q k n h pc' L (.int v :: S)) : own_W p l e R s m args below meth c n0 mc ms Q k n h pc L S := by
  subst hp
  exact own_step (fun T locs X t a => XS.iloadN X.here hx rfl hd hl a) hr
theorem own_iload (hx : p.tables.exec = Jvm.exec) {i : Nat} {v : Int32} (hd : decode c.code pc = .ok (.iload i, 2)) (hl : L[i]? = some (.val (.int v))) (hp : pc + 2 = pc') (hr : own_W p l e R s m args below meth c n0 mc ms Q k n h pc' L (.int v :: S)) : own_W p l e R s m args below meth c n0 mc ms Q k n h pc L S := by
  subst hp
  exact own_step (fun T locs X t a => XS.iload X.here hx rfl hd hl a) hr
theorem own_aloadN (hx : p.tables.exec = Jvm.exec) {i : Fin 4} {v : Value} (hd : decode c.code pc = .ok (.aload_n i, 1)) (hl : L[i.val]? = some (.val v)) (hv : v.isRef = true) (hp : pc + 1 = pc') (hr : own_W p l e R s m args below meth c n0 mc ms Q k n h pc' L (v :: S)) : own_W p l e R s m args below meth c n0 mc ms Q k n h pc L S := by
  subst hp
  exact own_step (fun T locs X t a => XS.aloadN X.here hx rfl hd hl hv a) hr
theorem own_aload (hx : p.tables.exec = Jvm.exec) {i : Nat} {v : Value} (hd : decode c.code pc = .ok (.aload i, 2)) (hl : L[i]? = some (.val v)) (hv : v.isRef = true) (hp : pc + 2 = pc') (hr : own_W p l e R s m args below meth c n0 mc ms Q k n h pc' L (v :: S)) : own_W p l e R s m args below meth c n0 mc ms Q k n h pc L S := by
  subst hp
  exact own_step (fun T locs X t a => XS.aload X.here hx rfl hd hl hv a) hr
theorem own_iconst (hx : p.tables.exec = Jvm.exec) {i : Int} {z : Int32} (hd : decode c.code pc = .ok (.iconst i, 1)) (hz : Int32.ofInt i = z) (hp : pc + 1 = pc') (hr : own_W p l e R s m args below meth c n0 mc ms Q k n h pc' L (.int z :: S)) : own_W p l e R s m args below meth c n0 mc ms Q k n h pc L S := by
  subst hp
  exact own_step (fun T locs X t a => XS.iconst X.here hx rfl hd (by rw [hz]; exact a)) hr
theorem own_bipush (hx : p.tables.exec = Jvm.exec) {i : Int} {z : Int32} (hd : decode c.code pc = .ok (.bipush i, 2)) (hz : (Int8.ofInt i).toInt32 = z) (hp : pc + 2 = pc') (hr : own_W p l e R s m args below meth c n0 mc ms Q k n h pc' L (.int z :: S)) : own_W p l e R s m args below meth c n0 mc ms Q k n h pc L S := by
  subst hp
  exact own_step (fun T locs X t a => XS.bipush X.here hx rfl hd (by rw [hz]; exact a)) hr
theorem own_sipush (hx : p.tables.exec = Jvm.exec) {i : Int} {z : Int32} (hd : decode c.code pc = .ok (.sipush i, 3)) (hz : (Int16.ofInt i).toInt32 = z) (hp : pc + 3 = pc') (hr : own_W p l e R s m args below meth c n0 mc ms Q k n h pc' L (.int z :: S)) : own_W p l e R s m args below meth c n0 mc ms Q k n h pc L S := by
  subst hp
  exact own_step (fun T locs X t a => XS.sipush X.here hx rfl hd (by rw [hz]; exact a)) hr
theorem own_ldc (hx : p.tables.exec = Jvm.exec) {own : String} {i : Nat} {z : Int32} {Z : State} {a0 : Array Value} (hZ : Z.Warmed39 s.vm) (hown : s.vm.findClass own = some m.cls) (w : (Jvm.Cond.constant own i z).before a0 Z = true) (hd : decode c.code pc = .ok (.ldc i, 2))  (hp : pc + 2 = pc') (hr : own_W p l e R s m args below meth c n0 mc ms Q k n h pc' L (.int z :: S)) : own_W p l e R s m args below meth c n0 mc ms Q k n h pc L S := by
  subst hp
  exact own_step (fun T locs X t a => X.ldcInt hx hown (mvT hZ w) (g := mkF m pc L S) rfl hd _ a) hr
theorem own_ldc2 (hx : p.tables.exec = Jvm.exec) {own : String} {i : Nat} {z : Int64} {Z : State} {a0 : Array Value} (hZ : Z.Warmed39 s.vm) (hown : s.vm.findClass own = some m.cls) (w : (Jvm.Cond.constantLong own i z).before a0 Z = true) (hd : decode c.code pc = .ok (.ldc2_w i, 3))  (hp : pc + 3 = pc') (hr : own_W p l e R s m args below meth c n0 mc ms Q k n h pc' L (.long z :: S)) : own_W p l e R s m args below meth c n0 mc ms Q k n h pc L S := by
  subst hp
  exact own_step (fun T locs X t a => X.ldc2Long hx hown (mvT hZ w) (g := mkF m pc L S) rfl hd _ a) hr
theorem own_iadd (hx : p.tables.exec = Jvm.exec) {x y : Int32} (hd : decode c.code pc = .ok (.iadd, 1))  (hp : pc + 1 = pc') (hr : own_W p l e R s m args below meth c n0 mc ms Q k n h pc' L (.int (x + y) :: S)) : own_W p l e R s m args below meth c n0 mc ms Q k n h pc L (.int y :: .int x :: S) := by
  subst hp
  exact own_step (fun T locs X t a => XS.iadd X.here hx rfl hd rfl a) hr
theorem own_isub (hx : p.tables.exec = Jvm.exec) {x y : Int32} (hd : decode c.code pc = .ok (.isub, 1))  (hp : pc + 1 = pc') (hr : own_W p l e R s m args below meth c n0 mc ms Q k n h pc' L (.int (x - y) :: S)) : own_W p l e R s m args below meth c n0 mc ms Q k n h pc L (.int y :: .int x :: S) := by
  subst hp
  exact own_step (fun T locs X t a => XS.isub X.here hx rfl hd rfl a) hr
theorem own_iand (hx : p.tables.exec = Jvm.exec) {x y : Int32} (hd : decode c.code pc = .ok (.iand, 1))  (hp : pc + 1 = pc') (hr : own_W p l e R s m args below meth c n0 mc ms Q k n h pc' L (.int (x &&& y) :: S)) : own_W p l e R s m args below meth c n0 mc ms Q k n h pc L (.int y :: .int x :: S) := by
  subst hp
  exact own_step (fun T locs X t a => XS.iand X.here hx rfl hd rfl a) hr
theorem own_irem (hx : p.tables.exec = Jvm.exec) {x y : Int32} (hd : decode c.code pc = .ok (.irem, 1)) (hy : y ≠ 0) (hp : pc + 1 = pc') (hr : own_W p l e R s m args below meth c n0 mc ms Q k n h pc' L (.int (x % y) :: S)) : own_W p l e R s m args below meth c n0 mc ms Q k n h pc L (.int y :: .int x :: S) := by
  subst hp
  exact own_step (fun T locs X t a => XS.irem X.here hx rfl hd rfl hy (by rw [irem_eq_mod]; exact a)) hr
theorem own_ishr (hx : p.tables.exec = Jvm.exec) {x y : Int32} (hd : decode c.code pc = .ok (.ishr, 1))  (hp : pc + 1 = pc') (hr : own_W p l e R s m args below meth c n0 mc ms Q k n h pc' L (.int (x >>> (y &&& 31)) :: S)) : own_W p l e R s m args below meth c n0 mc ms Q k n h pc L (.int y :: .int x :: S) := by
  subst hp
  exact own_step (fun T locs X t a => XT.ishr X.here hx rfl hd rfl a) hr
theorem own_iushr (hx : p.tables.exec = Jvm.exec) {x y : Int32} (hd : decode c.code pc = .ok (.iushr, 1))  (hp : pc + 1 = pc') (hr : own_W p l e R s m args below meth c n0 mc ms Q k n h pc' L (.int (XT.ushr x y) :: S)) : own_W p l e R s m args below meth c n0 mc ms Q k n h pc L (.int y :: .int x :: S) := by
  subst hp
  exact own_step (fun T locs X t a => XT.iushr X.here hx rfl hd rfl a) hr
theorem own_i2c (hx : p.tables.exec = Jvm.exec) {x : Int32} (hd : decode c.code pc = .ok (.i2c, 1))  (hp : pc + 1 = pc') (hr : own_W p l e R s m args below meth c n0 mc ms Q k n h pc' L (.int (x.toUInt32.toUInt16.toUInt32.toInt32) :: S)) : own_W p l e R s m args below meth c n0 mc ms Q k n h pc L (.int x :: S) := by
  subst hp
  exact own_step (fun T locs X t a => XT.i2c X.here hx rfl hd rfl a) hr
theorem own_lushr (hx : p.tables.exec = Jvm.exec) {x : Int64} {y : Int32} (hd : decode c.code pc = .ok (.lushr, 1))  (hp : pc + 1 = pc') (hr : own_W p l e R s m args below meth c n0 mc ms Q k n h pc' L (.long (XT.ushrL x y) :: S)) : own_W p l e R s m args below meth c n0 mc ms Q k n h pc L (.int y :: .long x :: S) := by
  subst hp
  exact own_step (fun T locs X t a => XT.lushr X.here hx rfl hd rfl a) hr
theorem own_land (hx : p.tables.exec = Jvm.exec) {x y : Int64} (hd : decode c.code pc = .ok (.land, 1))  (hp : pc + 1 = pc') (hr : own_W p l e R s m args below meth c n0 mc ms Q k n h pc' L (.long (x &&& y) :: S)) : own_W p l e R s m args below meth c n0 mc ms Q k n h pc L (.long y :: .long x :: S) := by
  subst hp
  exact own_step (fun T locs X t a => XT.land X.here hx rfl hd rfl a) hr
theorem own_lconst (hx : p.tables.exec = Jvm.exec) {i : Fin 2} {z : Int64} (hd : decode c.code pc = .ok (.lconst i, 1)) (hz : Int64.ofNat i = z) (hp : pc + 1 = pc') (hr : own_W p l e R s m args below meth c n0 mc ms Q k n h pc' L (.long z :: S)) : own_W p l e R s m args below meth c n0 mc ms Q k n h pc L S := by
  subst hp
  exact own_step (fun T locs X t a => XT.lconst X.here hx rfl hd (by rw [hz]; exact a)) hr
theorem own_lcmp (hx : p.tables.exec = Jvm.exec) {x y : Int64} (hd : decode c.code pc = .ok (.lcmp, 1))  (hp : pc + 1 = pc') (hr : own_W p l e R s m args below meth c n0 mc ms Q k n h pc' L (.int (XT.cmpL x y) :: S)) : own_W p l e R s m args below meth c n0 mc ms Q k n h pc L (.long y :: .long x :: S) := by
  subst hp
  exact own_step (fun T locs X t a => XT.lcmp X.here hx rfl hd rfl a) hr
theorem own_dup (hx : p.tables.exec = Jvm.exec) {v : Value} (hd : decode c.code pc = .ok (.dup, 1)) (hv : v.category = 1) (hp : pc + 1 = pc') (hr : own_W p l e R s m args below meth c n0 mc ms Q k n h pc' L (v :: v :: S)) : own_W p l e R s m args below meth c n0 mc ms Q k n h pc L (v :: S) := by
  subst hp
  exact own_step (fun T locs X t a => XS.dup X.here hx rfl hd rfl hv a) hr
theorem own_istoreN (hx : p.tables.exec = Jvm.exec) {i : Fin 4} {x : Int32} {L' : Array Slot} (hd : decode c.code pc = .ok (.istore_n i, 1)) (hl : storeLocals L i.val (.int x) = some L') (hp : pc + 1 = pc') (hr : own_W p l e R s m args below meth c n0 mc ms Q k n h pc' L' S) : own_W p l e R s m args below meth c n0 mc ms Q k n h pc L (.int x :: S) := by
  subst hp
  exact own_step (fun T locs X t a => XS.istoreN X.here hx rfl hd rfl hl a) hr
theorem own_istore (hx : p.tables.exec = Jvm.exec) {i : Nat} {x : Int32} {L' : Array Slot} (hd : decode c.code pc = .ok (.istore i, 2)) (hl : storeLocals L i (.int x) = some L') (hp : pc + 2 = pc') (hr : own_W p l e R s m args below meth c n0 mc ms Q k n h pc' L' S) : own_W p l e R s m args below meth c n0 mc ms Q k n h pc L (.int x :: S) := by
  subst hp
  exact own_step (fun T locs X t a => XS.istore X.here hx rfl hd rfl hl a) hr
theorem own_astoreN (hx : p.tables.exec = Jvm.exec) {i : Fin 4} {v : Value} {L' : Array Slot} (hd : decode c.code pc = .ok (.astore_n i, 1)) (hv : v.isRef = true) (hl : storeLocals L i.val v = some L') (hp : pc + 1 = pc') (hr : own_W p l e R s m args below meth c n0 mc ms Q k n h pc' L' S) : own_W p l e R s m args below meth c n0 mc ms Q k n h pc L (v :: S) := by
  subst hp
  exact own_step (fun T locs X t a => XS.astoreN X.here hx rfl hd rfl hv hl a) hr
theorem own_astore (hx : p.tables.exec = Jvm.exec) {i : Nat} {v : Value} {L' : Array Slot} (hd : decode c.code pc = .ok (.astore i, 2)) (hv : v.isRef = true) (hl : storeLocals L i v = some L') (hp : pc + 2 = pc') (hr : own_W p l e R s m args below meth c n0 mc ms Q k n h pc' L' S) : own_W p l e R s m args below meth c n0 mc ms Q k n h pc L (v :: S) := by
  subst hp
  exact own_step (fun T locs X t a => XS.astore X.here hx rfl hd rfl hv hl a) hr
theorem own_goto (hx : p.tables.exec = Jvm.exec) {o : Int} (hd : decode c.code pc = .ok (.goto o, 3)) (ho : 0 ≤ (pc : Int) + o) (hp : ((pc : Int) + o).toNat = pc') (hr : own_W p l e R s m args below meth c n0 mc ms Q k n h pc' L S) : own_W p l e R s m args below meth c n0 mc ms Q k n h pc L S :=
  own_step (fun T locs X t a => XS.goto X.here hx rfl (pc0 := pc) rfl hd ho hp a) hr
theorem own_icmp (hx : p.tables.exec = Jvm.exec) {cd : ClassFile.Cond} {o : Int} {x y : Int32} {pc2 : Nat} (hd : decode c.code pc = .ok (.if_icmp cd o, 3)) (ho : 0 ≤ (pc : Int) + o) (hp : ((pc : Int) + o).toNat = pc') (h3 : pc + 3 = pc2) (hy : if_icmp.holds cd x y = true → own_W p l e R s m args below meth c n0 mc ms Q k n h pc' L S) (hn : if_icmp.holds cd x y = false → own_W p l e R s m args below meth c n0 mc ms Q k n h pc2 L S) : own_W p l e R s m args below meth c n0 mc ms Q k n h pc L (.int y :: .int x :: S) := by
  subst h3
  cases q : if_icmp.holds cd x y with
  | true => exact own_step (fun T locs X t a => XS.icmpYes X.here hx rfl (pc0 := pc) rfl hd rfl q ho hp a) (hy q)
  | false => exact own_step (fun T locs X t a => XS.icmpNo X.here hx rfl hd rfl q a) (hn q)
theorem own_ifc (hx : p.tables.exec = Jvm.exec) {cd : ClassFile.Cond} {o : Int} {x : Int32} {pc2 : Nat} (hd : decode c.code pc = .ok (.ifCond cd o, 3)) (ho : 0 ≤ (pc : Int) + o) (hp : ((pc : Int) + o).toNat = pc') (h3 : pc + 3 = pc2) (hy : ifCond.holds cd x = true → own_W p l e R s m args below meth c n0 mc ms Q k n h pc' L S) (hn : ifCond.holds cd x = false → own_W p l e R s m args below meth c n0 mc ms Q k n h pc2 L S) : own_W p l e R s m args below meth c n0 mc ms Q k n h pc L (.int x :: S) := by
  subst h3
  cases q : ifCond.holds cd x with
  | true => exact own_step (fun T locs X t a => XS.ifYes X.here hx rfl (pc0 := pc) rfl hd rfl q ho hp a) (hy q)
  | false => exact own_step (fun T locs X t a => XS.ifNo X.here hx rfl hd rfl q a) (hn q)
theorem own_ilt (hx : p.tables.exec = Jvm.exec) {α : Type} {A B r : α} {o : Int} {x y : Int32} {pc2 : Nat} (hd : decode c.code pc = .ok (.if_icmp .lt o, 3)) (ho : 0 ≤ (pc : Int) + o) (hp : ((pc : Int) + o).toNat = pc') (h3 : pc + 3 = pc2) (hf : (if x < y then A else B) = r) (hy : A = r → own_W p l e R s m args below meth c n0 mc ms Q k n h pc' L S) (hn : B = r → own_W p l e R s m args below meth c n0 mc ms Q k n h pc2 L S) : own_W p l e R s m args below meth c n0 mc ms Q k n h pc L (.int y :: .int x :: S) := by
  refine own_icmp hx hd ho hp h3 (fun q => hy ?_) (fun q => hn ?_)
  · have q' : x < y := by simpa [if_icmp.holds] using q
    rw [if_pos q'] at hf; exact hf
  · have q' : ¬ (x < y) := by simpa [if_icmp.holds] using q
    rw [if_neg q'] at hf; exact hf
theorem own_ilt0 (hx : p.tables.exec = Jvm.exec) {α : Type} {A B r : α} {o : Int} {x : Int32} {pc2 : Nat} (hd : decode c.code pc = .ok (.ifCond .lt o, 3)) (ho : 0 ≤ (pc : Int) + o) (hp : ((pc : Int) + o).toNat = pc') (h3 : pc + 3 = pc2) (hf : (if x < 0 then A else B) = r) (hy : A = r → own_W p l e R s m args below meth c n0 mc ms Q k n h pc' L S) (hn : B = r → own_W p l e R s m args below meth c n0 mc ms Q k n h pc2 L S) : own_W p l e R s m args below meth c n0 mc ms Q k n h pc L (.int x :: S) := by
  refine own_ifc hx hd ho hp h3 (fun q => hy ?_) (fun q => hn ?_)
  · have q' : x < 0 := by simpa [ifCond.holds] using q
    rw [if_pos q'] at hf; exact hf
  · have q' : ¬ (x < 0) := by simpa [ifCond.holds] using q
    rw [if_neg q'] at hf; exact hf
theorem own_ige (hx : p.tables.exec = Jvm.exec) {α : Type} {A B r : α} {o : Int} {x y : Int32} {pc2 : Nat} (hd : decode c.code pc = .ok (.if_icmp .ge o, 3)) (ho : 0 ≤ (pc : Int) + o) (hp : ((pc : Int) + o).toNat = pc') (h3 : pc + 3 = pc2) (hf : (if y ≤ x then A else B) = r) (hy : A = r → own_W p l e R s m args below meth c n0 mc ms Q k n h pc' L S) (hn : B = r → own_W p l e R s m args below meth c n0 mc ms Q k n h pc2 L S) : own_W p l e R s m args below meth c n0 mc ms Q k n h pc L (.int y :: .int x :: S) := by
  refine own_icmp hx hd ho hp h3 (fun q => hy ?_) (fun q => hn ?_)
  · have q' : y ≤ x := by simpa [if_icmp.holds] using q
    rw [if_pos q'] at hf; exact hf
  · have q' : ¬ (y ≤ x) := by simpa [if_icmp.holds] using q
    rw [if_neg q'] at hf; exact hf
theorem own_ige0 (hx : p.tables.exec = Jvm.exec) {α : Type} {A B r : α} {o : Int} {x : Int32} {pc2 : Nat} (hd : decode c.code pc = .ok (.ifCond .ge o, 3)) (ho : 0 ≤ (pc : Int) + o) (hp : ((pc : Int) + o).toNat = pc') (h3 : pc + 3 = pc2) (hf : (if 0 ≤ x then A else B) = r) (hy : A = r → own_W p l e R s m args below meth c n0 mc ms Q k n h pc' L S) (hn : B = r → own_W p l e R s m args below meth c n0 mc ms Q k n h pc2 L S) : own_W p l e R s m args below meth c n0 mc ms Q k n h pc L (.int x :: S) := by
  refine own_ifc hx hd ho hp h3 (fun q => hy ?_) (fun q => hn ?_)
  · have q' : 0 ≤ x := by simpa [ifCond.holds] using q
    rw [if_pos q'] at hf; exact hf
  · have q' : ¬ (0 ≤ x) := by simpa [ifCond.holds] using q
    rw [if_neg q'] at hf; exact hf
theorem own_igt (hx : p.tables.exec = Jvm.exec) {α : Type} {A B r : α} {o : Int} {x y : Int32} {pc2 : Nat} (hd : decode c.code pc = .ok (.if_icmp .gt o, 3)) (ho : 0 ≤ (pc : Int) + o) (hp : ((pc : Int) + o).toNat = pc') (h3 : pc + 3 = pc2) (hf : (if y < x then A else B) = r) (hy : A = r → own_W p l e R s m args below meth c n0 mc ms Q k n h pc' L S) (hn : B = r → own_W p l e R s m args below meth c n0 mc ms Q k n h pc2 L S) : own_W p l e R s m args below meth c n0 mc ms Q k n h pc L (.int y :: .int x :: S) := by
  refine own_icmp hx hd ho hp h3 (fun q => hy ?_) (fun q => hn ?_)
  · have q' : y < x := by simpa [if_icmp.holds] using q
    rw [if_pos q'] at hf; exact hf
  · have q' : ¬ (y < x) := by simpa [if_icmp.holds] using q
    rw [if_neg q'] at hf; exact hf
theorem own_igt0 (hx : p.tables.exec = Jvm.exec) {α : Type} {A B r : α} {o : Int} {x : Int32} {pc2 : Nat} (hd : decode c.code pc = .ok (.ifCond .gt o, 3)) (ho : 0 ≤ (pc : Int) + o) (hp : ((pc : Int) + o).toNat = pc') (h3 : pc + 3 = pc2) (hf : (if 0 < x then A else B) = r) (hy : A = r → own_W p l e R s m args below meth c n0 mc ms Q k n h pc' L S) (hn : B = r → own_W p l e R s m args below meth c n0 mc ms Q k n h pc2 L S) : own_W p l e R s m args below meth c n0 mc ms Q k n h pc L (.int x :: S) := by
  refine own_ifc hx hd ho hp h3 (fun q => hy ?_) (fun q => hn ?_)
  · have q' : 0 < x := by simpa [ifCond.holds] using q
    rw [if_pos q'] at hf; exact hf
  · have q' : ¬ (0 < x) := by simpa [ifCond.holds] using q
    rw [if_neg q'] at hf; exact hf
theorem own_ile (hx : p.tables.exec = Jvm.exec) {α : Type} {A B r : α} {o : Int} {x y : Int32} {pc2 : Nat} (hd : decode c.code pc = .ok (.if_icmp .le o, 3)) (ho : 0 ≤ (pc : Int) + o) (hp : ((pc : Int) + o).toNat = pc') (h3 : pc + 3 = pc2) (hf : (if x ≤ y then A else B) = r) (hy : A = r → own_W p l e R s m args below meth c n0 mc ms Q k n h pc' L S) (hn : B = r → own_W p l e R s m args below meth c n0 mc ms Q k n h pc2 L S) : own_W p l e R s m args below meth c n0 mc ms Q k n h pc L (.int y :: .int x :: S) := by
  refine own_icmp hx hd ho hp h3 (fun q => hy ?_) (fun q => hn ?_)
  · have q' : x ≤ y := by simpa [if_icmp.holds] using q
    rw [if_pos q'] at hf; exact hf
  · have q' : ¬ (x ≤ y) := by simpa [if_icmp.holds] using q
    rw [if_neg q'] at hf; exact hf
theorem own_ile0 (hx : p.tables.exec = Jvm.exec) {α : Type} {A B r : α} {o : Int} {x : Int32} {pc2 : Nat} (hd : decode c.code pc = .ok (.ifCond .le o, 3)) (ho : 0 ≤ (pc : Int) + o) (hp : ((pc : Int) + o).toNat = pc') (h3 : pc + 3 = pc2) (hf : (if x ≤ 0 then A else B) = r) (hy : A = r → own_W p l e R s m args below meth c n0 mc ms Q k n h pc' L S) (hn : B = r → own_W p l e R s m args below meth c n0 mc ms Q k n h pc2 L S) : own_W p l e R s m args below meth c n0 mc ms Q k n h pc L (.int x :: S) := by
  refine own_ifc hx hd ho hp h3 (fun q => hy ?_) (fun q => hn ?_)
  · have q' : x ≤ 0 := by simpa [ifCond.holds] using q
    rw [if_pos q'] at hf; exact hf
  · have q' : ¬ (x ≤ 0) := by simpa [ifCond.holds] using q
    rw [if_neg q'] at hf; exact hf
theorem own_ieq (hx : p.tables.exec = Jvm.exec) {α : Type} {A B r : α} {o : Int} {x y : Int32} {pc2 : Nat} (hd : decode c.code pc = .ok (.if_icmp .eq o, 3)) (ho : 0 ≤ (pc : Int) + o) (hp : ((pc : Int) + o).toNat = pc') (h3 : pc + 3 = pc2) (hf : (if x = y then A else B) = r) (hy : A = r → own_W p l e R s m args below meth c n0 mc ms Q k n h pc' L S) (hn : B = r → own_W p l e R s m args below meth c n0 mc ms Q k n h pc2 L S) : own_W p l e R s m args below meth c n0 mc ms Q k n h pc L (.int y :: .int x :: S) := by
  refine own_icmp hx hd ho hp h3 (fun q => hy ?_) (fun q => hn ?_)
  · have q' : x = y := by simpa [if_icmp.holds] using q
    rw [if_pos q'] at hf; exact hf
  · have q' : ¬ (x = y) := by simpa [if_icmp.holds] using q
    rw [if_neg q'] at hf; exact hf
theorem own_ieq0 (hx : p.tables.exec = Jvm.exec) {α : Type} {A B r : α} {o : Int} {x : Int32} {pc2 : Nat} (hd : decode c.code pc = .ok (.ifCond .eq o, 3)) (ho : 0 ≤ (pc : Int) + o) (hp : ((pc : Int) + o).toNat = pc') (h3 : pc + 3 = pc2) (hf : (if x = 0 then A else B) = r) (hy : A = r → own_W p l e R s m args below meth c n0 mc ms Q k n h pc' L S) (hn : B = r → own_W p l e R s m args below meth c n0 mc ms Q k n h pc2 L S) : own_W p l e R s m args below meth c n0 mc ms Q k n h pc L (.int x :: S) := by
  refine own_ifc hx hd ho hp h3 (fun q => hy ?_) (fun q => hn ?_)
  · have q' : x = 0 := by simpa [ifCond.holds] using q
    rw [if_pos q'] at hf; exact hf
  · have q' : ¬ (x = 0) := by simpa [ifCond.holds] using q
    rw [if_neg q'] at hf; exact hf
theorem own_ine (hx : p.tables.exec = Jvm.exec) {α : Type} {A B r : α} {o : Int} {x y : Int32} {pc2 : Nat} (hd : decode c.code pc = .ok (.if_icmp .ne o, 3)) (ho : 0 ≤ (pc : Int) + o) (hp : ((pc : Int) + o).toNat = pc') (h3 : pc + 3 = pc2) (hf : (if x = y then A else B) = r) (hy : B = r → own_W p l e R s m args below meth c n0 mc ms Q k n h pc' L S) (hn : A = r → own_W p l e R s m args below meth c n0 mc ms Q k n h pc2 L S) : own_W p l e R s m args below meth c n0 mc ms Q k n h pc L (.int y :: .int x :: S) := by
  refine own_icmp hx hd ho hp h3 (fun q => hy ?_) (fun q => hn ?_)
  · have q' : ¬ (x = y) := by simpa [if_icmp.holds] using q
    rw [if_neg q'] at hf; exact hf
  · have q' : x = y := by simpa [if_icmp.holds] using q
    rw [if_pos q'] at hf; exact hf
theorem own_ine0 (hx : p.tables.exec = Jvm.exec) {α : Type} {A B r : α} {o : Int} {x : Int32} {pc2 : Nat} (hd : decode c.code pc = .ok (.ifCond .ne o, 3)) (ho : 0 ≤ (pc : Int) + o) (hp : ((pc : Int) + o).toNat = pc') (h3 : pc + 3 = pc2) (hf : (if x = 0 then A else B) = r) (hy : B = r → own_W p l e R s m args below meth c n0 mc ms Q k n h pc' L S) (hn : A = r → own_W p l e R s m args below meth c n0 mc ms Q k n h pc2 L S) : own_W p l e R s m args below meth c n0 mc ms Q k n h pc L (.int x :: S) := by
  refine own_ifc hx hd ho hp h3 (fun q => hy ?_) (fun q => hn ?_)
  · have q' : ¬ (x = 0) := by simpa [ifCond.holds] using q
    rw [if_neg q'] at hf; exact hf
  · have q' : x = 0 := by simpa [ifCond.holds] using q
    rw [if_pos q'] at hf; exact hf
theorem own_aeq (hx : p.tables.exec = Jvm.exec) {α : Type} {A B r : α} {o : Int} {x y : Addr} {pc2 : Nat} (hd : decode c.code pc = .ok (.if_acmp .eq o, 3)) (ho : 0 ≤ (pc : Int) + o) (hp : ((pc : Int) + o).toNat = pc') (h3 : pc + 3 = pc2) (hf : (if x = y then A else B) = r) (hy : A = r → own_W p l e R s m args below meth c n0 mc ms Q k n h pc' L S) (hn : B = r → own_W p l e R s m args below meth c n0 mc ms Q k n h pc2 L S) : own_W p l e R s m args below meth c n0 mc ms Q k n h pc L (.ref y :: .ref x :: S) := by
  subst h3
  by_cases q : x = y
  · rw [if_pos q] at hf
    exact own_step (fun T locs X t a => XT.acmpYes X.here hx rfl (pc0 := pc) rfl hd rfl rfl rfl (by simp [XT.acmp, q]) ho hp a) (hy hf)
  · rw [if_neg q] at hf
    exact own_step (fun T locs X t a => XT.acmpNo X.here hx rfl hd rfl rfl rfl (by simp [XT.acmp, q]) a) (hn hf)
theorem own_ane (hx : p.tables.exec = Jvm.exec) {α : Type} {A B r : α} {o : Int} {x y : Addr} {pc2 : Nat} (hd : decode c.code pc = .ok (.if_acmp .ne o, 3)) (ho : 0 ≤ (pc : Int) + o) (hp : ((pc : Int) + o).toNat = pc') (h3 : pc + 3 = pc2) (hf : (if x = y then A else B) = r) (hy : B = r → own_W p l e R s m args below meth c n0 mc ms Q k n h pc' L S) (hn : A = r → own_W p l e R s m args below meth c n0 mc ms Q k n h pc2 L S) : own_W p l e R s m args below meth c n0 mc ms Q k n h pc L (.ref y :: .ref x :: S) := by
  subst h3
  by_cases q : x = y
  · rw [if_pos q] at hf
    exact own_step (fun T locs X t a => XT.acmpNo X.here hx rfl hd rfl rfl rfl (by simp [XT.acmp, q]) a) (hn hf)
  · rw [if_neg q] at hf
    exact own_step (fun T locs X t a => XT.acmpYes X.here hx rfl (pc0 := pc) rfl hd rfl rfl rfl (by simp [XT.acmp, q]) ho hp a) (hy hf)
theorem own_ifnonnull (hx : p.tables.exec = Jvm.exec) {o : Int} {x : Addr} (hd : decode c.code pc = .ok (.ifnonnull o, 3)) (ho : 0 ≤ (pc : Int) + o) (hp : ((pc : Int) + o).toNat = pc') (hr : own_W p l e R s m args below meth c n0 mc ms Q k n h pc' L S) : own_W p l e R s m args below meth c n0 mc ms Q k n h pc L (.ref x :: S) :=
  own_step (fun T locs X t a => XT.ifnonnullYes X.here hx rfl (pc0 := pc) rfl hd rfl ho hp a) hr
theorem own_ifnullNo (hx : p.tables.exec = Jvm.exec) {o : Int} {x : Addr} (hd : decode c.code pc = .ok (.ifnull o, 3)) (hp : pc + 3 = pc') (hr : own_W p l e R s m args below meth c n0 mc ms Q k n h pc' L S) : own_W p l e R s m args below meth c n0 mc ms Q k n h pc L (.ref x :: S) := by
  subst hp
  exact own_step (fun T locs X t a => XS.ifnullNo X.here hx rfl hd rfl a) hr
theorem own_ifnullYes (hx : p.tables.exec = Jvm.exec) {o : Int} (hd : decode c.code pc = .ok (.ifnull o, 3)) (ho : 0 ≤ (pc : Int) + o) (hp : ((pc : Int) + o).toNat = pc') (hr : own_W p l e R s m args below meth c n0 mc ms Q k n h pc' L S) : own_W p l e R s m args below meth c n0 mc ms Q k n h pc L (.null :: S) :=
  own_step (fun T locs X t a => XS.ifnullYes X.here hx rfl (pc0 := pc) rfl hd rfl ho hp a) hr
theorem own_tswIn (hx : p.tables.exec = Jvm.exec) {dflt low high o : Int} {offs : Array Int} {len : Nat} {i : Int32} (hd : decode c.code pc = .ok (.tableswitch dflt low high offs, len)) (hin : ¬ (i.toInt < low ∨ i.toInt > high)) (hoff : offs[(i.toInt - low).toNat]? = some o) (ho : 0 ≤ (pc : Int) + o) (hp : ((pc : Int) + o).toNat = pc') (hr : own_W p l e R s m args below meth c n0 mc ms Q k n h pc' L S) : own_W p l e R s m args below meth c n0 mc ms Q k n h pc L (.int i :: S) :=
  own_step (fun T locs X t a => XS.tswIn X.here hx rfl (pc0 := pc) rfl hd rfl hin hoff ho hp a) hr
theorem own_tswOut (hx : p.tables.exec = Jvm.exec) {dflt low high : Int} {offs : Array Int} {len : Nat} {i : Int32} (hd : decode c.code pc = .ok (.tableswitch dflt low high offs, len)) (hout : i.toInt < low ∨ i.toInt > high) (ho : 0 ≤ (pc : Int) + dflt) (hp : ((pc : Int) + dflt).toNat = pc') (hr : own_W p l e R s m args below meth c n0 mc ms Q k n h pc' L S) : own_W p l e R s m args below meth c n0 mc ms Q k n h pc L (.int i :: S) :=
  own_step (fun T locs X t a => XS.tswOut X.here hx rfl (pc0 := pc) rfl hd rfl hout ho hp a) hr
theorem own_ret (hx : p.tables.exec = Jvm.exec) {w : Value} {t0 : FieldType} {i : Instr} (hret : meth.sig.returnType = some t0) (hlk : meth.locks = false) (hn : narrow t0 w = w)
    (hi : (i = .ireturn ∧ (t0 = .int ∨ t0 = .boolean ∨ t0 = .byte ∨ t0 = .char ∨ t0 = .short) ∧ ∃ z, w = .int z) ∨ (i = .lreturn ∧ t0 = .long ∧ ∃ z, w = .long z) ∨ (i = .dreturn ∧ t0 = .double ∧ ∃ z, w = .double z) ∨ (i = .freturn ∧ t0 = .float ∧ ∃ z, w = .float z) ∨ (i = .areturn ∧ t0.isReference = true ∧ w.isRef = true))
    (hd : decode c.code pc = .ok (i, 1)) (hk : k ≤ mc) (hs : n ≤ ms) (hq : Q w h) : own_W p l e R s m args below meth c n0 mc ms Q k n h pc L (w :: S) := fun T locs X hh N => by
  obtain ⟨fs, hr, hrun, hended, hW, hsame⟩ := X.leave (v := some w) (fun q => by rw [hret] at q; cases q) hlk
  refine ⟨_, _, retOut X hx hret hn hi hd hr, hrun, hended, w, locs, rfl, ⟨?_, N⟩, ⟨_, rfl⟩, hW, hsame.mono hk hs⟩
  show Q w T.heap
  rw [hh]; exact hq
theorem own_retI (hx : p.tables.exec = Jvm.exec) {z : Int32} (hret : meth.sig.returnType = some .int) (hlk : meth.locks = false) (hd : decode c.code pc = .ok (.ireturn, 1)) (hk : k ≤ mc) (hs : n ≤ ms) (hq : Q (.int z) h) : own_W p l e R s m args below meth c n0 mc ms Q k n h pc L (.int z :: S) :=
  own_ret hx hret hlk rfl (Or.inl ⟨rfl, Or.inl rfl, z, rfl⟩) hd hk hs hq
theorem own_retZ (hx : p.tables.exec = Jvm.exec) {z : Int32} (hret : meth.sig.returnType = some .boolean) (hlk : meth.locks = false) (hz : narrow .boolean (.int z) = .int z) (hd : decode c.code pc = .ok (.ireturn, 1)) (hk : k ≤ mc) (hs : n ≤ ms) (hq : Q (.int z) h) : own_W p l e R s m args below meth c n0 mc ms Q k n h pc L (.int z :: S) :=
  own_ret hx hret hlk hz (Or.inl ⟨rfl, Or.inr (Or.inl rfl), z, rfl⟩) hd hk hs hq
theorem own_retA (hx : p.tables.exec = Jvm.exec) {C : String} {a : Addr} (hret : meth.sig.returnType = some (.object C)) (hlk : meth.locks = false) (hd : decode c.code pc = .ok (.areturn, 1)) (hk : k ≤ mc) (hs : n ≤ ms) (hq : Q (.ref a) h) : own_W p l e R s m args below meth c n0 mc ms Q k n h pc L (.ref a :: S) :=
  own_ret hx hret hlk rfl (Or.inr (Or.inr (Or.inr (Or.inr ⟨rfl, rfl, rfl⟩)))) hd hk hs hq
theorem own_getS (hx : p.tables.exec = Jvm.exec) {Z : State} {a0 : Array Value} (hZ : Z.Warmed39 s.vm) {own : String} (hown : s.vm.findClass own = some m.cls) {C nm d : String} {i : Nat} {v : Value} (w : (Jvm.Cond.fieldLink own i C nm d).before a0 Z = true) (F : Sta Z h C nm d v) (hd : decode c.code pc = .ok (.getstatic i, 3)) (hp : pc + 3 = pc') (hr : own_W p l e R s m args below meth c n0 mc ms Q k n h pc' L (v :: S)) : own_W p l e R s m args below meth c n0 mc ms Q k n h pc L S := fun T locs X hh N => by
  subst hp
  obtain ⟨T', X', e', st⟩ := getS X hx hZ (host := "") hown w Via.refl hh F (g := mkF m pc L S) rfl hd
  obtain ⟨t, o, a, r⟩ := hr T' locs X' e' N
  exact ⟨t, o, st t a, r⟩
theorem own_getF (hx : p.tables.exec = Jvm.exec) {Z : State} {a0 : Array Value} (hZ : Z.Warmed39 s.vm) {own : String} (hown : s.vm.findClass own = some m.cls) {C nm d : String} {i : Nat} {b : Addr} {v : Value} (w : (Jvm.Cond.fieldLink own i C nm d).before a0 Z = true) (F : Fld Z h b C nm d v) (hd : decode c.code pc = .ok (.getfield i, 3)) (hp : pc + 3 = pc') (hr : own_W p l e R s m args below meth c n0 mc ms Q k n h pc' L (v :: S)) : own_W p l e R s m args below meth c n0 mc ms Q k n h pc L (.ref b :: S) := fun T locs X hh N => by
  subst hp
  obtain ⟨T', X', e', st⟩ := getF X hx hZ hown (host := "") (Or.inl w) Via.refl hh F (g := mkF m pc L (.ref b :: S)) rfl rfl hd
  obtain ⟨t, o, a, r⟩ := hr T' locs X' e' N
  exact ⟨t, o, st t a, r⟩
def own_IA (Z : State) (h : Heap) (a : Addr) (len : Nat) : Prop := ∃ cl : Cell, Arr Z h a cl .int ∧ cl.slots.size = len ∧ ∀ i, i < len → ∃ x : Int32, cl.slots[i]? = some (.int x)
theorem own_newI (hx : p.tables.exec = Jvm.exec) {Z : State} {a0 : Array Value} (hZ : Z.Warmed39 s.vm) (w : (Jvm.Cond.arrayClass .int).before a0 Z = true) {z : Int32} (hd : decode c.code pc = .ok (.newarray .int, 2)) (hz : ¬ z < 0) {cap : Nat} (hcap : z.toNatClampNeg = cap) (hb : cap * 8 ≤ 536870912) (hc : k + 1 ≤ R.cells) (hl : n + cap ≤ R.slots) (Z0 : n0 ≤ h.size) (hp : pc + 2 = pc')
    (hr : ∀ (h' : Heap) (a : Addr), own_IA Z h' a cap → n0 ≤ a → own_W p l e R s m args below meth c n0 mc ms Q (k + 1) (n + cap) h' pc' L (.ref a :: S)) : own_W p l e R s m args below meth c n0 mc ms Q k n h pc L (.int z :: S) := fun T locs X hh N => by
  subst hp
  obtain ⟨T', h', cA, X', e', E', A', st⟩ := newP X hx hZ (aty := .int) w hh (g := mkF m pc L (.int z :: S)) rfl hd rfl hz (Nat.le_of_eq hcap) hb hc hl
  have I' : own_IA Z h' h.size cap := ⟨_, A', by rw [sz_new]; exact hcap, fun i hi => ⟨0, by
    have hi' : i < z.toNatClampNeg := by omega
    simp [newA, newarray.typeOf, defaultValue, hi']⟩⟩
  obtain ⟨t, o, a, r⟩ := hr h' h.size I' Z0 T' locs X' e' N
  exact ⟨t, o, st t a, r⟩
theorem own_stI (hx : p.tables.exec = Jvm.exec) {Z : State} (hZ : Z.Warmed39 s.vm) {a : Addr} {len : Nat} (A : own_IA Z h a len) (ga : n0 ≤ a) {j x : Int32} (hj : ¬ j < 0) (hj2 : j.toNatClampNeg < len) (hd : decode c.code pc = .ok (.iastore, 1)) (hp : pc + 1 = pc') (hr : ∀ h' : Heap, own_IA Z h' a len → own_W p l e R s m args below meth c n0 mc ms Q k n h' pc' L S) : own_W p l e R s m args below meth c n0 mc ms Q k n h pc L (.int x :: .int j :: .ref a :: S) := fun T locs X hh N => by
  subst hp
  obtain ⟨cl, Ar, sz, el⟩ := A
  obtain ⟨T', h', X', e', W', st⟩ := stI X hx hZ hh Ar (j := j) (x := x) (by rw [sz]; exact fun q => q.elim hj fun r => Nat.not_lt.mpr r hj2) (g := mkF m pc L (.int x :: .int j :: .ref a :: S)) rfl rfl hd
  have I' : own_IA Z h' a len := ⟨_, Ar.same W', by rw [sz_set]; exact sz, fun i hi => by
    by_cases q : j.toNatClampNeg = i
    · exact ⟨x, by subst q; simp [Cell.setSlot, sz, hj2]⟩
    · obtain ⟨y, hy⟩ := el i hi
      exact ⟨y, by rw [show (cl.setSlot j.toNatClampNeg (.int x)).slots = cl.slots.setIfInBounds j.toNatClampNeg (.int x) from rfl, Array.getElem?_setIfInBounds_ne q]; exact hy⟩⟩
  obtain ⟨t, o, b, r⟩ := hr h' I' T' _ X' e' (Fr.snoc X' N ga)
  exact ⟨t, o, st t b, r⟩
theorem own_ldI (hx : p.tables.exec = Jvm.exec) {Z : State} (hZ : Z.Warmed39 s.vm) {a : Addr} {len : Nat} (A : own_IA Z h a len) {j : Int32} (hj : ¬ j < 0) (hj2 : j.toNatClampNeg < len) (hd : decode c.code pc = .ok (.iaload, 1)) (hp : pc + 1 = pc') (hr : ∀ x : Int32, own_W p l e R s m args below meth c n0 mc ms Q k n h pc' L (.int x :: S)) : own_W p l e R s m args below meth c n0 mc ms Q k n h pc L (.int j :: .ref a :: S) := fun T locs X hh N => by
  subst hp
  obtain ⟨cl, Ar, sz, el⟩ := A
  obtain ⟨x, hx'⟩ := el _ hj2
  obtain ⟨t, o, b, r⟩ := hr x T locs X hh N
  exact ⟨t, o, X.iaload hx (j := j) (v := .int x) (by rw [hh]; exact Ar.1) (State.isArrayOf_alike hZ.alike Ar.2.1) Ar.2.2 (by rw [sz]; exact fun q => q.elim hj fun r => Nat.not_lt.mpr r hj2) hx' (g := mkF m pc L (.int j :: .ref a :: S)) rfl rfl hd _ b, r⟩
/-- the callee y, handed as' over the heap h, returns r, and keeps the heap -/
def own_C (l : Launch) (Z : State) (y : MethodName) (bytes : ByteArray) (maxL : Nat) (ret : Option FieldType) (as' : Array Value) (n0 : Nat) (h : Heap) (r : Value) : Prop :=
  MetFree l y (head1 [Jvm.Cond.code y bytes maxL ret] own_R0) (fun a U => a = as' ∧ Z.Warmed39 U.vm ∧ U.heap = h) (fun _ _ _ _ _ => True) (fun _ U o U' => ∃ v Lq, o = .returned v ∧ (∃ w, v = some w ∧ (w = r ∧ U'.heap = h) ∧ Fr n0 Lq) ∧ FrameEnd U o U' Lq own_R0.cells own_R0.slots)
theorem own_callS (hx : p.tables.exec = Jvm.exec) {Z : State} {a0 : Array Value} (hZ : Z.Warmed39 s.vm) {own : String} (hown : s.vm.findClass own = some m.cls) {i : Nat} {y : MethodName} {bytes : ByteArray} {maxL : Nat} {ret : Option FieldType} (w1 : (Jvm.Cond.methodLink own i y).before a0 Z = true) (w2 : (Jvm.Cond.static y).before a0 Z = true) (w3 : (Jvm.Cond.initialized y.cls).before a0 Z = true) (w4 : (Jvm.Cond.code y bytes maxL ret).before a0 Z = true) (hy : y.cls ≠ "java/lang/invoke/MethodHandle" ∧ y.cls ≠ "java/lang/invoke/VarHandle") {argsL : List Value} {r : Value} (hC : own_C l Z y bytes maxL ret argsL.toArray n0 h r) {ps : List FieldType} {rr : Option FieldType} (hps : parseMethodDescriptor y.desc = some ⟨ps, rr⟩) (hlen : argsL.length = ps.length) (hfr : 0 + 1 ≤ R.frames) (hlo : (S.map fun v => v.category).sum + (maxL + 11) + 0 ≤ R.locals) (hml : L.size = c.maxLocals) {S0 : List Value} (hS : S0 = argsL.reverse ++ S) (hd : decode c.code pc = .ok (.invokestatic i, 3)) (hkc : k + 0 ≤ R.cells) (hns : n + 0 ≤ R.slots) (hp : pc + 3 = pc') (hr : own_W p l e R s m args below meth c n0 mc ms Q k n h pc' L (r :: S)) : own_W p l e R s m args below meth c n0 mc ms Q k n h pc L S0 := fun T locs X hh N => by
  subst hp
  obtain ⟨_, _, ⟨T1, L1, k1, n1⟩, -, X1, ⟨Lc, hQ, hl, hk, hn⟩, st⟩ := Jvm.LawKit.callS X hx (y := y) hown (mvT hZ w1) (mvT hZ w2) (mvT hZ w3) (mvT hZ w4) hy (backOf (Q := fun v h' Lq => ∃ w, v = some w ∧ (w = r ∧ h' = h) ∧ Fr n0 Lq) (W := (S.map fun v => v.category).sum) hC hZ w4 w3 hfr hlo) (g := mkF m pc L S0) rfl hml (argsL := argsL) (rest := S) (lenOf hps hlen) hS (by show 2 * 0 + _ ≤ _; omega) hd (fun _ _ => ⟨rfl, hh, hkc, hns⟩)
  dsimp only [Pt.U, Pt.locs, Pt.cells, Pt.slots] at X1 hl hk hn st hQ
  obtain ⟨w, rfl, ⟨rfl, e1⟩, N1⟩ := hQ
  subst hl hk hn
  obtain ⟨t, o, a, q⟩ := hr T1 _ X1 e1 (Fr.app N N1)
  exact ⟨t, o, st t a, q⟩
theorem own_callV (hx : p.tables.exec = Jvm.exec) {Z : State} {a0 : Array Value} (hZ : Z.Warmed39 s.vm) {own : String} (hown : s.vm.findClass own = some m.cls) {i : Nat} {y : MethodName} {bytes : ByteArray} {maxL : Nat} {ret : Option FieldType} (w1 : (Jvm.Cond.methodLink own i y).before a0 Z = true) (w2 : (Jvm.Cond.declares y).before a0 Z = true) (w3 : (Jvm.Cond.instanceMethod y).before a0 Z = true) (w5 : (Jvm.Cond.selects y.cls y y).before a0 Z = true) (wz : (Jvm.Cond.initialized y.cls).before a0 Z = true) (w4 : (Jvm.Cond.code y bytes maxL ret).before a0 Z = true) (hy : y.cls ≠ "java/lang/invoke/MethodHandle" ∧ y.cls ≠ "java/lang/invoke/VarHandle") {argsL : List Value} {b : Addr} {r : Value} (E : Exa Z h b y.cls) (hC : own_C l Z y bytes maxL ret (.ref b :: argsL).toArray n0 h r) {ps : List FieldType} {rr : Option FieldType} (hps : parseMethodDescriptor y.desc = some ⟨ps, rr⟩) (hlen : argsL.length = ps.length) (hfr : 0 + 1 ≤ R.frames) (hlo : (S.map fun v => v.category).sum + (maxL + 11) + 0 ≤ R.locals) (hml : L.size = c.maxLocals) {S0 : List Value} (hS : S0 = argsL.reverse ++ .ref b :: S) (hd : decode c.code pc = .ok (.invokevirtual i, 3)) (hkc : k + 0 ≤ R.cells) (hns : n + 0 ≤ R.slots) (hp : pc + 3 = pc') (hr : own_W p l e R s m args below meth c n0 mc ms Q k n h pc' L (r :: S)) : own_W p l e R s m args below meth c n0 mc ms Q k n h pc L S0 := fun T locs X hh N => by
  subst hp
  obtain ⟨cq, kq, qa, qb, qc⟩ := isOf hZ hh E
  obtain ⟨_, _, ⟨T1, L1, k1, n1⟩, -, X1, ⟨Lc, hQ, hl, hk, hn⟩, st⟩ := X.virtualBack hx (y := y) (z := y) hown (mvT hZ w1) (mvT hZ w2) (notFace_of_selects (args := #[]) (mvT hZ w5)) (mvT hZ w5) (mvT hZ w3) hy (backOf (Q := fun v h' Lq => ∃ w, v = some w ∧ (w = r ∧ h' = h) ∧ Fr n0 Lq) (W := (S.map fun v => v.category).sum) hC hZ w4 wz hfr hlo) qa qc (g := mkF m pc L S0) rfl hml (Steps.refl _) (argsL := argsL) (rest := S) (lenOf hps hlen) hS (by show 2 * 0 + _ ≤ _; omega) hd (fun _ _ => ⟨rfl, hh, hkc, hns⟩)
  dsimp only [Pt.U, Pt.locs, Pt.cells, Pt.slots] at X1 hl hk hn st hQ
  obtain ⟨w, rfl, ⟨rfl, e1⟩, N1⟩ := hQ
  subst hl hk hn
  obtain ⟨t, o, a, q⟩ := hr T1 _ X1 e1 (Fr.app N N1)
  exact ⟨t, o, st.trans a, q⟩
theorem own_met {Z : State} {y : MethodName} {bytes : ByteArray} {maxL : Nat} {ret : Option FieldType} {ws : List Jvm.Cond} {as' : Array Value} {L0 : Array Slot} (hpl : plainName y.cls = true) (hef : ∀ m : MethodId, entryFrame m as' maxL = mkF m 0 L0 [])
    (body : ∀ (p : Program) (e : Env) (s : State) (m : MethodId) (below : List Frame) (meth : Method) (c : Code), p.tables.exec = Jvm.exec → c.code = bytes → c.maxLocals = maxL → s.vm.findClass y.cls = some m.cls → Z.Warmed39 s.vm → meth.sig.returnType = ret → meth.locks = false → own_W p l e R s m as' below meth c n0 mc ms Q 0 0 h 0 L0 []) :
    MetFree l y (head1 (Jvm.Cond.code y bytes maxL ret :: ws) R) (fun a U => a = as' ∧ Z.Warmed39 U.vm ∧ U.heap = h) (fun _ _ _ _ _ => True) (fun _ U o U' => ∃ v Lq, o = .returned v ∧ (∃ w, v = some w ∧ Q w U'.heap ∧ Fr n0 Lq) ∧ FrameEnd U o U' Lq mc ms) := by
  refine MetFree.of_bodySF (plainFor_of_name hpl) hisR ?_
  intro p e s m args below meth c s₁ Bd hml0 hP hK
  obtain ⟨rfl, hZ, hh⟩ := hP
  have X0 : Stand p l e R s m _ below meth c s₁ [] 0 0 := Stand.of_body Bd
  have e0 : s₁.heap = h := by rw [← hh, Bd.state]; rfl
  obtain ⟨t, o, st, h1, h2, v, lo, rfl, ⟨hq, hN⟩, hF⟩ := body p e s m below meth c Bd.exec Bd.bytes hml0 (findClass_of_methodNamed Bd.named) hZ Bd.returns Bd.notSynchronized s₁ [] X0 e0 (Fr.nil n0)
  exact ⟨t, _, castTop (hef m) st, h1, h2, some v, lo, rfl, ⟨v, rfl, hq, hN⟩, hF⟩
end Own

section Own2
variable {p : Program} {l : Launch} {e : Env} {R : Room} {s : State} {m : MethodId} {args : Array Value} {below : List Frame} {meth : Method} {c : Code} {n0 mc ms k n : Nat} {Q : Value → Heap → Prop} {h : Heap} {pc pc' : Nat} {L : Array Slot} {S : List Value}
theorem own_ng_d0 : decode prog_38_method_5_code 0 = .ok (.aload_n 0, 1) := by decide +kernel
theorem own_ng_d1 : decode prog_38_method_5_code 1 = .ok (.getstatic 3, 3) := by decide +kernel
theorem own_ng_d4 : decode prog_38_method_5_code 4 = .ok (.if_acmp .ne 10, 3) := by decide +kernel
theorem own_ng_d7 : decode prog_38_method_5_code 7 = .ok (.getstatic 7, 3) := by decide +kernel
theorem own_ng_d10 : decode prog_38_method_5_code 10 = .ok (.astore_n 1, 1) := by decide +kernel
theorem own_ng_d11 : decode prog_38_method_5_code 11 = .ok (.goto 21, 3) := by decide +kernel
theorem own_ng_d14 : decode prog_38_method_5_code 14 = .ok (.aload_n 0, 1) := by decide +kernel
theorem own_ng_d15 : decode prog_38_method_5_code 15 = .ok (.getstatic 7, 3) := by decide +kernel
theorem own_ng_d18 : decode prog_38_method_5_code 18 = .ok (.if_acmp .ne 10, 3) := by decide +kernel
theorem own_ng_d21 : decode prog_38_method_5_code 21 = .ok (.getstatic 3, 3) := by decide +kernel
theorem own_ng_d24 : decode prog_38_method_5_code 24 = .ok (.astore_n 1, 1) := by decide +kernel
theorem own_ng_d25 : decode prog_38_method_5_code 25 = .ok (.goto 7, 3) := by decide +kernel
theorem own_ng_d28 : decode prog_38_method_5_code 28 = .ok (.getstatic 10, 3) := by decide +kernel
theorem own_ng_d31 : decode prog_38_method_5_code 31 = .ok (.astore_n 1, 1) := by decide +kernel
theorem own_ng_d32 : decode prog_38_method_5_code 32 = .ok (.aload_n 1, 1) := by decide +kernel
theorem own_ng_d33 : decode prog_38_method_5_code 33 = .ok (.areturn, 1) := by decide +kernel
def own_ng_f32 (aH aD aC : Addr) (x0 : Addr) (x1 : Addr) : Addr := x1
set_option maxRecDepth 65536 in
set_option maxHeartbeats 4000000 in
theorem own_ng_b32 (hx : p.tables.exec = Jvm.exec) (hby : c.code = prog_38_method_5_code) (hml : c.maxLocals = 2) (hown : s.vm.findClass "com/example/querne/querne/conformance/Judgement" = some m.cls) {Z : State} {a0 : Array Value} (hZ : Z.Warmed39 s.vm) (hw : ∀ d ∈ tables_1, d.before a0 Z = true) (hret : meth.sig.returnType = some (.object "com/example/querne/querne/conformance/Judgement")) (hlk : meth.locks = false) {aH aD aC : Addr} (SH : Sta Z h "com/example/querne/querne/conformance/Judgement" "HOLDS" "Lcom/example/querne/querne/conformance/Judgement;" (.ref aH)) (SD : Sta Z h "com/example/querne/querne/conformance/Judgement" "DOES_NOT_HOLD" "Lcom/example/querne/querne/conformance/Judgement;" (.ref aD)) (SC : Sta Z h "com/example/querne/querne/conformance/Judgement" "CANNOT_JUDGE" "Lcom/example/querne/querne/conformance/Judgement;" (.ref aC)) (x0 : Addr) (x1 : Addr) (r : Addr) (hf : own_ng_f32 aH aD aC x0 x1 = r) : own_W p l e own_R0 s m args below meth c n0 0 0 (fun v h' => v = .ref r ∧ h' = h) 0 0 h 32 #[.val (.ref x0), .val (.ref x1)] [] := by
  unfold own_ng_f32 at hf
  refine own_aloadN hx (hb hby own_ng_d32) rfl rfl (pc' := 33) rfl ?_
  exact own_retA hx hret hlk (hb hby own_ng_d33) (Nat.le_of_ble_eq_true rfl) (Nat.le_of_ble_eq_true rfl) ⟨congrArg _ hf, rfl⟩
def own_ng_f0 (aH aD aC : Addr) (x0 : Addr) : Addr := (if x0 = aH then own_ng_f32 aH aD aC x0 aD else (if x0 = aD then own_ng_f32 aH aD aC x0 aH else own_ng_f32 aH aD aC x0 aC))
set_option maxRecDepth 65536 in
set_option maxHeartbeats 4000000 in
theorem own_ng_b0 (hx : p.tables.exec = Jvm.exec) (hby : c.code = prog_38_method_5_code) (hml : c.maxLocals = 2) (hown : s.vm.findClass "com/example/querne/querne/conformance/Judgement" = some m.cls) {Z : State} {a0 : Array Value} (hZ : Z.Warmed39 s.vm) (hw : ∀ d ∈ tables_1, d.before a0 Z = true) (hret : meth.sig.returnType = some (.object "com/example/querne/querne/conformance/Judgement")) (hlk : meth.locks = false) {aH aD aC : Addr} (SH : Sta Z h "com/example/querne/querne/conformance/Judgement" "HOLDS" "Lcom/example/querne/querne/conformance/Judgement;" (.ref aH)) (SD : Sta Z h "com/example/querne/querne/conformance/Judgement" "DOES_NOT_HOLD" "Lcom/example/querne/querne/conformance/Judgement;" (.ref aD)) (SC : Sta Z h "com/example/querne/querne/conformance/Judgement" "CANNOT_JUDGE" "Lcom/example/querne/querne/conformance/Judgement;" (.ref aC)) (x0 : Addr) (r : Addr) (hf : own_ng_f0 aH aD aC x0 = r) : own_W p l e own_R0 s m args below meth c n0 0 0 (fun v h' => v = .ref r ∧ h' = h) 0 0 h 0 #[.val (.ref x0), .unset] [] := by
  unfold own_ng_f0 at hf
  refine own_aloadN hx (hb hby own_ng_d0) rfl rfl (pc' := 1) rfl ?_
  refine own_getS hx hZ hown (hw _ (List.mem_of_getElem? (i := 9) rfl)) SH (hb hby own_ng_d1) (pc' := 4) rfl ?_
  refine own_ane hx (hb hby own_ng_d4) (by decide) (pc' := 14) (by decide) (pc2 := 7) rfl hf (fun hf => ?_) (fun hf => ?_)
  · refine own_aloadN hx (hb hby own_ng_d14) rfl rfl (pc' := 15) rfl ?_
    refine own_getS hx hZ hown (hw _ (List.mem_of_getElem? (i := 10) rfl)) SD (hb hby own_ng_d15) (pc' := 18) rfl ?_
    refine own_ane hx (hb hby own_ng_d18) (by decide) (pc' := 28) (by decide) (pc2 := 21) rfl hf (fun hf => ?_) (fun hf => ?_)
    · refine own_getS hx hZ hown (hw _ (List.mem_of_getElem? (i := 17) rfl)) SC (hb hby own_ng_d28) (pc' := 31) rfl ?_
      refine own_astoreN hx (L' := #[.val (.ref x0), .val (.ref aC)]) (hb hby own_ng_d31) rfl rfl (pc' := 32) rfl ?_
      exact own_ng_b32 hx hby hml hown hZ hw hret hlk SH SD SC x0 aC r hf
    · refine own_getS hx hZ hown (hw _ (List.mem_of_getElem? (i := 9) rfl)) SH (hb hby own_ng_d21) (pc' := 24) rfl ?_
      refine own_astoreN hx (L' := #[.val (.ref x0), .val (.ref aH)]) (hb hby own_ng_d24) rfl rfl (pc' := 25) rfl ?_
      refine own_goto hx (hb hby own_ng_d25) (by decide) (pc' := 32) (by decide) ?_
      exact own_ng_b32 hx hby hml hown hZ hw hret hlk SH SD SC x0 aH r hf
  · refine own_getS hx hZ hown (hw _ (List.mem_of_getElem? (i := 10) rfl)) SD (hb hby own_ng_d7) (pc' := 10) rfl ?_
    refine own_astoreN hx (L' := #[.val (.ref x0), .val (.ref aD)]) (hb hby own_ng_d10) rfl rfl (pc' := 11) rfl ?_
    refine own_goto hx (hb hby own_ng_d11) (by decide) (pc' := 32) (by decide) ?_
    exact own_ng_b32 hx hby hml hown hZ hw hret hlk SH SD SC x0 aD r hf
theorem own_ng_pn : plainName "com/example/querne/querne/conformance/Judgement" = true := by first | (simp [plainName, overriddenIn]; done) | decide +kernel
theorem own_ng_ef (m : MethodId) (x0 : Addr) : entryFrame m #[.ref x0] 2 = mkF m 0 #[.val (.ref x0), .unset] [] := by first | (simp [entryFrame, mkF, argsToLocals, Value.category]; done) | rfl
theorem own_ng_C (l : Launch) (Z : State) (a0 : Array Value) (hw : ∀ d ∈ tables_1, d.before a0 Z = true) (n0 : Nat) (h : Heap) {aH aD aC : Addr} (SH : Sta Z h "com/example/querne/querne/conformance/Judgement" "HOLDS" "Lcom/example/querne/querne/conformance/Judgement;" (.ref aH)) (SD : Sta Z h "com/example/querne/querne/conformance/Judgement" "DOES_NOT_HOLD" "Lcom/example/querne/querne/conformance/Judgement;" (.ref aD)) (SC : Sta Z h "com/example/querne/querne/conformance/Judgement" "CANNOT_JUDGE" "Lcom/example/querne/querne/conformance/Judgement;" (.ref aC)) (x0 : Addr) : own_C l Z ⟨"com/example/querne/querne/conformance/Judgement", "negated", "()Lcom/example/querne/querne/conformance/Judgement;"⟩ prog_38_method_5_code 2 (some (.object "com/example/querne/querne/conformance/Judgement")) #[.ref x0] n0 h (.ref (own_ng_f0 aH aD aC x0)) :=
  own_met own_ng_pn (fun m => own_ng_ef m x0) fun p e s m below meth c hx hby hml hown hZ hret hlk => own_ng_b0 hx hby hml hown hZ hw hret hlk SH SD SC x0 _ rfl
theorem own_of_d0 : decode prog_38_method_4_code 0 = .ok (.iload_n 0, 1) := by decide +kernel
theorem own_of_d1 : decode prog_38_method_4_code 1 = .ok (.ifCond .eq 9, 3) := by decide +kernel
theorem own_of_d4 : decode prog_38_method_4_code 4 = .ok (.getstatic 3, 3) := by decide +kernel
theorem own_of_d7 : decode prog_38_method_4_code 7 = .ok (.goto 6, 3) := by decide +kernel
theorem own_of_d10 : decode prog_38_method_4_code 10 = .ok (.getstatic 7, 3) := by decide +kernel
theorem own_of_d13 : decode prog_38_method_4_code 13 = .ok (.areturn, 1) := by decide +kernel
def own_of_f0 (aH aD aC : Addr) (x0 : Int32) : Addr := (if x0 = 0 then aD else aH)
set_option maxRecDepth 65536 in
set_option maxHeartbeats 4000000 in
theorem own_of_b0 (hx : p.tables.exec = Jvm.exec) (hby : c.code = prog_38_method_4_code) (hml : c.maxLocals = 1) (hown : s.vm.findClass "com/example/querne/querne/conformance/Judgement" = some m.cls) {Z : State} {a0 : Array Value} (hZ : Z.Warmed39 s.vm) (hw : ∀ d ∈ tables_1, d.before a0 Z = true) (hret : meth.sig.returnType = some (.object "com/example/querne/querne/conformance/Judgement")) (hlk : meth.locks = false) {aH aD aC : Addr} (SH : Sta Z h "com/example/querne/querne/conformance/Judgement" "HOLDS" "Lcom/example/querne/querne/conformance/Judgement;" (.ref aH)) (SD : Sta Z h "com/example/querne/querne/conformance/Judgement" "DOES_NOT_HOLD" "Lcom/example/querne/querne/conformance/Judgement;" (.ref aD)) (SC : Sta Z h "com/example/querne/querne/conformance/Judgement" "CANNOT_JUDGE" "Lcom/example/querne/querne/conformance/Judgement;" (.ref aC)) (x0 : Int32) (r : Addr) (hf : own_of_f0 aH aD aC x0 = r) : own_W p l e own_R0 s m args below meth c n0 0 0 (fun v h' => v = .ref r ∧ h' = h) 0 0 h 0 #[.val (.int x0)] [] := by
  unfold own_of_f0 at hf
  refine own_iloadN hx (hb hby own_of_d0) rfl (pc' := 1) rfl ?_
  refine own_ieq0 hx (hb hby own_of_d1) (by decide) (pc' := 10) (by decide) (pc2 := 4) rfl hf (fun hf => ?_) (fun hf => ?_)
  · refine own_getS hx hZ hown (hw _ (List.mem_of_getElem? (i := 10) rfl)) SD (hb hby own_of_d10) (pc' := 13) rfl ?_
    exact own_retA hx hret hlk (hb hby own_of_d13) (Nat.le_of_ble_eq_true rfl) (Nat.le_of_ble_eq_true rfl) ⟨congrArg _ hf, rfl⟩
  · refine own_getS hx hZ hown (hw _ (List.mem_of_getElem? (i := 9) rfl)) SH (hb hby own_of_d4) (pc' := 7) rfl ?_
    refine own_goto hx (hb hby own_of_d7) (by decide) (pc' := 13) (by decide) ?_
    exact own_retA hx hret hlk (hb hby own_of_d13) (Nat.le_of_ble_eq_true rfl) (Nat.le_of_ble_eq_true rfl) ⟨congrArg _ hf, rfl⟩
theorem own_of_pn : plainName "com/example/querne/querne/conformance/Judgement" = true := by first | (simp [plainName, overriddenIn]; done) | decide +kernel
theorem own_of_ef (m : MethodId) (x0 : Int32) : entryFrame m #[.int x0] 1 = mkF m 0 #[.val (.int x0)] [] := by first | (simp [entryFrame, mkF, argsToLocals, Value.category]; done) | rfl
theorem own_of_C (l : Launch) (Z : State) (a0 : Array Value) (hw : ∀ d ∈ tables_1, d.before a0 Z = true) (n0 : Nat) (h : Heap) {aH aD aC : Addr} (SH : Sta Z h "com/example/querne/querne/conformance/Judgement" "HOLDS" "Lcom/example/querne/querne/conformance/Judgement;" (.ref aH)) (SD : Sta Z h "com/example/querne/querne/conformance/Judgement" "DOES_NOT_HOLD" "Lcom/example/querne/querne/conformance/Judgement;" (.ref aD)) (SC : Sta Z h "com/example/querne/querne/conformance/Judgement" "CANNOT_JUDGE" "Lcom/example/querne/querne/conformance/Judgement;" (.ref aC)) (x0 : Int32) : own_C l Z ⟨"com/example/querne/querne/conformance/Judgement", "of", "(Z)Lcom/example/querne/querne/conformance/Judgement;"⟩ prog_38_method_4_code 1 (some (.object "com/example/querne/querne/conformance/Judgement")) #[.int x0] n0 h (.ref (own_of_f0 aH aD aC x0)) :=
  own_met own_of_pn (fun m => own_of_ef m x0) fun p e s m below meth c hx hby hml hown hZ hret hlk => own_of_b0 hx hby hml hown hZ hw hret hlk SH SD SC x0 _ rfl
theorem own_pdN : parseMethodDescriptor "()Lcom/example/querne/querne/conformance/Judgement;" = some ⟨[], some (.object "com/example/querne/querne/conformance/Judgement")⟩ := by decide +kernel
theorem own_pdO : parseMethodDescriptor "(Z)Lcom/example/querne/querne/conformance/Judgement;" = some ⟨[.boolean], some (.object "com/example/querne/querne/conformance/Judgement")⟩ := by decide +kernel
theorem own_ng_exa {Z : State} {aH aD aC : Addr} (EH : Exa Z h aH "com/example/querne/querne/conformance/Judgement") (ED : Exa Z h aD "com/example/querne/querne/conformance/Judgement") (EC : Exa Z h aC "com/example/querne/querne/conformance/Judgement") (x : Addr) : Exa Z h (own_ng_f0 aH aD aC x) "com/example/querne/querne/conformance/Judgement" := by
  unfold own_ng_f0 own_ng_f32
  split
  · exact ED
  · split
    · exact EH
    · exact EC
theorem own_of_exa {Z : State} {aH aD aC : Addr} (EH : Exa Z h aH "com/example/querne/querne/conformance/Judgement") (ED : Exa Z h aD "com/example/querne/querne/conformance/Judgement") (x : Int32) : Exa Z h (own_of_f0 aH aD aC x) "com/example/querne/querne/conformance/Judgement" := by
  unfold own_of_f0
  split
  · exact ED
  · exact EH
def own_law_f151 (aH aD aC : Addr) (x0 : Int32) (x1 : Int32) (x2 : Int32) (x3 : Addr) (x4 : Addr) (x5 : Int32) (x6 : Int32) (x7 : Int32) (s0 : Int32) : Int32 := (if x5 = 0 then (0 : Int32) else (if x6 = 0 then (0 : Int32) else (if s0 = 0 then (0 : Int32) else (1 : Int32))))
set_option maxRecDepth 65536 in
set_option maxHeartbeats 4000000 in
theorem own_law_b151 (hx : p.tables.exec = Jvm.exec) (hby : c.code = code) (hml : c.maxLocals = maxLocals) (hown : s.vm.findClass "com/example/querne/querne/conformance/JudgementNegatedPinLaw" = some m.cls) {Z : State} {a0 : Array Value} (hZ : Z.Warmed39 s.vm) (hw : ∀ d ∈ tables_1, d.before a0 Z = true) (hret : meth.sig.returnType = some .boolean) (hlk : meth.locks = false) {aH aD aC : Addr} (SH : Sta Z h "com/example/querne/querne/conformance/Judgement" "HOLDS" "Lcom/example/querne/querne/conformance/Judgement;" (.ref aH)) (SD : Sta Z h "com/example/querne/querne/conformance/Judgement" "DOES_NOT_HOLD" "Lcom/example/querne/querne/conformance/Judgement;" (.ref aD)) (SC : Sta Z h "com/example/querne/querne/conformance/Judgement" "CANNOT_JUDGE" "Lcom/example/querne/querne/conformance/Judgement;" (.ref aC)) (EH : Exa Z h aH "com/example/querne/querne/conformance/Judgement") (ED : Exa Z h aD "com/example/querne/querne/conformance/Judgement") (EC : Exa Z h aC "com/example/querne/querne/conformance/Judgement") (x0 : Int32) (x1 : Int32) (x2 : Int32) (x3 : Addr) (x4 : Addr) (x5 : Int32) (x6 : Int32) (x7 : Int32) (s0 : Int32) (r : Int32) (hf : own_law_f151 aH aD aC x0 x1 x2 x3 x4 x5 x6 x7 s0 = r) : own_W p l e room_1 s m args below meth c n0 0 0 (fun v _ => v = .int r) 0 0 h 151 #[.val (.int x0), .val (.int x1), .val (.int x2), .val (.ref x3), .val (.ref x4), .val (.int x5), .val (.int x6), .val (.int x7), .unset] [(.int s0)] := by
  unfold own_law_f151 at hf
  refine own_istore hx (L' := #[.val (.int x0), .val (.int x1), .val (.int x2), .val (.ref x3), .val (.ref x4), .val (.int x5), .val (.int x6), .val (.int x7), .val (.int s0)]) (hb hby at_151) rfl (pc' := 153) rfl ?_
  refine own_iload hx (hb hby at_153) rfl (pc' := 155) rfl ?_
  refine own_ieq0 hx (hb hby at_155) (by decide) (pc' := 172) (by decide) (pc2 := 158) rfl hf (fun hf => ?_) (fun hf => ?_)
  · refine own_iconst hx (z := (0 : Int32)) (hb hby at_172) (by decide) (pc' := 173) rfl ?_
    exact own_retZ hx hret hlk rfl (hb hby at_173) (Nat.le_of_ble_eq_true rfl) (Nat.le_of_ble_eq_true rfl) (congrArg _ hf)
  · refine own_iload hx (hb hby at_158) rfl (pc' := 160) rfl ?_
    refine own_ieq0 hx (hb hby at_160) (by decide) (pc' := 172) (by decide) (pc2 := 163) rfl hf (fun hf => ?_) (fun hf => ?_)
    · refine own_iconst hx (z := (0 : Int32)) (hb hby at_172) (by decide) (pc' := 173) rfl ?_
      exact own_retZ hx hret hlk rfl (hb hby at_173) (Nat.le_of_ble_eq_true rfl) (Nat.le_of_ble_eq_true rfl) (congrArg _ hf)
    · refine own_iload hx (hb hby at_163) rfl (pc' := 165) rfl ?_
      refine own_ieq0 hx (hb hby at_165) (by decide) (pc' := 172) (by decide) (pc2 := 168) rfl hf (fun hf => ?_) (fun hf => ?_)
      · refine own_iconst hx (z := (0 : Int32)) (hb hby at_172) (by decide) (pc' := 173) rfl ?_
        exact own_retZ hx hret hlk rfl (hb hby at_173) (Nat.le_of_ble_eq_true rfl) (Nat.le_of_ble_eq_true rfl) (congrArg _ hf)
      · refine own_iconst hx (z := (1 : Int32)) (hb hby at_168) (by decide) (pc' := 169) rfl ?_
        refine own_goto hx (hb hby at_169) (by decide) (pc' := 173) (by decide) ?_
        exact own_retZ hx hret hlk rfl (hb hby at_173) (Nat.le_of_ble_eq_true rfl) (Nat.le_of_ble_eq_true rfl) (congrArg _ hf)
def own_law_f140 (aH aD aC : Addr) (x0 : Int32) (x1 : Int32) (x2 : Int32) (x3 : Addr) (x4 : Addr) (x5 : Int32) (x6 : Int32) (x7 : Int32) (s0 : Int32) (s1 : Addr) : Int32 := (if s1 = (own_of_f0 aH aD aC s0) then own_law_f151 aH aD aC x0 x1 x2 x3 x4 x5 x6 x7 (1 : Int32) else own_law_f151 aH aD aC x0 x1 x2 x3 x4 x5 x6 x7 (0 : Int32))
set_option maxRecDepth 65536 in
set_option maxHeartbeats 4000000 in
theorem own_law_b140 (hx : p.tables.exec = Jvm.exec) (hby : c.code = code) (hml : c.maxLocals = maxLocals) (hown : s.vm.findClass "com/example/querne/querne/conformance/JudgementNegatedPinLaw" = some m.cls) {Z : State} {a0 : Array Value} (hZ : Z.Warmed39 s.vm) (hw : ∀ d ∈ tables_1, d.before a0 Z = true) (hret : meth.sig.returnType = some .boolean) (hlk : meth.locks = false) {aH aD aC : Addr} (SH : Sta Z h "com/example/querne/querne/conformance/Judgement" "HOLDS" "Lcom/example/querne/querne/conformance/Judgement;" (.ref aH)) (SD : Sta Z h "com/example/querne/querne/conformance/Judgement" "DOES_NOT_HOLD" "Lcom/example/querne/querne/conformance/Judgement;" (.ref aD)) (SC : Sta Z h "com/example/querne/querne/conformance/Judgement" "CANNOT_JUDGE" "Lcom/example/querne/querne/conformance/Judgement;" (.ref aC)) (EH : Exa Z h aH "com/example/querne/querne/conformance/Judgement") (ED : Exa Z h aD "com/example/querne/querne/conformance/Judgement") (EC : Exa Z h aC "com/example/querne/querne/conformance/Judgement") (x0 : Int32) (x1 : Int32) (x2 : Int32) (x3 : Addr) (x4 : Addr) (x5 : Int32) (x6 : Int32) (x7 : Int32) (s0 : Int32) (s1 : Addr) (r : Int32) (hf : own_law_f140 aH aD aC x0 x1 x2 x3 x4 x5 x6 x7 s0 s1 = r) : own_W p l e room_1 s m args below meth c n0 0 0 (fun v _ => v = .int r) 0 0 h 140 #[.val (.int x0), .val (.int x1), .val (.int x2), .val (.ref x3), .val (.ref x4), .val (.int x5), .val (.int x6), .val (.int x7), .unset] [(.int s0), (.ref s1)] := by
  unfold own_law_f140 at hf
  refine own_callS hx hZ hown (hw _ (List.mem_of_getElem? (i := 14) rfl)) (hw _ (List.mem_of_getElem? (i := 15) rfl)) (hw _ (List.mem_of_getElem? (i := 2) rfl)) (hw _ (List.mem_of_getElem? (i := 16) rfl)) (by decide) (argsL := [(.int s0)]) (S := [(.ref s1)]) (own_of_C l Z a0 hw n0 h SH SD SC s0) own_pdO rfl (by decide) (Nat.le_of_ble_eq_true rfl) (by rw [hml]; rfl) rfl (hb hby at_140) (by decide) (by decide) (pc' := 143) rfl ?_
  refine own_ane hx (hb hby at_143) (by decide) (pc' := 150) (by decide) (pc2 := 146) rfl hf (fun hf => ?_) (fun hf => ?_)
  · refine own_iconst hx (z := (0 : Int32)) (hb hby at_150) (by decide) (pc' := 151) rfl ?_
    exact own_law_b151 hx hby hml hown hZ hw hret hlk SH SD SC EH ED EC x0 x1 x2 x3 x4 x5 x6 x7 (0 : Int32) r hf
  · refine own_iconst hx (z := (1 : Int32)) (hb hby at_146) (by decide) (pc' := 147) rfl ?_
    refine own_goto hx (hb hby at_147) (by decide) (pc' := 151) (by decide) ?_
    exact own_law_b151 hx hby hml hown hZ hw hret hlk SH SD SC EH ED EC x0 x1 x2 x3 x4 x5 x6 x7 (1 : Int32) r hf
def own_law_f120 (aH aD aC : Addr) (x0 : Int32) (x1 : Int32) (x2 : Int32) (x3 : Addr) (x4 : Addr) (x5 : Int32) (x6 : Int32) (s0 : Int32) : Int32 := (if s0 = 0 then own_law_f140 aH aD aC x0 x1 x2 x3 x4 x5 x6 s0 (1 : Int32) (own_ng_f0 aH aD aC (own_of_f0 aH aD aC s0)) else own_law_f140 aH aD aC x0 x1 x2 x3 x4 x5 x6 s0 (0 : Int32) (own_ng_f0 aH aD aC (own_of_f0 aH aD aC s0)))
set_option maxRecDepth 65536 in
set_option maxHeartbeats 4000000 in
theorem own_law_b120 (hx : p.tables.exec = Jvm.exec) (hby : c.code = code) (hml : c.maxLocals = maxLocals) (hown : s.vm.findClass "com/example/querne/querne/conformance/JudgementNegatedPinLaw" = some m.cls) {Z : State} {a0 : Array Value} (hZ : Z.Warmed39 s.vm) (hw : ∀ d ∈ tables_1, d.before a0 Z = true) (hret : meth.sig.returnType = some .boolean) (hlk : meth.locks = false) {aH aD aC : Addr} (SH : Sta Z h "com/example/querne/querne/conformance/Judgement" "HOLDS" "Lcom/example/querne/querne/conformance/Judgement;" (.ref aH)) (SD : Sta Z h "com/example/querne/querne/conformance/Judgement" "DOES_NOT_HOLD" "Lcom/example/querne/querne/conformance/Judgement;" (.ref aD)) (SC : Sta Z h "com/example/querne/querne/conformance/Judgement" "CANNOT_JUDGE" "Lcom/example/querne/querne/conformance/Judgement;" (.ref aC)) (EH : Exa Z h aH "com/example/querne/querne/conformance/Judgement") (ED : Exa Z h aD "com/example/querne/querne/conformance/Judgement") (EC : Exa Z h aC "com/example/querne/querne/conformance/Judgement") (x0 : Int32) (x1 : Int32) (x2 : Int32) (x3 : Addr) (x4 : Addr) (x5 : Int32) (x6 : Int32) (s0 : Int32) (r : Int32) (hf : own_law_f120 aH aD aC x0 x1 x2 x3 x4 x5 x6 s0 = r) : own_W p l e room_1 s m args below meth c n0 0 0 (fun v _ => v = .int r) 0 0 h 120 #[.val (.int x0), .val (.int x1), .val (.int x2), .val (.ref x3), .val (.ref x4), .val (.int x5), .val (.int x6), .unset, .unset] [(.int s0)] := by
  unfold own_law_f120 at hf
  refine own_istore hx (L' := #[.val (.int x0), .val (.int x1), .val (.int x2), .val (.ref x3), .val (.ref x4), .val (.int x5), .val (.int x6), .val (.int s0), .unset]) (hb hby at_120) rfl (pc' := 122) rfl ?_
  refine own_iload hx (hb hby at_122) rfl (pc' := 124) rfl ?_
  refine own_callS hx hZ hown (hw _ (List.mem_of_getElem? (i := 14) rfl)) (hw _ (List.mem_of_getElem? (i := 15) rfl)) (hw _ (List.mem_of_getElem? (i := 2) rfl)) (hw _ (List.mem_of_getElem? (i := 16) rfl)) (by decide) (argsL := [(.int s0)]) (S := []) (own_of_C l Z a0 hw n0 h SH SD SC s0) own_pdO rfl (by decide) (Nat.le_of_ble_eq_true rfl) (by rw [hml]; rfl) rfl (hb hby at_124) (by decide) (by decide) (pc' := 127) rfl ?_
  refine own_callV hx hZ hown (hw _ (List.mem_of_getElem? (i := 4) rfl)) (hw _ (List.mem_of_getElem? (i := 5) rfl)) (hw _ (List.mem_of_getElem? (i := 6) rfl)) (hw _ (List.mem_of_getElem? (i := 7) rfl)) (hw _ (List.mem_of_getElem? (i := 2) rfl)) (hw _ (List.mem_of_getElem? (i := 8) rfl)) (by decide) (argsL := []) (S := []) (by first | exact EH | exact ED | exact EC | exact own_ng_exa EH ED EC _ | exact own_of_exa EH ED _) (own_ng_C l Z a0 hw n0 h SH SD SC (own_of_f0 aH aD aC s0)) own_pdN rfl (by decide) (Nat.le_of_ble_eq_true rfl) (by rw [hml]; rfl) rfl (hb hby at_127) (by decide) (by decide) (pc' := 130) rfl ?_
  refine own_iload hx (hb hby at_130) rfl (pc' := 132) rfl ?_
  refine own_ine0 hx (hb hby at_132) (by decide) (pc' := 139) (by decide) (pc2 := 135) rfl hf (fun hf => ?_) (fun hf => ?_)
  · refine own_iconst hx (z := (0 : Int32)) (hb hby at_139) (by decide) (pc' := 140) rfl ?_
    exact own_law_b140 hx hby hml hown hZ hw hret hlk SH SD SC EH ED EC x0 x1 x2 x3 x4 x5 x6 s0 (0 : Int32) (own_ng_f0 aH aD aC (own_of_f0 aH aD aC s0)) r hf
  · refine own_iconst hx (z := (1 : Int32)) (hb hby at_135) (by decide) (pc' := 136) rfl ?_
    refine own_goto hx (hb hby at_136) (by decide) (pc' := 140) (by decide) ?_
    exact own_law_b140 hx hby hml hown hZ hw hret hlk SH SD SC EH ED EC x0 x1 x2 x3 x4 x5 x6 s0 (1 : Int32) (own_ng_f0 aH aD aC (own_of_f0 aH aD aC s0)) r hf
def own_law_f109 (aH aD aC : Addr) (x0 : Int32) (x1 : Int32) (x2 : Int32) (x3 : Addr) (x4 : Addr) (x5 : Int32) (x6 : Int32) : Int32 := (if (x1 &&& (1 : Int32)) = 0 then own_law_f120 aH aD aC x0 x1 x2 x3 x4 x5 x6 (0 : Int32) else own_law_f120 aH aD aC x0 x1 x2 x3 x4 x5 x6 (1 : Int32))
set_option maxRecDepth 65536 in
set_option maxHeartbeats 4000000 in
theorem own_law_b109 (hx : p.tables.exec = Jvm.exec) (hby : c.code = code) (hml : c.maxLocals = maxLocals) (hown : s.vm.findClass "com/example/querne/querne/conformance/JudgementNegatedPinLaw" = some m.cls) {Z : State} {a0 : Array Value} (hZ : Z.Warmed39 s.vm) (hw : ∀ d ∈ tables_1, d.before a0 Z = true) (hret : meth.sig.returnType = some .boolean) (hlk : meth.locks = false) {aH aD aC : Addr} (SH : Sta Z h "com/example/querne/querne/conformance/Judgement" "HOLDS" "Lcom/example/querne/querne/conformance/Judgement;" (.ref aH)) (SD : Sta Z h "com/example/querne/querne/conformance/Judgement" "DOES_NOT_HOLD" "Lcom/example/querne/querne/conformance/Judgement;" (.ref aD)) (SC : Sta Z h "com/example/querne/querne/conformance/Judgement" "CANNOT_JUDGE" "Lcom/example/querne/querne/conformance/Judgement;" (.ref aC)) (EH : Exa Z h aH "com/example/querne/querne/conformance/Judgement") (ED : Exa Z h aD "com/example/querne/querne/conformance/Judgement") (EC : Exa Z h aC "com/example/querne/querne/conformance/Judgement") (x0 : Int32) (x1 : Int32) (x2 : Int32) (x3 : Addr) (x4 : Addr) (x5 : Int32) (x6 : Int32) (r : Int32) (hf : own_law_f109 aH aD aC x0 x1 x2 x3 x4 x5 x6 = r) : own_W p l e room_1 s m args below meth c n0 0 0 (fun v _ => v = .int r) 0 0 h 109 #[.val (.int x0), .val (.int x1), .val (.int x2), .val (.ref x3), .val (.ref x4), .val (.int x5), .val (.int x6), .unset, .unset] [] := by
  unfold own_law_f109 at hf
  refine own_iloadN hx (hb hby at_109) rfl (pc' := 110) rfl ?_
  refine own_iconst hx (z := (1 : Int32)) (hb hby at_110) (by decide) (pc' := 111) rfl ?_
  refine own_iand hx (hb hby at_111) (pc' := 112) rfl ?_
  refine own_ieq0 hx (hb hby at_112) (by decide) (pc' := 119) (by decide) (pc2 := 115) rfl hf (fun hf => ?_) (fun hf => ?_)
  · refine own_iconst hx (z := (0 : Int32)) (hb hby at_119) (by decide) (pc' := 120) rfl ?_
    exact own_law_b120 hx hby hml hown hZ hw hret hlk SH SD SC EH ED EC x0 x1 x2 x3 x4 x5 x6 (0 : Int32) r hf
  · refine own_iconst hx (z := (1 : Int32)) (hb hby at_115) (by decide) (pc' := 116) rfl ?_
    refine own_goto hx (hb hby at_116) (by decide) (pc' := 120) (by decide) ?_
    exact own_law_b120 hx hby hml hown hZ hw hret hlk SH SD SC EH ED EC x0 x1 x2 x3 x4 x5 x6 (1 : Int32) r hf
def own_law_f61 (aH aD aC : Addr) (x0 : Int32) (x1 : Int32) (x2 : Int32) (x3 : Addr) (x4 : Addr) (s0 : Int32) : Int32 := (if x3 = aC then (if x4 = aC then own_law_f109 aH aD aC x0 x1 x2 x3 x4 s0 (1 : Int32) else own_law_f109 aH aD aC x0 x1 x2 x3 x4 s0 (0 : Int32)) else (if x4 = x3 then own_law_f109 aH aD aC x0 x1 x2 x3 x4 s0 (0 : Int32) else (if x4 = aC then own_law_f109 aH aD aC x0 x1 x2 x3 x4 s0 (0 : Int32) else own_law_f109 aH aD aC x0 x1 x2 x3 x4 s0 (1 : Int32))))
set_option maxRecDepth 65536 in
set_option maxHeartbeats 4000000 in
theorem own_law_b61 (hx : p.tables.exec = Jvm.exec) (hby : c.code = code) (hml : c.maxLocals = maxLocals) (hown : s.vm.findClass "com/example/querne/querne/conformance/JudgementNegatedPinLaw" = some m.cls) {Z : State} {a0 : Array Value} (hZ : Z.Warmed39 s.vm) (hw : ∀ d ∈ tables_1, d.before a0 Z = true) (hret : meth.sig.returnType = some .boolean) (hlk : meth.locks = false) {aH aD aC : Addr} (SH : Sta Z h "com/example/querne/querne/conformance/Judgement" "HOLDS" "Lcom/example/querne/querne/conformance/Judgement;" (.ref aH)) (SD : Sta Z h "com/example/querne/querne/conformance/Judgement" "DOES_NOT_HOLD" "Lcom/example/querne/querne/conformance/Judgement;" (.ref aD)) (SC : Sta Z h "com/example/querne/querne/conformance/Judgement" "CANNOT_JUDGE" "Lcom/example/querne/querne/conformance/Judgement;" (.ref aC)) (EH : Exa Z h aH "com/example/querne/querne/conformance/Judgement") (ED : Exa Z h aD "com/example/querne/querne/conformance/Judgement") (EC : Exa Z h aC "com/example/querne/querne/conformance/Judgement") (x0 : Int32) (x1 : Int32) (x2 : Int32) (x3 : Addr) (x4 : Addr) (s0 : Int32) (r : Int32) (hf : own_law_f61 aH aD aC x0 x1 x2 x3 x4 s0 = r) : own_W p l e room_1 s m args below meth c n0 0 0 (fun v _ => v = .int r) 0 0 h 61 #[.val (.int x0), .val (.int x1), .val (.int x2), .val (.ref x3), .val (.ref x4), .unset, .unset, .unset, .unset] [(.int s0)] := by
  unfold own_law_f61 at hf
  refine own_istore hx (L' := #[.val (.int x0), .val (.int x1), .val (.int x2), .val (.ref x3), .val (.ref x4), .val (.int s0), .unset, .unset, .unset]) (hb hby at_61) rfl (pc' := 63) rfl ?_
  refine own_aloadN hx (hb hby at_63) rfl rfl (pc' := 64) rfl ?_
  refine own_getS hx hZ hown (hw _ (List.mem_of_getElem? (i := 12) rfl)) SC (hb hby at_64) (pc' := 67) rfl ?_
  refine own_ane hx (hb hby at_67) (by decide) (pc' := 88) (by decide) (pc2 := 70) rfl hf (fun hf => ?_) (fun hf => ?_)
  · refine own_aload hx (hb hby at_88) rfl rfl (pc' := 90) rfl ?_
    refine own_aloadN hx (hb hby at_90) rfl rfl (pc' := 91) rfl ?_
    refine own_aeq hx (hb hby at_91) (by decide) (pc' := 106) (by decide) (pc2 := 94) rfl hf (fun hf => ?_) (fun hf => ?_)
    · refine own_iconst hx (z := (0 : Int32)) (hb hby at_106) (by decide) (pc' := 107) rfl ?_
      refine own_istore hx (L' := #[.val (.int x0), .val (.int x1), .val (.int x2), .val (.ref x3), .val (.ref x4), .val (.int s0), .val (.int (0 : Int32)), .unset, .unset]) (hb hby at_107) rfl (pc' := 109) rfl ?_
      exact own_law_b109 hx hby hml hown hZ hw hret hlk SH SD SC EH ED EC x0 x1 x2 x3 x4 s0 (0 : Int32) r hf
    · refine own_aload hx (hb hby at_94) rfl rfl (pc' := 96) rfl ?_
      refine own_getS hx hZ hown (hw _ (List.mem_of_getElem? (i := 12) rfl)) SC (hb hby at_96) (pc' := 99) rfl ?_
      refine own_aeq hx (hb hby at_99) (by decide) (pc' := 106) (by decide) (pc2 := 102) rfl hf (fun hf => ?_) (fun hf => ?_)
      · refine own_iconst hx (z := (0 : Int32)) (hb hby at_106) (by decide) (pc' := 107) rfl ?_
        refine own_istore hx (L' := #[.val (.int x0), .val (.int x1), .val (.int x2), .val (.ref x3), .val (.ref x4), .val (.int s0), .val (.int (0 : Int32)), .unset, .unset]) (hb hby at_107) rfl (pc' := 109) rfl ?_
        exact own_law_b109 hx hby hml hown hZ hw hret hlk SH SD SC EH ED EC x0 x1 x2 x3 x4 s0 (0 : Int32) r hf
      · refine own_iconst hx (z := (1 : Int32)) (hb hby at_102) (by decide) (pc' := 103) rfl ?_
        refine own_goto hx (hb hby at_103) (by decide) (pc' := 107) (by decide) ?_
        refine own_istore hx (L' := #[.val (.int x0), .val (.int x1), .val (.int x2), .val (.ref x3), .val (.ref x4), .val (.int s0), .val (.int (1 : Int32)), .unset, .unset]) (hb hby at_107) rfl (pc' := 109) rfl ?_
        exact own_law_b109 hx hby hml hown hZ hw hret hlk SH SD SC EH ED EC x0 x1 x2 x3 x4 s0 (1 : Int32) r hf
  · refine own_aload hx (hb hby at_70) rfl rfl (pc' := 72) rfl ?_
    refine own_getS hx hZ hown (hw _ (List.mem_of_getElem? (i := 12) rfl)) SC (hb hby at_72) (pc' := 75) rfl ?_
    refine own_ane hx (hb hby at_75) (by decide) (pc' := 82) (by decide) (pc2 := 78) rfl hf (fun hf => ?_) (fun hf => ?_)
    · refine own_iconst hx (z := (0 : Int32)) (hb hby at_82) (by decide) (pc' := 83) rfl ?_
      refine own_istore hx (L' := #[.val (.int x0), .val (.int x1), .val (.int x2), .val (.ref x3), .val (.ref x4), .val (.int s0), .val (.int (0 : Int32)), .unset, .unset]) (hb hby at_83) rfl (pc' := 85) rfl ?_
      refine own_goto hx (hb hby at_85) (by decide) (pc' := 109) (by decide) ?_
      exact own_law_b109 hx hby hml hown hZ hw hret hlk SH SD SC EH ED EC x0 x1 x2 x3 x4 s0 (0 : Int32) r hf
    · refine own_iconst hx (z := (1 : Int32)) (hb hby at_78) (by decide) (pc' := 79) rfl ?_
      refine own_goto hx (hb hby at_79) (by decide) (pc' := 83) (by decide) ?_
      refine own_istore hx (L' := #[.val (.int x0), .val (.int x1), .val (.int x2), .val (.ref x3), .val (.ref x4), .val (.int s0), .val (.int (1 : Int32)), .unset, .unset]) (hb hby at_83) rfl (pc' := 85) rfl ?_
      refine own_goto hx (hb hby at_85) (by decide) (pc' := 109) (by decide) ?_
      exact own_law_b109 hx hby hml hown hZ hw hret hlk SH SD SC EH ED EC x0 x1 x2 x3 x4 s0 (1 : Int32) r hf
def own_law_f0 (aH aD aC : Addr) (x0 : Int32) (x1 : Int32) : Int32 := (if ((x0 &&& (2147483647 : Int32)) % (3 : Int32)) = 0 then (if (own_ng_f0 aH aD aC (own_ng_f0 aH aD aC aH)) = aH then own_law_f61 aH aD aC x0 x1 ((x0 &&& (2147483647 : Int32)) % (3 : Int32)) aH (own_ng_f0 aH aD aC aH) (1 : Int32) else own_law_f61 aH aD aC x0 x1 ((x0 &&& (2147483647 : Int32)) % (3 : Int32)) aH (own_ng_f0 aH aD aC aH) (0 : Int32)) else (if ((x0 &&& (2147483647 : Int32)) % (3 : Int32)) = (1 : Int32) then (if (own_ng_f0 aH aD aC (own_ng_f0 aH aD aC aD)) = aD then own_law_f61 aH aD aC x0 x1 ((x0 &&& (2147483647 : Int32)) % (3 : Int32)) aD (own_ng_f0 aH aD aC aD) (1 : Int32) else own_law_f61 aH aD aC x0 x1 ((x0 &&& (2147483647 : Int32)) % (3 : Int32)) aD (own_ng_f0 aH aD aC aD) (0 : Int32)) else (if (own_ng_f0 aH aD aC (own_ng_f0 aH aD aC aC)) = aC then own_law_f61 aH aD aC x0 x1 ((x0 &&& (2147483647 : Int32)) % (3 : Int32)) aC (own_ng_f0 aH aD aC aC) (1 : Int32) else own_law_f61 aH aD aC x0 x1 ((x0 &&& (2147483647 : Int32)) % (3 : Int32)) aC (own_ng_f0 aH aD aC aC) (0 : Int32))))
set_option maxRecDepth 65536 in
set_option maxHeartbeats 4000000 in
theorem own_law_b0 (hx : p.tables.exec = Jvm.exec) (hby : c.code = code) (hml : c.maxLocals = maxLocals) (hown : s.vm.findClass "com/example/querne/querne/conformance/JudgementNegatedPinLaw" = some m.cls) {Z : State} {a0 : Array Value} (hZ : Z.Warmed39 s.vm) (hw : ∀ d ∈ tables_1, d.before a0 Z = true) (hret : meth.sig.returnType = some .boolean) (hlk : meth.locks = false) {aH aD aC : Addr} (SH : Sta Z h "com/example/querne/querne/conformance/Judgement" "HOLDS" "Lcom/example/querne/querne/conformance/Judgement;" (.ref aH)) (SD : Sta Z h "com/example/querne/querne/conformance/Judgement" "DOES_NOT_HOLD" "Lcom/example/querne/querne/conformance/Judgement;" (.ref aD)) (SC : Sta Z h "com/example/querne/querne/conformance/Judgement" "CANNOT_JUDGE" "Lcom/example/querne/querne/conformance/Judgement;" (.ref aC)) (EH : Exa Z h aH "com/example/querne/querne/conformance/Judgement") (ED : Exa Z h aD "com/example/querne/querne/conformance/Judgement") (EC : Exa Z h aC "com/example/querne/querne/conformance/Judgement") (x0 : Int32) (x1 : Int32) (r : Int32) (hf : own_law_f0 aH aD aC x0 x1 = r) : own_W p l e room_1 s m args below meth c n0 0 0 (fun v _ => v = .int r) 0 0 h 0 #[.val (.int x0), .val (.int x1), .unset, .unset, .unset, .unset, .unset, .unset, .unset] [] := by
  unfold own_law_f0 at hf
  refine own_iloadN hx (hb hby at_0) rfl (pc' := 1) rfl ?_
  refine own_ldc hx hZ hown (hw _ (List.mem_of_getElem? (i := 0) rfl)) (hb hby at_1) (pc' := 3) rfl ?_
  refine own_iand hx (hb hby at_3) (pc' := 4) rfl ?_
  refine own_iconst hx (z := (3 : Int32)) (hb hby at_4) (by decide) (pc' := 5) rfl ?_
  refine own_irem hx (hb hby at_5) (by decide) (pc' := 6) rfl ?_
  refine own_istoreN hx (L' := #[.val (.int x0), .val (.int x1), .val (.int ((x0 &&& (2147483647 : Int32)) % (3 : Int32))), .unset, .unset, .unset, .unset, .unset, .unset]) (hb hby at_6) rfl (pc' := 7) rfl ?_
  refine own_iloadN hx (hb hby at_7) rfl (pc' := 8) rfl ?_
  refine own_ine0 hx (hb hby at_8) (by decide) (pc' := 18) (by decide) (pc2 := 11) rfl hf (fun hf => ?_) (fun hf => ?_)
  · refine own_iloadN hx (hb hby at_18) rfl (pc' := 19) rfl ?_
    refine own_iconst hx (z := (1 : Int32)) (hb hby at_19) (by decide) (pc' := 20) rfl ?_
    refine own_ine hx (hb hby at_20) (by decide) (pc' := 30) (by decide) (pc2 := 23) rfl hf (fun hf => ?_) (fun hf => ?_)
    · refine own_getS hx hZ hown (hw _ (List.mem_of_getElem? (i := 12) rfl)) SC (hb hby at_30) (pc' := 33) rfl ?_
      refine own_astoreN hx (L' := #[.val (.int x0), .val (.int x1), .val (.int ((x0 &&& (2147483647 : Int32)) % (3 : Int32))), .val (.ref aC), .unset, .unset, .unset, .unset, .unset]) (hb hby at_33) rfl rfl (pc' := 34) rfl ?_
      refine own_aloadN hx (hb hby at_34) rfl rfl (pc' := 35) rfl ?_
      refine own_callV hx hZ hown (hw _ (List.mem_of_getElem? (i := 4) rfl)) (hw _ (List.mem_of_getElem? (i := 5) rfl)) (hw _ (List.mem_of_getElem? (i := 6) rfl)) (hw _ (List.mem_of_getElem? (i := 7) rfl)) (hw _ (List.mem_of_getElem? (i := 2) rfl)) (hw _ (List.mem_of_getElem? (i := 8) rfl)) (by decide) (argsL := []) (S := []) (by first | exact EH | exact ED | exact EC | exact own_ng_exa EH ED EC _ | exact own_of_exa EH ED _) (own_ng_C l Z a0 hw n0 h SH SD SC aC) own_pdN rfl (by decide) (Nat.le_of_ble_eq_true rfl) (by rw [hml]; rfl) rfl (hb hby at_35) (by decide) (by decide) (pc' := 38) rfl ?_
      refine own_astore hx (L' := #[.val (.int x0), .val (.int x1), .val (.int ((x0 &&& (2147483647 : Int32)) % (3 : Int32))), .val (.ref aC), .val (.ref (own_ng_f0 aH aD aC aC)), .unset, .unset, .unset, .unset]) (hb hby at_38) rfl rfl (pc' := 40) rfl ?_
      refine own_aload hx (hb hby at_40) rfl rfl (pc' := 42) rfl ?_
      refine own_ifnonnull hx (hb hby at_42) (by decide) (pc' := 47) (by decide) ?_
      refine own_aload hx (hb hby at_47) rfl rfl (pc' := 49) rfl ?_
      refine own_callV hx hZ hown (hw _ (List.mem_of_getElem? (i := 4) rfl)) (hw _ (List.mem_of_getElem? (i := 5) rfl)) (hw _ (List.mem_of_getElem? (i := 6) rfl)) (hw _ (List.mem_of_getElem? (i := 7) rfl)) (hw _ (List.mem_of_getElem? (i := 2) rfl)) (hw _ (List.mem_of_getElem? (i := 8) rfl)) (by decide) (argsL := []) (S := []) (by first | exact EH | exact ED | exact EC | exact own_ng_exa EH ED EC _ | exact own_of_exa EH ED _) (own_ng_C l Z a0 hw n0 h SH SD SC (own_ng_f0 aH aD aC aC)) own_pdN rfl (by decide) (Nat.le_of_ble_eq_true rfl) (by rw [hml]; rfl) rfl (hb hby at_49) (by decide) (by decide) (pc' := 52) rfl ?_
      refine own_aloadN hx (hb hby at_52) rfl rfl (pc' := 53) rfl ?_
      refine own_ane hx (hb hby at_53) (by decide) (pc' := 60) (by decide) (pc2 := 56) rfl hf (fun hf => ?_) (fun hf => ?_)
      · refine own_iconst hx (z := (0 : Int32)) (hb hby at_60) (by decide) (pc' := 61) rfl ?_
        exact own_law_b61 hx hby hml hown hZ hw hret hlk SH SD SC EH ED EC x0 x1 ((x0 &&& (2147483647 : Int32)) % (3 : Int32)) aC (own_ng_f0 aH aD aC aC) (0 : Int32) r hf
      · refine own_iconst hx (z := (1 : Int32)) (hb hby at_56) (by decide) (pc' := 57) rfl ?_
        refine own_goto hx (hb hby at_57) (by decide) (pc' := 61) (by decide) ?_
        exact own_law_b61 hx hby hml hown hZ hw hret hlk SH SD SC EH ED EC x0 x1 ((x0 &&& (2147483647 : Int32)) % (3 : Int32)) aC (own_ng_f0 aH aD aC aC) (1 : Int32) r hf
    · refine own_getS hx hZ hown (hw _ (List.mem_of_getElem? (i := 18) rfl)) SD (hb hby at_23) (pc' := 26) rfl ?_
      refine own_astoreN hx (L' := #[.val (.int x0), .val (.int x1), .val (.int ((x0 &&& (2147483647 : Int32)) % (3 : Int32))), .val (.ref aD), .unset, .unset, .unset, .unset, .unset]) (hb hby at_26) rfl rfl (pc' := 27) rfl ?_
      refine own_goto hx (hb hby at_27) (by decide) (pc' := 34) (by decide) ?_
      refine own_aloadN hx (hb hby at_34) rfl rfl (pc' := 35) rfl ?_
      refine own_callV hx hZ hown (hw _ (List.mem_of_getElem? (i := 4) rfl)) (hw _ (List.mem_of_getElem? (i := 5) rfl)) (hw _ (List.mem_of_getElem? (i := 6) rfl)) (hw _ (List.mem_of_getElem? (i := 7) rfl)) (hw _ (List.mem_of_getElem? (i := 2) rfl)) (hw _ (List.mem_of_getElem? (i := 8) rfl)) (by decide) (argsL := []) (S := []) (by first | exact EH | exact ED | exact EC | exact own_ng_exa EH ED EC _ | exact own_of_exa EH ED _) (own_ng_C l Z a0 hw n0 h SH SD SC aD) own_pdN rfl (by decide) (Nat.le_of_ble_eq_true rfl) (by rw [hml]; rfl) rfl (hb hby at_35) (by decide) (by decide) (pc' := 38) rfl ?_
      refine own_astore hx (L' := #[.val (.int x0), .val (.int x1), .val (.int ((x0 &&& (2147483647 : Int32)) % (3 : Int32))), .val (.ref aD), .val (.ref (own_ng_f0 aH aD aC aD)), .unset, .unset, .unset, .unset]) (hb hby at_38) rfl rfl (pc' := 40) rfl ?_
      refine own_aload hx (hb hby at_40) rfl rfl (pc' := 42) rfl ?_
      refine own_ifnonnull hx (hb hby at_42) (by decide) (pc' := 47) (by decide) ?_
      refine own_aload hx (hb hby at_47) rfl rfl (pc' := 49) rfl ?_
      refine own_callV hx hZ hown (hw _ (List.mem_of_getElem? (i := 4) rfl)) (hw _ (List.mem_of_getElem? (i := 5) rfl)) (hw _ (List.mem_of_getElem? (i := 6) rfl)) (hw _ (List.mem_of_getElem? (i := 7) rfl)) (hw _ (List.mem_of_getElem? (i := 2) rfl)) (hw _ (List.mem_of_getElem? (i := 8) rfl)) (by decide) (argsL := []) (S := []) (by first | exact EH | exact ED | exact EC | exact own_ng_exa EH ED EC _ | exact own_of_exa EH ED _) (own_ng_C l Z a0 hw n0 h SH SD SC (own_ng_f0 aH aD aC aD)) own_pdN rfl (by decide) (Nat.le_of_ble_eq_true rfl) (by rw [hml]; rfl) rfl (hb hby at_49) (by decide) (by decide) (pc' := 52) rfl ?_
      refine own_aloadN hx (hb hby at_52) rfl rfl (pc' := 53) rfl ?_
      refine own_ane hx (hb hby at_53) (by decide) (pc' := 60) (by decide) (pc2 := 56) rfl hf (fun hf => ?_) (fun hf => ?_)
      · refine own_iconst hx (z := (0 : Int32)) (hb hby at_60) (by decide) (pc' := 61) rfl ?_
        exact own_law_b61 hx hby hml hown hZ hw hret hlk SH SD SC EH ED EC x0 x1 ((x0 &&& (2147483647 : Int32)) % (3 : Int32)) aD (own_ng_f0 aH aD aC aD) (0 : Int32) r hf
      · refine own_iconst hx (z := (1 : Int32)) (hb hby at_56) (by decide) (pc' := 57) rfl ?_
        refine own_goto hx (hb hby at_57) (by decide) (pc' := 61) (by decide) ?_
        exact own_law_b61 hx hby hml hown hZ hw hret hlk SH SD SC EH ED EC x0 x1 ((x0 &&& (2147483647 : Int32)) % (3 : Int32)) aD (own_ng_f0 aH aD aC aD) (1 : Int32) r hf
  · refine own_getS hx hZ hown (hw _ (List.mem_of_getElem? (i := 1) rfl)) SH (hb hby at_11) (pc' := 14) rfl ?_
    refine own_astoreN hx (L' := #[.val (.int x0), .val (.int x1), .val (.int ((x0 &&& (2147483647 : Int32)) % (3 : Int32))), .val (.ref aH), .unset, .unset, .unset, .unset, .unset]) (hb hby at_14) rfl rfl (pc' := 15) rfl ?_
    refine own_goto hx (hb hby at_15) (by decide) (pc' := 34) (by decide) ?_
    refine own_aloadN hx (hb hby at_34) rfl rfl (pc' := 35) rfl ?_
    refine own_callV hx hZ hown (hw _ (List.mem_of_getElem? (i := 4) rfl)) (hw _ (List.mem_of_getElem? (i := 5) rfl)) (hw _ (List.mem_of_getElem? (i := 6) rfl)) (hw _ (List.mem_of_getElem? (i := 7) rfl)) (hw _ (List.mem_of_getElem? (i := 2) rfl)) (hw _ (List.mem_of_getElem? (i := 8) rfl)) (by decide) (argsL := []) (S := []) (by first | exact EH | exact ED | exact EC | exact own_ng_exa EH ED EC _ | exact own_of_exa EH ED _) (own_ng_C l Z a0 hw n0 h SH SD SC aH) own_pdN rfl (by decide) (Nat.le_of_ble_eq_true rfl) (by rw [hml]; rfl) rfl (hb hby at_35) (by decide) (by decide) (pc' := 38) rfl ?_
    refine own_astore hx (L' := #[.val (.int x0), .val (.int x1), .val (.int ((x0 &&& (2147483647 : Int32)) % (3 : Int32))), .val (.ref aH), .val (.ref (own_ng_f0 aH aD aC aH)), .unset, .unset, .unset, .unset]) (hb hby at_38) rfl rfl (pc' := 40) rfl ?_
    refine own_aload hx (hb hby at_40) rfl rfl (pc' := 42) rfl ?_
    refine own_ifnonnull hx (hb hby at_42) (by decide) (pc' := 47) (by decide) ?_
    refine own_aload hx (hb hby at_47) rfl rfl (pc' := 49) rfl ?_
    refine own_callV hx hZ hown (hw _ (List.mem_of_getElem? (i := 4) rfl)) (hw _ (List.mem_of_getElem? (i := 5) rfl)) (hw _ (List.mem_of_getElem? (i := 6) rfl)) (hw _ (List.mem_of_getElem? (i := 7) rfl)) (hw _ (List.mem_of_getElem? (i := 2) rfl)) (hw _ (List.mem_of_getElem? (i := 8) rfl)) (by decide) (argsL := []) (S := []) (by first | exact EH | exact ED | exact EC | exact own_ng_exa EH ED EC _ | exact own_of_exa EH ED _) (own_ng_C l Z a0 hw n0 h SH SD SC (own_ng_f0 aH aD aC aH)) own_pdN rfl (by decide) (Nat.le_of_ble_eq_true rfl) (by rw [hml]; rfl) rfl (hb hby at_49) (by decide) (by decide) (pc' := 52) rfl ?_
    refine own_aloadN hx (hb hby at_52) rfl rfl (pc' := 53) rfl ?_
    refine own_ane hx (hb hby at_53) (by decide) (pc' := 60) (by decide) (pc2 := 56) rfl hf (fun hf => ?_) (fun hf => ?_)
    · refine own_iconst hx (z := (0 : Int32)) (hb hby at_60) (by decide) (pc' := 61) rfl ?_
      exact own_law_b61 hx hby hml hown hZ hw hret hlk SH SD SC EH ED EC x0 x1 ((x0 &&& (2147483647 : Int32)) % (3 : Int32)) aH (own_ng_f0 aH aD aC aH) (0 : Int32) r hf
    · refine own_iconst hx (z := (1 : Int32)) (hb hby at_56) (by decide) (pc' := 57) rfl ?_
      refine own_goto hx (hb hby at_57) (by decide) (pc' := 61) (by decide) ?_
      exact own_law_b61 hx hby hml hown hZ hw hret hlk SH SD SC EH ED EC x0 x1 ((x0 &&& (2147483647 : Int32)) % (3 : Int32)) aH (own_ng_f0 aH aD aC aH) (1 : Int32) r hf
/-! the plain law -/
theorem own_plain (aH aD aC : Addr) (q1 : aH ≠ aD) (q2 : aH ≠ aC) (q3 : aD ≠ aC) (x0 x1 : Int32) : own_law_f0 aH aD aC x0 x1 = 1 := by
  have n1 : own_ng_f0 aH aD aC aH = aD := by unfold own_ng_f0 own_ng_f32; rw [if_pos rfl]
  have n2 : own_ng_f0 aH aD aC aD = aH := by unfold own_ng_f0 own_ng_f32; rw [if_neg (Ne.symm q1), if_pos rfl]
  have n3 : own_ng_f0 aH aD aC aC = aC := by unfold own_ng_f0 own_ng_f32; rw [if_neg (Ne.symm q2), if_neg (Ne.symm q3)]
  have o0 : own_of_f0 aH aD aC 0 = aD := by unfold own_of_f0; rw [if_pos rfl]
  have o1 : own_of_f0 aH aD aC 1 = aH := by unfold own_of_f0; rw [if_neg (by decide)]
  have e151 : ∀ (u v w : Int32) (j n : Addr) (b : Int32), own_law_f151 aH aD aC u v w j n 1 1 b 1 = 1 := fun _ _ _ _ _ _ => rfl
  have e109 : ∀ (u v w : Int32) (j n : Addr), own_law_f109 aH aD aC u v w j n 1 1 = 1 := fun u v w j n => by
    unfold own_law_f109 own_law_f120
    split
    · rw [if_pos rfl]; unfold own_law_f140; rw [o0, o1, n2, if_pos rfl]; rfl
    · rw [if_neg (by decide)]; unfold own_law_f140; rw [o0, o1, n1, if_pos rfl]; rfl
  unfold own_law_f0
  split
  · rw [n1, n2, if_pos rfl]
    unfold own_law_f61
    rw [if_neg q2, if_neg (Ne.symm q1), if_neg q3]; exact e109 _ _ _ _ _
  · split
    · rw [n2, n1, if_pos rfl]
      unfold own_law_f61
      rw [if_neg q3, if_neg q1, if_neg q2]; exact e109 _ _ _ _ _
    · rw [n3, n3, if_pos rfl]
      unfold own_law_f61
      rw [if_pos rfl, if_pos rfl]; exact e109 _ _ _ _ _

theorem own_pn : plainName x.cls = true := by first | (simp [x, plainName, overriddenIn]; done) | decide +kernel

theorem own_law_ef (m : MethodId) (i0 : Int32) (i1 : Int32) : entryFrame m #[(.int i0), (.int i1)] maxLocals = mkF m 0 #[.val (.int i0), .val (.int i1), .unset, .unset, .unset, .unset, .unset, .unset, .unset] [] := by first | (simp [entryFrame, mkF, argsToLocals, Value.category, maxLocals]; done) | rfl
theorem own_law_M (l : Launch) (Z : State) (a0 : Array Value) (hw : ∀ d ∈ tables_1, d.before a0 Z = true) (n0 : Nat) (h : Heap) (Z0 : n0 ≤ h.size) {aH aD aC : Addr} (SH : Sta Z h "com/example/querne/querne/conformance/Judgement" "HOLDS" "Lcom/example/querne/querne/conformance/Judgement;" (.ref aH)) (SD : Sta Z h "com/example/querne/querne/conformance/Judgement" "DOES_NOT_HOLD" "Lcom/example/querne/querne/conformance/Judgement;" (.ref aD)) (SC : Sta Z h "com/example/querne/querne/conformance/Judgement" "CANNOT_JUDGE" "Lcom/example/querne/querne/conformance/Judgement;" (.ref aC)) (EH : Exa Z h aH "com/example/querne/querne/conformance/Judgement") (ED : Exa Z h aD "com/example/querne/querne/conformance/Judgement") (EC : Exa Z h aC "com/example/querne/querne/conformance/Judgement") (q1 : aH ≠ aD) (q2 : aH ≠ aC) (q3 : aD ≠ aC) (i0 : Int32) (i1 : Int32) :
    MetFree l x (head1 (Jvm.Cond.code x code maxLocals ret :: tables_1) room_1) (fun a U => a = #[(.int i0), (.int i1)] ∧ Z.Warmed39 U.vm ∧ U.heap = h) (fun _ _ _ _ _ => True) (fun _ U o U' => ∃ v Lq, o = .returned v ∧ (∃ w, v = some w ∧ w = .int 1 ∧ Fr n0 Lq) ∧ FrameEnd U o U' Lq 0 0) :=
  own_met (Q := fun v _ => v = .int 1) own_pn (fun m => own_law_ef m i0 i1) fun p e s m below meth c hx hby hml hown hZ hret hlk => own_law_b0 hx hby hml hown hZ hw hret hlk SH SD SC EH ED EC i0 i1 1 (own_plain aH aD aC q1 q2 q3 i0 i1)

end Own2
set_option maxRecDepth 65536 in
set_option maxHeartbeats 40000000 in
theorem own_comes {Post : Tables → Env → Array Value → State → Outcome → State → Prop} (hpost : ∀ tb e args s v u, (limb_1_1.after args s (.returned v) u = true ∧ limb_1_2.after args s (.returned v) u = true ∧ True) → FrameEnd s (.returned v) u (Jvm.fieldLocs frame_1_writes args s ++ Jvm.arrayLocs frame_1_arrays args s ++ Jvm.staticLocs frame_1_statics s) 0 0 → Post tb e args s (.returned v) u) :
    ArmFor flags0 classFile x code maxLocals ret World_1 tables_1 room_1 Calls_1 rest_1 Pre_1 Post := by
  intro l hfl _ _ p e ha hc hk s m args below hf hA hF happ hP
  obtain ⟨hcalls, hrest, hpre⟩ := hP
  obtain ⟨-, -, -, hnamed, -, -, -, hat⟩ := (Spec.applies_iff hf).mp happ
  obtain ⟨hg, hn⟩ := and_e (Cond.before_iff.mp (show (Jvm.Cond.and given_1 narrow_1).before args s = true from hpre))
  obtain ⟨g0, t0⟩ := and_e hg
  obtain ⟨g1, t1⟩ := and_e t0
  obtain ⟨w0, w1, rfl⟩ : ∃ w0 w1 : Value, args = #[w0, w1] := by
    have hs : args.size = 2 := by simpa [Cond.value, given_1] using g0
    obtain ⟨L⟩ := args
    match L, hs with
    | [w0, w1], _ => exact ⟨w0, w1, rfl⟩
  have hw := fun d (hd : d ∈ tables_1) => atoms_spec (ws := Jvm.Cond.code x code maxLocals ret :: tables_1) hat d (List.mem_cons_of_mem _ hd)
  obtain ⟨i0, e0⟩ := is_v g1
  obtain rfl : w0 = (.int i0) := Option.some.inj e0
  obtain ⟨i1, e1⟩ := is_v t1
  obtain rfl : w1 = (.int i1) := Option.some.inj e1
  obtain ⟨c0, r0⟩ := and_e hn
  obtain ⟨c1, r1⟩ := and_e r0
  obtain ⟨c2, r2⟩ := and_e r1
  obtain ⟨c3, r3⟩ := and_e r2
  obtain ⟨c4, c5⟩ := and_e r3
  obtain ⟨aH, eH⟩ := exa_v c0
  obtain ⟨aD, eD⟩ := exa_v c1
  obtain ⟨aC, eC⟩ := exa_v c4
  have SH := Sta.start eH (Or.inr ⟨hw _ (List.mem_of_getElem? (i := 2) rfl), hw _ (List.mem_of_getElem? (i := 3) rfl)⟩)
  have SD := Sta.start eD (Or.inr ⟨hw _ (List.mem_of_getElem? (i := 2) rfl), hw _ (List.mem_of_getElem? (i := 11) rfl)⟩)
  have SC := Sta.start eC (Or.inr ⟨hw _ (List.mem_of_getElem? (i := 2) rfl), hw _ (List.mem_of_getElem? (i := 13) rfl)⟩)
  have fD := (fld_at eD).symm.trans (eqv_i (Term.int_eval (1)) c2)
  have fH := (fld_at eH).symm.trans (eqv_i (Term.int_eval (0)) c3)
  have fC := (fld_at eC).symm.trans (eqv_i (Term.int_eval (2)) c5)
  have q1 : aH ≠ aD := fun q => by rw [q, fD] at fH; exact absurd (Value.int.inj (Option.some.inj fH)) (by decide)
  have q2 : aH ≠ aC := fun q => by rw [q, fC] at fH; exact absurd (Value.int.inj (Option.some.inj fH)) (by decide)
  have q3 : aD ≠ aC := fun q => by rw [q, fC] at fD; exact absurd (Value.int.inj (Option.some.inj fD)) (by decide)
  obtain ⟨n, o, h1, h2, h3, _, L, rfl, ⟨_, rfl, rfl, N⟩, hq⟩ := own_law_M l s _ hw s.heap.size s.heap (Nat.le_refl _) SH SD SC (Exa.start eH c0) (Exa.start eD c1) (Exa.start eC c4) q1 q2 q3 i0 i1 p e ha hc hk s m _ below hf ((Spec.applies_iff_loose hf).mp happ).1 ⟨rfl, State.Warmed39.refl s, rfl⟩ trivial
  refine ⟨n, _, h1, h2, h3, hpost _ _ _ _ _ _ ⟨Cond.after_iff.mpr rfl, Cond.after_iff.mpr (eq_i res_at (Term.int_eval (1)) rfl), trivial⟩ ⟨hq.1, hq.2.1, (hq.2.2.sift fun y hy => Or.inr (N y hy)).mono (by decide) (by decide)⟩⟩
theorem main_1_1 : Claimed_1_1 := own_comes fun _ _ _ _ _ _ h hF => ⟨h.1, hF⟩
theorem main_1_2 : Claimed_1_2 := own_comes fun _ _ _ _ _ _ h hF => ⟨h.2.1, hF⟩
end Jvm.Pilot.@@N@@
namespace Jvm.Pilot.@@N@@
open Jvm Jvm.ClassFile Sem Op Lib Jvm.Free Jvm.Stand Jvm.Pilot.@@N@@.Jvm.D
/-! MADE BY PROGRAM (witnessworld.py) out of the Statement's table words and the real class files: 12 classes; the members and pool entries that the words name. The judged class is class 1, her method 1. -/
namespace start1
open Jvm.ClassFile
def u (s : String) : CpInfo := .utf8 (stringToUtf16 s)
/-- a pool by its gaps: so many unusable entries, then the entry; so many at the end -/
def gap : Nat → List CpInfo → List CpInfo
  | 0, r => r
  | n + 1, r => .unusable :: gap n r
def poolList (es : List (Nat × CpInfo)) (last : Nat) : List CpInfo := es.foldr (fun e r => gap e.1 (e.2 :: r)) (gap last [])
def pool (es : List (Nat × CpInfo)) (last : Nat) : Array CpInfo := ⟨poolList es last⟩
def fileOf (pool : Array CpInfo) (this : Nat) (attrs : Array Attribute := #[]) (ms : Array MethodInfo := #[]) (fl : Nat := 33) (sup : Nat := 0) (ifs : Array Nat := #[]) (fds : Array FieldInfo := #[]) : ClassFile where
  minorVersion := 0
  majorVersion := 65
  constantPool := pool
  accessFlags := fl
  thisClass := this
  superClass := sup
  interfaces := ifs
  fields := fds
  methods := ms
  attributes := attrs
def plain (name : String) (sup : Option ClassId) : Class where
  name := name
  kind := .ordinary
  loader := none
  accessFlags := 33
  super := sup
  interfaces := #[]
  cf := none
  fields := #[]
  methods := #[]
  instanceTypes := #[]
  staticTypes := #[]
  resolved := #[]
  callSites := []
  init := .initialized
  statics := none
  mirror := none

def pool0 : Array CpInfo := pool [(5, u "<init>"), (0, u "()V"), (1, .class_ 10), (1, u "java/lang/Object")] 113

def k0m0 : Method := { name := "<init>", desc := "()V", sig := { parameters := [], returnType := none }, accessFlags := 1, code := none }
/-- java/lang/Object -/
def k0 : Class := { plain "java/lang/Object" none with
  accessFlags := 33
  interfaces := #[]
  cf := some (fileOf pool0 8 #[] #[{ accessFlags := 1, nameIndex := 5, descriptorIndex := 6, attributes := #[] }] 33 0 #[] #[])
  fields := #[]
  methods := #[k0m0]
  instanceTypes := #[]
  staticTypes := #[]
  resolved := Array.replicate 124 none
  statics := none }

def pool1 : Array CpInfo := pool [(2, .class_ 4), (1, u "java/lang/Object"), (0, u "<init>"), (0, u "()V"), (0, .integer 2147483647), (0, .fieldref 9 10), (0, .class_ 11), (0, .nameAndType 12 13), (0, u "com/example/querne/querne/conformance/Judgement"), (0, u "HOLDS"), (0, u "Lcom/example/querne/querne/conformance/Judgement;"), (0, .fieldref 9 15), (0, .nameAndType 16 13), (0, u "DOES_NOT_HOLD"), (0, .fieldref 9 18), (0, .nameAndType 19 13), (0, u "CANNOT_JUDGE"), (0, .methodref 9 21), (0, .nameAndType 22 23), (0, u "negated"), (0, u "()Lcom/example/querne/querne/conformance/Judgement;"), (0, .methodref 9 25), (0, .nameAndType 26 27), (0, u "of"), (0, u "(Z)Lcom/example/querne/querne/conformance/Judgement;"), (0, .class_ 29), (0, u "com/example/querne/querne/conformance/JudgementNegatedPinLaw"), (2, u "law"), (0, u "(II)Z")] 3

def k1m0 : Method := { name := "<init>", desc := "()V", sig := { parameters := [], returnType := none }, accessFlags := 1, code := none }
def k1c1 : Code := { maxStack := 2, maxLocals := 9, code := code, exceptionTable := #[], attributes := #[] }
def k1m1 : Method := { name := "law", desc := "(II)Z", sig := { parameters := [.int, .int], returnType := some .boolean }, accessFlags := 9, code := some k1c1 }
/-- com/example/querne/querne/conformance/JudgementNegatedPinLaw -/
def k1 : Class := { plain "com/example/querne/querne/conformance/JudgementNegatedPinLaw" (some 0) with
  accessFlags := 49
  interfaces := #[]
  cf := some (fileOf pool1 28 #[] #[{ accessFlags := 1, nameIndex := 5, descriptorIndex := 6, attributes := #[] }, { accessFlags := 9, nameIndex := 32, descriptorIndex := 33, attributes := #[] }] 49 2 #[] #[])
  fields := #[]
  methods := #[k1m0, k1m1]
  instanceTypes := #[]
  staticTypes := #[]
  resolved := Array.replicate 37 none
  statics := none }

def pool2 : Array CpInfo := pool [(1, .class_ 2), (0, u "java/lang/constant/Constable"), (0, .class_ 4), (0, u "java/lang/Object")] 6

/-- java/lang/constant/Constable -/
def k2 : Class := { plain "java/lang/constant/Constable" (some 0) with
  accessFlags := 1537
  interfaces := #[]
  cf := some (fileOf pool2 1 #[] #[] 1537 3 #[] #[])
  fields := #[]
  methods := #[]
  instanceTypes := #[]
  staticTypes := #[]
  resolved := Array.replicate 11 none
  statics := none }

def pool3 : Array CpInfo := pool [(1, .class_ 2), (0, u "java/lang/Comparable"), (0, .class_ 4), (0, u "java/lang/Object")] 7

/-- java/lang/Comparable -/
def k3 : Class := { plain "java/lang/Comparable" (some 0) with
  accessFlags := 1537
  interfaces := #[]
  cf := some (fileOf pool3 1 #[] #[] 1537 3 #[] #[])
  fields := #[]
  methods := #[]
  instanceTypes := #[]
  staticTypes := #[]
  resolved := Array.replicate 12 none
  statics := none }

def pool4 : Array CpInfo := pool [(1, .class_ 2), (0, u "java/io/Serializable"), (0, .class_ 4), (0, u "java/lang/Object")] 2

/-- java/io/Serializable -/
def k4 : Class := { plain "java/io/Serializable" (some 0) with
  accessFlags := 1537
  interfaces := #[]
  cf := some (fileOf pool4 1 #[] #[] 1537 3 #[] #[])
  fields := #[]
  methods := #[]
  instanceTypes := #[]
  staticTypes := #[]
  resolved := Array.replicate 7 none
  statics := none }

def pool5 : Array CpInfo := pool [(2, .class_ 4), (1, u "java/lang/Enum"), (0, u "name"), (0, u "Ljava/lang/String;"), (2, u "ordinal"), (0, u "I"), (1, .class_ 14), (1, u "java/lang/Object"), (4, u "hash"), (86, .class_ 108), (1, u "java/lang/Enum$EnumDesc"), (2, .class_ 112), (0, u "java/lang/constant/Constable"), (0, .class_ 114), (0, u "java/lang/Comparable"), (0, .class_ 116), (0, u "java/io/Serializable")] 87

/-- java/lang/Enum -/
def k5 : Class := { plain "java/lang/Enum" (some 0) with
  accessFlags := 1057
  interfaces := #[2, 3, 4]
  cf := some (fileOf pool5 2 #[.nestMembers #[106]] #[] 1057 12 #[111, 113, 115] #[{ accessFlags := 18, nameIndex := 5, descriptorIndex := 6, attributes := #[] }, { accessFlags := 18, nameIndex := 9, descriptorIndex := 10, attributes := #[] }, { accessFlags := 2, nameIndex := 19, descriptorIndex := 10, attributes := #[] }])
  fields := #[{ name := "name", type := (.object "java/lang/String"), accessFlags := 18, slot := 0, constantValue := 0 }, { name := "ordinal", type := .int, accessFlags := 18, slot := 1, constantValue := 0 }, { name := "hash", type := .int, accessFlags := 2, slot := 2, constantValue := 0 }]
  methods := #[]
  instanceTypes := #[(.object "java/lang/String"), .int, .int]
  staticTypes := #[]
  resolved := Array.replicate 204 none
  statics := none }

def pool6 : Array CpInfo := pool [(1, .class_ 2), (0, u "com/example/querne/querne/conformance/Judgement"), (0, .fieldref 1 4), (0, .nameAndType 5 6), (0, u "HOLDS"), (0, u "Lcom/example/querne/querne/conformance/Judgement;"), (0, .fieldref 1 8), (0, .nameAndType 9 6), (0, u "DOES_NOT_HOLD"), (0, .fieldref 1 11), (0, .nameAndType 12 6), (0, u "CANNOT_JUDGE"), (2, u "$VALUES"), (0, u "[Lcom/example/querne/querne/conformance/Judgement;"), (6, .class_ 25), (1, u "java/lang/Enum"), (21, u "of"), (0, u "(Z)Lcom/example/querne/querne/conformance/Judgement;"), (1, u "negated"), (0, u "()Lcom/example/querne/querne/conformance/Judgement;")] 4

def k6c0 : Code := { maxStack := 1, maxLocals := 1, code := prog_38_method_4_code, exceptionTable := #[], attributes := #[] }
def k6m0 : Method := { name := "of", desc := "(Z)Lcom/example/querne/querne/conformance/Judgement;", sig := { parameters := [.boolean], returnType := some (.object "com/example/querne/querne/conformance/Judgement") }, accessFlags := 9, code := some k6c0 }
def k6c1 : Code := { maxStack := 2, maxLocals := 2, code := prog_38_method_5_code, exceptionTable := #[], attributes := #[] }
def k6m1 : Method := { name := "negated", desc := "()Lcom/example/querne/querne/conformance/Judgement;", sig := { parameters := [], returnType := some (.object "com/example/querne/querne/conformance/Judgement") }, accessFlags := 1, code := some k6c1 }
/-- com/example/querne/querne/conformance/Judgement -/
def k6 : Class := { plain "com/example/querne/querne/conformance/Judgement" (some 5) with
  accessFlags := 16433
  interfaces := #[]
  cf := some (fileOf pool6 1 #[] #[{ accessFlags := 9, nameIndex := 47, descriptorIndex := 48, attributes := #[] }, { accessFlags := 1, nameIndex := 50, descriptorIndex := 51, attributes := #[] }] 16433 23 #[] #[{ accessFlags := 16409, nameIndex := 5, descriptorIndex := 6, attributes := #[] }, { accessFlags := 16409, nameIndex := 9, descriptorIndex := 6, attributes := #[] }, { accessFlags := 16409, nameIndex := 12, descriptorIndex := 6, attributes := #[] }, { accessFlags := 4122, nameIndex := 15, descriptorIndex := 16, attributes := #[] }])
  fields := #[{ name := "HOLDS", type := (.object "com/example/querne/querne/conformance/Judgement"), accessFlags := 16409, slot := 0, constantValue := 0 }, { name := "DOES_NOT_HOLD", type := (.object "com/example/querne/querne/conformance/Judgement"), accessFlags := 16409, slot := 1, constantValue := 0 }, { name := "CANNOT_JUDGE", type := (.object "com/example/querne/querne/conformance/Judgement"), accessFlags := 16409, slot := 2, constantValue := 0 }, { name := "$VALUES", type := (.array (.object "com/example/querne/querne/conformance/Judgement")), accessFlags := 4122, slot := 3, constantValue := 0 }]
  methods := #[k6m0, k6m1]
  instanceTypes := #[(.object "java/lang/String"), .int, .int]
  staticTypes := #[(.object "com/example/querne/querne/conformance/Judgement"), (.object "com/example/querne/querne/conformance/Judgement"), (.object "com/example/querne/querne/conformance/Judgement"), (.array (.object "com/example/querne/querne/conformance/Judgement"))]
  resolved := Array.replicate 56 none
  statics := some 0 }

def pool7 : Array CpInfo := pool [(1, u "java/lang/Cloneable"), (0, .class_ 1), (0, u "java/lang/Object"), (0, .class_ 3)] 3

/-- java/lang/Cloneable -/
def k7 : Class := { plain "java/lang/Cloneable" (some 0) with
  accessFlags := 1537
  interfaces := #[]
  cf := some (fileOf pool7 2 #[] #[] 1537 4 #[] #[])
  fields := #[]
  methods := #[]
  instanceTypes := #[]
  staticTypes := #[]
  resolved := Array.replicate 8 none
  statics := none }

/-- the primitive byte -/
def k8 : Class := { plain "byte" none with kind := .primitive 'B', accessFlags := 0x411 }
/-- [B -/
def k9 : Class := { plain "[B" (some 0) with kind := .array 8 .byte, interfaces := #[7, 4], accessFlags := 1041 }

/-- the primitive int -/
def k10 : Class := { plain "int" none with kind := .primitive 'I', accessFlags := 0x411 }
/-- [I -/
def k11 : Class := { plain "[I" (some 0) with kind := .array 10 .int, interfaces := #[7, 4], accessFlags := 1041 }

def heap : Heap := #[{ cls := 6, slots := #[.ref 1, .ref 2, .ref 3, .null], vm := .statics 6 },
  { cls := 6, slots := #[.null, .int 0, .int 0], vm := .none },
  { cls := 6, slots := #[.null, .int 1, .int 0], vm := .none },
  { cls := 6, slots := #[.null, .int 2, .int 0], vm := .none }]
def classes : Array Class := #[k0, k1, k2, k3, k4, k5, k6, k7, k8, k9, k10, k11]
def interned : List (Array UInt16 × Addr) := []
def slotsUsed : Nat := 13
def theMethod : MethodId := ⟨1, 1⟩
def args0 : Array Value := #[.int 5, .int 3]
def aboutOver (below : List Frame) : State where
  vm := { classes := classes, interned := interned.toArray }
  heap := heap
  slotsUsed := slotsUsed
  threads := #[{ frames := .invoking theMethod args0 :: below }]
def below0 : List Frame := [.native { method := ⟨0, 0⟩, args := #[] }]
def about1 : State := aboutOver below0
def p0 : Program := .bare "" "" ""
def e0 : Env := launch0.env 0 0 0
theorem w_frames : about1.frames = Frame.invoking theMethod args0 :: below0 := rfl
set_option maxRecDepth 65536 in
theorem w_args : argsFit about1.vm theMethod args0 = true := by decide +kernel
set_option maxRecDepth 65536 in
theorem w_heap : heapFits about1 = true := by decide +kernel
set_option maxRecDepth 65536 in
theorem w_runnable : about1.curStatus? = some .runnable := by decide +kernel
set_option maxRecDepth 65536 in
theorem w_alone : about1.alone = true := by decide +kernel
set_option maxRecDepth 65536 in
theorem w_named : about1.methodNamed? x = some theMethod := by decide +kernel
set_option maxRecDepth 65536 in
theorem w_hears : about1.hears theMethod below0 = true := by decide +kernel
set_option maxRecDepth 65536 in
theorem w_ripe : about1.ripe theMethod args0 below0 = true := by decide +kernel
theorem w_running : about1.status = .running := rfl
set_option maxRecDepth 65536 in
theorem w_room : about1.hasRoom e0.platform room_1 = true :=
  launch0.hasRoom_least _ room_1 (by decide +kernel) (by decide +kernel) (by decide +kernel) (by decide +kernel) (by decide +kernel) (by decide +kernel)
theorem allAtoms_all (ts : List Jvm.Cond) (a : Array Jvm.Value) (st : Jvm.State) : (allAtoms ts).before a st = ts.all (fun c => c.before a st) := by
  induction ts with
  | nil => rfl
  | cons c t ih =>
    show (Jvm.Cond.and c (allAtoms t)).before a st = _
    rw [Jvm.Cond.before_and, ih, List.all_cons]
def words1 : List Jvm.Cond := Jvm.Cond.code x code maxLocals ret :: tables_1
/-- a 'code' word, met by the world's own term for the bytes: nothing is compared byte by byte -/
theorem code_word {y : MethodName} {bytes : ByteArray} {mx : Nat} {rt : Option FieldType} {a : Array Value} {s : State} {m : MethodId} {meth : Method} {c : Code} (h1 : s.methodNamed? y = some m) (h2 : s.vm.method? m = some meth) (h3 : meth.code = some c) (h4 : c.code = bytes)
    (h5 : (c.maxLocals == mx && c.exceptionTable.isEmpty && decide (c.maxStack ≤ mostOperands) && decide (meth.sig.returnType = rt) && !meth.locks && decide (parseMethodDescriptor y.desc = some meth.sig)) = true) : (Jvm.Cond.code y bytes mx rt).before a s = true := by
  simp only [Bool.and_eq_true, beq_iff_eq, Bool.not_eq_true', decide_eq_true_eq] at h5
  obtain ⟨⟨⟨⟨⟨g1, g2⟩, g3⟩, g4⟩, g5⟩, g6⟩ := h5
  simp [Cond.before, Cond.holds, Cond.value, h1, h2, h3, h4, g1, g2, g3, g4, g5, g6]
def isCode : Jvm.Cond → Bool
  | .code _ _ _ _ => true
  | _ => false
theorem all_split {L : List Jvm.Cond} {P : Jvm.Cond → Bool} (h1 : L.all (fun c => isCode c || P c) = true) (h2 : ∀ c ∈ L.filter isCode, P c = true) : L.all P = true := by
  refine List.all_eq_true.mpr fun c hc => ?_
  have h := List.all_eq_true.mp h1 c hc
  rcases Bool.eq_false_or_eq_true (isCode c) with hi | hi
  · exact h2 c (List.mem_filter.mpr ⟨hc, hi⟩)
  · simpa [hi] using h
set_option maxRecDepth 65536 in
theorem w_c0 : (Jvm.Cond.code x code maxLocals ret).before args0 about1 = true := code_word (m := ⟨1, 1⟩) (meth := k1m1) (c := k1c1) (by decide +kernel) rfl rfl rfl (by decide +kernel)
set_option maxRecDepth 65536 in
theorem w_c1 : (Jvm.Cond.code ({ cls := "com/example/querne/querne/conformance/Judgement", name := "negated", desc := "()Lcom/example/querne/querne/conformance/Judgement;" } : Jvm.MethodName) prog_38_method_5_code (2 : Nat) (Option.some (Jvm.ClassFile.FieldType.object "com/example/querne/querne/conformance/Judgement"))).before args0 about1 = true := code_word (m := ⟨6, 1⟩) (meth := k6m1) (c := k6c1) (by decide +kernel) rfl rfl rfl (by decide +kernel)
set_option maxRecDepth 65536 in
theorem w_c2 : (Jvm.Cond.code ({ cls := "com/example/querne/querne/conformance/Judgement", name := "of", desc := "(Z)Lcom/example/querne/querne/conformance/Judgement;" } : Jvm.MethodName) prog_38_method_4_code (1 : Nat) (Option.some (Jvm.ClassFile.FieldType.object "com/example/querne/querne/conformance/Judgement"))).before args0 about1 = true := code_word (m := ⟨6, 0⟩) (meth := k6m0) (c := k6c0) (by decide +kernel) rfl rfl rfl (by decide +kernel)
def codes1 : List Jvm.Cond := [Jvm.Cond.code x code maxLocals ret, Jvm.Cond.code ({ cls := "com/example/querne/querne/conformance/Judgement", name := "negated", desc := "()Lcom/example/querne/querne/conformance/Judgement;" } : Jvm.MethodName) prog_38_method_5_code (2 : Nat) (Option.some (Jvm.ClassFile.FieldType.object "com/example/querne/querne/conformance/Judgement")), Jvm.Cond.code ({ cls := "com/example/querne/querne/conformance/Judgement", name := "of", desc := "(Z)Lcom/example/querne/querne/conformance/Judgement;" } : Jvm.MethodName) prog_38_method_4_code (1 : Nat) (Option.some (Jvm.ClassFile.FieldType.object "com/example/querne/querne/conformance/Judgement"))]
set_option maxRecDepth 65536 in
theorem codes_eq : words1.filter isCode = codes1 := rfl
theorem w_codes : ∀ c ∈ words1.filter isCode, c.before args0 about1 = true := by
  rw [codes_eq]
  intro c hc
  simp only [codes1, List.mem_cons, List.not_mem_nil, or_false] at hc
  rcases hc with rfl | rfl | rfl
  · exact w_c0
  · exact w_c1
  · exact w_c2
set_option maxRecDepth 65536 in
theorem w_t1 : words1.all (fun c => isCode c || c.before args0 about1) = true := by decide +kernel
theorem w_tables : (allAtoms (Jvm.Cond.code x code maxLocals ret :: tables_1)).before args0 about1 = true := by
  rw [allAtoms_all]
  show words1.all (fun c => c.before args0 about1) = true
  refine all_split ?_ w_codes
  rw [w_t1]
set_option maxRecDepth 65536 in
theorem w_case : (Jvm.Cond.and given_1 narrow_1).before args0 about1 = true := by decide +kernel
theorem w_applies : (headSpec (Jvm.Cond.code x code maxLocals ret :: tables_1) room_1).applies x e0.platform about1 = true :=
  (Spec.applies_iff w_frames).mpr ⟨w_running, w_runnable, w_alone, w_named, w_hears, w_ripe, w_room, w_tables⟩
theorem atStart : AtStart classFile x code maxLocals ret World_1 tables_1 room_1 Calls_1 rest_1 Pre_1 launch0 p0 e0 about1 theMethod args0 below0 :=
  ⟨lists_1, trivial, launch0.admits_env _ _ _, launch0.least_env, fairChoices_fair.cas, fairChoices_fair.clock, w_frames, w_args, w_heap, w_applies, trivial, trivial, w_case⟩
end start1
theorem witness_1 : WitnessClaimed_1 := ⟨start1.p0, start1.e0, start1.about1, start1.theMethod, start1.args0, start1.below0, start1.atStart⟩
end Jvm.Pilot.@@N@@
