import JvmDerived
import JvmDerived.Pilot.@@N@@Statement
import JvmDerived.Pilot.@@N@@Code
set_option linter.unusedVariables false
set_option linter.unusedSimpArgs false
namespace Jvm.Pilot.@@N@@
open Jvm Jvm.ClassFile Sem Op Lib Jvm.Free Jvm.Stand Jvm.LawKit Jvm.RoadKit Bundle Jvm.Pilot.@@N@@.Jvm.D
/-! The shared layer: from every state that stands at pc (locals L, operands S, over the heap h) the body ends and returns a value of which Q holds. -/
section Own
variable {p : Program} {l : Launch} {e : Env} {R : Room} {s : State} {m : MethodId} {args : Array Value} {below : List Frame} {meth : Method} {c : Code} {n0 mc ms k n : Nat} {Q : Value → Heap → Prop} {h : Heap} {pc pc' : Nat} {L : Array Slot} {S : List Value}
def own_W (p : Program) (l : Launch) (e : Env) (R : Room) (s : State) (m : MethodId) (args : Array Value) (below : List Frame) (meth : Method) (c : Code) (n0 mc ms : Nat) (Q : Value → Heap → Prop) (k n : Nat) (h : Heap) (pc : Nat) (L : Array Slot) (S : List Value) : Prop :=
  ∀ (T : State) (locs : List Loc), Stand p l e R s m args below meth c T locs k n → T.heap = h → Fr n0 locs →
    ∃ (t : State) (o : Outcome), Steps p.tables e below (T.setTop (mkF m pc L S)) t ∧ t.status = .running ∧ Ended t below o ∧ ∃ (v : Value) (lo : List Loc), o = .returned (some v) ∧ (Q v t.heap ∧ Fr n0 lo) ∧ FrameEnd s o t lo mc ms
abbrev own_R0 : Room := { frames := 0, cells := 0, slots := 0, locals := 0 }
theorem own_step {L' : Array Slot} {S' : List Value} (st : ∀ (T : State) (locs : List Loc), Stand p l e R s m args below meth c T locs k n → ∀ t, Steps p.tables e below (T.setTop (mkF m pc' L' S')) t → Steps p.tables e below (T.setTop (mkF m pc L S)) t) (hr : own_W p l e R s m args below meth c n0 mc ms Q k n h pc' L' S') : own_W p l e R s m args below meth c n0 mc ms Q k n h pc L S := fun T locs X hh N => by
  obtain ⟨t, o, a, r⟩ := hr T locs X hh N
  exact ⟨t, o, st T locs X t a, r⟩
theorem own_iloadN (hx : p.tables.exec = Jvm.exec) {i : Fin 4} {v : Int32} (hd : decode c.code pc = .ok (.iload_n i, 1)) (hl : L[i.val]? = some (.val (.int v))) (hp : pc + 1 = pc') (hr : own_W p l e R s m args below meth c n0 mc ms Q k n h pc' L (.int v :: S)) : own_W p l e R s m args below meth c n0 mc ms Q k n h pc L S := by
  subst hp
  exact own_step (fun T locs X t a => XS.iloadN X.here hx rfl hd hl a) hr
theorem own_iload (hx : p.tables.exec = Jvm.exec) {i : Nat} {v : Int32} (hd : decode c.code pc = .ok (.iload i, 2)) (hl : L[i]? = some (.val (.int v))) (hp : pc + 2 = pc') (hr : own_W p l e R s m args below meth c n0 mc ms Q k n h pc' L (.int v :: S)) : own_W p l e R s m args below meth c n0 mc ms Q k n h pc L S := by
  subst hp
  exact own_step (fun T locs X t a => XS.iload X.here hx rfl hd hl a) hr
theorem own_aloadN (hx : p.tables.exec = Jvm.exec) {i : Fin 4} {v : Value} (hd : decode c.code pc = .ok (.aload_n i, 1)) (hl : L[i.val]? = some (.val v)) (hv : v.isRef = true) (hp : pc + 1 = pc') (hr : own_W p l e R s m args below meth c n0 mc ms Q k n h pc' L (v :: S)) : own_W p l e R s m args below meth c n0 mc ms Q k n h pc L S := by
  subst hp
  exact own_step (fun T locs X t a => XS.aloadN X.here hx rfl hd hl hv a) hr
theorem own_aload (hx : p.tables.exec = Jvm.exec) {i : Nat} {v : Value} (hd : decode c.code pc = .ok (.aload i, 2)) (hl : L[i]? = some (.val v)) (hv : v.isRef = true) (hp : pc + 2 = pc') (hr : own_W p l e R s m args below meth c n0 mc ms Q k n h pc' L (v :: S)) : own_W p l e R s m args below meth c n0 mc ms Q k n h pc L S := by
  subst hp
  exact own_step (fun T locs X t a => XS.aload X.here hx rfl hd hl hv a) hr
theorem own_iconst (hx : p.tables.exec = Jvm.exec) {i : Int} {z : Int32} (hd : decode c.code pc = .ok (.iconst i, 1)) (hz : Int32.ofInt i = z) (hp : pc + 1 = pc') (hr : own_W p l e R s m args below meth c n0 mc ms Q k n h pc' L (.int z :: S)) : own_W p l e R s m args below meth c n0 mc ms Q k n h pc L S := by
  subst hp
  exact own_step (fun T locs X t a => XS.iconst X.here hx rfl hd (by rw [hz]; exact a)) hr
theorem own_bipush (hx : p.tables.exec = Jvm.exec) {i : Int} {z : Int32} (hd : decode c.code pc = .ok (.bipush i, 2)) (hz : (Int8.ofInt i).toInt32 = z) (hp : pc + 2 = pc') (hr : own_W p l e R s m args below meth c n0 mc ms Q k n h pc' L (.int z :: S)) : own_W p l e R s m args below meth c n0 mc ms Q k n h pc L S := by
  subst hp
  exact own_step (fun T locs X t a => XS.bipush X.here hx rfl hd (by rw [hz]; exact a)) hr
theorem own_sipush (hx : p.tables.exec = Jvm.exec) {i : Int} {z : Int32} (hd : decode c.code pc = .ok (.sipush i, 3)) (hz : (Int16.ofInt i).toInt32 = z) (hp : pc + 3 = pc') (hr : own_W p l e R s m args below meth c n0 mc ms Q k n h pc' L (.int z :: S)) : own_W p l e R s m args below meth c n0 mc ms Q k n h pc L S := by
  subst hp
  exact own_step (fun T locs X t a => XS.sipush X.here hx rfl hd (by rw [hz]; exact a)) hr
theorem own_ldc (hx : p.tables.exec = Jvm.exec) {own : String} {i : Nat} {z : Int32} {Z : State} {a0 : Array Value} (hZ : Z.Warmed39 s.vm) (hown : s.vm.findClass own = some m.cls) (w : (Jvm.Cond.constant own i z).before a0 Z = true) (hd : decode c.code pc = .ok (.ldc i, 2))  (hp : pc + 2 = pc') (hr : own_W p l e R s m args below meth c n0 mc ms Q k n h pc' L (.int z :: S)) : own_W p l e R s m args below meth c n0 mc ms Q k n h pc L S := by
  subst hp
  exact own_step (fun T locs X t a => X.ldcInt hx hown (mvT hZ w) (g := mkF m pc L S) rfl hd _ a) hr
theorem own_ldc2 (hx : p.tables.exec = Jvm.exec) {own : String} {i : Nat} {z : Int64} {Z : State} {a0 : Array Value} (hZ : Z.Warmed39 s.vm) (hown : s.vm.findClass own = some m.cls) (w : (Jvm.Cond.constantLong own i z).before a0 Z = true) (hd : decode c.code pc = .ok (.ldc2_w i, 3))  (hp : pc + 3 = pc') (hr : own_W p l e R s m args below meth c n0 mc ms Q k n h pc' L (.long z :: S)) : own_W p l e R s m args below meth c n0 mc ms Q k n h pc L S := by
  subst hp
  exact own_step (fun T locs X t a => X.ldc2Long hx hown (mvT hZ w) (g := mkF m pc L S) rfl hd _ a) hr
theorem own_iadd (hx : p.tables.exec = Jvm.exec) {x y : Int32} (hd : decode c.code pc = .ok (.iadd, 1))  (hp : pc + 1 = pc') (hr : own_W p l e R s m args below meth c n0 mc ms Q k n h pc' L (.int (x + y) :: S)) : own_W p l e R s m args below meth c n0 mc ms Q k n h pc L (.int y :: .int x :: S) := by
  subst hp
  exact own_step (fun T locs X t a => XS.iadd X.here hx rfl hd rfl a) hr
theorem own_isub (hx : p.tables.exec = Jvm.exec) {x y : Int32} (hd : decode c.code pc = .ok (.isub, 1))  (hp : pc + 1 = pc') (hr : own_W p l e R s m args below meth c n0 mc ms Q k n h pc' L (.int (x - y) :: S)) : own_W p l e R s m args below meth c n0 mc ms Q k n h pc L (.int y :: .int x :: S) := by
  subst hp
  exact own_step (fun T locs X t a => XS.isub X.here hx rfl hd rfl a) hr
theorem own_iand (hx : p.tables.exec = Jvm.exec) {x y : Int32} (hd : decode c.code pc = .ok (.iand, 1))  (hp : pc + 1 = pc') (hr : own_W p l e R s m args below meth c n0 mc ms Q k n h pc' L (.int (x &&& y) :: S)) : own_W p l e R s m args below meth c n0 mc ms Q k n h pc L (.int y :: .int x :: S) := by
  subst hp
  exact own_step (fun T locs X t a => XS.iand X.here hx rfl hd rfl a) hr
theorem own_irem (hx : p.tables.exec = Jvm.exec) {x y : Int32} (hd : decode c.code pc = .ok (.irem, 1)) (hy : y ≠ 0) (hp : pc + 1 = pc') (hr : own_W p l e R s m args below meth c n0 mc ms Q k n h pc' L (.int (x % y) :: S)) : own_W p l e R s m args below meth c n0 mc ms Q k n h pc L (.int y :: .int x :: S) := by
  subst hp
  exact own_step (fun T locs X t a => XS.irem X.here hx rfl hd rfl hy (by rw [irem_eq_mod]; exact a)) hr
theorem own_ishr (hx : p.tables.exec = Jvm.exec) {x y : Int32} (hd : decode c.code pc = .ok (.ishr, 1))  (hp : pc + 1 = pc') (hr : own_W p l e R s m args below meth c n0 mc ms Q k n h pc' L (.int (x >>> (y &&& 31)) :: S)) : own_W p l e R s m args below meth c n0 mc ms Q k n h pc L (.int y :: .int x :: S) := by
  subst hp
  exact own_step (fun T locs X t a => XT.ishr X.here hx rfl hd rfl a) hr
theorem own_iushr (hx : p.tables.exec = Jvm.exec) {x y : Int32} (hd : decode c.code pc = .ok (.iushr, 1))  (hp : pc + 1 = pc') (hr : own_W p l e R s m args below meth c n0 mc ms Q k n h pc' L (.int (XT.ushr x y) :: S)) : own_W p l e R s m args below meth c n0 mc ms Q k n h pc L (.int y :: .int x :: S) := by
  subst hp
  exact own_step (fun T locs X t a => XT.iushr X.here hx rfl hd rfl a) hr
theorem own_i2c (hx : p.tables.exec = Jvm.exec) {x : Int32} (hd : decode c.code pc = .ok (.i2c, 1))  (hp : pc + 1 = pc') (hr : own_W p l e R s m args below meth c n0 mc ms Q k n h pc' L (.int (x.toUInt32.toUInt16.toUInt32.toInt32) :: S)) : own_W p l e R s m args below meth c n0 mc ms Q k n h pc L (.int x :: S) := by
  subst hp
  exact own_step (fun T locs X t a => XT.i2c X.here hx rfl hd rfl a) hr
theorem own_lushr (hx : p.tables.exec = Jvm.exec) {x : Int64} {y : Int32} (hd : decode c.code pc = .ok (.lushr, 1))  (hp : pc + 1 = pc') (hr : own_W p l e R s m args below meth c n0 mc ms Q k n h pc' L (.long (XT.ushrL x y) :: S)) : own_W p l e R s m args below meth c n0 mc ms Q k n h pc L (.int y :: .long x :: S) := by
  subst hp
  exact own_step (fun T locs X t a => XT.lushr X.here hx rfl hd rfl a) hr
theorem own_land (hx : p.tables.exec = Jvm.exec) {x y : Int64} (hd : decode c.code pc = .ok (.land, 1))  (hp : pc + 1 = pc') (hr : own_W p l e R s m args below meth c n0 mc ms Q k n h pc' L (.long (x &&& y) :: S)) : own_W p l e R s m args below meth c n0 mc ms Q k n h pc L (.long y :: .long x :: S) := by
  subst hp
  exact own_step (fun T locs X t a => XT.land X.here hx rfl hd rfl a) hr
theorem own_lconst (hx : p.tables.exec = Jvm.exec) {i : Fin 2} {z : Int64} (hd : decode c.code pc = .ok (.lconst i, 1)) (hz : Int64.ofNat i = z) (hp : pc + 1 = pc') (hr : own_W p l e R s m args below meth c n0 mc ms Q k n h pc' L (.long z :: S)) : own_W p l e R s m args below meth c n0 mc ms Q k n h pc L S := by
  subst hp
  exact own_step (fun T locs X t a => XT.lconst X.here hx rfl hd (by rw [hz]; exact a)) hr
theorem own_lcmp (hx : p.tables.exec = Jvm.exec) {x y : Int64} (hd : decode c.code pc = .ok (.lcmp, 1))  (hp : pc + 1 = pc') (hr : own_W p l e R s m args below meth c n0 mc ms Q k n h pc' L (.int (XT.cmpL x y) :: S)) : own_W p l e R s m args below meth c n0 mc ms Q k n h pc L (.long y :: .long x :: S) := by
  subst hp
  exact own_step (fun T locs X t a => XT.lcmp X.here hx rfl hd rfl a) hr
theorem own_dup (hx : p.tables.exec = Jvm.exec) {v : Value} (hd : decode c.code pc = .ok (.dup, 1)) (hv : v.category = 1) (hp : pc + 1 = pc') (hr : own_W p l e R s m args below meth c n0 mc ms Q k n h pc' L (v :: v :: S)) : own_W p l e R s m args below meth c n0 mc ms Q k n h pc L (v :: S) := by
  subst hp
  exact own_step (fun T locs X t a => XS.dup X.here hx rfl hd rfl hv a) hr
theorem own_istoreN (hx : p.tables.exec = Jvm.exec) {i : Fin 4} {x : Int32} {L' : Array Slot} (hd : decode c.code pc = .ok (.istore_n i, 1)) (hl : storeLocals L i.val (.int x) = some L') (hp : pc + 1 = pc') (hr : own_W p l e R s m args below meth c n0 mc ms Q k n h pc' L' S) : own_W p l e R s m args below meth c n0 mc ms Q k n h pc L (.int x :: S) := by
  subst hp
  exact own_step (fun T locs X t a => XS.istoreN X.here hx rfl hd rfl hl a) hr
theorem own_istore (hx : p.tables.exec = Jvm.exec) {i : Nat} {x : Int32} {L' : Array Slot} (hd : decode c.code pc = .ok (.istore i, 2)) (hl : storeLocals L i (.int x) = some L') (hp : pc + 2 = pc') (hr : own_W p l e R s m args below meth c n0 mc ms Q k n h pc' L' S) : own_W p l e R s m args below meth c n0 mc ms Q k n h pc L (.int x :: S) := by
  subst hp
  exact own_step (fun T locs X t a => XS.istore X.here hx rfl hd rfl hl a) hr
theorem own_astoreN (hx : p.tables.exec = Jvm.exec) {i : Fin 4} {v : Value} {L' : Array Slot} (hd : decode c.code pc = .ok (.astore_n i, 1)) (hv : v.isRef = true) (hl : storeLocals L i.val v = some L') (hp : pc + 1 = pc') (hr : own_W p l e R s m args below meth c n0 mc ms Q k n h pc' L' S) : own_W p l e R s m args below meth c n0 mc ms Q k n h pc L (v :: S) := by
  subst hp
  exact own_step (fun T locs X t a => XS.astoreN X.here hx rfl hd rfl hv hl a) hr
theorem own_astore (hx : p.tables.exec = Jvm.exec) {i : Nat} {v : Value} {L' : Array Slot} (hd : decode c.code pc = .ok (.astore i, 2)) (hv : v.isRef = true) (hl : storeLocals L i v = some L') (hp : pc + 2 = pc') (hr : own_W p l e R s m args below meth c n0 mc ms Q k n h pc' L' S) : own_W p l e R s m args below meth c n0 mc ms Q k n h pc L (v :: S) := by
  subst hp
  exact own_step (fun T locs X t a => XS.astore X.here hx rfl hd rfl hv hl a) hr
theorem own_goto (hx : p.tables.exec = Jvm.exec) {o : Int} (hd : decode c.code pc = .ok (.goto o, 3)) (ho : 0 ≤ (pc : Int) + o) (hp : ((pc : Int) + o).toNat = pc') (hr : own_W p l e R s m args below meth c n0 mc ms Q k n h pc' L S) : own_W p l e R s m args below meth c n0 mc ms Q k n h pc L S :=
  own_step (fun T locs X t a => XS.goto X.here hx rfl (pc0 := pc) rfl hd ho hp a) hr
theorem own_icmp (hx : p.tables.exec = Jvm.exec) {cd : ClassFile.Cond} {o : Int} {x y : Int32} {pc2 : Nat} (hd : decode c.code pc = .ok (.if_icmp cd o, 3)) (ho : 0 ≤ (pc : Int) + o) (hp : ((pc : Int) + o).toNat = pc') (h3 : pc + 3 = pc2) (hy : if_icmp.holds cd x y = true → own_W p l e R s m args below meth c n0 mc ms Q k n h pc' L S) (hn : if_icmp.holds cd x y = false → own_W p l e R s m args below meth c n0 mc ms Q k n h pc2 L S) : own_W p l e R s m args below meth c n0 mc ms Q k n h pc L (.int y :: .int x :: S) := by
  subst h3
  cases q : if_icmp.holds cd x y with
  | true => exact own_step (fun T locs X t a => XS.icmpYes X.here hx rfl (pc0 := pc) rfl hd rfl q ho hp a) (hy q)
  | false => exact own_step (fun T locs X t a => XS.icmpNo X.here hx rfl hd rfl q a) (hn q)
theorem own_ifc (hx : p.tables.exec = Jvm.exec) {cd : ClassFile.Cond} {o : Int} {x : Int32} {pc2 : Nat} (hd : decode c.code pc = .ok (.ifCond cd o, 3)) (ho : 0 ≤ (pc : Int) + o) (hp : ((pc : Int) + o).toNat = pc') (h3 : pc + 3 = pc2) (hy : ifCond.holds cd x = true → own_W p l e R s m args below meth c n0 mc ms Q k n h pc' L S) (hn : ifCond.holds cd x = false → own_W p l e R s m args below meth c n0 mc ms Q k n h pc2 L S) : own_W p l e R s m args below meth c n0 mc ms Q k n h pc L (.int x :: S) := by
  subst h3
  cases q : ifCond.holds cd x with
  | true => exact own_step (fun T locs X t a => XS.ifYes X.here hx rfl (pc0 := pc) rfl hd rfl q ho hp a) (hy q)
  | false => exact own_step (fun T locs X t a => XS.ifNo X.here hx rfl hd rfl q a) (hn q)
theorem own_ilt (hx : p.tables.exec = Jvm.exec) {α : Type} {A B r : α} {o : Int} {x y : Int32} {pc2 : Nat} (hd : decode c.code pc = .ok (.if_icmp .lt o, 3)) (ho : 0 ≤ (pc : Int) + o) (hp : ((pc : Int) + o).toNat = pc') (h3 : pc + 3 = pc2) (hf : (if x < y then A else B) = r) (hy : A = r → own_W p l e R s m args below meth c n0 mc ms Q k n h pc' L S) (hn : B = r → own_W p l e R s m args below meth c n0 mc ms Q k n h pc2 L S) : own_W p l e R s m args below meth c n0 mc ms Q k n h pc L (.int y :: .int x :: S) := by
  refine own_icmp hx hd ho hp h3 (fun q => hy ?_) (fun q => hn ?_)
  · have q' : x < y := by simpa [if_icmp.holds] using q
    rw [if_pos q'] at hf; exact hf
  · have q' : ¬ (x < y) := by simpa [if_icmp.holds] using q
    rw [if_neg q'] at hf; exact hf
theorem own_ilt0 (hx : p.tables.exec = Jvm.exec) {α : Type} {A B r : α} {o : Int} {x : Int32} {pc2 : Nat} (hd : decode c.code pc = .ok (.ifCond .lt o, 3)) (ho : 0 ≤ (pc : Int) + o) (hp : ((pc : Int) + o).toNat = pc') (h3 : pc + 3 = pc2) (hf : (if x < 0 then A else B) = r) (hy : A = r → own_W p l e R s m args below meth c n0 mc ms Q k n h pc' L S) (hn : B = r → own_W p l e R s m args below meth c n0 mc ms Q k n h pc2 L S) : own_W p l e R s m args below meth c n0 mc ms Q k n h pc L (.int x :: S) := by
  refine own_ifc hx hd ho hp h3 (fun q => hy ?_) (fun q => hn ?_)
  · have q' : x < 0 := by simpa [ifCond.holds] using q
    rw [if_pos q'] at hf; exact hf
  · have q' : ¬ (x < 0) := by simpa [ifCond.holds] using q
    rw [if_neg q'] at hf; exact hf
theorem own_ige (hx : p.tables.exec = Jvm.exec) {α : Type} {A B r : α} {o : Int} {x y : Int32} {pc2 : Nat} (hd : decode c.code pc = .ok (.if_icmp .ge o, 3)) (ho : 0 ≤ (pc : Int) + o) (hp : ((pc : Int) + o).toNat = pc') (h3 : pc + 3 = pc2) (hf : (if y ≤ x then A else B) = r) (hy : A = r → own_W p l e R s m args below meth c n0 mc ms Q k n h pc' L S) (hn : B = r → own_W p l e R s m args below meth c n0 mc ms Q k n h pc2 L S) : own_W p l e R s m args below meth c n0 mc ms Q k n h pc L (.int y :: .int x :: S) := by
  refine own_icmp hx hd ho hp h3 (fun q => hy ?_) (fun q => hn ?_)
  · have q' : y ≤ x := by simpa [if_icmp.holds] using q
    rw [if_pos q'] at hf; exact hf
  · have q' : ¬ (y ≤ x) := by simpa [if_icmp.holds] using q
    rw [if_neg q'] at hf; exact hf
theorem own_ige0 (hx : p.tables.exec = Jvm.exec) {α : Type} {A B r : α} {o : Int} {x : Int32} {pc2 : Nat} (hd : decode c.code pc = .ok (.ifCond .ge o, 3)) (ho : 0 ≤ (pc : Int) + o) (hp : ((pc : Int) + o).toNat = pc') (h3 : pc + 3 = pc2) (hf : (if 0 ≤ x then A else B) = r) (hy : A = r → own_W p l e R s m args below meth c n0 mc ms Q k n h pc' L S) (hn : B = r → own_W p l e R s m args below meth c n0 mc ms Q k n h pc2 L S) : own_W p l e R s m args below meth c n0 mc ms Q k n h pc L (.int x :: S) := by
  refine own_ifc hx hd ho hp h3 (fun q => hy ?_) (fun q => hn ?_)
  · have q' : 0 ≤ x := by simpa [ifCond.holds] using q
    rw [if_pos q'] at hf; exact hf
  · have q' : ¬ (0 ≤ x) := by simpa [ifCond.holds] using q
    rw [if_neg q'] at hf; exact hf
theorem own_igt (hx : p.tables.exec = Jvm.exec) {α : Type} {A B r : α} {o : Int} {x y : Int32} {pc2 : Nat} (hd : decode c.code pc = .ok (.if_icmp .gt o, 3)) (ho : 0 ≤ (pc : Int) + o) (hp : ((pc : Int) + o).toNat = pc') (h3 : pc + 3 = pc2) (hf : (if y < x then A else B) = r) (hy : A = r → own_W p l e R s m args below meth c n0 mc ms Q k n h pc' L S) (hn : B = r → own_W p l e R s m args below meth c n0 mc ms Q k n h pc2 L S) : own_W p l e R s m args below meth c n0 mc ms Q k n h pc L (.int y :: .int x :: S) := by
  refine own_icmp hx hd ho hp h3 (fun q => hy ?_) (fun q => hn ?_)
  · have q' : y < x := by simpa [if_icmp.holds] using q
    rw [if_pos q'] at hf; exact hf
  · have q' : ¬ (y < x) := by simpa [if_icmp.holds] using q
    rw [if_neg q'] at hf; exact hf
theorem own_igt0 (hx : p.tables.exec = Jvm.exec) {α : Type} {A B r : α} {o : Int} {x : Int32} {pc2 : Nat} (hd : decode c.code pc = .ok (.ifCond .gt o, 3)) (ho : 0 ≤ (pc : Int) + o) (hp : ((pc : Int) + o).toNat = pc') (h3 : pc + 3 = pc2) (hf : (if 0 < x then A else B) = r) (hy : A = r → own_W p l e R s m args below meth c n0 mc ms Q k n h pc' L S) (hn : B = r → own_W p l e R s m args below meth c n0 mc ms Q k n h pc2 L S) : own_W p l e R s m args below meth c n0 mc ms Q k n h pc L (.int x :: S) := by
  refine own_ifc hx hd ho hp h3 (fun q => hy ?_) (fun q => hn ?_)
  · have q' : 0 < x := by simpa [ifCond.holds] using q
    rw [if_pos q'] at hf; exact hf
  · have q' : ¬ (0 < x) := by simpa [ifCond.holds] using q
    rw [if_neg q'] at hf; exact hf
theorem own_ile (hx : p.tables.exec = Jvm.exec) {α : Type} {A B r : α} {o : Int} {x y : Int32} {pc2 : Nat} (hd : decode c.code pc = .ok (.if_icmp .le o, 3)) (ho : 0 ≤ (pc : Int) + o) (hp : ((pc : Int) + o).toNat = pc') (h3 : pc + 3 = pc2) (hf : (if x ≤ y then A else B) = r) (hy : A = r → own_W p l e R s m args below meth c n0 mc ms Q k n h pc' L S) (hn : B = r → own_W p l e R s m args below meth c n0 mc ms Q k n h pc2 L S) : own_W p l e R s m args below meth c n0 mc ms Q k n h pc L (.int y :: .int x :: S) := by
  refine own_icmp hx hd ho hp h3 (fun q => hy ?_) (fun q => hn ?_)
  · have q' : x ≤ y := by simpa [if_icmp.holds] using q
    rw [if_pos q'] at hf; exact hf
  · have q' : ¬ (x ≤ y) := by simpa [if_icmp.holds] using q
    rw [if_neg q'] at hf; exact hf
theorem own_ile0 (hx : p.tables.exec = Jvm.exec) {α : Type} {A B r : α} {o : Int} {x : Int32} {pc2 : Nat} (hd : decode c.code pc = .ok (.ifCond .le o, 3)) (ho : 0 ≤ (pc : Int) + o) (hp : ((pc : Int) + o).toNat = pc') (h3 : pc + 3 = pc2) (hf : (if x ≤ 0 then A else B) = r) (hy : A = r → own_W p l e R s m args below meth c n0 mc ms Q k n h pc' L S) (hn : B = r → own_W p l e R s m args below meth c n0 mc ms Q k n h pc2 L S) : own_W p l e R s m args below meth c n0 mc ms Q k n h pc L (.int x :: S) := by
  refine own_ifc hx hd ho hp h3 (fun q => hy ?_) (fun q => hn ?_)
  · have q' : x ≤ 0 := by simpa [ifCond.holds] using q
    rw [if_pos q'] at hf; exact hf
  · have q' : ¬ (x ≤ 0) := by simpa [ifCond.holds] using q
    rw [if_neg q'] at hf; exact hf
theorem own_ieq (hx : p.tables.exec = Jvm.exec) {α : Type} {A B r : α} {o : Int} {x y : Int32} {pc2 : Nat} (hd : decode c.code pc = .ok (.if_icmp .eq o, 3)) (ho : 0 ≤ (pc : Int) + o) (hp : ((pc : Int) + o).toNat = pc') (h3 : pc + 3 = pc2) (hf : (if x = y then A else B) = r) (hy : A = r → own_W p l e R s m args below meth c n0 mc ms Q k n h pc' L S) (hn : B = r → own_W p l e R s m args below meth c n0 mc ms Q k n h pc2 L S) : own_W p l e R s m args below meth c n0 mc ms Q k n h pc L (.int y :: .int x :: S) := by
  refine own_icmp hx hd ho hp h3 (fun q => hy ?_) (fun q => hn ?_)
  · have q' : x = y := by simpa [if_icmp.holds] using q
    rw [if_pos q'] at hf; exact hf
  · have q' : ¬ (x = y) := by simpa [if_icmp.holds] using q
    rw [if_neg q'] at hf; exact hf
theorem own_ieq0 (hx : p.tables.exec = Jvm.exec) {α : Type} {A B r : α} {o : Int} {x : Int32} {pc2 : Nat} (hd : decode c.code pc = .ok (.ifCond .eq o, 3)) (ho : 0 ≤ (pc : Int) + o) (hp : ((pc : Int) + o).toNat = pc') (h3 : pc + 3 = pc2) (hf : (if x = 0 then A else B) = r) (hy : A = r → own_W p l e R s m args below meth c n0 mc ms Q k n h pc' L S) (hn : B = r → own_W p l e R s m args below meth c n0 mc ms Q k n h pc2 L S) : own_W p l e R s m args below meth c n0 mc ms Q k n h pc L (.int x :: S) := by
  refine own_ifc hx hd ho hp h3 (fun q => hy ?_) (fun q => hn ?_)
  · have q' : x = 0 := by simpa [ifCond.holds] using q
    rw [if_pos q'] at hf; exact hf
  · have q' : ¬ (x = 0) := by simpa [ifCond.holds] using q
    rw [if_neg q'] at hf; exact hf
theorem own_ine (hx : p.tables.exec = Jvm.exec) {α : Type} {A B r : α} {o : Int} {x y : Int32} {pc2 : Nat} (hd : decode c.code pc = .ok (.if_icmp .ne o, 3)) (ho : 0 ≤ (pc : Int) + o) (hp : ((pc : Int) + o).toNat = pc') (h3 : pc + 3 = pc2) (hf : (if x = y then A else B) = r) (hy : B = r → own_W p l e R s m args below meth c n0 mc ms Q k n h pc' L S) (hn : A = r → own_W p l e R s m args below meth c n0 mc ms Q k n h pc2 L S) : own_W p l e R s m args below meth c n0 mc ms Q k n h pc L (.int y :: .int x :: S) := by
  refine own_icmp hx hd ho hp h3 (fun q => hy ?_) (fun q => hn ?_)
  · have q' : ¬ (x = y) := by simpa [if_icmp.holds] using q
    rw [if_neg q'] at hf; exact hf
  · have q' : x = y := by simpa [if_icmp.holds] using q
    rw [if_pos q'] at hf; exact hf
theorem own_ine0 (hx : p.tables.exec = Jvm.exec) {α : Type} {A B r : α} {o : Int} {x : Int32} {pc2 : Nat} (hd : decode c.code pc = .ok (.ifCond .ne o, 3)) (ho : 0 ≤ (pc : Int) + o) (hp : ((pc : Int) + o).toNat = pc') (h3 : pc + 3 = pc2) (hf : (if x = 0 then A else B) = r) (hy : B = r → own_W p l e R s m args below meth c n0 mc ms Q k n h pc' L S) (hn : A = r → own_W p l e R s m args below meth c n0 mc ms Q k n h pc2 L S) : own_W p l e R s m args below meth c n0 mc ms Q k n h pc L (.int x :: S) := by
  refine own_ifc hx hd ho hp h3 (fun q => hy ?_) (fun q => hn ?_)
  · have q' : ¬ (x = 0) := by simpa [ifCond.holds] using q
    rw [if_neg q'] at hf; exact hf
  · have q' : x = 0 := by simpa [ifCond.holds] using q
    rw [if_pos q'] at hf; exact hf
theorem own_aeq (hx : p.tables.exec = Jvm.exec) {α : Type} {A B r : α} {o : Int} {x y : Addr} {pc2 : Nat} (hd : decode c.code pc = .ok (.if_acmp .eq o, 3)) (ho : 0 ≤ (pc : Int) + o) (hp : ((pc : Int) + o).toNat = pc') (h3 : pc + 3 = pc2) (hf : (if x = y then A else B) = r) (hy : A = r → own_W p l e R s m args below meth c n0 mc ms Q k n h pc' L S) (hn : B = r → own_W p l e R s m args below meth c n0 mc ms Q k n h pc2 L S) : own_W p l e R s m args below meth c n0 mc ms Q k n h pc L (.ref y :: .ref x :: S) := by
  subst h3
  by_cases q : x = y
  · rw [if_pos q] at hf
    exact own_step (fun T locs X t a => XT.acmpYes X.here hx rfl (pc0 := pc) rfl hd rfl rfl rfl (by simp [XT.acmp, q]) ho hp a) (hy hf)
  · rw [if_neg q] at hf
    exact own_step (fun T locs X t a => XT.acmpNo X.here hx rfl hd rfl rfl rfl (by simp [XT.acmp, q]) a) (hn hf)
theorem own_ane (hx : p.tables.exec = Jvm.exec) {α : Type} {A B r : α} {o : Int} {x y : Addr} {pc2 : Nat} (hd : decode c.code pc = .ok (.if_acmp .ne o, 3)) (ho : 0 ≤ (pc : Int) + o) (hp : ((pc : Int) + o).toNat = pc') (h3 : pc + 3 = pc2) (hf : (if x = y then A else B) = r) (hy : B = r → own_W p l e R s m args below meth c n0 mc ms Q k n h pc' L S) (hn : A = r → own_W p l e R s m args below meth c n0 mc ms Q k n h pc2 L S) : own_W p l e R s m args below meth c n0 mc ms Q k n h pc L (.ref y :: .ref x :: S) := by
  subst h3
  by_cases q : x = y
  · rw [if_pos q] at hf
    exact own_step (fun T locs X t a => XT.acmpNo X.here hx rfl hd rfl rfl rfl (by simp [XT.acmp, q]) a) (hn hf)
  · rw [if_neg q] at hf
    exact own_step (fun T locs X t a => XT.acmpYes X.here hx rfl (pc0 := pc) rfl hd rfl rfl rfl (by simp [XT.acmp, q]) ho hp a) (hy hf)
theorem own_ifnonnull (hx : p.tables.exec = Jvm.exec) {o : Int} {x : Addr} (hd : decode c.code pc = .ok (.ifnonnull o, 3)) (ho : 0 ≤ (pc : Int) + o) (hp : ((pc : Int) + o).toNat = pc') (hr : own_W p l e R s m args below meth c n0 mc ms Q k n h pc' L S) : own_W p l e R s m args below meth c n0 mc ms Q k n h pc L (.ref x :: S) :=
  own_step (fun T locs X t a => XT.ifnonnullYes X.here hx rfl (pc0 := pc) rfl hd rfl ho hp a) hr
theorem own_ifnullNo (hx : p.tables.exec = Jvm.exec) {o : Int} {x : Addr} (hd : decode c.code pc = .ok (.ifnull o, 3)) (hp : pc + 3 = pc') (hr : own_W p l e R s m args below meth c n0 mc ms Q k n h pc' L S) : own_W p l e R s m args below meth c n0 mc ms Q k n h pc L (.ref x :: S) := by
  subst hp
  exact own_step (fun T locs X t a => XS.ifnullNo X.here hx rfl hd rfl a) hr
theorem own_ifnullYes (hx : p.tables.exec = Jvm.exec) {o : Int} (hd : decode c.code pc = .ok (.ifnull o, 3)) (ho : 0 ≤ (pc : Int) + o) (hp : ((pc : Int) + o).toNat = pc') (hr : own_W p l e R s m args below meth c n0 mc ms Q k n h pc' L S) : own_W p l e R s m args below meth c n0 mc ms Q k n h pc L (.null :: S) :=
  own_step (fun T locs X t a => XS.ifnullYes X.here hx rfl (pc0 := pc) rfl hd rfl ho hp a) hr
theorem own_tswIn (hx : p.tables.exec = Jvm.exec) {dflt low high o : Int} {offs : Array Int} {len : Nat} {i : Int32} (hd : decode c.code pc = .ok (.tableswitch dflt low high offs, len)) (hin : ¬ (i.toInt < low ∨ i.toInt > high)) (hoff : offs[(i.toInt - low).toNat]? = some o) (ho : 0 ≤ (pc : Int) + o) (hp : ((pc : Int) + o).toNat = pc') (hr : own_W p l e R s m args below meth c n0 mc ms Q k n h pc' L S) : own_W p l e R s m args below meth c n0 mc ms Q k n h pc L (.int i :: S) :=
  own_step (fun T locs X t a => XS.tswIn X.here hx rfl (pc0 := pc) rfl hd rfl hin hoff ho hp a) hr
theorem own_tswOut (hx : p.tables.exec = Jvm.exec) {dflt low high : Int} {offs : Array Int} {len : Nat} {i : Int32} (hd : decode c.code pc = .ok (.tableswitch dflt low high offs, len)) (hout : i.toInt < low ∨ i.toInt > high) (ho : 0 ≤ (pc : Int) + dflt) (hp : ((pc : Int) + dflt).toNat = pc') (hr : own_W p l e R s m args below meth c n0 mc ms Q k n h pc' L S) : own_W p l e R s m args below meth c n0 mc ms Q k n h pc L (.int i :: S) :=
  own_step (fun T locs X t a => XS.tswOut X.here hx rfl (pc0 := pc) rfl hd rfl hout ho hp a) hr
theorem own_ret (hx : p.tables.exec = Jvm.exec) {w : Value} {t0 : FieldType} {i : Instr} (hret : meth.sig.returnType = some t0) (hlk : meth.locks = false) (hn : narrow t0 w = w)
    (hi : (i = .ireturn ∧ (t0 = .int ∨ t0 = .boolean ∨ t0 = .byte ∨ t0 = .char ∨ t0 = .short) ∧ ∃ z, w = .int z) ∨ (i = .lreturn ∧ t0 = .long ∧ ∃ z, w = .long z) ∨ (i = .dreturn ∧ t0 = .double ∧ ∃ z, w = .double z) ∨ (i = .freturn ∧ t0 = .float ∧ ∃ z, w = .float z) ∨ (i = .areturn ∧ t0.isReference = true ∧ w.isRef = true))
    (hd : decode c.code pc = .ok (i, 1)) (hk : k ≤ mc) (hs : n ≤ ms) (hq : Q w h) : own_W p l e R s m args below meth c n0 mc ms Q k n h pc L (w :: S) := fun T locs X hh N => by
  obtain ⟨fs, hr, hrun, hended, hW, hsame⟩ := X.leave (v := some w) (fun q => by rw [hret] at q; cases q) hlk
  refine ⟨_, _, retOut X hx hret hn hi hd hr, hrun, hended, w, locs, rfl, ⟨?_, N⟩, ⟨_, rfl⟩, hW, hsame.mono hk hs⟩
  show Q w T.heap
  rw [hh]; exact hq
theorem own_retI (hx : p.tables.exec = Jvm.exec) {z : Int32} (hret : meth.sig.returnType = some .int) (hlk : meth.locks = false) (hd : decode c.code pc = .ok (.ireturn, 1)) (hk : k ≤ mc) (hs : n ≤ ms) (hq : Q (.int z) h) : own_W p l e R s m args below meth c n0 mc ms Q k n h pc L (.int z :: S) :=
  own_ret hx hret hlk rfl (Or.inl ⟨rfl, Or.inl rfl, z, rfl⟩) hd hk hs hq
theorem own_retZ (hx : p.tables.exec = Jvm.exec) {z : Int32} (hret : meth.sig.returnType = some .boolean) (hlk : meth.locks = false) (hz : narrow .boolean (.int z) = .int z) (hd : decode c.code pc = .ok (.ireturn, 1)) (hk : k ≤ mc) (hs : n ≤ ms) (hq : Q (.int z) h) : own_W p l e R s m args below meth c n0 mc ms Q k n h pc L (.int z :: S) :=
  own_ret hx hret hlk hz (Or.inl ⟨rfl, Or.inr (Or.inl rfl), z, rfl⟩) hd hk hs hq
theorem own_retA (hx : p.tables.exec = Jvm.exec) {C : String} {a : Addr} (hret : meth.sig.returnType = some (.object C)) (hlk : meth.locks = false) (hd : decode c.code pc = .ok (.areturn, 1)) (hk : k ≤ mc) (hs : n ≤ ms) (hq : Q (.ref a) h) : own_W p l e R s m args below meth c n0 mc ms Q k n h pc L (.ref a :: S) :=
  own_ret hx hret hlk rfl (Or.inr (Or.inr (Or.inr (Or.inr ⟨rfl, rfl, rfl⟩)))) hd hk hs hq
theorem own_getS (hx : p.tables.exec = Jvm.exec) {Z : State} {a0 : Array Value} (hZ : Z.Warmed39 s.vm) {own : String} (hown : s.vm.findClass own = some m.cls) {C nm d : String} {i : Nat} {v : Value} (w : (Jvm.Cond.fieldLink own i C nm d).before a0 Z = true) (F : Sta Z h C nm d v) (hd : decode c.code pc = .ok (.getstatic i, 3)) (hp : pc + 3 = pc') (hr : own_W p l e R s m args below meth c n0 mc ms Q k n h pc' L (v :: S)) : own_W p l e R s m args below meth c n0 mc ms Q k n h pc L S := fun T locs X hh N => by
  subst hp
  obtain ⟨T', X', e', st⟩ := getS X hx hZ (host := "") hown w Via.refl hh F (g := mkF m pc L S) rfl hd
  obtain ⟨t, o, a, r⟩ := hr T' locs X' e' N
  exact ⟨t, o, st t a, r⟩
theorem own_getF (hx : p.tables.exec = Jvm.exec) {Z : State} {a0 : Array Value} (hZ : Z.Warmed39 s.vm) {own : String} (hown : s.vm.findClass own = some m.cls) {C nm d : String} {i : Nat} {b : Addr} {v : Value} (w : (Jvm.Cond.fieldLink own i C nm d).before a0 Z = true) (F : Fld Z h b C nm d v) (hd : decode c.code pc = .ok (.getfield i, 3)) (hp : pc + 3 = pc') (hr : own_W p l e R s m args below meth c n0 mc ms Q k n h pc' L (v :: S)) : own_W p l e R s m args below meth c n0 mc ms Q k n h pc L (.ref b :: S) := fun T locs X hh N => by
  subst hp
  obtain ⟨T', X', e', st⟩ := getF X hx hZ hown (host := "") (Or.inl w) Via.refl hh F (g := mkF m pc L (.ref b :: S)) rfl rfl hd
  obtain ⟨t, o, a, r⟩ := hr T' locs X' e' N
  exact ⟨t, o, st t a, r⟩
def own_IA (Z : State) (h : Heap) (a : Addr) (len : Nat) : Prop := ∃ cl : Cell, Arr Z h a cl .int ∧ cl.slots.size = len ∧ ∀ i, i < len → ∃ x : Int32, cl.slots[i]? = some (.int x)
theorem own_newI (hx : p.tables.exec = Jvm.exec) {Z : State} {a0 : Array Value} (hZ : Z.Warmed39 s.vm) (w : (Jvm.Cond.arrayClass .int).before a0 Z = true) {z : Int32} (hd : decode c.code pc = .ok (.newarray .int, 2)) (hz : ¬ z < 0) {cap : Nat} (hcap : z.toNatClampNeg = cap) (hb : cap * 8 ≤ 536870912) (hc : k + 1 ≤ R.cells) (hl : n + cap ≤ R.slots) (Z0 : n0 ≤ h.size) (hp : pc + 2 = pc')
    (hr : ∀ (h' : Heap) (a : Addr), own_IA Z h' a cap → n0 ≤ a → own_W p l e R s m args below meth c n0 mc ms Q (k + 1) (n + cap) h' pc' L (.ref a :: S)) : own_W p l e R s m args below meth c n0 mc ms Q k n h pc L (.int z :: S) := fun T locs X hh N => by
  subst hp
  obtain ⟨T', h', cA, X', e', E', A', st⟩ := newP X hx hZ (aty := .int) w hh (g := mkF m pc L (.int z :: S)) rfl hd rfl hz (Nat.le_of_eq hcap) hb hc hl
  have I' : own_IA Z h' h.size cap := ⟨_, A', by rw [sz_new]; exact hcap, fun i hi => ⟨0, by
    have hi' : i < z.toNatClampNeg := by omega
    simp [newA, newarray.typeOf, defaultValue, hi']⟩⟩
  obtain ⟨t, o, a, r⟩ := hr h' h.size I' Z0 T' locs X' e' N
  exact ⟨t, o, st t a, r⟩
theorem own_stI (hx : p.tables.exec = Jvm.exec) {Z : State} (hZ : Z.Warmed39 s.vm) {a : Addr} {len : Nat} (A : own_IA Z h a len) (ga : n0 ≤ a) {j x : Int32} (hj : ¬ j < 0) (hj2 : j.toNatClampNeg < len) (hd : decode c.code pc = .ok (.iastore, 1)) (hp : pc + 1 = pc') (hr : ∀ h' : Heap, own_IA Z h' a len → own_W p l e R s m args below meth c n0 mc ms Q k n h' pc' L S) : own_W p l e R s m args below meth c n0 mc ms Q k n h pc L (.int x :: .int j :: .ref a :: S) := fun T locs X hh N => by
  subst hp
  obtain ⟨cl, Ar, sz, el⟩ := A
  obtain ⟨T', h', X', e', W', st⟩ := stI X hx hZ hh Ar (j := j) (x := x) (by rw [sz]; exact fun q => q.elim hj fun r => Nat.not_lt.mpr r hj2) (g := mkF m pc L (.int x :: .int j :: .ref a :: S)) rfl rfl hd
  have I' : own_IA Z h' a len := ⟨_, Ar.same W', by rw [sz_set]; exact sz, fun i hi => by
    by_cases q : j.toNatClampNeg = i
    · exact ⟨x, by subst q; simp [Cell.setSlot, sz, hj2]⟩
    · obtain ⟨y, hy⟩ := el i hi
      exact ⟨y, by rw [show (cl.setSlot j.toNatClampNeg (.int x)).slots = cl.slots.setIfInBounds j.toNatClampNeg (.int x) from rfl, Array.getElem?_setIfInBounds_ne q]; exact hy⟩⟩
  obtain ⟨t, o, b, r⟩ := hr h' I' T' _ X' e' (Fr.snoc X' N ga)
  exact ⟨t, o, st t b, r⟩
theorem own_ldI (hx : p.tables.exec = Jvm.exec) {Z : State} (hZ : Z.Warmed39 s.vm) {a : Addr} {len : Nat} (A : own_IA Z h a len) {j : Int32} (hj : ¬ j < 0) (hj2 : j.toNatClampNeg < len) (hd : decode c.code pc = .ok (.iaload, 1)) (hp : pc + 1 = pc') (hr : ∀ x : Int32, own_W p l e R s m args below meth c n0 mc ms Q k n h pc' L (.int x :: S)) : own_W p l e R s m args below meth c n0 mc ms Q k n h pc L (.int j :: .ref a :: S) := fun T locs X hh N => by
  subst hp
  obtain ⟨cl, Ar, sz, el⟩ := A
  obtain ⟨x, hx'⟩ := el _ hj2
  obtain ⟨t, o, b, r⟩ := hr x T locs X hh N
  exact ⟨t, o, X.iaload hx (j := j) (v := .int x) (by rw [hh]; exact Ar.1) (State.isArrayOf_alike hZ.alike Ar.2.1) Ar.2.2 (by rw [sz]; exact fun q => q.elim hj fun r => Nat.not_lt.mpr r hj2) hx' (g := mkF m pc L (.int j :: .ref a :: S)) rfl rfl hd _ b, r⟩
/-- the callee y, handed as' over the heap h, returns r, and keeps the heap -/
def own_C (l : Launch) (Z : State) (y : MethodName) (bytes : ByteArray) (maxL : Nat) (ret : Option FieldType) (as' : Array Value) (n0 : Nat) (h : Heap) (r : Value) : Prop :=
  MetFree l y (head1 [Jvm.Cond.code y bytes maxL ret] own_R0) (fun a U => a = as' ∧ Z.Warmed39 U.vm ∧ U.heap = h) (fun _ _ _ _ _ => True) (fun _ U o U' => ∃ v Lq, o = .returned v ∧ (∃ w, v = some w ∧ (w = r ∧ U'.heap = h) ∧ Fr n0 Lq) ∧ FrameEnd U o U' Lq own_R0.cells own_R0.slots)
theorem own_callS (hx : p.tables.exec = Jvm.exec) {Z : State} {a0 : Array Value} (hZ : Z.Warmed39 s.vm) {own : String} (hown : s.vm.findClass own = some m.cls) {i : Nat} {y : MethodName} {bytes : ByteArray} {maxL : Nat} {ret : Option FieldType} (w1 : (Jvm.Cond.methodLink own i y).before a0 Z = true) (w2 : (Jvm.Cond.static y).before a0 Z = true) (w3 : (Jvm.Cond.initialized y.cls).before a0 Z = true) (w4 : (Jvm.Cond.code y bytes maxL ret).before a0 Z = true) (hy : y.cls ≠ "java/lang/invoke/MethodHandle" ∧ y.cls ≠ "java/lang/invoke/VarHandle") {argsL : List Value} {r : Value} (hC : own_C l Z y bytes maxL ret argsL.toArray n0 h r) {ps : List FieldType} {rr : Option FieldType} (hps : parseMethodDescriptor y.desc = some ⟨ps, rr⟩) (hlen : argsL.length = ps.length) (hfr : 0 + 1 ≤ R.frames) (hlo : (S.map fun v => v.category).sum + (maxL + 11) + 0 ≤ R.locals) (hml : L.size = c.maxLocals) {S0 : List Value} (hS : S0 = argsL.reverse ++ S) (hd : decode c.code pc = .ok (.invokestatic i, 3)) (hkc : k + 0 ≤ R.cells) (hns : n + 0 ≤ R.slots) (hp : pc + 3 = pc') (hr : own_W p l e R s m args below meth c n0 mc ms Q k n h pc' L (r :: S)) : own_W p l e R s m args below meth c n0 mc ms Q k n h pc L S0 := fun T locs X hh N => by
  subst hp
  obtain ⟨_, _, ⟨T1, L1, k1, n1⟩, -, X1, ⟨Lc, hQ, hl, hk, hn⟩, st⟩ := Jvm.LawKit.callS X hx (y := y) hown (mvT hZ w1) (mvT hZ w2) (mvT hZ w3) (mvT hZ w4) hy (backOf (Q := fun v h' Lq => ∃ w, v = some w ∧ (w = r ∧ h' = h) ∧ Fr n0 Lq) (W := (S.map fun v => v.category).sum) hC hZ w4 w3 hfr hlo) (g := mkF m pc L S0) rfl hml (argsL := argsL) (rest := S) (lenOf hps hlen) hS (by show 2 * 0 + _ ≤ _; omega) hd (fun _ _ => ⟨rfl, hh, hkc, hns⟩)
  dsimp only [Pt.U, Pt.locs, Pt.cells, Pt.slots] at X1 hl hk hn st hQ
  obtain ⟨w, rfl, ⟨rfl, e1⟩, N1⟩ := hQ
  subst hl hk hn
  obtain ⟨t, o, a, q⟩ := hr T1 _ X1 e1 (Fr.app N N1)
  exact ⟨t, o, st t a, q⟩
theorem own_callV (hx : p.tables.exec = Jvm.exec) {Z : State} {a0 : Array Value} (hZ : Z.Warmed39 s.vm) {own : String} (hown : s.vm.findClass own = some m.cls) {i : Nat} {y : MethodName} {bytes : ByteArray} {maxL : Nat} {ret : Option FieldType} (w1 : (Jvm.Cond.methodLink own i y).before a0 Z = true) (w2 : (Jvm.Cond.declares y).before a0 Z = true) (w3 : (Jvm.Cond.instanceMethod y).before a0 Z = true) (w5 : (Jvm.Cond.selects y.cls y y).before a0 Z = true) (wz : (Jvm.Cond.initialized y.cls).before a0 Z = true) (w4 : (Jvm.Cond.code y bytes maxL ret).before a0 Z = true) (hy : y.cls ≠ "java/lang/invoke/MethodHandle" ∧ y.cls ≠ "java/lang/invoke/VarHandle") {argsL : List Value} {b : Addr} {r : Value} (E : Exa Z h b y.cls) (hC : own_C l Z y bytes maxL ret (.ref b :: argsL).toArray n0 h r) {ps : List FieldType} {rr : Option FieldType} (hps : parseMethodDescriptor y.desc = some ⟨ps, rr⟩) (hlen : argsL.length = ps.length) (hfr : 0 + 1 ≤ R.frames) (hlo : (S.map fun v => v.category).sum + (maxL + 11) + 0 ≤ R.locals) (hml : L.size = c.maxLocals) {S0 : List Value} (hS : S0 = argsL.reverse ++ .ref b :: S) (hd : decode c.code pc = .ok (.invokevirtual i, 3)) (hkc : k + 0 ≤ R.cells) (hns : n + 0 ≤ R.slots) (hp : pc + 3 = pc') (hr : own_W p l e R s m args below meth c n0 mc ms Q k n h pc' L (r :: S)) : own_W p l e R s m args below meth c n0 mc ms Q k n h pc L S0 := fun T locs X hh N => by
  subst hp
  obtain ⟨cq, kq, qa, qb, qc⟩ := isOf hZ hh E
  obtain ⟨_, _, ⟨T1, L1, k1, n1⟩, -, X1, ⟨Lc, hQ, hl, hk, hn⟩, st⟩ := X.virtualBack hx (y := y) (z := y) hown (mvT hZ w1) (mvT hZ w2) (notFace_of_selects (args := #[]) (mvT hZ w5)) (mvT hZ w5) (mvT hZ w3) hy (backOf (Q := fun v h' Lq => ∃ w, v = some w ∧ (w = r ∧ h' = h) ∧ Fr n0 Lq) (W := (S.map fun v => v.category).sum) hC hZ w4 wz hfr hlo) qa qc (g := mkF m pc L S0) rfl hml (Steps.refl _) (argsL := argsL) (rest := S) (lenOf hps hlen) hS (by show 2 * 0 + _ ≤ _; omega) hd (fun _ _ => ⟨rfl, hh, hkc, hns⟩)
  dsimp only [Pt.U, Pt.locs, Pt.cells, Pt.slots] at X1 hl hk hn st hQ
  obtain ⟨w, rfl, ⟨rfl, e1⟩, N1⟩ := hQ
  subst hl hk hn
  obtain ⟨t, o, a, q⟩ := hr T1 _ X1 e1 (Fr.app N N1)
  exact ⟨t, o, st.trans a, q⟩
theorem own_met {Z : State} {y : MethodName} {bytes : ByteArray} {maxL : Nat} {ret : Option FieldType} {ws : List Jvm.Cond} {as' : Array Value} {L0 : Array Slot} (hpl : plainName y.cls = true) (hef : ∀ m : MethodId, entryFrame m as' maxL = mkF m 0 L0 [])
    (body : ∀ (p : Program) (e : Env) (s : State) (m : MethodId) (below : List Frame) (meth : Method) (c : Code), p.tables.exec = Jvm.exec → c.code = bytes → c.maxLocals = maxL → s.vm.findClass y.cls = some m.cls → Z.Warmed39 s.vm → meth.sig.returnType = ret → meth.locks = false → own_W p l e R s m as' below meth c n0 mc ms Q 0 0 h 0 L0 []) :
    MetFree l y (head1 (Jvm.Cond.code y bytes maxL ret :: ws) R) (fun a U => a = as' ∧ Z.Warmed39 U.vm ∧ U.heap = h) (fun _ _ _ _ _ => True) (fun _ U o U' => ∃ v Lq, o = .returned v ∧ (∃ w, v = some w ∧ Q w U'.heap ∧ Fr n0 Lq) ∧ FrameEnd U o U' Lq mc ms) := by
  refine MetFree.of_bodySF (plainFor_of_name hpl) hisR ?_
  intro p e s m args below meth c s₁ Bd hml0 hP hK
  obtain ⟨rfl, hZ, hh⟩ := hP
  have X0 : Stand p l e R s m _ below meth c s₁ [] 0 0 := Stand.of_body Bd
  have e0 : s₁.heap = h := by rw [← hh, Bd.state]; rfl
  obtain ⟨t, o, st, h1, h2, v, lo, rfl, ⟨hq, hN⟩, hF⟩ := body p e s m below meth c Bd.exec Bd.bytes hml0 (findClass_of_methodNamed Bd.named) hZ Bd.returns Bd.notSynchronized s₁ [] X0 e0 (Fr.nil n0)
  exact ⟨t, _, castTop (hef m) st, h1, h2, some v, lo, rfl, ⟨v, rfl, hq, hN⟩, hF⟩
end Own

section Own2
variable {p : Program} {l : Launch} {e : Env} {R : Room} {s : State} {m : MethodId} {args : Array Value} {below : List Frame} {meth : Method} {c : Code} {n0 mc ms k n : Nat} {Q : Value → Heap → Prop} {h : Heap} {pc pc' : Nat} {L : Array Slot} {S : List Value}
theorem own_ns_d0 : decode prog_65_method_2_code 0 = .ok (.iload_n 0, 1) := by decide +kernel
theorem own_ns_d1 : decode prog_65_method_2_code 1 = .ok (.bipush 97, 2) := by decide +kernel
theorem own_ns_d3 : decode prog_65_method_2_code 3 = .ok (.if_icmp .lt 9, 3) := by decide +kernel
theorem own_ns_d6 : decode prog_65_method_2_code 6 = .ok (.iload_n 0, 1) := by decide +kernel
theorem own_ns_d7 : decode prog_65_method_2_code 7 = .ok (.bipush 122, 2) := by decide +kernel
theorem own_ns_d9 : decode prog_65_method_2_code 9 = .ok (.if_icmp .le 182, 3) := by decide +kernel
theorem own_ns_d12 : decode prog_65_method_2_code 12 = .ok (.iload_n 0, 1) := by decide +kernel
theorem own_ns_d13 : decode prog_65_method_2_code 13 = .ok (.bipush 65, 2) := by decide +kernel
theorem own_ns_d15 : decode prog_65_method_2_code 15 = .ok (.if_icmp .lt 9, 3) := by decide +kernel
theorem own_ns_d18 : decode prog_65_method_2_code 18 = .ok (.iload_n 0, 1) := by decide +kernel
theorem own_ns_d19 : decode prog_65_method_2_code 19 = .ok (.bipush 90, 2) := by decide +kernel
theorem own_ns_d21 : decode prog_65_method_2_code 21 = .ok (.if_icmp .le 170, 3) := by decide +kernel
theorem own_ns_d24 : decode prog_65_method_2_code 24 = .ok (.iload_n 0, 1) := by decide +kernel
theorem own_ns_d25 : decode prog_65_method_2_code 25 = .ok (.bipush 95, 2) := by decide +kernel
theorem own_ns_d27 : decode prog_65_method_2_code 27 = .ok (.if_icmp .eq 164, 3) := by decide +kernel
theorem own_ns_d30 : decode prog_65_method_2_code 30 = .ok (.iload_n 0, 1) := by decide +kernel
theorem own_ns_d31 : decode prog_65_method_2_code 31 = .ok (.sipush 192, 3) := by decide +kernel
theorem own_ns_d34 : decode prog_65_method_2_code 34 = .ok (.if_icmp .lt 10, 3) := by decide +kernel
theorem own_ns_d37 : decode prog_65_method_2_code 37 = .ok (.iload_n 0, 1) := by decide +kernel
theorem own_ns_d38 : decode prog_65_method_2_code 38 = .ok (.sipush 214, 3) := by decide +kernel
theorem own_ns_d41 : decode prog_65_method_2_code 41 = .ok (.if_icmp .le 150, 3) := by decide +kernel
theorem own_ns_d44 : decode prog_65_method_2_code 44 = .ok (.iload_n 0, 1) := by decide +kernel
theorem own_ns_d45 : decode prog_65_method_2_code 45 = .ok (.sipush 216, 3) := by decide +kernel
theorem own_ns_d48 : decode prog_65_method_2_code 48 = .ok (.if_icmp .lt 10, 3) := by decide +kernel
theorem own_ns_d51 : decode prog_65_method_2_code 51 = .ok (.iload_n 0, 1) := by decide +kernel
theorem own_ns_d52 : decode prog_65_method_2_code 52 = .ok (.sipush 246, 3) := by decide +kernel
theorem own_ns_d55 : decode prog_65_method_2_code 55 = .ok (.if_icmp .le 136, 3) := by decide +kernel
theorem own_ns_d58 : decode prog_65_method_2_code 58 = .ok (.iload_n 0, 1) := by decide +kernel
theorem own_ns_d59 : decode prog_65_method_2_code 59 = .ok (.sipush 248, 3) := by decide +kernel
theorem own_ns_d62 : decode prog_65_method_2_code 62 = .ok (.if_icmp .lt 10, 3) := by decide +kernel
theorem own_ns_d65 : decode prog_65_method_2_code 65 = .ok (.iload_n 0, 1) := by decide +kernel
theorem own_ns_d66 : decode prog_65_method_2_code 66 = .ok (.sipush 767, 3) := by decide +kernel
theorem own_ns_d69 : decode prog_65_method_2_code 69 = .ok (.if_icmp .le 122, 3) := by decide +kernel
theorem own_ns_d72 : decode prog_65_method_2_code 72 = .ok (.iload_n 0, 1) := by decide +kernel
theorem own_ns_d73 : decode prog_65_method_2_code 73 = .ok (.sipush 880, 3) := by decide +kernel
theorem own_ns_d76 : decode prog_65_method_2_code 76 = .ok (.if_icmp .lt 10, 3) := by decide +kernel
theorem own_ns_d79 : decode prog_65_method_2_code 79 = .ok (.iload_n 0, 1) := by decide +kernel
theorem own_ns_d80 : decode prog_65_method_2_code 80 = .ok (.sipush 893, 3) := by decide +kernel
theorem own_ns_d83 : decode prog_65_method_2_code 83 = .ok (.if_icmp .le 108, 3) := by decide +kernel
theorem own_ns_d86 : decode prog_65_method_2_code 86 = .ok (.iload_n 0, 1) := by decide +kernel
theorem own_ns_d87 : decode prog_65_method_2_code 87 = .ok (.sipush 895, 3) := by decide +kernel
theorem own_ns_d90 : decode prog_65_method_2_code 90 = .ok (.if_icmp .lt 10, 3) := by decide +kernel
theorem own_ns_d93 : decode prog_65_method_2_code 93 = .ok (.iload_n 0, 1) := by decide +kernel
theorem own_ns_d94 : decode prog_65_method_2_code 94 = .ok (.sipush 8191, 3) := by decide +kernel
theorem own_ns_d97 : decode prog_65_method_2_code 97 = .ok (.if_icmp .le 94, 3) := by decide +kernel
theorem own_ns_d100 : decode prog_65_method_2_code 100 = .ok (.iload_n 0, 1) := by decide +kernel
theorem own_ns_d101 : decode prog_65_method_2_code 101 = .ok (.sipush 8204, 3) := by decide +kernel
theorem own_ns_d104 : decode prog_65_method_2_code 104 = .ok (.if_icmp .lt 10, 3) := by decide +kernel
theorem own_ns_d107 : decode prog_65_method_2_code 107 = .ok (.iload_n 0, 1) := by decide +kernel
theorem own_ns_d108 : decode prog_65_method_2_code 108 = .ok (.sipush 8205, 3) := by decide +kernel
theorem own_ns_d111 : decode prog_65_method_2_code 111 = .ok (.if_icmp .le 80, 3) := by decide +kernel
theorem own_ns_d114 : decode prog_65_method_2_code 114 = .ok (.iload_n 0, 1) := by decide +kernel
theorem own_ns_d115 : decode prog_65_method_2_code 115 = .ok (.sipush 8304, 3) := by decide +kernel
theorem own_ns_d118 : decode prog_65_method_2_code 118 = .ok (.if_icmp .lt 10, 3) := by decide +kernel
theorem own_ns_d121 : decode prog_65_method_2_code 121 = .ok (.iload_n 0, 1) := by decide +kernel
theorem own_ns_d122 : decode prog_65_method_2_code 122 = .ok (.sipush 8591, 3) := by decide +kernel
theorem own_ns_d125 : decode prog_65_method_2_code 125 = .ok (.if_icmp .le 66, 3) := by decide +kernel
theorem own_ns_d128 : decode prog_65_method_2_code 128 = .ok (.iload_n 0, 1) := by decide +kernel
theorem own_ns_d129 : decode prog_65_method_2_code 129 = .ok (.sipush 11264, 3) := by decide +kernel
theorem own_ns_d132 : decode prog_65_method_2_code 132 = .ok (.if_icmp .lt 10, 3) := by decide +kernel
theorem own_ns_d135 : decode prog_65_method_2_code 135 = .ok (.iload_n 0, 1) := by decide +kernel
theorem own_ns_d136 : decode prog_65_method_2_code 136 = .ok (.sipush 12271, 3) := by decide +kernel
theorem own_ns_d139 : decode prog_65_method_2_code 139 = .ok (.if_icmp .le 52, 3) := by decide +kernel
theorem own_ns_d142 : decode prog_65_method_2_code 142 = .ok (.iload_n 0, 1) := by decide +kernel
theorem own_ns_d143 : decode prog_65_method_2_code 143 = .ok (.sipush 12289, 3) := by decide +kernel
theorem own_ns_d146 : decode prog_65_method_2_code 146 = .ok (.if_icmp .lt 9, 3) := by decide +kernel
theorem own_ns_d149 : decode prog_65_method_2_code 149 = .ok (.iload_n 0, 1) := by decide +kernel
theorem own_ns_d150 : decode prog_65_method_2_code 150 = .ok (.ldc 7, 2) := by decide +kernel
theorem own_ns_d152 : decode prog_65_method_2_code 152 = .ok (.if_icmp .le 39, 3) := by decide +kernel
theorem own_ns_d155 : decode prog_65_method_2_code 155 = .ok (.iload_n 0, 1) := by decide +kernel
theorem own_ns_d156 : decode prog_65_method_2_code 156 = .ok (.ldc 8, 2) := by decide +kernel
theorem own_ns_d158 : decode prog_65_method_2_code 158 = .ok (.if_icmp .lt 9, 3) := by decide +kernel
theorem own_ns_d161 : decode prog_65_method_2_code 161 = .ok (.iload_n 0, 1) := by decide +kernel
theorem own_ns_d162 : decode prog_65_method_2_code 162 = .ok (.ldc 9, 2) := by decide +kernel
theorem own_ns_d164 : decode prog_65_method_2_code 164 = .ok (.if_icmp .le 27, 3) := by decide +kernel
theorem own_ns_d167 : decode prog_65_method_2_code 167 = .ok (.iload_n 0, 1) := by decide +kernel
theorem own_ns_d168 : decode prog_65_method_2_code 168 = .ok (.ldc 10, 2) := by decide +kernel
theorem own_ns_d170 : decode prog_65_method_2_code 170 = .ok (.if_icmp .lt 9, 3) := by decide +kernel
theorem own_ns_d173 : decode prog_65_method_2_code 173 = .ok (.iload_n 0, 1) := by decide +kernel
theorem own_ns_d174 : decode prog_65_method_2_code 174 = .ok (.ldc 11, 2) := by decide +kernel
theorem own_ns_d176 : decode prog_65_method_2_code 176 = .ok (.if_icmp .le 15, 3) := by decide +kernel
theorem own_ns_d179 : decode prog_65_method_2_code 179 = .ok (.iload_n 0, 1) := by decide +kernel
theorem own_ns_d180 : decode prog_65_method_2_code 180 = .ok (.ldc 12, 2) := by decide +kernel
theorem own_ns_d182 : decode prog_65_method_2_code 182 = .ok (.if_icmp .lt 13, 3) := by decide +kernel
theorem own_ns_d185 : decode prog_65_method_2_code 185 = .ok (.iload_n 0, 1) := by decide +kernel
theorem own_ns_d186 : decode prog_65_method_2_code 186 = .ok (.ldc 13, 2) := by decide +kernel
theorem own_ns_d188 : decode prog_65_method_2_code 188 = .ok (.if_icmp .gt 7, 3) := by decide +kernel
theorem own_ns_d191 : decode prog_65_method_2_code 191 = .ok (.iconst 1, 1) := by decide +kernel
theorem own_ns_d192 : decode prog_65_method_2_code 192 = .ok (.goto 4, 3) := by decide +kernel
theorem own_ns_d195 : decode prog_65_method_2_code 195 = .ok (.iconst 0, 1) := by decide +kernel
theorem own_ns_d196 : decode prog_65_method_2_code 196 = .ok (.ireturn, 1) := by decide +kernel
def own_ns_f179  (x0 : Int32) : Int32 := (if x0 < (65536 : Int32) then (0 : Int32) else (if (983039 : Int32) < x0 then (0 : Int32) else (1 : Int32)))
set_option maxRecDepth 65536 in
set_option maxHeartbeats 4000000 in
theorem own_ns_b179 (hx : p.tables.exec = Jvm.exec) (hby : c.code = prog_65_method_2_code) (hml : c.maxLocals = 1) (hown : s.vm.findClass "com/example/quire/quire/xdm/Names" = some m.cls) {Z : State} {a0 : Array Value} (hZ : Z.Warmed39 s.vm) (hw : ∀ d ∈ tables_1, d.before a0 Z = true) (hret : meth.sig.returnType = some .boolean) (hlk : meth.locks = false)  (x0 : Int32) (r : Int32) (hf : own_ns_f179  x0 = r) : own_W p l e own_R0 s m args below meth c n0 0 0 (fun v h' => v = .int r ∧ h' = h) 0 0 h 179 #[.val (.int x0)] [] := by
  unfold own_ns_f179 at hf
  refine own_iloadN hx (hb hby own_ns_d179) rfl (pc' := 180) rfl ?_
  refine own_ldc hx hZ hown (hw _ (List.mem_of_getElem? (i := 14) rfl)) (hb hby own_ns_d180) (pc' := 182) rfl ?_
  refine own_ilt hx (hb hby own_ns_d182) (by decide) (pc' := 195) (by decide) (pc2 := 185) rfl hf (fun hf => ?_) (fun hf => ?_)
  · refine own_iconst hx (z := (0 : Int32)) (hb hby own_ns_d195) (by decide) (pc' := 196) rfl ?_
    exact own_retZ hx hret hlk rfl (hb hby own_ns_d196) (Nat.le_of_ble_eq_true rfl) (Nat.le_of_ble_eq_true rfl) ⟨congrArg _ hf, rfl⟩
  · refine own_iloadN hx (hb hby own_ns_d185) rfl (pc' := 186) rfl ?_
    refine own_ldc hx hZ hown (hw _ (List.mem_of_getElem? (i := 22) rfl)) (hb hby own_ns_d186) (pc' := 188) rfl ?_
    refine own_igt hx (hb hby own_ns_d188) (by decide) (pc' := 195) (by decide) (pc2 := 191) rfl hf (fun hf => ?_) (fun hf => ?_)
    · refine own_iconst hx (z := (0 : Int32)) (hb hby own_ns_d195) (by decide) (pc' := 196) rfl ?_
      exact own_retZ hx hret hlk rfl (hb hby own_ns_d196) (Nat.le_of_ble_eq_true rfl) (Nat.le_of_ble_eq_true rfl) ⟨congrArg _ hf, rfl⟩
    · refine own_iconst hx (z := (1 : Int32)) (hb hby own_ns_d191) (by decide) (pc' := 192) rfl ?_
      refine own_goto hx (hb hby own_ns_d192) (by decide) (pc' := 196) (by decide) ?_
      exact own_retZ hx hret hlk rfl (hb hby own_ns_d196) (Nat.le_of_ble_eq_true rfl) (Nat.le_of_ble_eq_true rfl) ⟨congrArg _ hf, rfl⟩
def own_ns_f167  (x0 : Int32) : Int32 := (if x0 < (65008 : Int32) then own_ns_f179 x0 else (if x0 ≤ (65533 : Int32) then (1 : Int32) else own_ns_f179 x0))
set_option maxRecDepth 65536 in
set_option maxHeartbeats 4000000 in
theorem own_ns_b167 (hx : p.tables.exec = Jvm.exec) (hby : c.code = prog_65_method_2_code) (hml : c.maxLocals = 1) (hown : s.vm.findClass "com/example/quire/quire/xdm/Names" = some m.cls) {Z : State} {a0 : Array Value} (hZ : Z.Warmed39 s.vm) (hw : ∀ d ∈ tables_1, d.before a0 Z = true) (hret : meth.sig.returnType = some .boolean) (hlk : meth.locks = false)  (x0 : Int32) (r : Int32) (hf : own_ns_f167  x0 = r) : own_W p l e own_R0 s m args below meth c n0 0 0 (fun v h' => v = .int r ∧ h' = h) 0 0 h 167 #[.val (.int x0)] [] := by
  unfold own_ns_f167 at hf
  refine own_iloadN hx (hb hby own_ns_d167) rfl (pc' := 168) rfl ?_
  refine own_ldc hx hZ hown (hw _ (List.mem_of_getElem? (i := 13) rfl)) (hb hby own_ns_d168) (pc' := 170) rfl ?_
  refine own_ilt hx (hb hby own_ns_d170) (by decide) (pc' := 179) (by decide) (pc2 := 173) rfl hf (fun hf => ?_) (fun hf => ?_)
  · exact own_ns_b179 hx hby hml hown hZ hw hret hlk  x0 r hf
  · refine own_iloadN hx (hb hby own_ns_d173) rfl (pc' := 174) rfl ?_
    refine own_ldc hx hZ hown (hw _ (List.mem_of_getElem? (i := 21) rfl)) (hb hby own_ns_d174) (pc' := 176) rfl ?_
    refine own_ile hx (hb hby own_ns_d176) (by decide) (pc' := 191) (by decide) (pc2 := 179) rfl hf (fun hf => ?_) (fun hf => ?_)
    · refine own_iconst hx (z := (1 : Int32)) (hb hby own_ns_d191) (by decide) (pc' := 192) rfl ?_
      refine own_goto hx (hb hby own_ns_d192) (by decide) (pc' := 196) (by decide) ?_
      exact own_retZ hx hret hlk rfl (hb hby own_ns_d196) (Nat.le_of_ble_eq_true rfl) (Nat.le_of_ble_eq_true rfl) ⟨congrArg _ hf, rfl⟩
    · exact own_ns_b179 hx hby hml hown hZ hw hret hlk  x0 r hf
def own_ns_f155  (x0 : Int32) : Int32 := (if x0 < (63744 : Int32) then own_ns_f167 x0 else (if x0 ≤ (64975 : Int32) then (1 : Int32) else own_ns_f167 x0))
set_option maxRecDepth 65536 in
set_option maxHeartbeats 4000000 in
theorem own_ns_b155 (hx : p.tables.exec = Jvm.exec) (hby : c.code = prog_65_method_2_code) (hml : c.maxLocals = 1) (hown : s.vm.findClass "com/example/quire/quire/xdm/Names" = some m.cls) {Z : State} {a0 : Array Value} (hZ : Z.Warmed39 s.vm) (hw : ∀ d ∈ tables_1, d.before a0 Z = true) (hret : meth.sig.returnType = some .boolean) (hlk : meth.locks = false)  (x0 : Int32) (r : Int32) (hf : own_ns_f155  x0 = r) : own_W p l e own_R0 s m args below meth c n0 0 0 (fun v h' => v = .int r ∧ h' = h) 0 0 h 155 #[.val (.int x0)] [] := by
  unfold own_ns_f155 at hf
  refine own_iloadN hx (hb hby own_ns_d155) rfl (pc' := 156) rfl ?_
  refine own_ldc hx hZ hown (hw _ (List.mem_of_getElem? (i := 12) rfl)) (hb hby own_ns_d156) (pc' := 158) rfl ?_
  refine own_ilt hx (hb hby own_ns_d158) (by decide) (pc' := 167) (by decide) (pc2 := 161) rfl hf (fun hf => ?_) (fun hf => ?_)
  · exact own_ns_b167 hx hby hml hown hZ hw hret hlk  x0 r hf
  · refine own_iloadN hx (hb hby own_ns_d161) rfl (pc' := 162) rfl ?_
    refine own_ldc hx hZ hown (hw _ (List.mem_of_getElem? (i := 20) rfl)) (hb hby own_ns_d162) (pc' := 164) rfl ?_
    refine own_ile hx (hb hby own_ns_d164) (by decide) (pc' := 191) (by decide) (pc2 := 167) rfl hf (fun hf => ?_) (fun hf => ?_)
    · refine own_iconst hx (z := (1 : Int32)) (hb hby own_ns_d191) (by decide) (pc' := 192) rfl ?_
      refine own_goto hx (hb hby own_ns_d192) (by decide) (pc' := 196) (by decide) ?_
      exact own_retZ hx hret hlk rfl (hb hby own_ns_d196) (Nat.le_of_ble_eq_true rfl) (Nat.le_of_ble_eq_true rfl) ⟨congrArg _ hf, rfl⟩
    · exact own_ns_b167 hx hby hml hown hZ hw hret hlk  x0 r hf
def own_ns_f142  (x0 : Int32) : Int32 := (if x0 < (12289 : Int32) then own_ns_f155 x0 else (if x0 ≤ (55295 : Int32) then (1 : Int32) else own_ns_f155 x0))
set_option maxRecDepth 65536 in
set_option maxHeartbeats 4000000 in
theorem own_ns_b142 (hx : p.tables.exec = Jvm.exec) (hby : c.code = prog_65_method_2_code) (hml : c.maxLocals = 1) (hown : s.vm.findClass "com/example/quire/quire/xdm/Names" = some m.cls) {Z : State} {a0 : Array Value} (hZ : Z.Warmed39 s.vm) (hw : ∀ d ∈ tables_1, d.before a0 Z = true) (hret : meth.sig.returnType = some .boolean) (hlk : meth.locks = false)  (x0 : Int32) (r : Int32) (hf : own_ns_f142  x0 = r) : own_W p l e own_R0 s m args below meth c n0 0 0 (fun v h' => v = .int r ∧ h' = h) 0 0 h 142 #[.val (.int x0)] [] := by
  unfold own_ns_f142 at hf
  refine own_iloadN hx (hb hby own_ns_d142) rfl (pc' := 143) rfl ?_
  refine own_sipush hx (z := (12289 : Int32)) (hb hby own_ns_d143) (by decide) (pc' := 146) rfl ?_
  refine own_ilt hx (hb hby own_ns_d146) (by decide) (pc' := 155) (by decide) (pc2 := 149) rfl hf (fun hf => ?_) (fun hf => ?_)
  · exact own_ns_b155 hx hby hml hown hZ hw hret hlk  x0 r hf
  · refine own_iloadN hx (hb hby own_ns_d149) rfl (pc' := 150) rfl ?_
    refine own_ldc hx hZ hown (hw _ (List.mem_of_getElem? (i := 19) rfl)) (hb hby own_ns_d150) (pc' := 152) rfl ?_
    refine own_ile hx (hb hby own_ns_d152) (by decide) (pc' := 191) (by decide) (pc2 := 155) rfl hf (fun hf => ?_) (fun hf => ?_)
    · refine own_iconst hx (z := (1 : Int32)) (hb hby own_ns_d191) (by decide) (pc' := 192) rfl ?_
      refine own_goto hx (hb hby own_ns_d192) (by decide) (pc' := 196) (by decide) ?_
      exact own_retZ hx hret hlk rfl (hb hby own_ns_d196) (Nat.le_of_ble_eq_true rfl) (Nat.le_of_ble_eq_true rfl) ⟨congrArg _ hf, rfl⟩
    · exact own_ns_b155 hx hby hml hown hZ hw hret hlk  x0 r hf
def own_ns_f128  (x0 : Int32) : Int32 := (if x0 < (11264 : Int32) then own_ns_f142 x0 else (if x0 ≤ (12271 : Int32) then (1 : Int32) else own_ns_f142 x0))
set_option maxRecDepth 65536 in
set_option maxHeartbeats 4000000 in
theorem own_ns_b128 (hx : p.tables.exec = Jvm.exec) (hby : c.code = prog_65_method_2_code) (hml : c.maxLocals = 1) (hown : s.vm.findClass "com/example/quire/quire/xdm/Names" = some m.cls) {Z : State} {a0 : Array Value} (hZ : Z.Warmed39 s.vm) (hw : ∀ d ∈ tables_1, d.before a0 Z = true) (hret : meth.sig.returnType = some .boolean) (hlk : meth.locks = false)  (x0 : Int32) (r : Int32) (hf : own_ns_f128  x0 = r) : own_W p l e own_R0 s m args below meth c n0 0 0 (fun v h' => v = .int r ∧ h' = h) 0 0 h 128 #[.val (.int x0)] [] := by
  unfold own_ns_f128 at hf
  refine own_iloadN hx (hb hby own_ns_d128) rfl (pc' := 129) rfl ?_
  refine own_sipush hx (z := (11264 : Int32)) (hb hby own_ns_d129) (by decide) (pc' := 132) rfl ?_
  refine own_ilt hx (hb hby own_ns_d132) (by decide) (pc' := 142) (by decide) (pc2 := 135) rfl hf (fun hf => ?_) (fun hf => ?_)
  · exact own_ns_b142 hx hby hml hown hZ hw hret hlk  x0 r hf
  · refine own_iloadN hx (hb hby own_ns_d135) rfl (pc' := 136) rfl ?_
    refine own_sipush hx (z := (12271 : Int32)) (hb hby own_ns_d136) (by decide) (pc' := 139) rfl ?_
    refine own_ile hx (hb hby own_ns_d139) (by decide) (pc' := 191) (by decide) (pc2 := 142) rfl hf (fun hf => ?_) (fun hf => ?_)
    · refine own_iconst hx (z := (1 : Int32)) (hb hby own_ns_d191) (by decide) (pc' := 192) rfl ?_
      refine own_goto hx (hb hby own_ns_d192) (by decide) (pc' := 196) (by decide) ?_
      exact own_retZ hx hret hlk rfl (hb hby own_ns_d196) (Nat.le_of_ble_eq_true rfl) (Nat.le_of_ble_eq_true rfl) ⟨congrArg _ hf, rfl⟩
    · exact own_ns_b142 hx hby hml hown hZ hw hret hlk  x0 r hf
def own_ns_f114  (x0 : Int32) : Int32 := (if x0 < (8304 : Int32) then own_ns_f128 x0 else (if x0 ≤ (8591 : Int32) then (1 : Int32) else own_ns_f128 x0))
set_option maxRecDepth 65536 in
set_option maxHeartbeats 4000000 in
theorem own_ns_b114 (hx : p.tables.exec = Jvm.exec) (hby : c.code = prog_65_method_2_code) (hml : c.maxLocals = 1) (hown : s.vm.findClass "com/example/quire/quire/xdm/Names" = some m.cls) {Z : State} {a0 : Array Value} (hZ : Z.Warmed39 s.vm) (hw : ∀ d ∈ tables_1, d.before a0 Z = true) (hret : meth.sig.returnType = some .boolean) (hlk : meth.locks = false)  (x0 : Int32) (r : Int32) (hf : own_ns_f114  x0 = r) : own_W p l e own_R0 s m args below meth c n0 0 0 (fun v h' => v = .int r ∧ h' = h) 0 0 h 114 #[.val (.int x0)] [] := by
  unfold own_ns_f114 at hf
  refine own_iloadN hx (hb hby own_ns_d114) rfl (pc' := 115) rfl ?_
  refine own_sipush hx (z := (8304 : Int32)) (hb hby own_ns_d115) (by decide) (pc' := 118) rfl ?_
  refine own_ilt hx (hb hby own_ns_d118) (by decide) (pc' := 128) (by decide) (pc2 := 121) rfl hf (fun hf => ?_) (fun hf => ?_)
  · exact own_ns_b128 hx hby hml hown hZ hw hret hlk  x0 r hf
  · refine own_iloadN hx (hb hby own_ns_d121) rfl (pc' := 122) rfl ?_
    refine own_sipush hx (z := (8591 : Int32)) (hb hby own_ns_d122) (by decide) (pc' := 125) rfl ?_
    refine own_ile hx (hb hby own_ns_d125) (by decide) (pc' := 191) (by decide) (pc2 := 128) rfl hf (fun hf => ?_) (fun hf => ?_)
    · refine own_iconst hx (z := (1 : Int32)) (hb hby own_ns_d191) (by decide) (pc' := 192) rfl ?_
      refine own_goto hx (hb hby own_ns_d192) (by decide) (pc' := 196) (by decide) ?_
      exact own_retZ hx hret hlk rfl (hb hby own_ns_d196) (Nat.le_of_ble_eq_true rfl) (Nat.le_of_ble_eq_true rfl) ⟨congrArg _ hf, rfl⟩
    · exact own_ns_b128 hx hby hml hown hZ hw hret hlk  x0 r hf
def own_ns_f100  (x0 : Int32) : Int32 := (if x0 < (8204 : Int32) then own_ns_f114 x0 else (if x0 ≤ (8205 : Int32) then (1 : Int32) else own_ns_f114 x0))
set_option maxRecDepth 65536 in
set_option maxHeartbeats 4000000 in
theorem own_ns_b100 (hx : p.tables.exec = Jvm.exec) (hby : c.code = prog_65_method_2_code) (hml : c.maxLocals = 1) (hown : s.vm.findClass "com/example/quire/quire/xdm/Names" = some m.cls) {Z : State} {a0 : Array Value} (hZ : Z.Warmed39 s.vm) (hw : ∀ d ∈ tables_1, d.before a0 Z = true) (hret : meth.sig.returnType = some .boolean) (hlk : meth.locks = false)  (x0 : Int32) (r : Int32) (hf : own_ns_f100  x0 = r) : own_W p l e own_R0 s m args below meth c n0 0 0 (fun v h' => v = .int r ∧ h' = h) 0 0 h 100 #[.val (.int x0)] [] := by
  unfold own_ns_f100 at hf
  refine own_iloadN hx (hb hby own_ns_d100) rfl (pc' := 101) rfl ?_
  refine own_sipush hx (z := (8204 : Int32)) (hb hby own_ns_d101) (by decide) (pc' := 104) rfl ?_
  refine own_ilt hx (hb hby own_ns_d104) (by decide) (pc' := 114) (by decide) (pc2 := 107) rfl hf (fun hf => ?_) (fun hf => ?_)
  · exact own_ns_b114 hx hby hml hown hZ hw hret hlk  x0 r hf
  · refine own_iloadN hx (hb hby own_ns_d107) rfl (pc' := 108) rfl ?_
    refine own_sipush hx (z := (8205 : Int32)) (hb hby own_ns_d108) (by decide) (pc' := 111) rfl ?_
    refine own_ile hx (hb hby own_ns_d111) (by decide) (pc' := 191) (by decide) (pc2 := 114) rfl hf (fun hf => ?_) (fun hf => ?_)
    · refine own_iconst hx (z := (1 : Int32)) (hb hby own_ns_d191) (by decide) (pc' := 192) rfl ?_
      refine own_goto hx (hb hby own_ns_d192) (by decide) (pc' := 196) (by decide) ?_
      exact own_retZ hx hret hlk rfl (hb hby own_ns_d196) (Nat.le_of_ble_eq_true rfl) (Nat.le_of_ble_eq_true rfl) ⟨congrArg _ hf, rfl⟩
    · exact own_ns_b114 hx hby hml hown hZ hw hret hlk  x0 r hf
def own_ns_f86  (x0 : Int32) : Int32 := (if x0 < (895 : Int32) then own_ns_f100 x0 else (if x0 ≤ (8191 : Int32) then (1 : Int32) else own_ns_f100 x0))
set_option maxRecDepth 65536 in
set_option maxHeartbeats 4000000 in
theorem own_ns_b86 (hx : p.tables.exec = Jvm.exec) (hby : c.code = prog_65_method_2_code) (hml : c.maxLocals = 1) (hown : s.vm.findClass "com/example/quire/quire/xdm/Names" = some m.cls) {Z : State} {a0 : Array Value} (hZ : Z.Warmed39 s.vm) (hw : ∀ d ∈ tables_1, d.before a0 Z = true) (hret : meth.sig.returnType = some .boolean) (hlk : meth.locks = false)  (x0 : Int32) (r : Int32) (hf : own_ns_f86  x0 = r) : own_W p l e own_R0 s m args below meth c n0 0 0 (fun v h' => v = .int r ∧ h' = h) 0 0 h 86 #[.val (.int x0)] [] := by
  unfold own_ns_f86 at hf
  refine own_iloadN hx (hb hby own_ns_d86) rfl (pc' := 87) rfl ?_
  refine own_sipush hx (z := (895 : Int32)) (hb hby own_ns_d87) (by decide) (pc' := 90) rfl ?_
  refine own_ilt hx (hb hby own_ns_d90) (by decide) (pc' := 100) (by decide) (pc2 := 93) rfl hf (fun hf => ?_) (fun hf => ?_)
  · exact own_ns_b100 hx hby hml hown hZ hw hret hlk  x0 r hf
  · refine own_iloadN hx (hb hby own_ns_d93) rfl (pc' := 94) rfl ?_
    refine own_sipush hx (z := (8191 : Int32)) (hb hby own_ns_d94) (by decide) (pc' := 97) rfl ?_
    refine own_ile hx (hb hby own_ns_d97) (by decide) (pc' := 191) (by decide) (pc2 := 100) rfl hf (fun hf => ?_) (fun hf => ?_)
    · refine own_iconst hx (z := (1 : Int32)) (hb hby own_ns_d191) (by decide) (pc' := 192) rfl ?_
      refine own_goto hx (hb hby own_ns_d192) (by decide) (pc' := 196) (by decide) ?_
      exact own_retZ hx hret hlk rfl (hb hby own_ns_d196) (Nat.le_of_ble_eq_true rfl) (Nat.le_of_ble_eq_true rfl) ⟨congrArg _ hf, rfl⟩
    · exact own_ns_b100 hx hby hml hown hZ hw hret hlk  x0 r hf
def own_ns_f72  (x0 : Int32) : Int32 := (if x0 < (880 : Int32) then own_ns_f86 x0 else (if x0 ≤ (893 : Int32) then (1 : Int32) else own_ns_f86 x0))
set_option maxRecDepth 65536 in
set_option maxHeartbeats 4000000 in
theorem own_ns_b72 (hx : p.tables.exec = Jvm.exec) (hby : c.code = prog_65_method_2_code) (hml : c.maxLocals = 1) (hown : s.vm.findClass "com/example/quire/quire/xdm/Names" = some m.cls) {Z : State} {a0 : Array Value} (hZ : Z.Warmed39 s.vm) (hw : ∀ d ∈ tables_1, d.before a0 Z = true) (hret : meth.sig.returnType = some .boolean) (hlk : meth.locks = false)  (x0 : Int32) (r : Int32) (hf : own_ns_f72  x0 = r) : own_W p l e own_R0 s m args below meth c n0 0 0 (fun v h' => v = .int r ∧ h' = h) 0 0 h 72 #[.val (.int x0)] [] := by
  unfold own_ns_f72 at hf
  refine own_iloadN hx (hb hby own_ns_d72) rfl (pc' := 73) rfl ?_
  refine own_sipush hx (z := (880 : Int32)) (hb hby own_ns_d73) (by decide) (pc' := 76) rfl ?_
  refine own_ilt hx (hb hby own_ns_d76) (by decide) (pc' := 86) (by decide) (pc2 := 79) rfl hf (fun hf => ?_) (fun hf => ?_)
  · exact own_ns_b86 hx hby hml hown hZ hw hret hlk  x0 r hf
  · refine own_iloadN hx (hb hby own_ns_d79) rfl (pc' := 80) rfl ?_
    refine own_sipush hx (z := (893 : Int32)) (hb hby own_ns_d80) (by decide) (pc' := 83) rfl ?_
    refine own_ile hx (hb hby own_ns_d83) (by decide) (pc' := 191) (by decide) (pc2 := 86) rfl hf (fun hf => ?_) (fun hf => ?_)
    · refine own_iconst hx (z := (1 : Int32)) (hb hby own_ns_d191) (by decide) (pc' := 192) rfl ?_
      refine own_goto hx (hb hby own_ns_d192) (by decide) (pc' := 196) (by decide) ?_
      exact own_retZ hx hret hlk rfl (hb hby own_ns_d196) (Nat.le_of_ble_eq_true rfl) (Nat.le_of_ble_eq_true rfl) ⟨congrArg _ hf, rfl⟩
    · exact own_ns_b86 hx hby hml hown hZ hw hret hlk  x0 r hf
def own_ns_f58  (x0 : Int32) : Int32 := (if x0 < (248 : Int32) then own_ns_f72 x0 else (if x0 ≤ (767 : Int32) then (1 : Int32) else own_ns_f72 x0))
set_option maxRecDepth 65536 in
set_option maxHeartbeats 4000000 in
theorem own_ns_b58 (hx : p.tables.exec = Jvm.exec) (hby : c.code = prog_65_method_2_code) (hml : c.maxLocals = 1) (hown : s.vm.findClass "com/example/quire/quire/xdm/Names" = some m.cls) {Z : State} {a0 : Array Value} (hZ : Z.Warmed39 s.vm) (hw : ∀ d ∈ tables_1, d.before a0 Z = true) (hret : meth.sig.returnType = some .boolean) (hlk : meth.locks = false)  (x0 : Int32) (r : Int32) (hf : own_ns_f58  x0 = r) : own_W p l e own_R0 s m args below meth c n0 0 0 (fun v h' => v = .int r ∧ h' = h) 0 0 h 58 #[.val (.int x0)] [] := by
  unfold own_ns_f58 at hf
  refine own_iloadN hx (hb hby own_ns_d58) rfl (pc' := 59) rfl ?_
  refine own_sipush hx (z := (248 : Int32)) (hb hby own_ns_d59) (by decide) (pc' := 62) rfl ?_
  refine own_ilt hx (hb hby own_ns_d62) (by decide) (pc' := 72) (by decide) (pc2 := 65) rfl hf (fun hf => ?_) (fun hf => ?_)
  · exact own_ns_b72 hx hby hml hown hZ hw hret hlk  x0 r hf
  · refine own_iloadN hx (hb hby own_ns_d65) rfl (pc' := 66) rfl ?_
    refine own_sipush hx (z := (767 : Int32)) (hb hby own_ns_d66) (by decide) (pc' := 69) rfl ?_
    refine own_ile hx (hb hby own_ns_d69) (by decide) (pc' := 191) (by decide) (pc2 := 72) rfl hf (fun hf => ?_) (fun hf => ?_)
    · refine own_iconst hx (z := (1 : Int32)) (hb hby own_ns_d191) (by decide) (pc' := 192) rfl ?_
      refine own_goto hx (hb hby own_ns_d192) (by decide) (pc' := 196) (by decide) ?_
      exact own_retZ hx hret hlk rfl (hb hby own_ns_d196) (Nat.le_of_ble_eq_true rfl) (Nat.le_of_ble_eq_true rfl) ⟨congrArg _ hf, rfl⟩
    · exact own_ns_b72 hx hby hml hown hZ hw hret hlk  x0 r hf
def own_ns_f44  (x0 : Int32) : Int32 := (if x0 < (216 : Int32) then own_ns_f58 x0 else (if x0 ≤ (246 : Int32) then (1 : Int32) else own_ns_f58 x0))
set_option maxRecDepth 65536 in
set_option maxHeartbeats 4000000 in
theorem own_ns_b44 (hx : p.tables.exec = Jvm.exec) (hby : c.code = prog_65_method_2_code) (hml : c.maxLocals = 1) (hown : s.vm.findClass "com/example/quire/quire/xdm/Names" = some m.cls) {Z : State} {a0 : Array Value} (hZ : Z.Warmed39 s.vm) (hw : ∀ d ∈ tables_1, d.before a0 Z = true) (hret : meth.sig.returnType = some .boolean) (hlk : meth.locks = false)  (x0 : Int32) (r : Int32) (hf : own_ns_f44  x0 = r) : own_W p l e own_R0 s m args below meth c n0 0 0 (fun v h' => v = .int r ∧ h' = h) 0 0 h 44 #[.val (.int x0)] [] := by
  unfold own_ns_f44 at hf
  refine own_iloadN hx (hb hby own_ns_d44) rfl (pc' := 45) rfl ?_
  refine own_sipush hx (z := (216 : Int32)) (hb hby own_ns_d45) (by decide) (pc' := 48) rfl ?_
  refine own_ilt hx (hb hby own_ns_d48) (by decide) (pc' := 58) (by decide) (pc2 := 51) rfl hf (fun hf => ?_) (fun hf => ?_)
  · exact own_ns_b58 hx hby hml hown hZ hw hret hlk  x0 r hf
  · refine own_iloadN hx (hb hby own_ns_d51) rfl (pc' := 52) rfl ?_
    refine own_sipush hx (z := (246 : Int32)) (hb hby own_ns_d52) (by decide) (pc' := 55) rfl ?_
    refine own_ile hx (hb hby own_ns_d55) (by decide) (pc' := 191) (by decide) (pc2 := 58) rfl hf (fun hf => ?_) (fun hf => ?_)
    · refine own_iconst hx (z := (1 : Int32)) (hb hby own_ns_d191) (by decide) (pc' := 192) rfl ?_
      refine own_goto hx (hb hby own_ns_d192) (by decide) (pc' := 196) (by decide) ?_
      exact own_retZ hx hret hlk rfl (hb hby own_ns_d196) (Nat.le_of_ble_eq_true rfl) (Nat.le_of_ble_eq_true rfl) ⟨congrArg _ hf, rfl⟩
    · exact own_ns_b58 hx hby hml hown hZ hw hret hlk  x0 r hf
def own_ns_f30  (x0 : Int32) : Int32 := (if x0 < (192 : Int32) then own_ns_f44 x0 else (if x0 ≤ (214 : Int32) then (1 : Int32) else own_ns_f44 x0))
set_option maxRecDepth 65536 in
set_option maxHeartbeats 4000000 in
theorem own_ns_b30 (hx : p.tables.exec = Jvm.exec) (hby : c.code = prog_65_method_2_code) (hml : c.maxLocals = 1) (hown : s.vm.findClass "com/example/quire/quire/xdm/Names" = some m.cls) {Z : State} {a0 : Array Value} (hZ : Z.Warmed39 s.vm) (hw : ∀ d ∈ tables_1, d.before a0 Z = true) (hret : meth.sig.returnType = some .boolean) (hlk : meth.locks = false)  (x0 : Int32) (r : Int32) (hf : own_ns_f30  x0 = r) : own_W p l e own_R0 s m args below meth c n0 0 0 (fun v h' => v = .int r ∧ h' = h) 0 0 h 30 #[.val (.int x0)] [] := by
  unfold own_ns_f30 at hf
  refine own_iloadN hx (hb hby own_ns_d30) rfl (pc' := 31) rfl ?_
  refine own_sipush hx (z := (192 : Int32)) (hb hby own_ns_d31) (by decide) (pc' := 34) rfl ?_
  refine own_ilt hx (hb hby own_ns_d34) (by decide) (pc' := 44) (by decide) (pc2 := 37) rfl hf (fun hf => ?_) (fun hf => ?_)
  · exact own_ns_b44 hx hby hml hown hZ hw hret hlk  x0 r hf
  · refine own_iloadN hx (hb hby own_ns_d37) rfl (pc' := 38) rfl ?_
    refine own_sipush hx (z := (214 : Int32)) (hb hby own_ns_d38) (by decide) (pc' := 41) rfl ?_
    refine own_ile hx (hb hby own_ns_d41) (by decide) (pc' := 191) (by decide) (pc2 := 44) rfl hf (fun hf => ?_) (fun hf => ?_)
    · refine own_iconst hx (z := (1 : Int32)) (hb hby own_ns_d191) (by decide) (pc' := 192) rfl ?_
      refine own_goto hx (hb hby own_ns_d192) (by decide) (pc' := 196) (by decide) ?_
      exact own_retZ hx hret hlk rfl (hb hby own_ns_d196) (Nat.le_of_ble_eq_true rfl) (Nat.le_of_ble_eq_true rfl) ⟨congrArg _ hf, rfl⟩
    · exact own_ns_b44 hx hby hml hown hZ hw hret hlk  x0 r hf
def own_ns_f24  (x0 : Int32) : Int32 := (if x0 = (95 : Int32) then (1 : Int32) else own_ns_f30 x0)
set_option maxRecDepth 65536 in
set_option maxHeartbeats 4000000 in
theorem own_ns_b24 (hx : p.tables.exec = Jvm.exec) (hby : c.code = prog_65_method_2_code) (hml : c.maxLocals = 1) (hown : s.vm.findClass "com/example/quire/quire/xdm/Names" = some m.cls) {Z : State} {a0 : Array Value} (hZ : Z.Warmed39 s.vm) (hw : ∀ d ∈ tables_1, d.before a0 Z = true) (hret : meth.sig.returnType = some .boolean) (hlk : meth.locks = false)  (x0 : Int32) (r : Int32) (hf : own_ns_f24  x0 = r) : own_W p l e own_R0 s m args below meth c n0 0 0 (fun v h' => v = .int r ∧ h' = h) 0 0 h 24 #[.val (.int x0)] [] := by
  unfold own_ns_f24 at hf
  refine own_iloadN hx (hb hby own_ns_d24) rfl (pc' := 25) rfl ?_
  refine own_bipush hx (z := (95 : Int32)) (hb hby own_ns_d25) (by decide) (pc' := 27) rfl ?_
  refine own_ieq hx (hb hby own_ns_d27) (by decide) (pc' := 191) (by decide) (pc2 := 30) rfl hf (fun hf => ?_) (fun hf => ?_)
  · refine own_iconst hx (z := (1 : Int32)) (hb hby own_ns_d191) (by decide) (pc' := 192) rfl ?_
    refine own_goto hx (hb hby own_ns_d192) (by decide) (pc' := 196) (by decide) ?_
    exact own_retZ hx hret hlk rfl (hb hby own_ns_d196) (Nat.le_of_ble_eq_true rfl) (Nat.le_of_ble_eq_true rfl) ⟨congrArg _ hf, rfl⟩
  · exact own_ns_b30 hx hby hml hown hZ hw hret hlk  x0 r hf
def own_ns_f12  (x0 : Int32) : Int32 := (if x0 < (65 : Int32) then own_ns_f24 x0 else (if x0 ≤ (90 : Int32) then (1 : Int32) else own_ns_f24 x0))
set_option maxRecDepth 65536 in
set_option maxHeartbeats 4000000 in
theorem own_ns_b12 (hx : p.tables.exec = Jvm.exec) (hby : c.code = prog_65_method_2_code) (hml : c.maxLocals = 1) (hown : s.vm.findClass "com/example/quire/quire/xdm/Names" = some m.cls) {Z : State} {a0 : Array Value} (hZ : Z.Warmed39 s.vm) (hw : ∀ d ∈ tables_1, d.before a0 Z = true) (hret : meth.sig.returnType = some .boolean) (hlk : meth.locks = false)  (x0 : Int32) (r : Int32) (hf : own_ns_f12  x0 = r) : own_W p l e own_R0 s m args below meth c n0 0 0 (fun v h' => v = .int r ∧ h' = h) 0 0 h 12 #[.val (.int x0)] [] := by
  unfold own_ns_f12 at hf
  refine own_iloadN hx (hb hby own_ns_d12) rfl (pc' := 13) rfl ?_
  refine own_bipush hx (z := (65 : Int32)) (hb hby own_ns_d13) (by decide) (pc' := 15) rfl ?_
  refine own_ilt hx (hb hby own_ns_d15) (by decide) (pc' := 24) (by decide) (pc2 := 18) rfl hf (fun hf => ?_) (fun hf => ?_)
  · exact own_ns_b24 hx hby hml hown hZ hw hret hlk  x0 r hf
  · refine own_iloadN hx (hb hby own_ns_d18) rfl (pc' := 19) rfl ?_
    refine own_bipush hx (z := (90 : Int32)) (hb hby own_ns_d19) (by decide) (pc' := 21) rfl ?_
    refine own_ile hx (hb hby own_ns_d21) (by decide) (pc' := 191) (by decide) (pc2 := 24) rfl hf (fun hf => ?_) (fun hf => ?_)
    · refine own_iconst hx (z := (1 : Int32)) (hb hby own_ns_d191) (by decide) (pc' := 192) rfl ?_
      refine own_goto hx (hb hby own_ns_d192) (by decide) (pc' := 196) (by decide) ?_
      exact own_retZ hx hret hlk rfl (hb hby own_ns_d196) (Nat.le_of_ble_eq_true rfl) (Nat.le_of_ble_eq_true rfl) ⟨congrArg _ hf, rfl⟩
    · exact own_ns_b24 hx hby hml hown hZ hw hret hlk  x0 r hf
def own_ns_f0  (x0 : Int32) : Int32 := (if x0 < (97 : Int32) then own_ns_f12 x0 else (if x0 ≤ (122 : Int32) then (1 : Int32) else own_ns_f12 x0))
set_option maxRecDepth 65536 in
set_option maxHeartbeats 4000000 in
theorem own_ns_b0 (hx : p.tables.exec = Jvm.exec) (hby : c.code = prog_65_method_2_code) (hml : c.maxLocals = 1) (hown : s.vm.findClass "com/example/quire/quire/xdm/Names" = some m.cls) {Z : State} {a0 : Array Value} (hZ : Z.Warmed39 s.vm) (hw : ∀ d ∈ tables_1, d.before a0 Z = true) (hret : meth.sig.returnType = some .boolean) (hlk : meth.locks = false)  (x0 : Int32) (r : Int32) (hf : own_ns_f0  x0 = r) : own_W p l e own_R0 s m args below meth c n0 0 0 (fun v h' => v = .int r ∧ h' = h) 0 0 h 0 #[.val (.int x0)] [] := by
  unfold own_ns_f0 at hf
  refine own_iloadN hx (hb hby own_ns_d0) rfl (pc' := 1) rfl ?_
  refine own_bipush hx (z := (97 : Int32)) (hb hby own_ns_d1) (by decide) (pc' := 3) rfl ?_
  refine own_ilt hx (hb hby own_ns_d3) (by decide) (pc' := 12) (by decide) (pc2 := 6) rfl hf (fun hf => ?_) (fun hf => ?_)
  · exact own_ns_b12 hx hby hml hown hZ hw hret hlk  x0 r hf
  · refine own_iloadN hx (hb hby own_ns_d6) rfl (pc' := 7) rfl ?_
    refine own_bipush hx (z := (122 : Int32)) (hb hby own_ns_d7) (by decide) (pc' := 9) rfl ?_
    refine own_ile hx (hb hby own_ns_d9) (by decide) (pc' := 191) (by decide) (pc2 := 12) rfl hf (fun hf => ?_) (fun hf => ?_)
    · refine own_iconst hx (z := (1 : Int32)) (hb hby own_ns_d191) (by decide) (pc' := 192) rfl ?_
      refine own_goto hx (hb hby own_ns_d192) (by decide) (pc' := 196) (by decide) ?_
      exact own_retZ hx hret hlk rfl (hb hby own_ns_d196) (Nat.le_of_ble_eq_true rfl) (Nat.le_of_ble_eq_true rfl) ⟨congrArg _ hf, rfl⟩
    · exact own_ns_b12 hx hby hml hown hZ hw hret hlk  x0 r hf
theorem own_ns_pn : plainName "com/example/quire/quire/xdm/Names" = true := by first | (simp [plainName, overriddenIn]; done) | decide +kernel
theorem own_ns_ef (m : MethodId) (x0 : Int32) : entryFrame m #[.int x0] 1 = mkF m 0 #[.val (.int x0)] [] := by first | (simp [entryFrame, mkF, argsToLocals, Value.category]; done) | rfl
theorem own_ns_C (l : Launch) (Z : State) (a0 : Array Value) (hw : ∀ d ∈ tables_1, d.before a0 Z = true) (n0 : Nat) (h : Heap)  (x0 : Int32) : own_C l Z ⟨"com/example/quire/quire/xdm/Names", "isNameStart", "(I)Z"⟩ prog_65_method_2_code 1 (some .boolean) #[.int x0] n0 h (.int (own_ns_f0 x0)) :=
  own_met own_ns_pn (fun m => own_ns_ef m x0) fun p e s m below meth c hx hby hml hown hZ hret hlk => own_ns_b0 hx hby hml hown hZ hw hret hlk  x0 _ rfl
theorem own_rf_d0 : decode method_3_code 0 = .ok (.iload_n 0, 1) := by decide +kernel
theorem own_rf_d1 : decode method_3_code 1 = .ok (.bipush 65, 2) := by decide +kernel
theorem own_rf_d3 : decode method_3_code 3 = .ok (.if_icmp .ge 5, 3) := by decide +kernel
theorem own_rf_d6 : decode method_3_code 6 = .ok (.iconst 0, 1) := by decide +kernel
theorem own_rf_d7 : decode method_3_code 7 = .ok (.ireturn, 1) := by decide +kernel
theorem own_rf_d8 : decode method_3_code 8 = .ok (.iload_n 0, 1) := by decide +kernel
theorem own_rf_d9 : decode method_3_code 9 = .ok (.bipush 90, 2) := by decide +kernel
theorem own_rf_d11 : decode method_3_code 11 = .ok (.if_icmp .gt 5, 3) := by decide +kernel
theorem own_rf_d14 : decode method_3_code 14 = .ok (.iconst 1, 1) := by decide +kernel
theorem own_rf_d15 : decode method_3_code 15 = .ok (.ireturn, 1) := by decide +kernel
theorem own_rf_d16 : decode method_3_code 16 = .ok (.iload_n 0, 1) := by decide +kernel
theorem own_rf_d17 : decode method_3_code 17 = .ok (.bipush 95, 2) := by decide +kernel
theorem own_rf_d19 : decode method_3_code 19 = .ok (.if_icmp .ge 5, 3) := by decide +kernel
theorem own_rf_d22 : decode method_3_code 22 = .ok (.iconst 0, 1) := by decide +kernel
theorem own_rf_d23 : decode method_3_code 23 = .ok (.ireturn, 1) := by decide +kernel
theorem own_rf_d24 : decode method_3_code 24 = .ok (.iload_n 0, 1) := by decide +kernel
theorem own_rf_d25 : decode method_3_code 25 = .ok (.bipush 95, 2) := by decide +kernel
theorem own_rf_d27 : decode method_3_code 27 = .ok (.if_icmp .ne 5, 3) := by decide +kernel
theorem own_rf_d30 : decode method_3_code 30 = .ok (.iconst 1, 1) := by decide +kernel
theorem own_rf_d31 : decode method_3_code 31 = .ok (.ireturn, 1) := by decide +kernel
theorem own_rf_d32 : decode method_3_code 32 = .ok (.iload_n 0, 1) := by decide +kernel
theorem own_rf_d33 : decode method_3_code 33 = .ok (.bipush 96, 2) := by decide +kernel
theorem own_rf_d35 : decode method_3_code 35 = .ok (.if_icmp .ne 5, 3) := by decide +kernel
theorem own_rf_d38 : decode method_3_code 38 = .ok (.iconst 0, 1) := by decide +kernel
theorem own_rf_d39 : decode method_3_code 39 = .ok (.ireturn, 1) := by decide +kernel
theorem own_rf_d40 : decode method_3_code 40 = .ok (.iload_n 0, 1) := by decide +kernel
theorem own_rf_d41 : decode method_3_code 41 = .ok (.bipush 122, 2) := by decide +kernel
theorem own_rf_d43 : decode method_3_code 43 = .ok (.if_icmp .gt 5, 3) := by decide +kernel
theorem own_rf_d46 : decode method_3_code 46 = .ok (.iconst 1, 1) := by decide +kernel
theorem own_rf_d47 : decode method_3_code 47 = .ok (.ireturn, 1) := by decide +kernel
theorem own_rf_d48 : decode method_3_code 48 = .ok (.iload_n 0, 1) := by decide +kernel
theorem own_rf_d49 : decode method_3_code 49 = .ok (.sipush 192, 3) := by decide +kernel
theorem own_rf_d52 : decode method_3_code 52 = .ok (.if_icmp .ge 5, 3) := by decide +kernel
theorem own_rf_d55 : decode method_3_code 55 = .ok (.iconst 0, 1) := by decide +kernel
theorem own_rf_d56 : decode method_3_code 56 = .ok (.ireturn, 1) := by decide +kernel
theorem own_rf_d57 : decode method_3_code 57 = .ok (.iload_n 0, 1) := by decide +kernel
theorem own_rf_d58 : decode method_3_code 58 = .ok (.sipush 214, 3) := by decide +kernel
theorem own_rf_d61 : decode method_3_code 61 = .ok (.if_icmp .gt 5, 3) := by decide +kernel
theorem own_rf_d64 : decode method_3_code 64 = .ok (.iconst 1, 1) := by decide +kernel
theorem own_rf_d65 : decode method_3_code 65 = .ok (.ireturn, 1) := by decide +kernel
theorem own_rf_d66 : decode method_3_code 66 = .ok (.iload_n 0, 1) := by decide +kernel
theorem own_rf_d67 : decode method_3_code 67 = .ok (.sipush 215, 3) := by decide +kernel
theorem own_rf_d70 : decode method_3_code 70 = .ok (.if_icmp .ne 5, 3) := by decide +kernel
theorem own_rf_d73 : decode method_3_code 73 = .ok (.iconst 0, 1) := by decide +kernel
theorem own_rf_d74 : decode method_3_code 74 = .ok (.ireturn, 1) := by decide +kernel
theorem own_rf_d75 : decode method_3_code 75 = .ok (.iload_n 0, 1) := by decide +kernel
theorem own_rf_d76 : decode method_3_code 76 = .ok (.sipush 246, 3) := by decide +kernel
theorem own_rf_d79 : decode method_3_code 79 = .ok (.if_icmp .gt 5, 3) := by decide +kernel
theorem own_rf_d82 : decode method_3_code 82 = .ok (.iconst 1, 1) := by decide +kernel
theorem own_rf_d83 : decode method_3_code 83 = .ok (.ireturn, 1) := by decide +kernel
theorem own_rf_d84 : decode method_3_code 84 = .ok (.iload_n 0, 1) := by decide +kernel
theorem own_rf_d85 : decode method_3_code 85 = .ok (.sipush 247, 3) := by decide +kernel
theorem own_rf_d88 : decode method_3_code 88 = .ok (.if_icmp .ne 5, 3) := by decide +kernel
theorem own_rf_d91 : decode method_3_code 91 = .ok (.iconst 0, 1) := by decide +kernel
theorem own_rf_d92 : decode method_3_code 92 = .ok (.ireturn, 1) := by decide +kernel
theorem own_rf_d93 : decode method_3_code 93 = .ok (.iload_n 0, 1) := by decide +kernel
theorem own_rf_d94 : decode method_3_code 94 = .ok (.sipush 767, 3) := by decide +kernel
theorem own_rf_d97 : decode method_3_code 97 = .ok (.if_icmp .gt 5, 3) := by decide +kernel
theorem own_rf_d100 : decode method_3_code 100 = .ok (.iconst 1, 1) := by decide +kernel
theorem own_rf_d101 : decode method_3_code 101 = .ok (.ireturn, 1) := by decide +kernel
theorem own_rf_d102 : decode method_3_code 102 = .ok (.iload_n 0, 1) := by decide +kernel
theorem own_rf_d103 : decode method_3_code 103 = .ok (.sipush 880, 3) := by decide +kernel
theorem own_rf_d106 : decode method_3_code 106 = .ok (.if_icmp .ge 5, 3) := by decide +kernel
theorem own_rf_d109 : decode method_3_code 109 = .ok (.iconst 0, 1) := by decide +kernel
theorem own_rf_d110 : decode method_3_code 110 = .ok (.ireturn, 1) := by decide +kernel
theorem own_rf_d111 : decode method_3_code 111 = .ok (.iload_n 0, 1) := by decide +kernel
theorem own_rf_d112 : decode method_3_code 112 = .ok (.sipush 893, 3) := by decide +kernel
theorem own_rf_d115 : decode method_3_code 115 = .ok (.if_icmp .gt 5, 3) := by decide +kernel
theorem own_rf_d118 : decode method_3_code 118 = .ok (.iconst 1, 1) := by decide +kernel
theorem own_rf_d119 : decode method_3_code 119 = .ok (.ireturn, 1) := by decide +kernel
theorem own_rf_d120 : decode method_3_code 120 = .ok (.iload_n 0, 1) := by decide +kernel
theorem own_rf_d121 : decode method_3_code 121 = .ok (.sipush 894, 3) := by decide +kernel
theorem own_rf_d124 : decode method_3_code 124 = .ok (.if_icmp .ne 5, 3) := by decide +kernel
theorem own_rf_d127 : decode method_3_code 127 = .ok (.iconst 0, 1) := by decide +kernel
theorem own_rf_d128 : decode method_3_code 128 = .ok (.ireturn, 1) := by decide +kernel
theorem own_rf_d129 : decode method_3_code 129 = .ok (.iload_n 0, 1) := by decide +kernel
theorem own_rf_d130 : decode method_3_code 130 = .ok (.sipush 8191, 3) := by decide +kernel
theorem own_rf_d133 : decode method_3_code 133 = .ok (.if_icmp .gt 5, 3) := by decide +kernel
theorem own_rf_d136 : decode method_3_code 136 = .ok (.iconst 1, 1) := by decide +kernel
theorem own_rf_d137 : decode method_3_code 137 = .ok (.ireturn, 1) := by decide +kernel
theorem own_rf_d138 : decode method_3_code 138 = .ok (.iload_n 0, 1) := by decide +kernel
theorem own_rf_d139 : decode method_3_code 139 = .ok (.sipush 8204, 3) := by decide +kernel
theorem own_rf_d142 : decode method_3_code 142 = .ok (.if_icmp .ge 5, 3) := by decide +kernel
theorem own_rf_d145 : decode method_3_code 145 = .ok (.iconst 0, 1) := by decide +kernel
theorem own_rf_d146 : decode method_3_code 146 = .ok (.ireturn, 1) := by decide +kernel
theorem own_rf_d147 : decode method_3_code 147 = .ok (.iload_n 0, 1) := by decide +kernel
theorem own_rf_d148 : decode method_3_code 148 = .ok (.sipush 8205, 3) := by decide +kernel
theorem own_rf_d151 : decode method_3_code 151 = .ok (.if_icmp .gt 5, 3) := by decide +kernel
theorem own_rf_d154 : decode method_3_code 154 = .ok (.iconst 1, 1) := by decide +kernel
theorem own_rf_d155 : decode method_3_code 155 = .ok (.ireturn, 1) := by decide +kernel
theorem own_rf_d156 : decode method_3_code 156 = .ok (.iload_n 0, 1) := by decide +kernel
theorem own_rf_d157 : decode method_3_code 157 = .ok (.sipush 8304, 3) := by decide +kernel
theorem own_rf_d160 : decode method_3_code 160 = .ok (.if_icmp .ge 5, 3) := by decide +kernel
theorem own_rf_d163 : decode method_3_code 163 = .ok (.iconst 0, 1) := by decide +kernel
theorem own_rf_d164 : decode method_3_code 164 = .ok (.ireturn, 1) := by decide +kernel
theorem own_rf_d165 : decode method_3_code 165 = .ok (.iload_n 0, 1) := by decide +kernel
theorem own_rf_d166 : decode method_3_code 166 = .ok (.sipush 8591, 3) := by decide +kernel
theorem own_rf_d169 : decode method_3_code 169 = .ok (.if_icmp .gt 5, 3) := by decide +kernel
theorem own_rf_d172 : decode method_3_code 172 = .ok (.iconst 1, 1) := by decide +kernel
theorem own_rf_d173 : decode method_3_code 173 = .ok (.ireturn, 1) := by decide +kernel
theorem own_rf_d174 : decode method_3_code 174 = .ok (.iload_n 0, 1) := by decide +kernel
theorem own_rf_d175 : decode method_3_code 175 = .ok (.sipush 11264, 3) := by decide +kernel
theorem own_rf_d178 : decode method_3_code 178 = .ok (.if_icmp .ge 5, 3) := by decide +kernel
theorem own_rf_d181 : decode method_3_code 181 = .ok (.iconst 0, 1) := by decide +kernel
theorem own_rf_d182 : decode method_3_code 182 = .ok (.ireturn, 1) := by decide +kernel
theorem own_rf_d183 : decode method_3_code 183 = .ok (.iload_n 0, 1) := by decide +kernel
theorem own_rf_d184 : decode method_3_code 184 = .ok (.sipush 12271, 3) := by decide +kernel
theorem own_rf_d187 : decode method_3_code 187 = .ok (.if_icmp .gt 5, 3) := by decide +kernel
theorem own_rf_d190 : decode method_3_code 190 = .ok (.iconst 1, 1) := by decide +kernel
theorem own_rf_d191 : decode method_3_code 191 = .ok (.ireturn, 1) := by decide +kernel
theorem own_rf_d192 : decode method_3_code 192 = .ok (.iload_n 0, 1) := by decide +kernel
theorem own_rf_d193 : decode method_3_code 193 = .ok (.sipush 12288, 3) := by decide +kernel
theorem own_rf_d196 : decode method_3_code 196 = .ok (.if_icmp .gt 5, 3) := by decide +kernel
theorem own_rf_d199 : decode method_3_code 199 = .ok (.iconst 0, 1) := by decide +kernel
theorem own_rf_d200 : decode method_3_code 200 = .ok (.ireturn, 1) := by decide +kernel
theorem own_rf_d201 : decode method_3_code 201 = .ok (.iload_n 0, 1) := by decide +kernel
theorem own_rf_d202 : decode method_3_code 202 = .ok (.ldc 25, 2) := by decide +kernel
theorem own_rf_d204 : decode method_3_code 204 = .ok (.if_icmp .gt 5, 3) := by decide +kernel
theorem own_rf_d207 : decode method_3_code 207 = .ok (.iconst 1, 1) := by decide +kernel
theorem own_rf_d208 : decode method_3_code 208 = .ok (.ireturn, 1) := by decide +kernel
theorem own_rf_d209 : decode method_3_code 209 = .ok (.iload_n 0, 1) := by decide +kernel
theorem own_rf_d210 : decode method_3_code 210 = .ok (.ldc 8, 2) := by decide +kernel
theorem own_rf_d212 : decode method_3_code 212 = .ok (.if_icmp .ge 5, 3) := by decide +kernel
theorem own_rf_d215 : decode method_3_code 215 = .ok (.iconst 0, 1) := by decide +kernel
theorem own_rf_d216 : decode method_3_code 216 = .ok (.ireturn, 1) := by decide +kernel
theorem own_rf_d217 : decode method_3_code 217 = .ok (.iload_n 0, 1) := by decide +kernel
theorem own_rf_d218 : decode method_3_code 218 = .ok (.ldc 26, 2) := by decide +kernel
theorem own_rf_d220 : decode method_3_code 220 = .ok (.if_icmp .gt 5, 3) := by decide +kernel
theorem own_rf_d223 : decode method_3_code 223 = .ok (.iconst 1, 1) := by decide +kernel
theorem own_rf_d224 : decode method_3_code 224 = .ok (.ireturn, 1) := by decide +kernel
theorem own_rf_d225 : decode method_3_code 225 = .ok (.iload_n 0, 1) := by decide +kernel
theorem own_rf_d226 : decode method_3_code 226 = .ok (.ldc 10, 2) := by decide +kernel
theorem own_rf_d228 : decode method_3_code 228 = .ok (.if_icmp .ge 5, 3) := by decide +kernel
theorem own_rf_d231 : decode method_3_code 231 = .ok (.iconst 0, 1) := by decide +kernel
theorem own_rf_d232 : decode method_3_code 232 = .ok (.ireturn, 1) := by decide +kernel
theorem own_rf_d233 : decode method_3_code 233 = .ok (.iload_n 0, 1) := by decide +kernel
theorem own_rf_d234 : decode method_3_code 234 = .ok (.ldc 27, 2) := by decide +kernel
theorem own_rf_d236 : decode method_3_code 236 = .ok (.if_icmp .gt 5, 3) := by decide +kernel
theorem own_rf_d239 : decode method_3_code 239 = .ok (.iconst 1, 1) := by decide +kernel
theorem own_rf_d240 : decode method_3_code 240 = .ok (.ireturn, 1) := by decide +kernel
theorem own_rf_d241 : decode method_3_code 241 = .ok (.iload_n 0, 1) := by decide +kernel
theorem own_rf_d242 : decode method_3_code 242 = .ok (.ldc 12, 2) := by decide +kernel
theorem own_rf_d244 : decode method_3_code 244 = .ok (.if_icmp .ge 5, 3) := by decide +kernel
theorem own_rf_d247 : decode method_3_code 247 = .ok (.iconst 0, 1) := by decide +kernel
theorem own_rf_d248 : decode method_3_code 248 = .ok (.ireturn, 1) := by decide +kernel
theorem own_rf_d249 : decode method_3_code 249 = .ok (.iload_n 0, 1) := by decide +kernel
theorem own_rf_d250 : decode method_3_code 250 = .ok (.ldc 28, 2) := by decide +kernel
theorem own_rf_d252 : decode method_3_code 252 = .ok (.if_icmp .gt 7, 3) := by decide +kernel
theorem own_rf_d255 : decode method_3_code 255 = .ok (.iconst 1, 1) := by decide +kernel
theorem own_rf_d256 : decode method_3_code 256 = .ok (.goto 4, 3) := by decide +kernel
theorem own_rf_d259 : decode method_3_code 259 = .ok (.iconst 0, 1) := by decide +kernel
theorem own_rf_d260 : decode method_3_code 260 = .ok (.ireturn, 1) := by decide +kernel
def own_rf_f241  (x0 : Int32) : Int32 := (if (65536 : Int32) ≤ x0 then (if (983039 : Int32) < x0 then (0 : Int32) else (1 : Int32)) else (0 : Int32))
set_option maxRecDepth 65536 in
set_option maxHeartbeats 4000000 in
theorem own_rf_b241 (hx : p.tables.exec = Jvm.exec) (hby : c.code = method_3_code) (hml : c.maxLocals = 1) (hown : s.vm.findClass "com/example/quire/quire/xdm/NamesIsNameStartPinLaw" = some m.cls) {Z : State} {a0 : Array Value} (hZ : Z.Warmed39 s.vm) (hw : ∀ d ∈ tables_1, d.before a0 Z = true) (hret : meth.sig.returnType = some .boolean) (hlk : meth.locks = false)  (x0 : Int32) (r : Int32) (hf : own_rf_f241  x0 = r) : own_W p l e own_R0 s m args below meth c n0 0 0 (fun v h' => v = .int r ∧ h' = h) 0 0 h 241 #[.val (.int x0)] [] := by
  unfold own_rf_f241 at hf
  refine own_iloadN hx (hb hby own_rf_d241) rfl (pc' := 242) rfl ?_
  refine own_ldc hx hZ hown (hw _ (List.mem_of_getElem? (i := 6) rfl)) (hb hby own_rf_d242) (pc' := 244) rfl ?_
  refine own_ige hx (hb hby own_rf_d244) (by decide) (pc' := 249) (by decide) (pc2 := 247) rfl hf (fun hf => ?_) (fun hf => ?_)
  · refine own_iloadN hx (hb hby own_rf_d249) rfl (pc' := 250) rfl ?_
    refine own_ldc hx hZ hown (hw _ (List.mem_of_getElem? (i := 26) rfl)) (hb hby own_rf_d250) (pc' := 252) rfl ?_
    refine own_igt hx (hb hby own_rf_d252) (by decide) (pc' := 259) (by decide) (pc2 := 255) rfl hf (fun hf => ?_) (fun hf => ?_)
    · refine own_iconst hx (z := (0 : Int32)) (hb hby own_rf_d259) (by decide) (pc' := 260) rfl ?_
      exact own_retZ hx hret hlk rfl (hb hby own_rf_d260) (Nat.le_of_ble_eq_true rfl) (Nat.le_of_ble_eq_true rfl) ⟨congrArg _ hf, rfl⟩
    · refine own_iconst hx (z := (1 : Int32)) (hb hby own_rf_d255) (by decide) (pc' := 256) rfl ?_
      refine own_goto hx (hb hby own_rf_d256) (by decide) (pc' := 260) (by decide) ?_
      exact own_retZ hx hret hlk rfl (hb hby own_rf_d260) (Nat.le_of_ble_eq_true rfl) (Nat.le_of_ble_eq_true rfl) ⟨congrArg _ hf, rfl⟩
  · refine own_iconst hx (z := (0 : Int32)) (hb hby own_rf_d247) (by decide) (pc' := 248) rfl ?_
    exact own_retZ hx hret hlk rfl (hb hby own_rf_d248) (Nat.le_of_ble_eq_true rfl) (Nat.le_of_ble_eq_true rfl) ⟨congrArg _ hf, rfl⟩
def own_rf_f209  (x0 : Int32) : Int32 := (if (63744 : Int32) ≤ x0 then (if (64975 : Int32) < x0 then (if (65008 : Int32) ≤ x0 then (if (65533 : Int32) < x0 then own_rf_f241 x0 else (1 : Int32)) else (0 : Int32)) else (1 : Int32)) else (0 : Int32))
set_option maxRecDepth 65536 in
set_option maxHeartbeats 4000000 in
theorem own_rf_b209 (hx : p.tables.exec = Jvm.exec) (hby : c.code = method_3_code) (hml : c.maxLocals = 1) (hown : s.vm.findClass "com/example/quire/quire/xdm/NamesIsNameStartPinLaw" = some m.cls) {Z : State} {a0 : Array Value} (hZ : Z.Warmed39 s.vm) (hw : ∀ d ∈ tables_1, d.before a0 Z = true) (hret : meth.sig.returnType = some .boolean) (hlk : meth.locks = false)  (x0 : Int32) (r : Int32) (hf : own_rf_f209  x0 = r) : own_W p l e own_R0 s m args below meth c n0 0 0 (fun v h' => v = .int r ∧ h' = h) 0 0 h 209 #[.val (.int x0)] [] := by
  unfold own_rf_f209 at hf
  refine own_iloadN hx (hb hby own_rf_d209) rfl (pc' := 210) rfl ?_
  refine own_ldc hx hZ hown (hw _ (List.mem_of_getElem? (i := 2) rfl)) (hb hby own_rf_d210) (pc' := 212) rfl ?_
  refine own_ige hx (hb hby own_rf_d212) (by decide) (pc' := 217) (by decide) (pc2 := 215) rfl hf (fun hf => ?_) (fun hf => ?_)
  · refine own_iloadN hx (hb hby own_rf_d217) rfl (pc' := 218) rfl ?_
    refine own_ldc hx hZ hown (hw _ (List.mem_of_getElem? (i := 24) rfl)) (hb hby own_rf_d218) (pc' := 220) rfl ?_
    refine own_igt hx (hb hby own_rf_d220) (by decide) (pc' := 225) (by decide) (pc2 := 223) rfl hf (fun hf => ?_) (fun hf => ?_)
    · refine own_iloadN hx (hb hby own_rf_d225) rfl (pc' := 226) rfl ?_
      refine own_ldc hx hZ hown (hw _ (List.mem_of_getElem? (i := 4) rfl)) (hb hby own_rf_d226) (pc' := 228) rfl ?_
      refine own_ige hx (hb hby own_rf_d228) (by decide) (pc' := 233) (by decide) (pc2 := 231) rfl hf (fun hf => ?_) (fun hf => ?_)
      · refine own_iloadN hx (hb hby own_rf_d233) rfl (pc' := 234) rfl ?_
        refine own_ldc hx hZ hown (hw _ (List.mem_of_getElem? (i := 25) rfl)) (hb hby own_rf_d234) (pc' := 236) rfl ?_
        refine own_igt hx (hb hby own_rf_d236) (by decide) (pc' := 241) (by decide) (pc2 := 239) rfl hf (fun hf => ?_) (fun hf => ?_)
        · exact own_rf_b241 hx hby hml hown hZ hw hret hlk  x0 r hf
        · refine own_iconst hx (z := (1 : Int32)) (hb hby own_rf_d239) (by decide) (pc' := 240) rfl ?_
          exact own_retZ hx hret hlk rfl (hb hby own_rf_d240) (Nat.le_of_ble_eq_true rfl) (Nat.le_of_ble_eq_true rfl) ⟨congrArg _ hf, rfl⟩
      · refine own_iconst hx (z := (0 : Int32)) (hb hby own_rf_d231) (by decide) (pc' := 232) rfl ?_
        exact own_retZ hx hret hlk rfl (hb hby own_rf_d232) (Nat.le_of_ble_eq_true rfl) (Nat.le_of_ble_eq_true rfl) ⟨congrArg _ hf, rfl⟩
    · refine own_iconst hx (z := (1 : Int32)) (hb hby own_rf_d223) (by decide) (pc' := 224) rfl ?_
      exact own_retZ hx hret hlk rfl (hb hby own_rf_d224) (Nat.le_of_ble_eq_true rfl) (Nat.le_of_ble_eq_true rfl) ⟨congrArg _ hf, rfl⟩
  · refine own_iconst hx (z := (0 : Int32)) (hb hby own_rf_d215) (by decide) (pc' := 216) rfl ?_
    exact own_retZ hx hret hlk rfl (hb hby own_rf_d216) (Nat.le_of_ble_eq_true rfl) (Nat.le_of_ble_eq_true rfl) ⟨congrArg _ hf, rfl⟩
def own_rf_f174  (x0 : Int32) : Int32 := (if (11264 : Int32) ≤ x0 then (if (12271 : Int32) < x0 then (if (12288 : Int32) < x0 then (if (55295 : Int32) < x0 then own_rf_f209 x0 else (1 : Int32)) else (0 : Int32)) else (1 : Int32)) else (0 : Int32))
set_option maxRecDepth 65536 in
set_option maxHeartbeats 4000000 in
theorem own_rf_b174 (hx : p.tables.exec = Jvm.exec) (hby : c.code = method_3_code) (hml : c.maxLocals = 1) (hown : s.vm.findClass "com/example/quire/quire/xdm/NamesIsNameStartPinLaw" = some m.cls) {Z : State} {a0 : Array Value} (hZ : Z.Warmed39 s.vm) (hw : ∀ d ∈ tables_1, d.before a0 Z = true) (hret : meth.sig.returnType = some .boolean) (hlk : meth.locks = false)  (x0 : Int32) (r : Int32) (hf : own_rf_f174  x0 = r) : own_W p l e own_R0 s m args below meth c n0 0 0 (fun v h' => v = .int r ∧ h' = h) 0 0 h 174 #[.val (.int x0)] [] := by
  unfold own_rf_f174 at hf
  refine own_iloadN hx (hb hby own_rf_d174) rfl (pc' := 175) rfl ?_
  refine own_sipush hx (z := (11264 : Int32)) (hb hby own_rf_d175) (by decide) (pc' := 178) rfl ?_
  refine own_ige hx (hb hby own_rf_d178) (by decide) (pc' := 183) (by decide) (pc2 := 181) rfl hf (fun hf => ?_) (fun hf => ?_)
  · refine own_iloadN hx (hb hby own_rf_d183) rfl (pc' := 184) rfl ?_
    refine own_sipush hx (z := (12271 : Int32)) (hb hby own_rf_d184) (by decide) (pc' := 187) rfl ?_
    refine own_igt hx (hb hby own_rf_d187) (by decide) (pc' := 192) (by decide) (pc2 := 190) rfl hf (fun hf => ?_) (fun hf => ?_)
    · refine own_iloadN hx (hb hby own_rf_d192) rfl (pc' := 193) rfl ?_
      refine own_sipush hx (z := (12288 : Int32)) (hb hby own_rf_d193) (by decide) (pc' := 196) rfl ?_
      refine own_igt hx (hb hby own_rf_d196) (by decide) (pc' := 201) (by decide) (pc2 := 199) rfl hf (fun hf => ?_) (fun hf => ?_)
      · refine own_iloadN hx (hb hby own_rf_d201) rfl (pc' := 202) rfl ?_
        refine own_ldc hx hZ hown (hw _ (List.mem_of_getElem? (i := 23) rfl)) (hb hby own_rf_d202) (pc' := 204) rfl ?_
        refine own_igt hx (hb hby own_rf_d204) (by decide) (pc' := 209) (by decide) (pc2 := 207) rfl hf (fun hf => ?_) (fun hf => ?_)
        · exact own_rf_b209 hx hby hml hown hZ hw hret hlk  x0 r hf
        · refine own_iconst hx (z := (1 : Int32)) (hb hby own_rf_d207) (by decide) (pc' := 208) rfl ?_
          exact own_retZ hx hret hlk rfl (hb hby own_rf_d208) (Nat.le_of_ble_eq_true rfl) (Nat.le_of_ble_eq_true rfl) ⟨congrArg _ hf, rfl⟩
      · refine own_iconst hx (z := (0 : Int32)) (hb hby own_rf_d199) (by decide) (pc' := 200) rfl ?_
        exact own_retZ hx hret hlk rfl (hb hby own_rf_d200) (Nat.le_of_ble_eq_true rfl) (Nat.le_of_ble_eq_true rfl) ⟨congrArg _ hf, rfl⟩
    · refine own_iconst hx (z := (1 : Int32)) (hb hby own_rf_d190) (by decide) (pc' := 191) rfl ?_
      exact own_retZ hx hret hlk rfl (hb hby own_rf_d191) (Nat.le_of_ble_eq_true rfl) (Nat.le_of_ble_eq_true rfl) ⟨congrArg _ hf, rfl⟩
  · refine own_iconst hx (z := (0 : Int32)) (hb hby own_rf_d181) (by decide) (pc' := 182) rfl ?_
    exact own_retZ hx hret hlk rfl (hb hby own_rf_d182) (Nat.le_of_ble_eq_true rfl) (Nat.le_of_ble_eq_true rfl) ⟨congrArg _ hf, rfl⟩
def own_rf_f138  (x0 : Int32) : Int32 := (if (8204 : Int32) ≤ x0 then (if (8205 : Int32) < x0 then (if (8304 : Int32) ≤ x0 then (if (8591 : Int32) < x0 then own_rf_f174 x0 else (1 : Int32)) else (0 : Int32)) else (1 : Int32)) else (0 : Int32))
set_option maxRecDepth 65536 in
set_option maxHeartbeats 4000000 in
theorem own_rf_b138 (hx : p.tables.exec = Jvm.exec) (hby : c.code = method_3_code) (hml : c.maxLocals = 1) (hown : s.vm.findClass "com/example/quire/quire/xdm/NamesIsNameStartPinLaw" = some m.cls) {Z : State} {a0 : Array Value} (hZ : Z.Warmed39 s.vm) (hw : ∀ d ∈ tables_1, d.before a0 Z = true) (hret : meth.sig.returnType = some .boolean) (hlk : meth.locks = false)  (x0 : Int32) (r : Int32) (hf : own_rf_f138  x0 = r) : own_W p l e own_R0 s m args below meth c n0 0 0 (fun v h' => v = .int r ∧ h' = h) 0 0 h 138 #[.val (.int x0)] [] := by
  unfold own_rf_f138 at hf
  refine own_iloadN hx (hb hby own_rf_d138) rfl (pc' := 139) rfl ?_
  refine own_sipush hx (z := (8204 : Int32)) (hb hby own_rf_d139) (by decide) (pc' := 142) rfl ?_
  refine own_ige hx (hb hby own_rf_d142) (by decide) (pc' := 147) (by decide) (pc2 := 145) rfl hf (fun hf => ?_) (fun hf => ?_)
  · refine own_iloadN hx (hb hby own_rf_d147) rfl (pc' := 148) rfl ?_
    refine own_sipush hx (z := (8205 : Int32)) (hb hby own_rf_d148) (by decide) (pc' := 151) rfl ?_
    refine own_igt hx (hb hby own_rf_d151) (by decide) (pc' := 156) (by decide) (pc2 := 154) rfl hf (fun hf => ?_) (fun hf => ?_)
    · refine own_iloadN hx (hb hby own_rf_d156) rfl (pc' := 157) rfl ?_
      refine own_sipush hx (z := (8304 : Int32)) (hb hby own_rf_d157) (by decide) (pc' := 160) rfl ?_
      refine own_ige hx (hb hby own_rf_d160) (by decide) (pc' := 165) (by decide) (pc2 := 163) rfl hf (fun hf => ?_) (fun hf => ?_)
      · refine own_iloadN hx (hb hby own_rf_d165) rfl (pc' := 166) rfl ?_
        refine own_sipush hx (z := (8591 : Int32)) (hb hby own_rf_d166) (by decide) (pc' := 169) rfl ?_
        refine own_igt hx (hb hby own_rf_d169) (by decide) (pc' := 174) (by decide) (pc2 := 172) rfl hf (fun hf => ?_) (fun hf => ?_)
        · exact own_rf_b174 hx hby hml hown hZ hw hret hlk  x0 r hf
        · refine own_iconst hx (z := (1 : Int32)) (hb hby own_rf_d172) (by decide) (pc' := 173) rfl ?_
          exact own_retZ hx hret hlk rfl (hb hby own_rf_d173) (Nat.le_of_ble_eq_true rfl) (Nat.le_of_ble_eq_true rfl) ⟨congrArg _ hf, rfl⟩
      · refine own_iconst hx (z := (0 : Int32)) (hb hby own_rf_d163) (by decide) (pc' := 164) rfl ?_
        exact own_retZ hx hret hlk rfl (hb hby own_rf_d164) (Nat.le_of_ble_eq_true rfl) (Nat.le_of_ble_eq_true rfl) ⟨congrArg _ hf, rfl⟩
    · refine own_iconst hx (z := (1 : Int32)) (hb hby own_rf_d154) (by decide) (pc' := 155) rfl ?_
      exact own_retZ hx hret hlk rfl (hb hby own_rf_d155) (Nat.le_of_ble_eq_true rfl) (Nat.le_of_ble_eq_true rfl) ⟨congrArg _ hf, rfl⟩
  · refine own_iconst hx (z := (0 : Int32)) (hb hby own_rf_d145) (by decide) (pc' := 146) rfl ?_
    exact own_retZ hx hret hlk rfl (hb hby own_rf_d146) (Nat.le_of_ble_eq_true rfl) (Nat.le_of_ble_eq_true rfl) ⟨congrArg _ hf, rfl⟩
def own_rf_f102  (x0 : Int32) : Int32 := (if (880 : Int32) ≤ x0 then (if (893 : Int32) < x0 then (if x0 = (894 : Int32) then (0 : Int32) else (if (8191 : Int32) < x0 then own_rf_f138 x0 else (1 : Int32))) else (1 : Int32)) else (0 : Int32))
set_option maxRecDepth 65536 in
set_option maxHeartbeats 4000000 in
theorem own_rf_b102 (hx : p.tables.exec = Jvm.exec) (hby : c.code = method_3_code) (hml : c.maxLocals = 1) (hown : s.vm.findClass "com/example/quire/quire/xdm/NamesIsNameStartPinLaw" = some m.cls) {Z : State} {a0 : Array Value} (hZ : Z.Warmed39 s.vm) (hw : ∀ d ∈ tables_1, d.before a0 Z = true) (hret : meth.sig.returnType = some .boolean) (hlk : meth.locks = false)  (x0 : Int32) (r : Int32) (hf : own_rf_f102  x0 = r) : own_W p l e own_R0 s m args below meth c n0 0 0 (fun v h' => v = .int r ∧ h' = h) 0 0 h 102 #[.val (.int x0)] [] := by
  unfold own_rf_f102 at hf
  refine own_iloadN hx (hb hby own_rf_d102) rfl (pc' := 103) rfl ?_
  refine own_sipush hx (z := (880 : Int32)) (hb hby own_rf_d103) (by decide) (pc' := 106) rfl ?_
  refine own_ige hx (hb hby own_rf_d106) (by decide) (pc' := 111) (by decide) (pc2 := 109) rfl hf (fun hf => ?_) (fun hf => ?_)
  · refine own_iloadN hx (hb hby own_rf_d111) rfl (pc' := 112) rfl ?_
    refine own_sipush hx (z := (893 : Int32)) (hb hby own_rf_d112) (by decide) (pc' := 115) rfl ?_
    refine own_igt hx (hb hby own_rf_d115) (by decide) (pc' := 120) (by decide) (pc2 := 118) rfl hf (fun hf => ?_) (fun hf => ?_)
    · refine own_iloadN hx (hb hby own_rf_d120) rfl (pc' := 121) rfl ?_
      refine own_sipush hx (z := (894 : Int32)) (hb hby own_rf_d121) (by decide) (pc' := 124) rfl ?_
      refine own_ine hx (hb hby own_rf_d124) (by decide) (pc' := 129) (by decide) (pc2 := 127) rfl hf (fun hf => ?_) (fun hf => ?_)
      · refine own_iloadN hx (hb hby own_rf_d129) rfl (pc' := 130) rfl ?_
        refine own_sipush hx (z := (8191 : Int32)) (hb hby own_rf_d130) (by decide) (pc' := 133) rfl ?_
        refine own_igt hx (hb hby own_rf_d133) (by decide) (pc' := 138) (by decide) (pc2 := 136) rfl hf (fun hf => ?_) (fun hf => ?_)
        · exact own_rf_b138 hx hby hml hown hZ hw hret hlk  x0 r hf
        · refine own_iconst hx (z := (1 : Int32)) (hb hby own_rf_d136) (by decide) (pc' := 137) rfl ?_
          exact own_retZ hx hret hlk rfl (hb hby own_rf_d137) (Nat.le_of_ble_eq_true rfl) (Nat.le_of_ble_eq_true rfl) ⟨congrArg _ hf, rfl⟩
      · refine own_iconst hx (z := (0 : Int32)) (hb hby own_rf_d127) (by decide) (pc' := 128) rfl ?_
        exact own_retZ hx hret hlk rfl (hb hby own_rf_d128) (Nat.le_of_ble_eq_true rfl) (Nat.le_of_ble_eq_true rfl) ⟨congrArg _ hf, rfl⟩
    · refine own_iconst hx (z := (1 : Int32)) (hb hby own_rf_d118) (by decide) (pc' := 119) rfl ?_
      exact own_retZ hx hret hlk rfl (hb hby own_rf_d119) (Nat.le_of_ble_eq_true rfl) (Nat.le_of_ble_eq_true rfl) ⟨congrArg _ hf, rfl⟩
  · refine own_iconst hx (z := (0 : Int32)) (hb hby own_rf_d109) (by decide) (pc' := 110) rfl ?_
    exact own_retZ hx hret hlk rfl (hb hby own_rf_d110) (Nat.le_of_ble_eq_true rfl) (Nat.le_of_ble_eq_true rfl) ⟨congrArg _ hf, rfl⟩
def own_rf_f66  (x0 : Int32) : Int32 := (if x0 = (215 : Int32) then (0 : Int32) else (if (246 : Int32) < x0 then (if x0 = (247 : Int32) then (0 : Int32) else (if (767 : Int32) < x0 then own_rf_f102 x0 else (1 : Int32))) else (1 : Int32)))
set_option maxRecDepth 65536 in
set_option maxHeartbeats 4000000 in
theorem own_rf_b66 (hx : p.tables.exec = Jvm.exec) (hby : c.code = method_3_code) (hml : c.maxLocals = 1) (hown : s.vm.findClass "com/example/quire/quire/xdm/NamesIsNameStartPinLaw" = some m.cls) {Z : State} {a0 : Array Value} (hZ : Z.Warmed39 s.vm) (hw : ∀ d ∈ tables_1, d.before a0 Z = true) (hret : meth.sig.returnType = some .boolean) (hlk : meth.locks = false)  (x0 : Int32) (r : Int32) (hf : own_rf_f66  x0 = r) : own_W p l e own_R0 s m args below meth c n0 0 0 (fun v h' => v = .int r ∧ h' = h) 0 0 h 66 #[.val (.int x0)] [] := by
  unfold own_rf_f66 at hf
  refine own_iloadN hx (hb hby own_rf_d66) rfl (pc' := 67) rfl ?_
  refine own_sipush hx (z := (215 : Int32)) (hb hby own_rf_d67) (by decide) (pc' := 70) rfl ?_
  refine own_ine hx (hb hby own_rf_d70) (by decide) (pc' := 75) (by decide) (pc2 := 73) rfl hf (fun hf => ?_) (fun hf => ?_)
  · refine own_iloadN hx (hb hby own_rf_d75) rfl (pc' := 76) rfl ?_
    refine own_sipush hx (z := (246 : Int32)) (hb hby own_rf_d76) (by decide) (pc' := 79) rfl ?_
    refine own_igt hx (hb hby own_rf_d79) (by decide) (pc' := 84) (by decide) (pc2 := 82) rfl hf (fun hf => ?_) (fun hf => ?_)
    · refine own_iloadN hx (hb hby own_rf_d84) rfl (pc' := 85) rfl ?_
      refine own_sipush hx (z := (247 : Int32)) (hb hby own_rf_d85) (by decide) (pc' := 88) rfl ?_
      refine own_ine hx (hb hby own_rf_d88) (by decide) (pc' := 93) (by decide) (pc2 := 91) rfl hf (fun hf => ?_) (fun hf => ?_)
      · refine own_iloadN hx (hb hby own_rf_d93) rfl (pc' := 94) rfl ?_
        refine own_sipush hx (z := (767 : Int32)) (hb hby own_rf_d94) (by decide) (pc' := 97) rfl ?_
        refine own_igt hx (hb hby own_rf_d97) (by decide) (pc' := 102) (by decide) (pc2 := 100) rfl hf (fun hf => ?_) (fun hf => ?_)
        · exact own_rf_b102 hx hby hml hown hZ hw hret hlk  x0 r hf
        · refine own_iconst hx (z := (1 : Int32)) (hb hby own_rf_d100) (by decide) (pc' := 101) rfl ?_
          exact own_retZ hx hret hlk rfl (hb hby own_rf_d101) (Nat.le_of_ble_eq_true rfl) (Nat.le_of_ble_eq_true rfl) ⟨congrArg _ hf, rfl⟩
      · refine own_iconst hx (z := (0 : Int32)) (hb hby own_rf_d91) (by decide) (pc' := 92) rfl ?_
        exact own_retZ hx hret hlk rfl (hb hby own_rf_d92) (Nat.le_of_ble_eq_true rfl) (Nat.le_of_ble_eq_true rfl) ⟨congrArg _ hf, rfl⟩
    · refine own_iconst hx (z := (1 : Int32)) (hb hby own_rf_d82) (by decide) (pc' := 83) rfl ?_
      exact own_retZ hx hret hlk rfl (hb hby own_rf_d83) (Nat.le_of_ble_eq_true rfl) (Nat.le_of_ble_eq_true rfl) ⟨congrArg _ hf, rfl⟩
  · refine own_iconst hx (z := (0 : Int32)) (hb hby own_rf_d73) (by decide) (pc' := 74) rfl ?_
    exact own_retZ hx hret hlk rfl (hb hby own_rf_d74) (Nat.le_of_ble_eq_true rfl) (Nat.le_of_ble_eq_true rfl) ⟨congrArg _ hf, rfl⟩
def own_rf_f32  (x0 : Int32) : Int32 := (if x0 = (96 : Int32) then (0 : Int32) else (if (122 : Int32) < x0 then (if (192 : Int32) ≤ x0 then (if (214 : Int32) < x0 then own_rf_f66 x0 else (1 : Int32)) else (0 : Int32)) else (1 : Int32)))
set_option maxRecDepth 65536 in
set_option maxHeartbeats 4000000 in
theorem own_rf_b32 (hx : p.tables.exec = Jvm.exec) (hby : c.code = method_3_code) (hml : c.maxLocals = 1) (hown : s.vm.findClass "com/example/quire/quire/xdm/NamesIsNameStartPinLaw" = some m.cls) {Z : State} {a0 : Array Value} (hZ : Z.Warmed39 s.vm) (hw : ∀ d ∈ tables_1, d.before a0 Z = true) (hret : meth.sig.returnType = some .boolean) (hlk : meth.locks = false)  (x0 : Int32) (r : Int32) (hf : own_rf_f32  x0 = r) : own_W p l e own_R0 s m args below meth c n0 0 0 (fun v h' => v = .int r ∧ h' = h) 0 0 h 32 #[.val (.int x0)] [] := by
  unfold own_rf_f32 at hf
  refine own_iloadN hx (hb hby own_rf_d32) rfl (pc' := 33) rfl ?_
  refine own_bipush hx (z := (96 : Int32)) (hb hby own_rf_d33) (by decide) (pc' := 35) rfl ?_
  refine own_ine hx (hb hby own_rf_d35) (by decide) (pc' := 40) (by decide) (pc2 := 38) rfl hf (fun hf => ?_) (fun hf => ?_)
  · refine own_iloadN hx (hb hby own_rf_d40) rfl (pc' := 41) rfl ?_
    refine own_bipush hx (z := (122 : Int32)) (hb hby own_rf_d41) (by decide) (pc' := 43) rfl ?_
    refine own_igt hx (hb hby own_rf_d43) (by decide) (pc' := 48) (by decide) (pc2 := 46) rfl hf (fun hf => ?_) (fun hf => ?_)
    · refine own_iloadN hx (hb hby own_rf_d48) rfl (pc' := 49) rfl ?_
      refine own_sipush hx (z := (192 : Int32)) (hb hby own_rf_d49) (by decide) (pc' := 52) rfl ?_
      refine own_ige hx (hb hby own_rf_d52) (by decide) (pc' := 57) (by decide) (pc2 := 55) rfl hf (fun hf => ?_) (fun hf => ?_)
      · refine own_iloadN hx (hb hby own_rf_d57) rfl (pc' := 58) rfl ?_
        refine own_sipush hx (z := (214 : Int32)) (hb hby own_rf_d58) (by decide) (pc' := 61) rfl ?_
        refine own_igt hx (hb hby own_rf_d61) (by decide) (pc' := 66) (by decide) (pc2 := 64) rfl hf (fun hf => ?_) (fun hf => ?_)
        · exact own_rf_b66 hx hby hml hown hZ hw hret hlk  x0 r hf
        · refine own_iconst hx (z := (1 : Int32)) (hb hby own_rf_d64) (by decide) (pc' := 65) rfl ?_
          exact own_retZ hx hret hlk rfl (hb hby own_rf_d65) (Nat.le_of_ble_eq_true rfl) (Nat.le_of_ble_eq_true rfl) ⟨congrArg _ hf, rfl⟩
      · refine own_iconst hx (z := (0 : Int32)) (hb hby own_rf_d55) (by decide) (pc' := 56) rfl ?_
        exact own_retZ hx hret hlk rfl (hb hby own_rf_d56) (Nat.le_of_ble_eq_true rfl) (Nat.le_of_ble_eq_true rfl) ⟨congrArg _ hf, rfl⟩
    · refine own_iconst hx (z := (1 : Int32)) (hb hby own_rf_d46) (by decide) (pc' := 47) rfl ?_
      exact own_retZ hx hret hlk rfl (hb hby own_rf_d47) (Nat.le_of_ble_eq_true rfl) (Nat.le_of_ble_eq_true rfl) ⟨congrArg _ hf, rfl⟩
  · refine own_iconst hx (z := (0 : Int32)) (hb hby own_rf_d38) (by decide) (pc' := 39) rfl ?_
    exact own_retZ hx hret hlk rfl (hb hby own_rf_d39) (Nat.le_of_ble_eq_true rfl) (Nat.le_of_ble_eq_true rfl) ⟨congrArg _ hf, rfl⟩
def own_rf_f0  (x0 : Int32) : Int32 := (if (65 : Int32) ≤ x0 then (if (90 : Int32) < x0 then (if (95 : Int32) ≤ x0 then (if x0 = (95 : Int32) then (1 : Int32) else own_rf_f32 x0) else (0 : Int32)) else (1 : Int32)) else (0 : Int32))
set_option maxRecDepth 65536 in
set_option maxHeartbeats 4000000 in
theorem own_rf_b0 (hx : p.tables.exec = Jvm.exec) (hby : c.code = method_3_code) (hml : c.maxLocals = 1) (hown : s.vm.findClass "com/example/quire/quire/xdm/NamesIsNameStartPinLaw" = some m.cls) {Z : State} {a0 : Array Value} (hZ : Z.Warmed39 s.vm) (hw : ∀ d ∈ tables_1, d.before a0 Z = true) (hret : meth.sig.returnType = some .boolean) (hlk : meth.locks = false)  (x0 : Int32) (r : Int32) (hf : own_rf_f0  x0 = r) : own_W p l e own_R0 s m args below meth c n0 0 0 (fun v h' => v = .int r ∧ h' = h) 0 0 h 0 #[.val (.int x0)] [] := by
  unfold own_rf_f0 at hf
  refine own_iloadN hx (hb hby own_rf_d0) rfl (pc' := 1) rfl ?_
  refine own_bipush hx (z := (65 : Int32)) (hb hby own_rf_d1) (by decide) (pc' := 3) rfl ?_
  refine own_ige hx (hb hby own_rf_d3) (by decide) (pc' := 8) (by decide) (pc2 := 6) rfl hf (fun hf => ?_) (fun hf => ?_)
  · refine own_iloadN hx (hb hby own_rf_d8) rfl (pc' := 9) rfl ?_
    refine own_bipush hx (z := (90 : Int32)) (hb hby own_rf_d9) (by decide) (pc' := 11) rfl ?_
    refine own_igt hx (hb hby own_rf_d11) (by decide) (pc' := 16) (by decide) (pc2 := 14) rfl hf (fun hf => ?_) (fun hf => ?_)
    · refine own_iloadN hx (hb hby own_rf_d16) rfl (pc' := 17) rfl ?_
      refine own_bipush hx (z := (95 : Int32)) (hb hby own_rf_d17) (by decide) (pc' := 19) rfl ?_
      refine own_ige hx (hb hby own_rf_d19) (by decide) (pc' := 24) (by decide) (pc2 := 22) rfl hf (fun hf => ?_) (fun hf => ?_)
      · refine own_iloadN hx (hb hby own_rf_d24) rfl (pc' := 25) rfl ?_
        refine own_bipush hx (z := (95 : Int32)) (hb hby own_rf_d25) (by decide) (pc' := 27) rfl ?_
        refine own_ine hx (hb hby own_rf_d27) (by decide) (pc' := 32) (by decide) (pc2 := 30) rfl hf (fun hf => ?_) (fun hf => ?_)
        · exact own_rf_b32 hx hby hml hown hZ hw hret hlk  x0 r hf
        · refine own_iconst hx (z := (1 : Int32)) (hb hby own_rf_d30) (by decide) (pc' := 31) rfl ?_
          exact own_retZ hx hret hlk rfl (hb hby own_rf_d31) (Nat.le_of_ble_eq_true rfl) (Nat.le_of_ble_eq_true rfl) ⟨congrArg _ hf, rfl⟩
      · refine own_iconst hx (z := (0 : Int32)) (hb hby own_rf_d22) (by decide) (pc' := 23) rfl ?_
        exact own_retZ hx hret hlk rfl (hb hby own_rf_d23) (Nat.le_of_ble_eq_true rfl) (Nat.le_of_ble_eq_true rfl) ⟨congrArg _ hf, rfl⟩
    · refine own_iconst hx (z := (1 : Int32)) (hb hby own_rf_d14) (by decide) (pc' := 15) rfl ?_
      exact own_retZ hx hret hlk rfl (hb hby own_rf_d15) (Nat.le_of_ble_eq_true rfl) (Nat.le_of_ble_eq_true rfl) ⟨congrArg _ hf, rfl⟩
  · refine own_iconst hx (z := (0 : Int32)) (hb hby own_rf_d6) (by decide) (pc' := 7) rfl ?_
    exact own_retZ hx hret hlk rfl (hb hby own_rf_d7) (Nat.le_of_ble_eq_true rfl) (Nat.le_of_ble_eq_true rfl) ⟨congrArg _ hf, rfl⟩
theorem own_rf_pn : plainName "com/example/quire/quire/xdm/NamesIsNameStartPinLaw" = true := by first | (simp [plainName, overriddenIn]; done) | decide +kernel
theorem own_rf_ef (m : MethodId) (x0 : Int32) : entryFrame m #[.int x0] 1 = mkF m 0 #[.val (.int x0)] [] := by first | (simp [entryFrame, mkF, argsToLocals, Value.category]; done) | rfl
theorem own_rf_C (l : Launch) (Z : State) (a0 : Array Value) (hw : ∀ d ∈ tables_1, d.before a0 Z = true) (n0 : Nat) (h : Heap)  (x0 : Int32) : own_C l Z ⟨"com/example/quire/quire/xdm/NamesIsNameStartPinLaw", "ref", "(I)Z"⟩ method_3_code 1 (some .boolean) #[.int x0] n0 h (.int (own_rf_f0 x0)) :=
  own_met own_rf_pn (fun m => own_rf_ef m x0) fun p e s m below meth c hx hby hml hown hZ hret hlk => own_rf_b0 hx hby hml hown hZ hw hret hlk  x0 _ rfl
theorem own_pdI : parseMethodDescriptor "(I)Z" = some ⟨[.int], some .boolean⟩ := by decide +kernel
/-! the plain law -/
theorem own_ltP {x : Int32} (z : Int32) {k : Int} (hz : z.toInt = k) (h : x.toInt < k) : x < z := Int32.lt_iff_toInt_lt.mpr (by omega)
theorem own_ltN {x : Int32} (z : Int32) {k : Int} (hz : z.toInt = k) (h : k ≤ x.toInt) : ¬ x < z := fun q => by have := Int32.lt_iff_toInt_lt.mp q; omega
theorem own_leP {x : Int32} (z : Int32) {k : Int} (hz : z.toInt = k) (h : x.toInt ≤ k) : x ≤ z := Int32.le_iff_toInt_le.mpr (by omega)
theorem own_leN {x : Int32} (z : Int32) {k : Int} (hz : z.toInt = k) (h : k < x.toInt) : ¬ x ≤ z := fun q => by have := Int32.le_iff_toInt_le.mp q; omega
theorem own_geP {x : Int32} (z : Int32) {k : Int} (hz : z.toInt = k) (h : k ≤ x.toInt) : z ≤ x := Int32.le_iff_toInt_le.mpr (by omega)
theorem own_geN {x : Int32} (z : Int32) {k : Int} (hz : z.toInt = k) (h : x.toInt < k) : ¬ z ≤ x := fun q => by have := Int32.le_iff_toInt_le.mp q; omega
theorem own_gtP {x : Int32} (z : Int32) {k : Int} (hz : z.toInt = k) (h : k < x.toInt) : z < x := Int32.lt_iff_toInt_lt.mpr (by omega)
theorem own_gtN {x : Int32} (z : Int32) {k : Int} (hz : z.toInt = k) (h : x.toInt ≤ k) : ¬ z < x := fun q => by have := Int32.lt_iff_toInt_lt.mp q; omega
theorem own_eqP {x : Int32} (z : Int32) {k : Int} (hz : z.toInt = k) (h : x.toInt = k) : x = z := Int32.toInt_inj.mp (by omega)
theorem own_eqN {x : Int32} (z : Int32) {k : Int} (hz : z.toInt = k) (h : x.toInt < k ∨ k < x.toInt) : ¬ x = z := fun q => by subst q; omega

theorem own_ns_i0 (x0 : Int32) (h2 : x0.toInt ≤ 64) : own_ns_f0 x0 = (0 : Int32) := by
  unfold own_ns_f0
  rw [if_pos (own_ltP (97 : Int32) (k := 97) rfl (by omega))]
  unfold own_ns_f12
  rw [if_pos (own_ltP (65 : Int32) (k := 65) rfl (by omega))]
  unfold own_ns_f24
  rw [if_neg (own_eqN (95 : Int32) (k := 95) rfl (by omega))]
  unfold own_ns_f30
  rw [if_pos (own_ltP (192 : Int32) (k := 192) rfl (by omega))]
  unfold own_ns_f44
  rw [if_pos (own_ltP (216 : Int32) (k := 216) rfl (by omega))]
  unfold own_ns_f58
  rw [if_pos (own_ltP (248 : Int32) (k := 248) rfl (by omega))]
  unfold own_ns_f72
  rw [if_pos (own_ltP (880 : Int32) (k := 880) rfl (by omega))]
  unfold own_ns_f86
  rw [if_pos (own_ltP (895 : Int32) (k := 895) rfl (by omega))]
  unfold own_ns_f100
  rw [if_pos (own_ltP (8204 : Int32) (k := 8204) rfl (by omega))]
  unfold own_ns_f114
  rw [if_pos (own_ltP (8304 : Int32) (k := 8304) rfl (by omega))]
  unfold own_ns_f128
  rw [if_pos (own_ltP (11264 : Int32) (k := 11264) rfl (by omega))]
  unfold own_ns_f142
  rw [if_pos (own_ltP (12289 : Int32) (k := 12289) rfl (by omega))]
  unfold own_ns_f155
  rw [if_pos (own_ltP (63744 : Int32) (k := 63744) rfl (by omega))]
  unfold own_ns_f167
  rw [if_pos (own_ltP (65008 : Int32) (k := 65008) rfl (by omega))]
  unfold own_ns_f179
  rw [if_pos (own_ltP (65536 : Int32) (k := 65536) rfl (by omega))]
theorem own_rf_i0 (x0 : Int32) (h2 : x0.toInt ≤ 64) : own_rf_f0 x0 = (0 : Int32) := by
  unfold own_rf_f0
  rw [if_neg (own_geN (65 : Int32) (k := 65) rfl (by omega))]
theorem own_ns_i1 (x0 : Int32) (h1 : 65 ≤ x0.toInt) (h2 : x0.toInt ≤ 90) : own_ns_f0 x0 = (1 : Int32) := by
  unfold own_ns_f0
  rw [if_pos (own_ltP (97 : Int32) (k := 97) rfl (by omega))]
  unfold own_ns_f12
  rw [if_neg (own_ltN (65 : Int32) (k := 65) rfl (by omega))]
  rw [if_pos (own_leP (90 : Int32) (k := 90) rfl (by omega))]
theorem own_rf_i1 (x0 : Int32) (h1 : 65 ≤ x0.toInt) (h2 : x0.toInt ≤ 90) : own_rf_f0 x0 = (1 : Int32) := by
  unfold own_rf_f0
  rw [if_pos (own_geP (65 : Int32) (k := 65) rfl (by omega))]
  rw [if_neg (own_gtN (90 : Int32) (k := 90) rfl (by omega))]
theorem own_ns_i2 (x0 : Int32) (h1 : 91 ≤ x0.toInt) (h2 : x0.toInt ≤ 94) : own_ns_f0 x0 = (0 : Int32) := by
  unfold own_ns_f0
  rw [if_pos (own_ltP (97 : Int32) (k := 97) rfl (by omega))]
  unfold own_ns_f12
  rw [if_neg (own_ltN (65 : Int32) (k := 65) rfl (by omega))]
  rw [if_neg (own_leN (90 : Int32) (k := 90) rfl (by omega))]
  unfold own_ns_f24
  rw [if_neg (own_eqN (95 : Int32) (k := 95) rfl (by omega))]
  unfold own_ns_f30
  rw [if_pos (own_ltP (192 : Int32) (k := 192) rfl (by omega))]
  unfold own_ns_f44
  rw [if_pos (own_ltP (216 : Int32) (k := 216) rfl (by omega))]
  unfold own_ns_f58
  rw [if_pos (own_ltP (248 : Int32) (k := 248) rfl (by omega))]
  unfold own_ns_f72
  rw [if_pos (own_ltP (880 : Int32) (k := 880) rfl (by omega))]
  unfold own_ns_f86
  rw [if_pos (own_ltP (895 : Int32) (k := 895) rfl (by omega))]
  unfold own_ns_f100
  rw [if_pos (own_ltP (8204 : Int32) (k := 8204) rfl (by omega))]
  unfold own_ns_f114
  rw [if_pos (own_ltP (8304 : Int32) (k := 8304) rfl (by omega))]
  unfold own_ns_f128
  rw [if_pos (own_ltP (11264 : Int32) (k := 11264) rfl (by omega))]
  unfold own_ns_f142
  rw [if_pos (own_ltP (12289 : Int32) (k := 12289) rfl (by omega))]
  unfold own_ns_f155
  rw [if_pos (own_ltP (63744 : Int32) (k := 63744) rfl (by omega))]
  unfold own_ns_f167
  rw [if_pos (own_ltP (65008 : Int32) (k := 65008) rfl (by omega))]
  unfold own_ns_f179
  rw [if_pos (own_ltP (65536 : Int32) (k := 65536) rfl (by omega))]
theorem own_rf_i2 (x0 : Int32) (h1 : 91 ≤ x0.toInt) (h2 : x0.toInt ≤ 94) : own_rf_f0 x0 = (0 : Int32) := by
  unfold own_rf_f0
  rw [if_pos (own_geP (65 : Int32) (k := 65) rfl (by omega))]
  rw [if_pos (own_gtP (90 : Int32) (k := 90) rfl (by omega))]
  rw [if_neg (own_geN (95 : Int32) (k := 95) rfl (by omega))]
theorem own_ns_i3 (x0 : Int32) (h1 : 95 ≤ x0.toInt) (h2 : x0.toInt ≤ 95) : own_ns_f0 x0 = (1 : Int32) := by
  unfold own_ns_f0
  rw [if_pos (own_ltP (97 : Int32) (k := 97) rfl (by omega))]
  unfold own_ns_f12
  rw [if_neg (own_ltN (65 : Int32) (k := 65) rfl (by omega))]
  rw [if_neg (own_leN (90 : Int32) (k := 90) rfl (by omega))]
  unfold own_ns_f24
  rw [if_pos (own_eqP (95 : Int32) (k := 95) rfl (by omega))]
theorem own_rf_i3 (x0 : Int32) (h1 : 95 ≤ x0.toInt) (h2 : x0.toInt ≤ 95) : own_rf_f0 x0 = (1 : Int32) := by
  unfold own_rf_f0
  rw [if_pos (own_geP (65 : Int32) (k := 65) rfl (by omega))]
  rw [if_pos (own_gtP (90 : Int32) (k := 90) rfl (by omega))]
  rw [if_pos (own_geP (95 : Int32) (k := 95) rfl (by omega))]
  rw [if_pos (own_eqP (95 : Int32) (k := 95) rfl (by omega))]
theorem own_ns_i4 (x0 : Int32) (h1 : 96 ≤ x0.toInt) (h2 : x0.toInt ≤ 96) : own_ns_f0 x0 = (0 : Int32) := by
  unfold own_ns_f0
  rw [if_pos (own_ltP (97 : Int32) (k := 97) rfl (by omega))]
  unfold own_ns_f12
  rw [if_neg (own_ltN (65 : Int32) (k := 65) rfl (by omega))]
  rw [if_neg (own_leN (90 : Int32) (k := 90) rfl (by omega))]
  unfold own_ns_f24
  rw [if_neg (own_eqN (95 : Int32) (k := 95) rfl (by omega))]
  unfold own_ns_f30
  rw [if_pos (own_ltP (192 : Int32) (k := 192) rfl (by omega))]
  unfold own_ns_f44
  rw [if_pos (own_ltP (216 : Int32) (k := 216) rfl (by omega))]
  unfold own_ns_f58
  rw [if_pos (own_ltP (248 : Int32) (k := 248) rfl (by omega))]
  unfold own_ns_f72
  rw [if_pos (own_ltP (880 : Int32) (k := 880) rfl (by omega))]
  unfold own_ns_f86
  rw [if_pos (own_ltP (895 : Int32) (k := 895) rfl (by omega))]
  unfold own_ns_f100
  rw [if_pos (own_ltP (8204 : Int32) (k := 8204) rfl (by omega))]
  unfold own_ns_f114
  rw [if_pos (own_ltP (8304 : Int32) (k := 8304) rfl (by omega))]
  unfold own_ns_f128
  rw [if_pos (own_ltP (11264 : Int32) (k := 11264) rfl (by omega))]
  unfold own_ns_f142
  rw [if_pos (own_ltP (12289 : Int32) (k := 12289) rfl (by omega))]
  unfold own_ns_f155
  rw [if_pos (own_ltP (63744 : Int32) (k := 63744) rfl (by omega))]
  unfold own_ns_f167
  rw [if_pos (own_ltP (65008 : Int32) (k := 65008) rfl (by omega))]
  unfold own_ns_f179
  rw [if_pos (own_ltP (65536 : Int32) (k := 65536) rfl (by omega))]
theorem own_rf_i4 (x0 : Int32) (h1 : 96 ≤ x0.toInt) (h2 : x0.toInt ≤ 96) : own_rf_f0 x0 = (0 : Int32) := by
  unfold own_rf_f0
  rw [if_pos (own_geP (65 : Int32) (k := 65) rfl (by omega))]
  rw [if_pos (own_gtP (90 : Int32) (k := 90) rfl (by omega))]
  rw [if_pos (own_geP (95 : Int32) (k := 95) rfl (by omega))]
  rw [if_neg (own_eqN (95 : Int32) (k := 95) rfl (by omega))]
  unfold own_rf_f32
  rw [if_pos (own_eqP (96 : Int32) (k := 96) rfl (by omega))]
theorem own_ns_i5 (x0 : Int32) (h1 : 97 ≤ x0.toInt) (h2 : x0.toInt ≤ 122) : own_ns_f0 x0 = (1 : Int32) := by
  unfold own_ns_f0
  rw [if_neg (own_ltN (97 : Int32) (k := 97) rfl (by omega))]
  rw [if_pos (own_leP (122 : Int32) (k := 122) rfl (by omega))]
theorem own_rf_i5 (x0 : Int32) (h1 : 97 ≤ x0.toInt) (h2 : x0.toInt ≤ 122) : own_rf_f0 x0 = (1 : Int32) := by
  unfold own_rf_f0
  rw [if_pos (own_geP (65 : Int32) (k := 65) rfl (by omega))]
  rw [if_pos (own_gtP (90 : Int32) (k := 90) rfl (by omega))]
  rw [if_pos (own_geP (95 : Int32) (k := 95) rfl (by omega))]
  rw [if_neg (own_eqN (95 : Int32) (k := 95) rfl (by omega))]
  unfold own_rf_f32
  rw [if_neg (own_eqN (96 : Int32) (k := 96) rfl (by omega))]
  rw [if_neg (own_gtN (122 : Int32) (k := 122) rfl (by omega))]
theorem own_ns_i6 (x0 : Int32) (h1 : 123 ≤ x0.toInt) (h2 : x0.toInt ≤ 191) : own_ns_f0 x0 = (0 : Int32) := by
  unfold own_ns_f0
  rw [if_neg (own_ltN (97 : Int32) (k := 97) rfl (by omega))]
  rw [if_neg (own_leN (122 : Int32) (k := 122) rfl (by omega))]
  unfold own_ns_f12
  rw [if_neg (own_ltN (65 : Int32) (k := 65) rfl (by omega))]
  rw [if_neg (own_leN (90 : Int32) (k := 90) rfl (by omega))]
  unfold own_ns_f24
  rw [if_neg (own_eqN (95 : Int32) (k := 95) rfl (by omega))]
  unfold own_ns_f30
  rw [if_pos (own_ltP (192 : Int32) (k := 192) rfl (by omega))]
  unfold own_ns_f44
  rw [if_pos (own_ltP (216 : Int32) (k := 216) rfl (by omega))]
  unfold own_ns_f58
  rw [if_pos (own_ltP (248 : Int32) (k := 248) rfl (by omega))]
  unfold own_ns_f72
  rw [if_pos (own_ltP (880 : Int32) (k := 880) rfl (by omega))]
  unfold own_ns_f86
  rw [if_pos (own_ltP (895 : Int32) (k := 895) rfl (by omega))]
  unfold own_ns_f100
  rw [if_pos (own_ltP (8204 : Int32) (k := 8204) rfl (by omega))]
  unfold own_ns_f114
  rw [if_pos (own_ltP (8304 : Int32) (k := 8304) rfl (by omega))]
  unfold own_ns_f128
  rw [if_pos (own_ltP (11264 : Int32) (k := 11264) rfl (by omega))]
  unfold own_ns_f142
  rw [if_pos (own_ltP (12289 : Int32) (k := 12289) rfl (by omega))]
  unfold own_ns_f155
  rw [if_pos (own_ltP (63744 : Int32) (k := 63744) rfl (by omega))]
  unfold own_ns_f167
  rw [if_pos (own_ltP (65008 : Int32) (k := 65008) rfl (by omega))]
  unfold own_ns_f179
  rw [if_pos (own_ltP (65536 : Int32) (k := 65536) rfl (by omega))]
theorem own_rf_i6 (x0 : Int32) (h1 : 123 ≤ x0.toInt) (h2 : x0.toInt ≤ 191) : own_rf_f0 x0 = (0 : Int32) := by
  unfold own_rf_f0
  rw [if_pos (own_geP (65 : Int32) (k := 65) rfl (by omega))]
  rw [if_pos (own_gtP (90 : Int32) (k := 90) rfl (by omega))]
  rw [if_pos (own_geP (95 : Int32) (k := 95) rfl (by omega))]
  rw [if_neg (own_eqN (95 : Int32) (k := 95) rfl (by omega))]
  unfold own_rf_f32
  rw [if_neg (own_eqN (96 : Int32) (k := 96) rfl (by omega))]
  rw [if_pos (own_gtP (122 : Int32) (k := 122) rfl (by omega))]
  rw [if_neg (own_geN (192 : Int32) (k := 192) rfl (by omega))]
theorem own_ns_i7 (x0 : Int32) (h1 : 192 ≤ x0.toInt) (h2 : x0.toInt ≤ 214) : own_ns_f0 x0 = (1 : Int32) := by
  unfold own_ns_f0
  rw [if_neg (own_ltN (97 : Int32) (k := 97) rfl (by omega))]
  rw [if_neg (own_leN (122 : Int32) (k := 122) rfl (by omega))]
  unfold own_ns_f12
  rw [if_neg (own_ltN (65 : Int32) (k := 65) rfl (by omega))]
  rw [if_neg (own_leN (90 : Int32) (k := 90) rfl (by omega))]
  unfold own_ns_f24
  rw [if_neg (own_eqN (95 : Int32) (k := 95) rfl (by omega))]
  unfold own_ns_f30
  rw [if_neg (own_ltN (192 : Int32) (k := 192) rfl (by omega))]
  rw [if_pos (own_leP (214 : Int32) (k := 214) rfl (by omega))]
theorem own_rf_i7 (x0 : Int32) (h1 : 192 ≤ x0.toInt) (h2 : x0.toInt ≤ 214) : own_rf_f0 x0 = (1 : Int32) := by
  unfold own_rf_f0
  rw [if_pos (own_geP (65 : Int32) (k := 65) rfl (by omega))]
  rw [if_pos (own_gtP (90 : Int32) (k := 90) rfl (by omega))]
  rw [if_pos (own_geP (95 : Int32) (k := 95) rfl (by omega))]
  rw [if_neg (own_eqN (95 : Int32) (k := 95) rfl (by omega))]
  unfold own_rf_f32
  rw [if_neg (own_eqN (96 : Int32) (k := 96) rfl (by omega))]
  rw [if_pos (own_gtP (122 : Int32) (k := 122) rfl (by omega))]
  rw [if_pos (own_geP (192 : Int32) (k := 192) rfl (by omega))]
  rw [if_neg (own_gtN (214 : Int32) (k := 214) rfl (by omega))]
theorem own_ns_i8 (x0 : Int32) (h1 : 215 ≤ x0.toInt) (h2 : x0.toInt ≤ 215) : own_ns_f0 x0 = (0 : Int32) := by
  unfold own_ns_f0
  rw [if_neg (own_ltN (97 : Int32) (k := 97) rfl (by omega))]
  rw [if_neg (own_leN (122 : Int32) (k := 122) rfl (by omega))]
  unfold own_ns_f12
  rw [if_neg (own_ltN (65 : Int32) (k := 65) rfl (by omega))]
  rw [if_neg (own_leN (90 : Int32) (k := 90) rfl (by omega))]
  unfold own_ns_f24
  rw [if_neg (own_eqN (95 : Int32) (k := 95) rfl (by omega))]
  unfold own_ns_f30
  rw [if_neg (own_ltN (192 : Int32) (k := 192) rfl (by omega))]
  rw [if_neg (own_leN (214 : Int32) (k := 214) rfl (by omega))]
  unfold own_ns_f44
  rw [if_pos (own_ltP (216 : Int32) (k := 216) rfl (by omega))]
  unfold own_ns_f58
  rw [if_pos (own_ltP (248 : Int32) (k := 248) rfl (by omega))]
  unfold own_ns_f72
  rw [if_pos (own_ltP (880 : Int32) (k := 880) rfl (by omega))]
  unfold own_ns_f86
  rw [if_pos (own_ltP (895 : Int32) (k := 895) rfl (by omega))]
  unfold own_ns_f100
  rw [if_pos (own_ltP (8204 : Int32) (k := 8204) rfl (by omega))]
  unfold own_ns_f114
  rw [if_pos (own_ltP (8304 : Int32) (k := 8304) rfl (by omega))]
  unfold own_ns_f128
  rw [if_pos (own_ltP (11264 : Int32) (k := 11264) rfl (by omega))]
  unfold own_ns_f142
  rw [if_pos (own_ltP (12289 : Int32) (k := 12289) rfl (by omega))]
  unfold own_ns_f155
  rw [if_pos (own_ltP (63744 : Int32) (k := 63744) rfl (by omega))]
  unfold own_ns_f167
  rw [if_pos (own_ltP (65008 : Int32) (k := 65008) rfl (by omega))]
  unfold own_ns_f179
  rw [if_pos (own_ltP (65536 : Int32) (k := 65536) rfl (by omega))]
theorem own_rf_i8 (x0 : Int32) (h1 : 215 ≤ x0.toInt) (h2 : x0.toInt ≤ 215) : own_rf_f0 x0 = (0 : Int32) := by
  unfold own_rf_f0
  rw [if_pos (own_geP (65 : Int32) (k := 65) rfl (by omega))]
  rw [if_pos (own_gtP (90 : Int32) (k := 90) rfl (by omega))]
  rw [if_pos (own_geP (95 : Int32) (k := 95) rfl (by omega))]
  rw [if_neg (own_eqN (95 : Int32) (k := 95) rfl (by omega))]
  unfold own_rf_f32
  rw [if_neg (own_eqN (96 : Int32) (k := 96) rfl (by omega))]
  rw [if_pos (own_gtP (122 : Int32) (k := 122) rfl (by omega))]
  rw [if_pos (own_geP (192 : Int32) (k := 192) rfl (by omega))]
  rw [if_pos (own_gtP (214 : Int32) (k := 214) rfl (by omega))]
  unfold own_rf_f66
  rw [if_pos (own_eqP (215 : Int32) (k := 215) rfl (by omega))]
theorem own_ns_i9 (x0 : Int32) (h1 : 216 ≤ x0.toInt) (h2 : x0.toInt ≤ 246) : own_ns_f0 x0 = (1 : Int32) := by
  unfold own_ns_f0
  rw [if_neg (own_ltN (97 : Int32) (k := 97) rfl (by omega))]
  rw [if_neg (own_leN (122 : Int32) (k := 122) rfl (by omega))]
  unfold own_ns_f12
  rw [if_neg (own_ltN (65 : Int32) (k := 65) rfl (by omega))]
  rw [if_neg (own_leN (90 : Int32) (k := 90) rfl (by omega))]
  unfold own_ns_f24
  rw [if_neg (own_eqN (95 : Int32) (k := 95) rfl (by omega))]
  unfold own_ns_f30
  rw [if_neg (own_ltN (192 : Int32) (k := 192) rfl (by omega))]
  rw [if_neg (own_leN (214 : Int32) (k := 214) rfl (by omega))]
  unfold own_ns_f44
  rw [if_neg (own_ltN (216 : Int32) (k := 216) rfl (by omega))]
  rw [if_pos (own_leP (246 : Int32) (k := 246) rfl (by omega))]
theorem own_rf_i9 (x0 : Int32) (h1 : 216 ≤ x0.toInt) (h2 : x0.toInt ≤ 246) : own_rf_f0 x0 = (1 : Int32) := by
  unfold own_rf_f0
  rw [if_pos (own_geP (65 : Int32) (k := 65) rfl (by omega))]
  rw [if_pos (own_gtP (90 : Int32) (k := 90) rfl (by omega))]
  rw [if_pos (own_geP (95 : Int32) (k := 95) rfl (by omega))]
  rw [if_neg (own_eqN (95 : Int32) (k := 95) rfl (by omega))]
  unfold own_rf_f32
  rw [if_neg (own_eqN (96 : Int32) (k := 96) rfl (by omega))]
  rw [if_pos (own_gtP (122 : Int32) (k := 122) rfl (by omega))]
  rw [if_pos (own_geP (192 : Int32) (k := 192) rfl (by omega))]
  rw [if_pos (own_gtP (214 : Int32) (k := 214) rfl (by omega))]
  unfold own_rf_f66
  rw [if_neg (own_eqN (215 : Int32) (k := 215) rfl (by omega))]
  rw [if_neg (own_gtN (246 : Int32) (k := 246) rfl (by omega))]
theorem own_ns_i10 (x0 : Int32) (h1 : 247 ≤ x0.toInt) (h2 : x0.toInt ≤ 247) : own_ns_f0 x0 = (0 : Int32) := by
  unfold own_ns_f0
  rw [if_neg (own_ltN (97 : Int32) (k := 97) rfl (by omega))]
  rw [if_neg (own_leN (122 : Int32) (k := 122) rfl (by omega))]
  unfold own_ns_f12
  rw [if_neg (own_ltN (65 : Int32) (k := 65) rfl (by omega))]
  rw [if_neg (own_leN (90 : Int32) (k := 90) rfl (by omega))]
  unfold own_ns_f24
  rw [if_neg (own_eqN (95 : Int32) (k := 95) rfl (by omega))]
  unfold own_ns_f30
  rw [if_neg (own_ltN (192 : Int32) (k := 192) rfl (by omega))]
  rw [if_neg (own_leN (214 : Int32) (k := 214) rfl (by omega))]
  unfold own_ns_f44
  rw [if_neg (own_ltN (216 : Int32) (k := 216) rfl (by omega))]
  rw [if_neg (own_leN (246 : Int32) (k := 246) rfl (by omega))]
  unfold own_ns_f58
  rw [if_pos (own_ltP (248 : Int32) (k := 248) rfl (by omega))]
  unfold own_ns_f72
  rw [if_pos (own_ltP (880 : Int32) (k := 880) rfl (by omega))]
  unfold own_ns_f86
  rw [if_pos (own_ltP (895 : Int32) (k := 895) rfl (by omega))]
  unfold own_ns_f100
  rw [if_pos (own_ltP (8204 : Int32) (k := 8204) rfl (by omega))]
  unfold own_ns_f114
  rw [if_pos (own_ltP (8304 : Int32) (k := 8304) rfl (by omega))]
  unfold own_ns_f128
  rw [if_pos (own_ltP (11264 : Int32) (k := 11264) rfl (by omega))]
  unfold own_ns_f142
  rw [if_pos (own_ltP (12289 : Int32) (k := 12289) rfl (by omega))]
  unfold own_ns_f155
  rw [if_pos (own_ltP (63744 : Int32) (k := 63744) rfl (by omega))]
  unfold own_ns_f167
  rw [if_pos (own_ltP (65008 : Int32) (k := 65008) rfl (by omega))]
  unfold own_ns_f179
  rw [if_pos (own_ltP (65536 : Int32) (k := 65536) rfl (by omega))]
theorem own_rf_i10 (x0 : Int32) (h1 : 247 ≤ x0.toInt) (h2 : x0.toInt ≤ 247) : own_rf_f0 x0 = (0 : Int32) := by
  unfold own_rf_f0
  rw [if_pos (own_geP (65 : Int32) (k := 65) rfl (by omega))]
  rw [if_pos (own_gtP (90 : Int32) (k := 90) rfl (by omega))]
  rw [if_pos (own_geP (95 : Int32) (k := 95) rfl (by omega))]
  rw [if_neg (own_eqN (95 : Int32) (k := 95) rfl (by omega))]
  unfold own_rf_f32
  rw [if_neg (own_eqN (96 : Int32) (k := 96) rfl (by omega))]
  rw [if_pos (own_gtP (122 : Int32) (k := 122) rfl (by omega))]
  rw [if_pos (own_geP (192 : Int32) (k := 192) rfl (by omega))]
  rw [if_pos (own_gtP (214 : Int32) (k := 214) rfl (by omega))]
  unfold own_rf_f66
  rw [if_neg (own_eqN (215 : Int32) (k := 215) rfl (by omega))]
  rw [if_pos (own_gtP (246 : Int32) (k := 246) rfl (by omega))]
  rw [if_pos (own_eqP (247 : Int32) (k := 247) rfl (by omega))]
theorem own_ns_i11 (x0 : Int32) (h1 : 248 ≤ x0.toInt) (h2 : x0.toInt ≤ 767) : own_ns_f0 x0 = (1 : Int32) := by
  unfold own_ns_f0
  rw [if_neg (own_ltN (97 : Int32) (k := 97) rfl (by omega))]
  rw [if_neg (own_leN (122 : Int32) (k := 122) rfl (by omega))]
  unfold own_ns_f12
  rw [if_neg (own_ltN (65 : Int32) (k := 65) rfl (by omega))]
  rw [if_neg (own_leN (90 : Int32) (k := 90) rfl (by omega))]
  unfold own_ns_f24
  rw [if_neg (own_eqN (95 : Int32) (k := 95) rfl (by omega))]
  unfold own_ns_f30
  rw [if_neg (own_ltN (192 : Int32) (k := 192) rfl (by omega))]
  rw [if_neg (own_leN (214 : Int32) (k := 214) rfl (by omega))]
  unfold own_ns_f44
  rw [if_neg (own_ltN (216 : Int32) (k := 216) rfl (by omega))]
  rw [if_neg (own_leN (246 : Int32) (k := 246) rfl (by omega))]
  unfold own_ns_f58
  rw [if_neg (own_ltN (248 : Int32) (k := 248) rfl (by omega))]
  rw [if_pos (own_leP (767 : Int32) (k := 767) rfl (by omega))]
theorem own_rf_i11 (x0 : Int32) (h1 : 248 ≤ x0.toInt) (h2 : x0.toInt ≤ 767) : own_rf_f0 x0 = (1 : Int32) := by
  unfold own_rf_f0
  rw [if_pos (own_geP (65 : Int32) (k := 65) rfl (by omega))]
  rw [if_pos (own_gtP (90 : Int32) (k := 90) rfl (by omega))]
  rw [if_pos (own_geP (95 : Int32) (k := 95) rfl (by omega))]
  rw [if_neg (own_eqN (95 : Int32) (k := 95) rfl (by omega))]
  unfold own_rf_f32
  rw [if_neg (own_eqN (96 : Int32) (k := 96) rfl (by omega))]
  rw [if_pos (own_gtP (122 : Int32) (k := 122) rfl (by omega))]
  rw [if_pos (own_geP (192 : Int32) (k := 192) rfl (by omega))]
  rw [if_pos (own_gtP (214 : Int32) (k := 214) rfl (by omega))]
  unfold own_rf_f66
  rw [if_neg (own_eqN (215 : Int32) (k := 215) rfl (by omega))]
  rw [if_pos (own_gtP (246 : Int32) (k := 246) rfl (by omega))]
  rw [if_neg (own_eqN (247 : Int32) (k := 247) rfl (by omega))]
  rw [if_neg (own_gtN (767 : Int32) (k := 767) rfl (by omega))]
theorem own_ns_i12 (x0 : Int32) (h1 : 768 ≤ x0.toInt) (h2 : x0.toInt ≤ 879) : own_ns_f0 x0 = (0 : Int32) := by
  unfold own_ns_f0
  rw [if_neg (own_ltN (97 : Int32) (k := 97) rfl (by omega))]
  rw [if_neg (own_leN (122 : Int32) (k := 122) rfl (by omega))]
  unfold own_ns_f12
  rw [if_neg (own_ltN (65 : Int32) (k := 65) rfl (by omega))]
  rw [if_neg (own_leN (90 : Int32) (k := 90) rfl (by omega))]
  unfold own_ns_f24
  rw [if_neg (own_eqN (95 : Int32) (k := 95) rfl (by omega))]
  unfold own_ns_f30
  rw [if_neg (own_ltN (192 : Int32) (k := 192) rfl (by omega))]
  rw [if_neg (own_leN (214 : Int32) (k := 214) rfl (by omega))]
  unfold own_ns_f44
  rw [if_neg (own_ltN (216 : Int32) (k := 216) rfl (by omega))]
  rw [if_neg (own_leN (246 : Int32) (k := 246) rfl (by omega))]
  unfold own_ns_f58
  rw [if_neg (own_ltN (248 : Int32) (k := 248) rfl (by omega))]
  rw [if_neg (own_leN (767 : Int32) (k := 767) rfl (by omega))]
  unfold own_ns_f72
  rw [if_pos (own_ltP (880 : Int32) (k := 880) rfl (by omega))]
  unfold own_ns_f86
  rw [if_pos (own_ltP (895 : Int32) (k := 895) rfl (by omega))]
  unfold own_ns_f100
  rw [if_pos (own_ltP (8204 : Int32) (k := 8204) rfl (by omega))]
  unfold own_ns_f114
  rw [if_pos (own_ltP (8304 : Int32) (k := 8304) rfl (by omega))]
  unfold own_ns_f128
  rw [if_pos (own_ltP (11264 : Int32) (k := 11264) rfl (by omega))]
  unfold own_ns_f142
  rw [if_pos (own_ltP (12289 : Int32) (k := 12289) rfl (by omega))]
  unfold own_ns_f155
  rw [if_pos (own_ltP (63744 : Int32) (k := 63744) rfl (by omega))]
  unfold own_ns_f167
  rw [if_pos (own_ltP (65008 : Int32) (k := 65008) rfl (by omega))]
  unfold own_ns_f179
  rw [if_pos (own_ltP (65536 : Int32) (k := 65536) rfl (by omega))]
theorem own_rf_i12 (x0 : Int32) (h1 : 768 ≤ x0.toInt) (h2 : x0.toInt ≤ 879) : own_rf_f0 x0 = (0 : Int32) := by
  unfold own_rf_f0
  rw [if_pos (own_geP (65 : Int32) (k := 65) rfl (by omega))]
  rw [if_pos (own_gtP (90 : Int32) (k := 90) rfl (by omega))]
  rw [if_pos (own_geP (95 : Int32) (k := 95) rfl (by omega))]
  rw [if_neg (own_eqN (95 : Int32) (k := 95) rfl (by omega))]
  unfold own_rf_f32
  rw [if_neg (own_eqN (96 : Int32) (k := 96) rfl (by omega))]
  rw [if_pos (own_gtP (122 : Int32) (k := 122) rfl (by omega))]
  rw [if_pos (own_geP (192 : Int32) (k := 192) rfl (by omega))]
  rw [if_pos (own_gtP (214 : Int32) (k := 214) rfl (by omega))]
  unfold own_rf_f66
  rw [if_neg (own_eqN (215 : Int32) (k := 215) rfl (by omega))]
  rw [if_pos (own_gtP (246 : Int32) (k := 246) rfl (by omega))]
  rw [if_neg (own_eqN (247 : Int32) (k := 247) rfl (by omega))]
  rw [if_pos (own_gtP (767 : Int32) (k := 767) rfl (by omega))]
  unfold own_rf_f102
  rw [if_neg (own_geN (880 : Int32) (k := 880) rfl (by omega))]
theorem own_ns_i13 (x0 : Int32) (h1 : 880 ≤ x0.toInt) (h2 : x0.toInt ≤ 893) : own_ns_f0 x0 = (1 : Int32) := by
  unfold own_ns_f0
  rw [if_neg (own_ltN (97 : Int32) (k := 97) rfl (by omega))]
  rw [if_neg (own_leN (122 : Int32) (k := 122) rfl (by omega))]
  unfold own_ns_f12
  rw [if_neg (own_ltN (65 : Int32) (k := 65) rfl (by omega))]
  rw [if_neg (own_leN (90 : Int32) (k := 90) rfl (by omega))]
  unfold own_ns_f24
  rw [if_neg (own_eqN (95 : Int32) (k := 95) rfl (by omega))]
  unfold own_ns_f30
  rw [if_neg (own_ltN (192 : Int32) (k := 192) rfl (by omega))]
  rw [if_neg (own_leN (214 : Int32) (k := 214) rfl (by omega))]
  unfold own_ns_f44
  rw [if_neg (own_ltN (216 : Int32) (k := 216) rfl (by omega))]
  rw [if_neg (own_leN (246 : Int32) (k := 246) rfl (by omega))]
  unfold own_ns_f58
  rw [if_neg (own_ltN (248 : Int32) (k := 248) rfl (by omega))]
  rw [if_neg (own_leN (767 : Int32) (k := 767) rfl (by omega))]
  unfold own_ns_f72
  rw [if_neg (own_ltN (880 : Int32) (k := 880) rfl (by omega))]
  rw [if_pos (own_leP (893 : Int32) (k := 893) rfl (by omega))]
theorem own_rf_i13 (x0 : Int32) (h1 : 880 ≤ x0.toInt) (h2 : x0.toInt ≤ 893) : own_rf_f0 x0 = (1 : Int32) := by
  unfold own_rf_f0
  rw [if_pos (own_geP (65 : Int32) (k := 65) rfl (by omega))]
  rw [if_pos (own_gtP (90 : Int32) (k := 90) rfl (by omega))]
  rw [if_pos (own_geP (95 : Int32) (k := 95) rfl (by omega))]
  rw [if_neg (own_eqN (95 : Int32) (k := 95) rfl (by omega))]
  unfold own_rf_f32
  rw [if_neg (own_eqN (96 : Int32) (k := 96) rfl (by omega))]
  rw [if_pos (own_gtP (122 : Int32) (k := 122) rfl (by omega))]
  rw [if_pos (own_geP (192 : Int32) (k := 192) rfl (by omega))]
  rw [if_pos (own_gtP (214 : Int32) (k := 214) rfl (by omega))]
  unfold own_rf_f66
  rw [if_neg (own_eqN (215 : Int32) (k := 215) rfl (by omega))]
  rw [if_pos (own_gtP (246 : Int32) (k := 246) rfl (by omega))]
  rw [if_neg (own_eqN (247 : Int32) (k := 247) rfl (by omega))]
  rw [if_pos (own_gtP (767 : Int32) (k := 767) rfl (by omega))]
  unfold own_rf_f102
  rw [if_pos (own_geP (880 : Int32) (k := 880) rfl (by omega))]
  rw [if_neg (own_gtN (893 : Int32) (k := 893) rfl (by omega))]
theorem own_ns_i14 (x0 : Int32) (h1 : 894 ≤ x0.toInt) (h2 : x0.toInt ≤ 894) : own_ns_f0 x0 = (0 : Int32) := by
  unfold own_ns_f0
  rw [if_neg (own_ltN (97 : Int32) (k := 97) rfl (by omega))]
  rw [if_neg (own_leN (122 : Int32) (k := 122) rfl (by omega))]
  unfold own_ns_f12
  rw [if_neg (own_ltN (65 : Int32) (k := 65) rfl (by omega))]
  rw [if_neg (own_leN (90 : Int32) (k := 90) rfl (by omega))]
  unfold own_ns_f24
  rw [if_neg (own_eqN (95 : Int32) (k := 95) rfl (by omega))]
  unfold own_ns_f30
  rw [if_neg (own_ltN (192 : Int32) (k := 192) rfl (by omega))]
  rw [if_neg (own_leN (214 : Int32) (k := 214) rfl (by omega))]
  unfold own_ns_f44
  rw [if_neg (own_ltN (216 : Int32) (k := 216) rfl (by omega))]
  rw [if_neg (own_leN (246 : Int32) (k := 246) rfl (by omega))]
  unfold own_ns_f58
  rw [if_neg (own_ltN (248 : Int32) (k := 248) rfl (by omega))]
  rw [if_neg (own_leN (767 : Int32) (k := 767) rfl (by omega))]
  unfold own_ns_f72
  rw [if_neg (own_ltN (880 : Int32) (k := 880) rfl (by omega))]
  rw [if_neg (own_leN (893 : Int32) (k := 893) rfl (by omega))]
  unfold own_ns_f86
  rw [if_pos (own_ltP (895 : Int32) (k := 895) rfl (by omega))]
  unfold own_ns_f100
  rw [if_pos (own_ltP (8204 : Int32) (k := 8204) rfl (by omega))]
  unfold own_ns_f114
  rw [if_pos (own_ltP (8304 : Int32) (k := 8304) rfl (by omega))]
  unfold own_ns_f128
  rw [if_pos (own_ltP (11264 : Int32) (k := 11264) rfl (by omega))]
  unfold own_ns_f142
  rw [if_pos (own_ltP (12289 : Int32) (k := 12289) rfl (by omega))]
  unfold own_ns_f155
  rw [if_pos (own_ltP (63744 : Int32) (k := 63744) rfl (by omega))]
  unfold own_ns_f167
  rw [if_pos (own_ltP (65008 : Int32) (k := 65008) rfl (by omega))]
  unfold own_ns_f179
  rw [if_pos (own_ltP (65536 : Int32) (k := 65536) rfl (by omega))]
theorem own_rf_i14 (x0 : Int32) (h1 : 894 ≤ x0.toInt) (h2 : x0.toInt ≤ 894) : own_rf_f0 x0 = (0 : Int32) := by
  unfold own_rf_f0
  rw [if_pos (own_geP (65 : Int32) (k := 65) rfl (by omega))]
  rw [if_pos (own_gtP (90 : Int32) (k := 90) rfl (by omega))]
  rw [if_pos (own_geP (95 : Int32) (k := 95) rfl (by omega))]
  rw [if_neg (own_eqN (95 : Int32) (k := 95) rfl (by omega))]
  unfold own_rf_f32
  rw [if_neg (own_eqN (96 : Int32) (k := 96) rfl (by omega))]
  rw [if_pos (own_gtP (122 : Int32) (k := 122) rfl (by omega))]
  rw [if_pos (own_geP (192 : Int32) (k := 192) rfl (by omega))]
  rw [if_pos (own_gtP (214 : Int32) (k := 214) rfl (by omega))]
  unfold own_rf_f66
  rw [if_neg (own_eqN (215 : Int32) (k := 215) rfl (by omega))]
  rw [if_pos (own_gtP (246 : Int32) (k := 246) rfl (by omega))]
  rw [if_neg (own_eqN (247 : Int32) (k := 247) rfl (by omega))]
  rw [if_pos (own_gtP (767 : Int32) (k := 767) rfl (by omega))]
  unfold own_rf_f102
  rw [if_pos (own_geP (880 : Int32) (k := 880) rfl (by omega))]
  rw [if_pos (own_gtP (893 : Int32) (k := 893) rfl (by omega))]
  rw [if_pos (own_eqP (894 : Int32) (k := 894) rfl (by omega))]
theorem own_ns_i15 (x0 : Int32) (h1 : 895 ≤ x0.toInt) (h2 : x0.toInt ≤ 8191) : own_ns_f0 x0 = (1 : Int32) := by
  unfold own_ns_f0
  rw [if_neg (own_ltN (97 : Int32) (k := 97) rfl (by omega))]
  rw [if_neg (own_leN (122 : Int32) (k := 122) rfl (by omega))]
  unfold own_ns_f12
  rw [if_neg (own_ltN (65 : Int32) (k := 65) rfl (by omega))]
  rw [if_neg (own_leN (90 : Int32) (k := 90) rfl (by omega))]
  unfold own_ns_f24
  rw [if_neg (own_eqN (95 : Int32) (k := 95) rfl (by omega))]
  unfold own_ns_f30
  rw [if_neg (own_ltN (192 : Int32) (k := 192) rfl (by omega))]
  rw [if_neg (own_leN (214 : Int32) (k := 214) rfl (by omega))]
  unfold own_ns_f44
  rw [if_neg (own_ltN (216 : Int32) (k := 216) rfl (by omega))]
  rw [if_neg (own_leN (246 : Int32) (k := 246) rfl (by omega))]
  unfold own_ns_f58
  rw [if_neg (own_ltN (248 : Int32) (k := 248) rfl (by omega))]
  rw [if_neg (own_leN (767 : Int32) (k := 767) rfl (by omega))]
  unfold own_ns_f72
  rw [if_neg (own_ltN (880 : Int32) (k := 880) rfl (by omega))]
  rw [if_neg (own_leN (893 : Int32) (k := 893) rfl (by omega))]
  unfold own_ns_f86
  rw [if_neg (own_ltN (895 : Int32) (k := 895) rfl (by omega))]
  rw [if_pos (own_leP (8191 : Int32) (k := 8191) rfl (by omega))]
theorem own_rf_i15 (x0 : Int32) (h1 : 895 ≤ x0.toInt) (h2 : x0.toInt ≤ 8191) : own_rf_f0 x0 = (1 : Int32) := by
  unfold own_rf_f0
  rw [if_pos (own_geP (65 : Int32) (k := 65) rfl (by omega))]
  rw [if_pos (own_gtP (90 : Int32) (k := 90) rfl (by omega))]
  rw [if_pos (own_geP (95 : Int32) (k := 95) rfl (by omega))]
  rw [if_neg (own_eqN (95 : Int32) (k := 95) rfl (by omega))]
  unfold own_rf_f32
  rw [if_neg (own_eqN (96 : Int32) (k := 96) rfl (by omega))]
  rw [if_pos (own_gtP (122 : Int32) (k := 122) rfl (by omega))]
  rw [if_pos (own_geP (192 : Int32) (k := 192) rfl (by omega))]
  rw [if_pos (own_gtP (214 : Int32) (k := 214) rfl (by omega))]
  unfold own_rf_f66
  rw [if_neg (own_eqN (215 : Int32) (k := 215) rfl (by omega))]
  rw [if_pos (own_gtP (246 : Int32) (k := 246) rfl (by omega))]
  rw [if_neg (own_eqN (247 : Int32) (k := 247) rfl (by omega))]
  rw [if_pos (own_gtP (767 : Int32) (k := 767) rfl (by omega))]
  unfold own_rf_f102
  rw [if_pos (own_geP (880 : Int32) (k := 880) rfl (by omega))]
  rw [if_pos (own_gtP (893 : Int32) (k := 893) rfl (by omega))]
  rw [if_neg (own_eqN (894 : Int32) (k := 894) rfl (by omega))]
  rw [if_neg (own_gtN (8191 : Int32) (k := 8191) rfl (by omega))]
theorem own_ns_i16 (x0 : Int32) (h1 : 8192 ≤ x0.toInt) (h2 : x0.toInt ≤ 8203) : own_ns_f0 x0 = (0 : Int32) := by
  unfold own_ns_f0
  rw [if_neg (own_ltN (97 : Int32) (k := 97) rfl (by omega))]
  rw [if_neg (own_leN (122 : Int32) (k := 122) rfl (by omega))]
  unfold own_ns_f12
  rw [if_neg (own_ltN (65 : Int32) (k := 65) rfl (by omega))]
  rw [if_neg (own_leN (90 : Int32) (k := 90) rfl (by omega))]
  unfold own_ns_f24
  rw [if_neg (own_eqN (95 : Int32) (k := 95) rfl (by omega))]
  unfold own_ns_f30
  rw [if_neg (own_ltN (192 : Int32) (k := 192) rfl (by omega))]
  rw [if_neg (own_leN (214 : Int32) (k := 214) rfl (by omega))]
  unfold own_ns_f44
  rw [if_neg (own_ltN (216 : Int32) (k := 216) rfl (by omega))]
  rw [if_neg (own_leN (246 : Int32) (k := 246) rfl (by omega))]
  unfold own_ns_f58
  rw [if_neg (own_ltN (248 : Int32) (k := 248) rfl (by omega))]
  rw [if_neg (own_leN (767 : Int32) (k := 767) rfl (by omega))]
  unfold own_ns_f72
  rw [if_neg (own_ltN (880 : Int32) (k := 880) rfl (by omega))]
  rw [if_neg (own_leN (893 : Int32) (k := 893) rfl (by omega))]
  unfold own_ns_f86
  rw [if_neg (own_ltN (895 : Int32) (k := 895) rfl (by omega))]
  rw [if_neg (own_leN (8191 : Int32) (k := 8191) rfl (by omega))]
  unfold own_ns_f100
  rw [if_pos (own_ltP (8204 : Int32) (k := 8204) rfl (by omega))]
  unfold own_ns_f114
  rw [if_pos (own_ltP (8304 : Int32) (k := 8304) rfl (by omega))]
  unfold own_ns_f128
  rw [if_pos (own_ltP (11264 : Int32) (k := 11264) rfl (by omega))]
  unfold own_ns_f142
  rw [if_pos (own_ltP (12289 : Int32) (k := 12289) rfl (by omega))]
  unfold own_ns_f155
  rw [if_pos (own_ltP (63744 : Int32) (k := 63744) rfl (by omega))]
  unfold own_ns_f167
  rw [if_pos (own_ltP (65008 : Int32) (k := 65008) rfl (by omega))]
  unfold own_ns_f179
  rw [if_pos (own_ltP (65536 : Int32) (k := 65536) rfl (by omega))]
theorem own_rf_i16 (x0 : Int32) (h1 : 8192 ≤ x0.toInt) (h2 : x0.toInt ≤ 8203) : own_rf_f0 x0 = (0 : Int32) := by
  unfold own_rf_f0
  rw [if_pos (own_geP (65 : Int32) (k := 65) rfl (by omega))]
  rw [if_pos (own_gtP (90 : Int32) (k := 90) rfl (by omega))]
  rw [if_pos (own_geP (95 : Int32) (k := 95) rfl (by omega))]
  rw [if_neg (own_eqN (95 : Int32) (k := 95) rfl (by omega))]
  unfold own_rf_f32
  rw [if_neg (own_eqN (96 : Int32) (k := 96) rfl (by omega))]
  rw [if_pos (own_gtP (122 : Int32) (k := 122) rfl (by omega))]
  rw [if_pos (own_geP (192 : Int32) (k := 192) rfl (by omega))]
  rw [if_pos (own_gtP (214 : Int32) (k := 214) rfl (by omega))]
  unfold own_rf_f66
  rw [if_neg (own_eqN (215 : Int32) (k := 215) rfl (by omega))]
  rw [if_pos (own_gtP (246 : Int32) (k := 246) rfl (by omega))]
  rw [if_neg (own_eqN (247 : Int32) (k := 247) rfl (by omega))]
  rw [if_pos (own_gtP (767 : Int32) (k := 767) rfl (by omega))]
  unfold own_rf_f102
  rw [if_pos (own_geP (880 : Int32) (k := 880) rfl (by omega))]
  rw [if_pos (own_gtP (893 : Int32) (k := 893) rfl (by omega))]
  rw [if_neg (own_eqN (894 : Int32) (k := 894) rfl (by omega))]
  rw [if_pos (own_gtP (8191 : Int32) (k := 8191) rfl (by omega))]
  unfold own_rf_f138
  rw [if_neg (own_geN (8204 : Int32) (k := 8204) rfl (by omega))]
theorem own_ns_i17 (x0 : Int32) (h1 : 8204 ≤ x0.toInt) (h2 : x0.toInt ≤ 8205) : own_ns_f0 x0 = (1 : Int32) := by
  unfold own_ns_f0
  rw [if_neg (own_ltN (97 : Int32) (k := 97) rfl (by omega))]
  rw [if_neg (own_leN (122 : Int32) (k := 122) rfl (by omega))]
  unfold own_ns_f12
  rw [if_neg (own_ltN (65 : Int32) (k := 65) rfl (by omega))]
  rw [if_neg (own_leN (90 : Int32) (k := 90) rfl (by omega))]
  unfold own_ns_f24
  rw [if_neg (own_eqN (95 : Int32) (k := 95) rfl (by omega))]
  unfold own_ns_f30
  rw [if_neg (own_ltN (192 : Int32) (k := 192) rfl (by omega))]
  rw [if_neg (own_leN (214 : Int32) (k := 214) rfl (by omega))]
  unfold own_ns_f44
  rw [if_neg (own_ltN (216 : Int32) (k := 216) rfl (by omega))]
  rw [if_neg (own_leN (246 : Int32) (k := 246) rfl (by omega))]
  unfold own_ns_f58
  rw [if_neg (own_ltN (248 : Int32) (k := 248) rfl (by omega))]
  rw [if_neg (own_leN (767 : Int32) (k := 767) rfl (by omega))]
  unfold own_ns_f72
  rw [if_neg (own_ltN (880 : Int32) (k := 880) rfl (by omega))]
  rw [if_neg (own_leN (893 : Int32) (k := 893) rfl (by omega))]
  unfold own_ns_f86
  rw [if_neg (own_ltN (895 : Int32) (k := 895) rfl (by omega))]
  rw [if_neg (own_leN (8191 : Int32) (k := 8191) rfl (by omega))]
  unfold own_ns_f100
  rw [if_neg (own_ltN (8204 : Int32) (k := 8204) rfl (by omega))]
  rw [if_pos (own_leP (8205 : Int32) (k := 8205) rfl (by omega))]
theorem own_rf_i17 (x0 : Int32) (h1 : 8204 ≤ x0.toInt) (h2 : x0.toInt ≤ 8205) : own_rf_f0 x0 = (1 : Int32) := by
  unfold own_rf_f0
  rw [if_pos (own_geP (65 : Int32) (k := 65) rfl (by omega))]
  rw [if_pos (own_gtP (90 : Int32) (k := 90) rfl (by omega))]
  rw [if_pos (own_geP (95 : Int32) (k := 95) rfl (by omega))]
  rw [if_neg (own_eqN (95 : Int32) (k := 95) rfl (by omega))]
  unfold own_rf_f32
  rw [if_neg (own_eqN (96 : Int32) (k := 96) rfl (by omega))]
  rw [if_pos (own_gtP (122 : Int32) (k := 122) rfl (by omega))]
  rw [if_pos (own_geP (192 : Int32) (k := 192) rfl (by omega))]
  rw [if_pos (own_gtP (214 : Int32) (k := 214) rfl (by omega))]
  unfold own_rf_f66
  rw [if_neg (own_eqN (215 : Int32) (k := 215) rfl (by omega))]
  rw [if_pos (own_gtP (246 : Int32) (k := 246) rfl (by omega))]
  rw [if_neg (own_eqN (247 : Int32) (k := 247) rfl (by omega))]
  rw [if_pos (own_gtP (767 : Int32) (k := 767) rfl (by omega))]
  unfold own_rf_f102
  rw [if_pos (own_geP (880 : Int32) (k := 880) rfl (by omega))]
  rw [if_pos (own_gtP (893 : Int32) (k := 893) rfl (by omega))]
  rw [if_neg (own_eqN (894 : Int32) (k := 894) rfl (by omega))]
  rw [if_pos (own_gtP (8191 : Int32) (k := 8191) rfl (by omega))]
  unfold own_rf_f138
  rw [if_pos (own_geP (8204 : Int32) (k := 8204) rfl (by omega))]
  rw [if_neg (own_gtN (8205 : Int32) (k := 8205) rfl (by omega))]
theorem own_ns_i18 (x0 : Int32) (h1 : 8206 ≤ x0.toInt) (h2 : x0.toInt ≤ 8303) : own_ns_f0 x0 = (0 : Int32) := by
  unfold own_ns_f0
  rw [if_neg (own_ltN (97 : Int32) (k := 97) rfl (by omega))]
  rw [if_neg (own_leN (122 : Int32) (k := 122) rfl (by omega))]
  unfold own_ns_f12
  rw [if_neg (own_ltN (65 : Int32) (k := 65) rfl (by omega))]
  rw [if_neg (own_leN (90 : Int32) (k := 90) rfl (by omega))]
  unfold own_ns_f24
  rw [if_neg (own_eqN (95 : Int32) (k := 95) rfl (by omega))]
  unfold own_ns_f30
  rw [if_neg (own_ltN (192 : Int32) (k := 192) rfl (by omega))]
  rw [if_neg (own_leN (214 : Int32) (k := 214) rfl (by omega))]
  unfold own_ns_f44
  rw [if_neg (own_ltN (216 : Int32) (k := 216) rfl (by omega))]
  rw [if_neg (own_leN (246 : Int32) (k := 246) rfl (by omega))]
  unfold own_ns_f58
  rw [if_neg (own_ltN (248 : Int32) (k := 248) rfl (by omega))]
  rw [if_neg (own_leN (767 : Int32) (k := 767) rfl (by omega))]
  unfold own_ns_f72
  rw [if_neg (own_ltN (880 : Int32) (k := 880) rfl (by omega))]
  rw [if_neg (own_leN (893 : Int32) (k := 893) rfl (by omega))]
  unfold own_ns_f86
  rw [if_neg (own_ltN (895 : Int32) (k := 895) rfl (by omega))]
  rw [if_neg (own_leN (8191 : Int32) (k := 8191) rfl (by omega))]
  unfold own_ns_f100
  rw [if_neg (own_ltN (8204 : Int32) (k := 8204) rfl (by omega))]
  rw [if_neg (own_leN (8205 : Int32) (k := 8205) rfl (by omega))]
  unfold own_ns_f114
  rw [if_pos (own_ltP (8304 : Int32) (k := 8304) rfl (by omega))]
  unfold own_ns_f128
  rw [if_pos (own_ltP (11264 : Int32) (k := 11264) rfl (by omega))]
  unfold own_ns_f142
  rw [if_pos (own_ltP (12289 : Int32) (k := 12289) rfl (by omega))]
  unfold own_ns_f155
  rw [if_pos (own_ltP (63744 : Int32) (k := 63744) rfl (by omega))]
  unfold own_ns_f167
  rw [if_pos (own_ltP (65008 : Int32) (k := 65008) rfl (by omega))]
  unfold own_ns_f179
  rw [if_pos (own_ltP (65536 : Int32) (k := 65536) rfl (by omega))]
theorem own_rf_i18 (x0 : Int32) (h1 : 8206 ≤ x0.toInt) (h2 : x0.toInt ≤ 8303) : own_rf_f0 x0 = (0 : Int32) := by
  unfold own_rf_f0
  rw [if_pos (own_geP (65 : Int32) (k := 65) rfl (by omega))]
  rw [if_pos (own_gtP (90 : Int32) (k := 90) rfl (by omega))]
  rw [if_pos (own_geP (95 : Int32) (k := 95) rfl (by omega))]
  rw [if_neg (own_eqN (95 : Int32) (k := 95) rfl (by omega))]
  unfold own_rf_f32
  rw [if_neg (own_eqN (96 : Int32) (k := 96) rfl (by omega))]
  rw [if_pos (own_gtP (122 : Int32) (k := 122) rfl (by omega))]
  rw [if_pos (own_geP (192 : Int32) (k := 192) rfl (by omega))]
  rw [if_pos (own_gtP (214 : Int32) (k := 214) rfl (by omega))]
  unfold own_rf_f66
  rw [if_neg (own_eqN (215 : Int32) (k := 215) rfl (by omega))]
  rw [if_pos (own_gtP (246 : Int32) (k := 246) rfl (by omega))]
  rw [if_neg (own_eqN (247 : Int32) (k := 247) rfl (by omega))]
  rw [if_pos (own_gtP (767 : Int32) (k := 767) rfl (by omega))]
  unfold own_rf_f102
  rw [if_pos (own_geP (880 : Int32) (k := 880) rfl (by omega))]
  rw [if_pos (own_gtP (893 : Int32) (k := 893) rfl (by omega))]
  rw [if_neg (own_eqN (894 : Int32) (k := 894) rfl (by omega))]
  rw [if_pos (own_gtP (8191 : Int32) (k := 8191) rfl (by omega))]
  unfold own_rf_f138
  rw [if_pos (own_geP (8204 : Int32) (k := 8204) rfl (by omega))]
  rw [if_pos (own_gtP (8205 : Int32) (k := 8205) rfl (by omega))]
  rw [if_neg (own_geN (8304 : Int32) (k := 8304) rfl (by omega))]
theorem own_ns_i19 (x0 : Int32) (h1 : 8304 ≤ x0.toInt) (h2 : x0.toInt ≤ 8591) : own_ns_f0 x0 = (1 : Int32) := by
  unfold own_ns_f0
  rw [if_neg (own_ltN (97 : Int32) (k := 97) rfl (by omega))]
  rw [if_neg (own_leN (122 : Int32) (k := 122) rfl (by omega))]
  unfold own_ns_f12
  rw [if_neg (own_ltN (65 : Int32) (k := 65) rfl (by omega))]
  rw [if_neg (own_leN (90 : Int32) (k := 90) rfl (by omega))]
  unfold own_ns_f24
  rw [if_neg (own_eqN (95 : Int32) (k := 95) rfl (by omega))]
  unfold own_ns_f30
  rw [if_neg (own_ltN (192 : Int32) (k := 192) rfl (by omega))]
  rw [if_neg (own_leN (214 : Int32) (k := 214) rfl (by omega))]
  unfold own_ns_f44
  rw [if_neg (own_ltN (216 : Int32) (k := 216) rfl (by omega))]
  rw [if_neg (own_leN (246 : Int32) (k := 246) rfl (by omega))]
  unfold own_ns_f58
  rw [if_neg (own_ltN (248 : Int32) (k := 248) rfl (by omega))]
  rw [if_neg (own_leN (767 : Int32) (k := 767) rfl (by omega))]
  unfold own_ns_f72
  rw [if_neg (own_ltN (880 : Int32) (k := 880) rfl (by omega))]
  rw [if_neg (own_leN (893 : Int32) (k := 893) rfl (by omega))]
  unfold own_ns_f86
  rw [if_neg (own_ltN (895 : Int32) (k := 895) rfl (by omega))]
  rw [if_neg (own_leN (8191 : Int32) (k := 8191) rfl (by omega))]
  unfold own_ns_f100
  rw [if_neg (own_ltN (8204 : Int32) (k := 8204) rfl (by omega))]
  rw [if_neg (own_leN (8205 : Int32) (k := 8205) rfl (by omega))]
  unfold own_ns_f114
  rw [if_neg (own_ltN (8304 : Int32) (k := 8304) rfl (by omega))]
  rw [if_pos (own_leP (8591 : Int32) (k := 8591) rfl (by omega))]
theorem own_rf_i19 (x0 : Int32) (h1 : 8304 ≤ x0.toInt) (h2 : x0.toInt ≤ 8591) : own_rf_f0 x0 = (1 : Int32) := by
  unfold own_rf_f0
  rw [if_pos (own_geP (65 : Int32) (k := 65) rfl (by omega))]
  rw [if_pos (own_gtP (90 : Int32) (k := 90) rfl (by omega))]
  rw [if_pos (own_geP (95 : Int32) (k := 95) rfl (by omega))]
  rw [if_neg (own_eqN (95 : Int32) (k := 95) rfl (by omega))]
  unfold own_rf_f32
  rw [if_neg (own_eqN (96 : Int32) (k := 96) rfl (by omega))]
  rw [if_pos (own_gtP (122 : Int32) (k := 122) rfl (by omega))]
  rw [if_pos (own_geP (192 : Int32) (k := 192) rfl (by omega))]
  rw [if_pos (own_gtP (214 : Int32) (k := 214) rfl (by omega))]
  unfold own_rf_f66
  rw [if_neg (own_eqN (215 : Int32) (k := 215) rfl (by omega))]
  rw [if_pos (own_gtP (246 : Int32) (k := 246) rfl (by omega))]
  rw [if_neg (own_eqN (247 : Int32) (k := 247) rfl (by omega))]
  rw [if_pos (own_gtP (767 : Int32) (k := 767) rfl (by omega))]
  unfold own_rf_f102
  rw [if_pos (own_geP (880 : Int32) (k := 880) rfl (by omega))]
  rw [if_pos (own_gtP (893 : Int32) (k := 893) rfl (by omega))]
  rw [if_neg (own_eqN (894 : Int32) (k := 894) rfl (by omega))]
  rw [if_pos (own_gtP (8191 : Int32) (k := 8191) rfl (by omega))]
  unfold own_rf_f138
  rw [if_pos (own_geP (8204 : Int32) (k := 8204) rfl (by omega))]
  rw [if_pos (own_gtP (8205 : Int32) (k := 8205) rfl (by omega))]
  rw [if_pos (own_geP (8304 : Int32) (k := 8304) rfl (by omega))]
  rw [if_neg (own_gtN (8591 : Int32) (k := 8591) rfl (by omega))]
theorem own_ns_i20 (x0 : Int32) (h1 : 8592 ≤ x0.toInt) (h2 : x0.toInt ≤ 11263) : own_ns_f0 x0 = (0 : Int32) := by
  unfold own_ns_f0
  rw [if_neg (own_ltN (97 : Int32) (k := 97) rfl (by omega))]
  rw [if_neg (own_leN (122 : Int32) (k := 122) rfl (by omega))]
  unfold own_ns_f12
  rw [if_neg (own_ltN (65 : Int32) (k := 65) rfl (by omega))]
  rw [if_neg (own_leN (90 : Int32) (k := 90) rfl (by omega))]
  unfold own_ns_f24
  rw [if_neg (own_eqN (95 : Int32) (k := 95) rfl (by omega))]
  unfold own_ns_f30
  rw [if_neg (own_ltN (192 : Int32) (k := 192) rfl (by omega))]
  rw [if_neg (own_leN (214 : Int32) (k := 214) rfl (by omega))]
  unfold own_ns_f44
  rw [if_neg (own_ltN (216 : Int32) (k := 216) rfl (by omega))]
  rw [if_neg (own_leN (246 : Int32) (k := 246) rfl (by omega))]
  unfold own_ns_f58
  rw [if_neg (own_ltN (248 : Int32) (k := 248) rfl (by omega))]
  rw [if_neg (own_leN (767 : Int32) (k := 767) rfl (by omega))]
  unfold own_ns_f72
  rw [if_neg (own_ltN (880 : Int32) (k := 880) rfl (by omega))]
  rw [if_neg (own_leN (893 : Int32) (k := 893) rfl (by omega))]
  unfold own_ns_f86
  rw [if_neg (own_ltN (895 : Int32) (k := 895) rfl (by omega))]
  rw [if_neg (own_leN (8191 : Int32) (k := 8191) rfl (by omega))]
  unfold own_ns_f100
  rw [if_neg (own_ltN (8204 : Int32) (k := 8204) rfl (by omega))]
  rw [if_neg (own_leN (8205 : Int32) (k := 8205) rfl (by omega))]
  unfold own_ns_f114
  rw [if_neg (own_ltN (8304 : Int32) (k := 8304) rfl (by omega))]
  rw [if_neg (own_leN (8591 : Int32) (k := 8591) rfl (by omega))]
  unfold own_ns_f128
  rw [if_pos (own_ltP (11264 : Int32) (k := 11264) rfl (by omega))]
  unfold own_ns_f142
  rw [if_pos (own_ltP (12289 : Int32) (k := 12289) rfl (by omega))]
  unfold own_ns_f155
  rw [if_pos (own_ltP (63744 : Int32) (k := 63744) rfl (by omega))]
  unfold own_ns_f167
  rw [if_pos (own_ltP (65008 : Int32) (k := 65008) rfl (by omega))]
  unfold own_ns_f179
  rw [if_pos (own_ltP (65536 : Int32) (k := 65536) rfl (by omega))]
theorem own_rf_i20 (x0 : Int32) (h1 : 8592 ≤ x0.toInt) (h2 : x0.toInt ≤ 11263) : own_rf_f0 x0 = (0 : Int32) := by
  unfold own_rf_f0
  rw [if_pos (own_geP (65 : Int32) (k := 65) rfl (by omega))]
  rw [if_pos (own_gtP (90 : Int32) (k := 90) rfl (by omega))]
  rw [if_pos (own_geP (95 : Int32) (k := 95) rfl (by omega))]
  rw [if_neg (own_eqN (95 : Int32) (k := 95) rfl (by omega))]
  unfold own_rf_f32
  rw [if_neg (own_eqN (96 : Int32) (k := 96) rfl (by omega))]
  rw [if_pos (own_gtP (122 : Int32) (k := 122) rfl (by omega))]
  rw [if_pos (own_geP (192 : Int32) (k := 192) rfl (by omega))]
  rw [if_pos (own_gtP (214 : Int32) (k := 214) rfl (by omega))]
  unfold own_rf_f66
  rw [if_neg (own_eqN (215 : Int32) (k := 215) rfl (by omega))]
  rw [if_pos (own_gtP (246 : Int32) (k := 246) rfl (by omega))]
  rw [if_neg (own_eqN (247 : Int32) (k := 247) rfl (by omega))]
  rw [if_pos (own_gtP (767 : Int32) (k := 767) rfl (by omega))]
  unfold own_rf_f102
  rw [if_pos (own_geP (880 : Int32) (k := 880) rfl (by omega))]
  rw [if_pos (own_gtP (893 : Int32) (k := 893) rfl (by omega))]
  rw [if_neg (own_eqN (894 : Int32) (k := 894) rfl (by omega))]
  rw [if_pos (own_gtP (8191 : Int32) (k := 8191) rfl (by omega))]
  unfold own_rf_f138
  rw [if_pos (own_geP (8204 : Int32) (k := 8204) rfl (by omega))]
  rw [if_pos (own_gtP (8205 : Int32) (k := 8205) rfl (by omega))]
  rw [if_pos (own_geP (8304 : Int32) (k := 8304) rfl (by omega))]
  rw [if_pos (own_gtP (8591 : Int32) (k := 8591) rfl (by omega))]
  unfold own_rf_f174
  rw [if_neg (own_geN (11264 : Int32) (k := 11264) rfl (by omega))]
theorem own_ns_i21 (x0 : Int32) (h1 : 11264 ≤ x0.toInt) (h2 : x0.toInt ≤ 12271) : own_ns_f0 x0 = (1 : Int32) := by
  unfold own_ns_f0
  rw [if_neg (own_ltN (97 : Int32) (k := 97) rfl (by omega))]
  rw [if_neg (own_leN (122 : Int32) (k := 122) rfl (by omega))]
  unfold own_ns_f12
  rw [if_neg (own_ltN (65 : Int32) (k := 65) rfl (by omega))]
  rw [if_neg (own_leN (90 : Int32) (k := 90) rfl (by omega))]
  unfold own_ns_f24
  rw [if_neg (own_eqN (95 : Int32) (k := 95) rfl (by omega))]
  unfold own_ns_f30
  rw [if_neg (own_ltN (192 : Int32) (k := 192) rfl (by omega))]
  rw [if_neg (own_leN (214 : Int32) (k := 214) rfl (by omega))]
  unfold own_ns_f44
  rw [if_neg (own_ltN (216 : Int32) (k := 216) rfl (by omega))]
  rw [if_neg (own_leN (246 : Int32) (k := 246) rfl (by omega))]
  unfold own_ns_f58
  rw [if_neg (own_ltN (248 : Int32) (k := 248) rfl (by omega))]
  rw [if_neg (own_leN (767 : Int32) (k := 767) rfl (by omega))]
  unfold own_ns_f72
  rw [if_neg (own_ltN (880 : Int32) (k := 880) rfl (by omega))]
  rw [if_neg (own_leN (893 : Int32) (k := 893) rfl (by omega))]
  unfold own_ns_f86
  rw [if_neg (own_ltN (895 : Int32) (k := 895) rfl (by omega))]
  rw [if_neg (own_leN (8191 : Int32) (k := 8191) rfl (by omega))]
  unfold own_ns_f100
  rw [if_neg (own_ltN (8204 : Int32) (k := 8204) rfl (by omega))]
  rw [if_neg (own_leN (8205 : Int32) (k := 8205) rfl (by omega))]
  unfold own_ns_f114
  rw [if_neg (own_ltN (8304 : Int32) (k := 8304) rfl (by omega))]
  rw [if_neg (own_leN (8591 : Int32) (k := 8591) rfl (by omega))]
  unfold own_ns_f128
  rw [if_neg (own_ltN (11264 : Int32) (k := 11264) rfl (by omega))]
  rw [if_pos (own_leP (12271 : Int32) (k := 12271) rfl (by omega))]
theorem own_rf_i21 (x0 : Int32) (h1 : 11264 ≤ x0.toInt) (h2 : x0.toInt ≤ 12271) : own_rf_f0 x0 = (1 : Int32) := by
  unfold own_rf_f0
  rw [if_pos (own_geP (65 : Int32) (k := 65) rfl (by omega))]
  rw [if_pos (own_gtP (90 : Int32) (k := 90) rfl (by omega))]
  rw [if_pos (own_geP (95 : Int32) (k := 95) rfl (by omega))]
  rw [if_neg (own_eqN (95 : Int32) (k := 95) rfl (by omega))]
  unfold own_rf_f32
  rw [if_neg (own_eqN (96 : Int32) (k := 96) rfl (by omega))]
  rw [if_pos (own_gtP (122 : Int32) (k := 122) rfl (by omega))]
  rw [if_pos (own_geP (192 : Int32) (k := 192) rfl (by omega))]
  rw [if_pos (own_gtP (214 : Int32) (k := 214) rfl (by omega))]
  unfold own_rf_f66
  rw [if_neg (own_eqN (215 : Int32) (k := 215) rfl (by omega))]
  rw [if_pos (own_gtP (246 : Int32) (k := 246) rfl (by omega))]
  rw [if_neg (own_eqN (247 : Int32) (k := 247) rfl (by omega))]
  rw [if_pos (own_gtP (767 : Int32) (k := 767) rfl (by omega))]
  unfold own_rf_f102
  rw [if_pos (own_geP (880 : Int32) (k := 880) rfl (by omega))]
  rw [if_pos (own_gtP (893 : Int32) (k := 893) rfl (by omega))]
  rw [if_neg (own_eqN (894 : Int32) (k := 894) rfl (by omega))]
  rw [if_pos (own_gtP (8191 : Int32) (k := 8191) rfl (by omega))]
  unfold own_rf_f138
  rw [if_pos (own_geP (8204 : Int32) (k := 8204) rfl (by omega))]
  rw [if_pos (own_gtP (8205 : Int32) (k := 8205) rfl (by omega))]
  rw [if_pos (own_geP (8304 : Int32) (k := 8304) rfl (by omega))]
  rw [if_pos (own_gtP (8591 : Int32) (k := 8591) rfl (by omega))]
  unfold own_rf_f174
  rw [if_pos (own_geP (11264 : Int32) (k := 11264) rfl (by omega))]
  rw [if_neg (own_gtN (12271 : Int32) (k := 12271) rfl (by omega))]
theorem own_ns_i22 (x0 : Int32) (h1 : 12272 ≤ x0.toInt) (h2 : x0.toInt ≤ 12288) : own_ns_f0 x0 = (0 : Int32) := by
  unfold own_ns_f0
  rw [if_neg (own_ltN (97 : Int32) (k := 97) rfl (by omega))]
  rw [if_neg (own_leN (122 : Int32) (k := 122) rfl (by omega))]
  unfold own_ns_f12
  rw [if_neg (own_ltN (65 : Int32) (k := 65) rfl (by omega))]
  rw [if_neg (own_leN (90 : Int32) (k := 90) rfl (by omega))]
  unfold own_ns_f24
  rw [if_neg (own_eqN (95 : Int32) (k := 95) rfl (by omega))]
  unfold own_ns_f30
  rw [if_neg (own_ltN (192 : Int32) (k := 192) rfl (by omega))]
  rw [if_neg (own_leN (214 : Int32) (k := 214) rfl (by omega))]
  unfold own_ns_f44
  rw [if_neg (own_ltN (216 : Int32) (k := 216) rfl (by omega))]
  rw [if_neg (own_leN (246 : Int32) (k := 246) rfl (by omega))]
  unfold own_ns_f58
  rw [if_neg (own_ltN (248 : Int32) (k := 248) rfl (by omega))]
  rw [if_neg (own_leN (767 : Int32) (k := 767) rfl (by omega))]
  unfold own_ns_f72
  rw [if_neg (own_ltN (880 : Int32) (k := 880) rfl (by omega))]
  rw [if_neg (own_leN (893 : Int32) (k := 893) rfl (by omega))]
  unfold own_ns_f86
  rw [if_neg (own_ltN (895 : Int32) (k := 895) rfl (by omega))]
  rw [if_neg (own_leN (8191 : Int32) (k := 8191) rfl (by omega))]
  unfold own_ns_f100
  rw [if_neg (own_ltN (8204 : Int32) (k := 8204) rfl (by omega))]
  rw [if_neg (own_leN (8205 : Int32) (k := 8205) rfl (by omega))]
  unfold own_ns_f114
  rw [if_neg (own_ltN (8304 : Int32) (k := 8304) rfl (by omega))]
  rw [if_neg (own_leN (8591 : Int32) (k := 8591) rfl (by omega))]
  unfold own_ns_f128
  rw [if_neg (own_ltN (11264 : Int32) (k := 11264) rfl (by omega))]
  rw [if_neg (own_leN (12271 : Int32) (k := 12271) rfl (by omega))]
  unfold own_ns_f142
  rw [if_pos (own_ltP (12289 : Int32) (k := 12289) rfl (by omega))]
  unfold own_ns_f155
  rw [if_pos (own_ltP (63744 : Int32) (k := 63744) rfl (by omega))]
  unfold own_ns_f167
  rw [if_pos (own_ltP (65008 : Int32) (k := 65008) rfl (by omega))]
  unfold own_ns_f179
  rw [if_pos (own_ltP (65536 : Int32) (k := 65536) rfl (by omega))]
theorem own_rf_i22 (x0 : Int32) (h1 : 12272 ≤ x0.toInt) (h2 : x0.toInt ≤ 12288) : own_rf_f0 x0 = (0 : Int32) := by
  unfold own_rf_f0
  rw [if_pos (own_geP (65 : Int32) (k := 65) rfl (by omega))]
  rw [if_pos (own_gtP (90 : Int32) (k := 90) rfl (by omega))]
  rw [if_pos (own_geP (95 : Int32) (k := 95) rfl (by omega))]
  rw [if_neg (own_eqN (95 : Int32) (k := 95) rfl (by omega))]
  unfold own_rf_f32
  rw [if_neg (own_eqN (96 : Int32) (k := 96) rfl (by omega))]
  rw [if_pos (own_gtP (122 : Int32) (k := 122) rfl (by omega))]
  rw [if_pos (own_geP (192 : Int32) (k := 192) rfl (by omega))]
  rw [if_pos (own_gtP (214 : Int32) (k := 214) rfl (by omega))]
  unfold own_rf_f66
  rw [if_neg (own_eqN (215 : Int32) (k := 215) rfl (by omega))]
  rw [if_pos (own_gtP (246 : Int32) (k := 246) rfl (by omega))]
  rw [if_neg (own_eqN (247 : Int32) (k := 247) rfl (by omega))]
  rw [if_pos (own_gtP (767 : Int32) (k := 767) rfl (by omega))]
  unfold own_rf_f102
  rw [if_pos (own_geP (880 : Int32) (k := 880) rfl (by omega))]
  rw [if_pos (own_gtP (893 : Int32) (k := 893) rfl (by omega))]
  rw [if_neg (own_eqN (894 : Int32) (k := 894) rfl (by omega))]
  rw [if_pos (own_gtP (8191 : Int32) (k := 8191) rfl (by omega))]
  unfold own_rf_f138
  rw [if_pos (own_geP (8204 : Int32) (k := 8204) rfl (by omega))]
  rw [if_pos (own_gtP (8205 : Int32) (k := 8205) rfl (by omega))]
  rw [if_pos (own_geP (8304 : Int32) (k := 8304) rfl (by omega))]
  rw [if_pos (own_gtP (8591 : Int32) (k := 8591) rfl (by omega))]
  unfold own_rf_f174
  rw [if_pos (own_geP (11264 : Int32) (k := 11264) rfl (by omega))]
  rw [if_pos (own_gtP (12271 : Int32) (k := 12271) rfl (by omega))]
  rw [if_neg (own_gtN (12288 : Int32) (k := 12288) rfl (by omega))]
theorem own_ns_i23 (x0 : Int32) (h1 : 12289 ≤ x0.toInt) (h2 : x0.toInt ≤ 55295) : own_ns_f0 x0 = (1 : Int32) := by
  unfold own_ns_f0
  rw [if_neg (own_ltN (97 : Int32) (k := 97) rfl (by omega))]
  rw [if_neg (own_leN (122 : Int32) (k := 122) rfl (by omega))]
  unfold own_ns_f12
  rw [if_neg (own_ltN (65 : Int32) (k := 65) rfl (by omega))]
  rw [if_neg (own_leN (90 : Int32) (k := 90) rfl (by omega))]
  unfold own_ns_f24
  rw [if_neg (own_eqN (95 : Int32) (k := 95) rfl (by omega))]
  unfold own_ns_f30
  rw [if_neg (own_ltN (192 : Int32) (k := 192) rfl (by omega))]
  rw [if_neg (own_leN (214 : Int32) (k := 214) rfl (by omega))]
  unfold own_ns_f44
  rw [if_neg (own_ltN (216 : Int32) (k := 216) rfl (by omega))]
  rw [if_neg (own_leN (246 : Int32) (k := 246) rfl (by omega))]
  unfold own_ns_f58
  rw [if_neg (own_ltN (248 : Int32) (k := 248) rfl (by omega))]
  rw [if_neg (own_leN (767 : Int32) (k := 767) rfl (by omega))]
  unfold own_ns_f72
  rw [if_neg (own_ltN (880 : Int32) (k := 880) rfl (by omega))]
  rw [if_neg (own_leN (893 : Int32) (k := 893) rfl (by omega))]
  unfold own_ns_f86
  rw [if_neg (own_ltN (895 : Int32) (k := 895) rfl (by omega))]
  rw [if_neg (own_leN (8191 : Int32) (k := 8191) rfl (by omega))]
  unfold own_ns_f100
  rw [if_neg (own_ltN (8204 : Int32) (k := 8204) rfl (by omega))]
  rw [if_neg (own_leN (8205 : Int32) (k := 8205) rfl (by omega))]
  unfold own_ns_f114
  rw [if_neg (own_ltN (8304 : Int32) (k := 8304) rfl (by omega))]
  rw [if_neg (own_leN (8591 : Int32) (k := 8591) rfl (by omega))]
  unfold own_ns_f128
  rw [if_neg (own_ltN (11264 : Int32) (k := 11264) rfl (by omega))]
  rw [if_neg (own_leN (12271 : Int32) (k := 12271) rfl (by omega))]
  unfold own_ns_f142
  rw [if_neg (own_ltN (12289 : Int32) (k := 12289) rfl (by omega))]
  rw [if_pos (own_leP (55295 : Int32) (k := 55295) rfl (by omega))]
theorem own_rf_i23 (x0 : Int32) (h1 : 12289 ≤ x0.toInt) (h2 : x0.toInt ≤ 55295) : own_rf_f0 x0 = (1 : Int32) := by
  unfold own_rf_f0
  rw [if_pos (own_geP (65 : Int32) (k := 65) rfl (by omega))]
  rw [if_pos (own_gtP (90 : Int32) (k := 90) rfl (by omega))]
  rw [if_pos (own_geP (95 : Int32) (k := 95) rfl (by omega))]
  rw [if_neg (own_eqN (95 : Int32) (k := 95) rfl (by omega))]
  unfold own_rf_f32
  rw [if_neg (own_eqN (96 : Int32) (k := 96) rfl (by omega))]
  rw [if_pos (own_gtP (122 : Int32) (k := 122) rfl (by omega))]
  rw [if_pos (own_geP (192 : Int32) (k := 192) rfl (by omega))]
  rw [if_pos (own_gtP (214 : Int32) (k := 214) rfl (by omega))]
  unfold own_rf_f66
  rw [if_neg (own_eqN (215 : Int32) (k := 215) rfl (by omega))]
  rw [if_pos (own_gtP (246 : Int32) (k := 246) rfl (by omega))]
  rw [if_neg (own_eqN (247 : Int32) (k := 247) rfl (by omega))]
  rw [if_pos (own_gtP (767 : Int32) (k := 767) rfl (by omega))]
  unfold own_rf_f102
  rw [if_pos (own_geP (880 : Int32) (k := 880) rfl (by omega))]
  rw [if_pos (own_gtP (893 : Int32) (k := 893) rfl (by omega))]
  rw [if_neg (own_eqN (894 : Int32) (k := 894) rfl (by omega))]
  rw [if_pos (own_gtP (8191 : Int32) (k := 8191) rfl (by omega))]
  unfold own_rf_f138
  rw [if_pos (own_geP (8204 : Int32) (k := 8204) rfl (by omega))]
  rw [if_pos (own_gtP (8205 : Int32) (k := 8205) rfl (by omega))]
  rw [if_pos (own_geP (8304 : Int32) (k := 8304) rfl (by omega))]
  rw [if_pos (own_gtP (8591 : Int32) (k := 8591) rfl (by omega))]
  unfold own_rf_f174
  rw [if_pos (own_geP (11264 : Int32) (k := 11264) rfl (by omega))]
  rw [if_pos (own_gtP (12271 : Int32) (k := 12271) rfl (by omega))]
  rw [if_pos (own_gtP (12288 : Int32) (k := 12288) rfl (by omega))]
  rw [if_neg (own_gtN (55295 : Int32) (k := 55295) rfl (by omega))]
theorem own_ns_i24 (x0 : Int32) (h1 : 55296 ≤ x0.toInt) (h2 : x0.toInt ≤ 63743) : own_ns_f0 x0 = (0 : Int32) := by
  unfold own_ns_f0
  rw [if_neg (own_ltN (97 : Int32) (k := 97) rfl (by omega))]
  rw [if_neg (own_leN (122 : Int32) (k := 122) rfl (by omega))]
  unfold own_ns_f12
  rw [if_neg (own_ltN (65 : Int32) (k := 65) rfl (by omega))]
  rw [if_neg (own_leN (90 : Int32) (k := 90) rfl (by omega))]
  unfold own_ns_f24
  rw [if_neg (own_eqN (95 : Int32) (k := 95) rfl (by omega))]
  unfold own_ns_f30
  rw [if_neg (own_ltN (192 : Int32) (k := 192) rfl (by omega))]
  rw [if_neg (own_leN (214 : Int32) (k := 214) rfl (by omega))]
  unfold own_ns_f44
  rw [if_neg (own_ltN (216 : Int32) (k := 216) rfl (by omega))]
  rw [if_neg (own_leN (246 : Int32) (k := 246) rfl (by omega))]
  unfold own_ns_f58
  rw [if_neg (own_ltN (248 : Int32) (k := 248) rfl (by omega))]
  rw [if_neg (own_leN (767 : Int32) (k := 767) rfl (by omega))]
  unfold own_ns_f72
  rw [if_neg (own_ltN (880 : Int32) (k := 880) rfl (by omega))]
  rw [if_neg (own_leN (893 : Int32) (k := 893) rfl (by omega))]
  unfold own_ns_f86
  rw [if_neg (own_ltN (895 : Int32) (k := 895) rfl (by omega))]
  rw [if_neg (own_leN (8191 : Int32) (k := 8191) rfl (by omega))]
  unfold own_ns_f100
  rw [if_neg (own_ltN (8204 : Int32) (k := 8204) rfl (by omega))]
  rw [if_neg (own_leN (8205 : Int32) (k := 8205) rfl (by omega))]
  unfold own_ns_f114
  rw [if_neg (own_ltN (8304 : Int32) (k := 8304) rfl (by omega))]
  rw [if_neg (own_leN (8591 : Int32) (k := 8591) rfl (by omega))]
  unfold own_ns_f128
  rw [if_neg (own_ltN (11264 : Int32) (k := 11264) rfl (by omega))]
  rw [if_neg (own_leN (12271 : Int32) (k := 12271) rfl (by omega))]
  unfold own_ns_f142
  rw [if_neg (own_ltN (12289 : Int32) (k := 12289) rfl (by omega))]
  rw [if_neg (own_leN (55295 : Int32) (k := 55295) rfl (by omega))]
  unfold own_ns_f155
  rw [if_pos (own_ltP (63744 : Int32) (k := 63744) rfl (by omega))]
  unfold own_ns_f167
  rw [if_pos (own_ltP (65008 : Int32) (k := 65008) rfl (by omega))]
  unfold own_ns_f179
  rw [if_pos (own_ltP (65536 : Int32) (k := 65536) rfl (by omega))]
theorem own_rf_i24 (x0 : Int32) (h1 : 55296 ≤ x0.toInt) (h2 : x0.toInt ≤ 63743) : own_rf_f0 x0 = (0 : Int32) := by
  unfold own_rf_f0
  rw [if_pos (own_geP (65 : Int32) (k := 65) rfl (by omega))]
  rw [if_pos (own_gtP (90 : Int32) (k := 90) rfl (by omega))]
  rw [if_pos (own_geP (95 : Int32) (k := 95) rfl (by omega))]
  rw [if_neg (own_eqN (95 : Int32) (k := 95) rfl (by omega))]
  unfold own_rf_f32
  rw [if_neg (own_eqN (96 : Int32) (k := 96) rfl (by omega))]
  rw [if_pos (own_gtP (122 : Int32) (k := 122) rfl (by omega))]
  rw [if_pos (own_geP (192 : Int32) (k := 192) rfl (by omega))]
  rw [if_pos (own_gtP (214 : Int32) (k := 214) rfl (by omega))]
  unfold own_rf_f66
  rw [if_neg (own_eqN (215 : Int32) (k := 215) rfl (by omega))]
  rw [if_pos (own_gtP (246 : Int32) (k := 246) rfl (by omega))]
  rw [if_neg (own_eqN (247 : Int32) (k := 247) rfl (by omega))]
  rw [if_pos (own_gtP (767 : Int32) (k := 767) rfl (by omega))]
  unfold own_rf_f102
  rw [if_pos (own_geP (880 : Int32) (k := 880) rfl (by omega))]
  rw [if_pos (own_gtP (893 : Int32) (k := 893) rfl (by omega))]
  rw [if_neg (own_eqN (894 : Int32) (k := 894) rfl (by omega))]
  rw [if_pos (own_gtP (8191 : Int32) (k := 8191) rfl (by omega))]
  unfold own_rf_f138
  rw [if_pos (own_geP (8204 : Int32) (k := 8204) rfl (by omega))]
  rw [if_pos (own_gtP (8205 : Int32) (k := 8205) rfl (by omega))]
  rw [if_pos (own_geP (8304 : Int32) (k := 8304) rfl (by omega))]
  rw [if_pos (own_gtP (8591 : Int32) (k := 8591) rfl (by omega))]
  unfold own_rf_f174
  rw [if_pos (own_geP (11264 : Int32) (k := 11264) rfl (by omega))]
  rw [if_pos (own_gtP (12271 : Int32) (k := 12271) rfl (by omega))]
  rw [if_pos (own_gtP (12288 : Int32) (k := 12288) rfl (by omega))]
  rw [if_pos (own_gtP (55295 : Int32) (k := 55295) rfl (by omega))]
  unfold own_rf_f209
  rw [if_neg (own_geN (63744 : Int32) (k := 63744) rfl (by omega))]
theorem own_ns_i25 (x0 : Int32) (h1 : 63744 ≤ x0.toInt) (h2 : x0.toInt ≤ 64975) : own_ns_f0 x0 = (1 : Int32) := by
  unfold own_ns_f0
  rw [if_neg (own_ltN (97 : Int32) (k := 97) rfl (by omega))]
  rw [if_neg (own_leN (122 : Int32) (k := 122) rfl (by omega))]
  unfold own_ns_f12
  rw [if_neg (own_ltN (65 : Int32) (k := 65) rfl (by omega))]
  rw [if_neg (own_leN (90 : Int32) (k := 90) rfl (by omega))]
  unfold own_ns_f24
  rw [if_neg (own_eqN (95 : Int32) (k := 95) rfl (by omega))]
  unfold own_ns_f30
  rw [if_neg (own_ltN (192 : Int32) (k := 192) rfl (by omega))]
  rw [if_neg (own_leN (214 : Int32) (k := 214) rfl (by omega))]
  unfold own_ns_f44
  rw [if_neg (own_ltN (216 : Int32) (k := 216) rfl (by omega))]
  rw [if_neg (own_leN (246 : Int32) (k := 246) rfl (by omega))]
  unfold own_ns_f58
  rw [if_neg (own_ltN (248 : Int32) (k := 248) rfl (by omega))]
  rw [if_neg (own_leN (767 : Int32) (k := 767) rfl (by omega))]
  unfold own_ns_f72
  rw [if_neg (own_ltN (880 : Int32) (k := 880) rfl (by omega))]
  rw [if_neg (own_leN (893 : Int32) (k := 893) rfl (by omega))]
  unfold own_ns_f86
  rw [if_neg (own_ltN (895 : Int32) (k := 895) rfl (by omega))]
  rw [if_neg (own_leN (8191 : Int32) (k := 8191) rfl (by omega))]
  unfold own_ns_f100
  rw [if_neg (own_ltN (8204 : Int32) (k := 8204) rfl (by omega))]
  rw [if_neg (own_leN (8205 : Int32) (k := 8205) rfl (by omega))]
  unfold own_ns_f114
  rw [if_neg (own_ltN (8304 : Int32) (k := 8304) rfl (by omega))]
  rw [if_neg (own_leN (8591 : Int32) (k := 8591) rfl (by omega))]
  unfold own_ns_f128
  rw [if_neg (own_ltN (11264 : Int32) (k := 11264) rfl (by omega))]
  rw [if_neg (own_leN (12271 : Int32) (k := 12271) rfl (by omega))]
  unfold own_ns_f142
  rw [if_neg (own_ltN (12289 : Int32) (k := 12289) rfl (by omega))]
  rw [if_neg (own_leN (55295 : Int32) (k := 55295) rfl (by omega))]
  unfold own_ns_f155
  rw [if_neg (own_ltN (63744 : Int32) (k := 63744) rfl (by omega))]
  rw [if_pos (own_leP (64975 : Int32) (k := 64975) rfl (by omega))]
theorem own_rf_i25 (x0 : Int32) (h1 : 63744 ≤ x0.toInt) (h2 : x0.toInt ≤ 64975) : own_rf_f0 x0 = (1 : Int32) := by
  unfold own_rf_f0
  rw [if_pos (own_geP (65 : Int32) (k := 65) rfl (by omega))]
  rw [if_pos (own_gtP (90 : Int32) (k := 90) rfl (by omega))]
  rw [if_pos (own_geP (95 : Int32) (k := 95) rfl (by omega))]
  rw [if_neg (own_eqN (95 : Int32) (k := 95) rfl (by omega))]
  unfold own_rf_f32
  rw [if_neg (own_eqN (96 : Int32) (k := 96) rfl (by omega))]
  rw [if_pos (own_gtP (122 : Int32) (k := 122) rfl (by omega))]
  rw [if_pos (own_geP (192 : Int32) (k := 192) rfl (by omega))]
  rw [if_pos (own_gtP (214 : Int32) (k := 214) rfl (by omega))]
  unfold own_rf_f66
  rw [if_neg (own_eqN (215 : Int32) (k := 215) rfl (by omega))]
  rw [if_pos (own_gtP (246 : Int32) (k := 246) rfl (by omega))]
  rw [if_neg (own_eqN (247 : Int32) (k := 247) rfl (by omega))]
  rw [if_pos (own_gtP (767 : Int32) (k := 767) rfl (by omega))]
  unfold own_rf_f102
  rw [if_pos (own_geP (880 : Int32) (k := 880) rfl (by omega))]
  rw [if_pos (own_gtP (893 : Int32) (k := 893) rfl (by omega))]
  rw [if_neg (own_eqN (894 : Int32) (k := 894) rfl (by omega))]
  rw [if_pos (own_gtP (8191 : Int32) (k := 8191) rfl (by omega))]
  unfold own_rf_f138
  rw [if_pos (own_geP (8204 : Int32) (k := 8204) rfl (by omega))]
  rw [if_pos (own_gtP (8205 : Int32) (k := 8205) rfl (by omega))]
  rw [if_pos (own_geP (8304 : Int32) (k := 8304) rfl (by omega))]
  rw [if_pos (own_gtP (8591 : Int32) (k := 8591) rfl (by omega))]
  unfold own_rf_f174
  rw [if_pos (own_geP (11264 : Int32) (k := 11264) rfl (by omega))]
  rw [if_pos (own_gtP (12271 : Int32) (k := 12271) rfl (by omega))]
  rw [if_pos (own_gtP (12288 : Int32) (k := 12288) rfl (by omega))]
  rw [if_pos (own_gtP (55295 : Int32) (k := 55295) rfl (by omega))]
  unfold own_rf_f209
  rw [if_pos (own_geP (63744 : Int32) (k := 63744) rfl (by omega))]
  rw [if_neg (own_gtN (64975 : Int32) (k := 64975) rfl (by omega))]
theorem own_ns_i26 (x0 : Int32) (h1 : 64976 ≤ x0.toInt) (h2 : x0.toInt ≤ 65007) : own_ns_f0 x0 = (0 : Int32) := by
  unfold own_ns_f0
  rw [if_neg (own_ltN (97 : Int32) (k := 97) rfl (by omega))]
  rw [if_neg (own_leN (122 : Int32) (k := 122) rfl (by omega))]
  unfold own_ns_f12
  rw [if_neg (own_ltN (65 : Int32) (k := 65) rfl (by omega))]
  rw [if_neg (own_leN (90 : Int32) (k := 90) rfl (by omega))]
  unfold own_ns_f24
  rw [if_neg (own_eqN (95 : Int32) (k := 95) rfl (by omega))]
  unfold own_ns_f30
  rw [if_neg (own_ltN (192 : Int32) (k := 192) rfl (by omega))]
  rw [if_neg (own_leN (214 : Int32) (k := 214) rfl (by omega))]
  unfold own_ns_f44
  rw [if_neg (own_ltN (216 : Int32) (k := 216) rfl (by omega))]
  rw [if_neg (own_leN (246 : Int32) (k := 246) rfl (by omega))]
  unfold own_ns_f58
  rw [if_neg (own_ltN (248 : Int32) (k := 248) rfl (by omega))]
  rw [if_neg (own_leN (767 : Int32) (k := 767) rfl (by omega))]
  unfold own_ns_f72
  rw [if_neg (own_ltN (880 : Int32) (k := 880) rfl (by omega))]
  rw [if_neg (own_leN (893 : Int32) (k := 893) rfl (by omega))]
  unfold own_ns_f86
  rw [if_neg (own_ltN (895 : Int32) (k := 895) rfl (by omega))]
  rw [if_neg (own_leN (8191 : Int32) (k := 8191) rfl (by omega))]
  unfold own_ns_f100
  rw [if_neg (own_ltN (8204 : Int32) (k := 8204) rfl (by omega))]
  rw [if_neg (own_leN (8205 : Int32) (k := 8205) rfl (by omega))]
  unfold own_ns_f114
  rw [if_neg (own_ltN (8304 : Int32) (k := 8304) rfl (by omega))]
  rw [if_neg (own_leN (8591 : Int32) (k := 8591) rfl (by omega))]
  unfold own_ns_f128
  rw [if_neg (own_ltN (11264 : Int32) (k := 11264) rfl (by omega))]
  rw [if_neg (own_leN (12271 : Int32) (k := 12271) rfl (by omega))]
  unfold own_ns_f142
  rw [if_neg (own_ltN (12289 : Int32) (k := 12289) rfl (by omega))]
  rw [if_neg (own_leN (55295 : Int32) (k := 55295) rfl (by omega))]
  unfold own_ns_f155
  rw [if_neg (own_ltN (63744 : Int32) (k := 63744) rfl (by omega))]
  rw [if_neg (own_leN (64975 : Int32) (k := 64975) rfl (by omega))]
  unfold own_ns_f167
  rw [if_pos (own_ltP (65008 : Int32) (k := 65008) rfl (by omega))]
  unfold own_ns_f179
  rw [if_pos (own_ltP (65536 : Int32) (k := 65536) rfl (by omega))]
theorem own_rf_i26 (x0 : Int32) (h1 : 64976 ≤ x0.toInt) (h2 : x0.toInt ≤ 65007) : own_rf_f0 x0 = (0 : Int32) := by
  unfold own_rf_f0
  rw [if_pos (own_geP (65 : Int32) (k := 65) rfl (by omega))]
  rw [if_pos (own_gtP (90 : Int32) (k := 90) rfl (by omega))]
  rw [if_pos (own_geP (95 : Int32) (k := 95) rfl (by omega))]
  rw [if_neg (own_eqN (95 : Int32) (k := 95) rfl (by omega))]
  unfold own_rf_f32
  rw [if_neg (own_eqN (96 : Int32) (k := 96) rfl (by omega))]
  rw [if_pos (own_gtP (122 : Int32) (k := 122) rfl (by omega))]
  rw [if_pos (own_geP (192 : Int32) (k := 192) rfl (by omega))]
  rw [if_pos (own_gtP (214 : Int32) (k := 214) rfl (by omega))]
  unfold own_rf_f66
  rw [if_neg (own_eqN (215 : Int32) (k := 215) rfl (by omega))]
  rw [if_pos (own_gtP (246 : Int32) (k := 246) rfl (by omega))]
  rw [if_neg (own_eqN (247 : Int32) (k := 247) rfl (by omega))]
  rw [if_pos (own_gtP (767 : Int32) (k := 767) rfl (by omega))]
  unfold own_rf_f102
  rw [if_pos (own_geP (880 : Int32) (k := 880) rfl (by omega))]
  rw [if_pos (own_gtP (893 : Int32) (k := 893) rfl (by omega))]
  rw [if_neg (own_eqN (894 : Int32) (k := 894) rfl (by omega))]
  rw [if_pos (own_gtP (8191 : Int32) (k := 8191) rfl (by omega))]
  unfold own_rf_f138
  rw [if_pos (own_geP (8204 : Int32) (k := 8204) rfl (by omega))]
  rw [if_pos (own_gtP (8205 : Int32) (k := 8205) rfl (by omega))]
  rw [if_pos (own_geP (8304 : Int32) (k := 8304) rfl (by omega))]
  rw [if_pos (own_gtP (8591 : Int32) (k := 8591) rfl (by omega))]
  unfold own_rf_f174
  rw [if_pos (own_geP (11264 : Int32) (k := 11264) rfl (by omega))]
  rw [if_pos (own_gtP (12271 : Int32) (k := 12271) rfl (by omega))]
  rw [if_pos (own_gtP (12288 : Int32) (k := 12288) rfl (by omega))]
  rw [if_pos (own_gtP (55295 : Int32) (k := 55295) rfl (by omega))]
  unfold own_rf_f209
  rw [if_pos (own_geP (63744 : Int32) (k := 63744) rfl (by omega))]
  rw [if_pos (own_gtP (64975 : Int32) (k := 64975) rfl (by omega))]
  rw [if_neg (own_geN (65008 : Int32) (k := 65008) rfl (by omega))]
theorem own_ns_i27 (x0 : Int32) (h1 : 65008 ≤ x0.toInt) (h2 : x0.toInt ≤ 65533) : own_ns_f0 x0 = (1 : Int32) := by
  unfold own_ns_f0
  rw [if_neg (own_ltN (97 : Int32) (k := 97) rfl (by omega))]
  rw [if_neg (own_leN (122 : Int32) (k := 122) rfl (by omega))]
  unfold own_ns_f12
  rw [if_neg (own_ltN (65 : Int32) (k := 65) rfl (by omega))]
  rw [if_neg (own_leN (90 : Int32) (k := 90) rfl (by omega))]
  unfold own_ns_f24
  rw [if_neg (own_eqN (95 : Int32) (k := 95) rfl (by omega))]
  unfold own_ns_f30
  rw [if_neg (own_ltN (192 : Int32) (k := 192) rfl (by omega))]
  rw [if_neg (own_leN (214 : Int32) (k := 214) rfl (by omega))]
  unfold own_ns_f44
  rw [if_neg (own_ltN (216 : Int32) (k := 216) rfl (by omega))]
  rw [if_neg (own_leN (246 : Int32) (k := 246) rfl (by omega))]
  unfold own_ns_f58
  rw [if_neg (own_ltN (248 : Int32) (k := 248) rfl (by omega))]
  rw [if_neg (own_leN (767 : Int32) (k := 767) rfl (by omega))]
  unfold own_ns_f72
  rw [if_neg (own_ltN (880 : Int32) (k := 880) rfl (by omega))]
  rw [if_neg (own_leN (893 : Int32) (k := 893) rfl (by omega))]
  unfold own_ns_f86
  rw [if_neg (own_ltN (895 : Int32) (k := 895) rfl (by omega))]
  rw [if_neg (own_leN (8191 : Int32) (k := 8191) rfl (by omega))]
  unfold own_ns_f100
  rw [if_neg (own_ltN (8204 : Int32) (k := 8204) rfl (by omega))]
  rw [if_neg (own_leN (8205 : Int32) (k := 8205) rfl (by omega))]
  unfold own_ns_f114
  rw [if_neg (own_ltN (8304 : Int32) (k := 8304) rfl (by omega))]
  rw [if_neg (own_leN (8591 : Int32) (k := 8591) rfl (by omega))]
  unfold own_ns_f128
  rw [if_neg (own_ltN (11264 : Int32) (k := 11264) rfl (by omega))]
  rw [if_neg (own_leN (12271 : Int32) (k := 12271) rfl (by omega))]
  unfold own_ns_f142
  rw [if_neg (own_ltN (12289 : Int32) (k := 12289) rfl (by omega))]
  rw [if_neg (own_leN (55295 : Int32) (k := 55295) rfl (by omega))]
  unfold own_ns_f155
  rw [if_neg (own_ltN (63744 : Int32) (k := 63744) rfl (by omega))]
  rw [if_neg (own_leN (64975 : Int32) (k := 64975) rfl (by omega))]
  unfold own_ns_f167
  rw [if_neg (own_ltN (65008 : Int32) (k := 65008) rfl (by omega))]
  rw [if_pos (own_leP (65533 : Int32) (k := 65533) rfl (by omega))]
theorem own_rf_i27 (x0 : Int32) (h1 : 65008 ≤ x0.toInt) (h2 : x0.toInt ≤ 65533) : own_rf_f0 x0 = (1 : Int32) := by
  unfold own_rf_f0
  rw [if_pos (own_geP (65 : Int32) (k := 65) rfl (by omega))]
  rw [if_pos (own_gtP (90 : Int32) (k := 90) rfl (by omega))]
  rw [if_pos (own_geP (95 : Int32) (k := 95) rfl (by omega))]
  rw [if_neg (own_eqN (95 : Int32) (k := 95) rfl (by omega))]
  unfold own_rf_f32
  rw [if_neg (own_eqN (96 : Int32) (k := 96) rfl (by omega))]
  rw [if_pos (own_gtP (122 : Int32) (k := 122) rfl (by omega))]
  rw [if_pos (own_geP (192 : Int32) (k := 192) rfl (by omega))]
  rw [if_pos (own_gtP (214 : Int32) (k := 214) rfl (by omega))]
  unfold own_rf_f66
  rw [if_neg (own_eqN (215 : Int32) (k := 215) rfl (by omega))]
  rw [if_pos (own_gtP (246 : Int32) (k := 246) rfl (by omega))]
  rw [if_neg (own_eqN (247 : Int32) (k := 247) rfl (by omega))]
  rw [if_pos (own_gtP (767 : Int32) (k := 767) rfl (by omega))]
  unfold own_rf_f102
  rw [if_pos (own_geP (880 : Int32) (k := 880) rfl (by omega))]
  rw [if_pos (own_gtP (893 : Int32) (k := 893) rfl (by omega))]
  rw [if_neg (own_eqN (894 : Int32) (k := 894) rfl (by omega))]
  rw [if_pos (own_gtP (8191 : Int32) (k := 8191) rfl (by omega))]
  unfold own_rf_f138
  rw [if_pos (own_geP (8204 : Int32) (k := 8204) rfl (by omega))]
  rw [if_pos (own_gtP (8205 : Int32) (k := 8205) rfl (by omega))]
  rw [if_pos (own_geP (8304 : Int32) (k := 8304) rfl (by omega))]
  rw [if_pos (own_gtP (8591 : Int32) (k := 8591) rfl (by omega))]
  unfold own_rf_f174
  rw [if_pos (own_geP (11264 : Int32) (k := 11264) rfl (by omega))]
  rw [if_pos (own_gtP (12271 : Int32) (k := 12271) rfl (by omega))]
  rw [if_pos (own_gtP (12288 : Int32) (k := 12288) rfl (by omega))]
  rw [if_pos (own_gtP (55295 : Int32) (k := 55295) rfl (by omega))]
  unfold own_rf_f209
  rw [if_pos (own_geP (63744 : Int32) (k := 63744) rfl (by omega))]
  rw [if_pos (own_gtP (64975 : Int32) (k := 64975) rfl (by omega))]
  rw [if_pos (own_geP (65008 : Int32) (k := 65008) rfl (by omega))]
  rw [if_neg (own_gtN (65533 : Int32) (k := 65533) rfl (by omega))]
theorem own_ns_i28 (x0 : Int32) (h1 : 65534 ≤ x0.toInt) (h2 : x0.toInt ≤ 65535) : own_ns_f0 x0 = (0 : Int32) := by
  unfold own_ns_f0
  rw [if_neg (own_ltN (97 : Int32) (k := 97) rfl (by omega))]
  rw [if_neg (own_leN (122 : Int32) (k := 122) rfl (by omega))]
  unfold own_ns_f12
  rw [if_neg (own_ltN (65 : Int32) (k := 65) rfl (by omega))]
  rw [if_neg (own_leN (90 : Int32) (k := 90) rfl (by omega))]
  unfold own_ns_f24
  rw [if_neg (own_eqN (95 : Int32) (k := 95) rfl (by omega))]
  unfold own_ns_f30
  rw [if_neg (own_ltN (192 : Int32) (k := 192) rfl (by omega))]
  rw [if_neg (own_leN (214 : Int32) (k := 214) rfl (by omega))]
  unfold own_ns_f44
  rw [if_neg (own_ltN (216 : Int32) (k := 216) rfl (by omega))]
  rw [if_neg (own_leN (246 : Int32) (k := 246) rfl (by omega))]
  unfold own_ns_f58
  rw [if_neg (own_ltN (248 : Int32) (k := 248) rfl (by omega))]
  rw [if_neg (own_leN (767 : Int32) (k := 767) rfl (by omega))]
  unfold own_ns_f72
  rw [if_neg (own_ltN (880 : Int32) (k := 880) rfl (by omega))]
  rw [if_neg (own_leN (893 : Int32) (k := 893) rfl (by omega))]
  unfold own_ns_f86
  rw [if_neg (own_ltN (895 : Int32) (k := 895) rfl (by omega))]
  rw [if_neg (own_leN (8191 : Int32) (k := 8191) rfl (by omega))]
  unfold own_ns_f100
  rw [if_neg (own_ltN (8204 : Int32) (k := 8204) rfl (by omega))]
  rw [if_neg (own_leN (8205 : Int32) (k := 8205) rfl (by omega))]
  unfold own_ns_f114
  rw [if_neg (own_ltN (8304 : Int32) (k := 8304) rfl (by omega))]
  rw [if_neg (own_leN (8591 : Int32) (k := 8591) rfl (by omega))]
  unfold own_ns_f128
  rw [if_neg (own_ltN (11264 : Int32) (k := 11264) rfl (by omega))]
  rw [if_neg (own_leN (12271 : Int32) (k := 12271) rfl (by omega))]
  unfold own_ns_f142
  rw [if_neg (own_ltN (12289 : Int32) (k := 12289) rfl (by omega))]
  rw [if_neg (own_leN (55295 : Int32) (k := 55295) rfl (by omega))]
  unfold own_ns_f155
  rw [if_neg (own_ltN (63744 : Int32) (k := 63744) rfl (by omega))]
  rw [if_neg (own_leN (64975 : Int32) (k := 64975) rfl (by omega))]
  unfold own_ns_f167
  rw [if_neg (own_ltN (65008 : Int32) (k := 65008) rfl (by omega))]
  rw [if_neg (own_leN (65533 : Int32) (k := 65533) rfl (by omega))]
  unfold own_ns_f179
  rw [if_pos (own_ltP (65536 : Int32) (k := 65536) rfl (by omega))]
theorem own_rf_i28 (x0 : Int32) (h1 : 65534 ≤ x0.toInt) (h2 : x0.toInt ≤ 65535) : own_rf_f0 x0 = (0 : Int32) := by
  unfold own_rf_f0
  rw [if_pos (own_geP (65 : Int32) (k := 65) rfl (by omega))]
  rw [if_pos (own_gtP (90 : Int32) (k := 90) rfl (by omega))]
  rw [if_pos (own_geP (95 : Int32) (k := 95) rfl (by omega))]
  rw [if_neg (own_eqN (95 : Int32) (k := 95) rfl (by omega))]
  unfold own_rf_f32
  rw [if_neg (own_eqN (96 : Int32) (k := 96) rfl (by omega))]
  rw [if_pos (own_gtP (122 : Int32) (k := 122) rfl (by omega))]
  rw [if_pos (own_geP (192 : Int32) (k := 192) rfl (by omega))]
  rw [if_pos (own_gtP (214 : Int32) (k := 214) rfl (by omega))]
  unfold own_rf_f66
  rw [if_neg (own_eqN (215 : Int32) (k := 215) rfl (by omega))]
  rw [if_pos (own_gtP (246 : Int32) (k := 246) rfl (by omega))]
  rw [if_neg (own_eqN (247 : Int32) (k := 247) rfl (by omega))]
  rw [if_pos (own_gtP (767 : Int32) (k := 767) rfl (by omega))]
  unfold own_rf_f102
  rw [if_pos (own_geP (880 : Int32) (k := 880) rfl (by omega))]
  rw [if_pos (own_gtP (893 : Int32) (k := 893) rfl (by omega))]
  rw [if_neg (own_eqN (894 : Int32) (k := 894) rfl (by omega))]
  rw [if_pos (own_gtP (8191 : Int32) (k := 8191) rfl (by omega))]
  unfold own_rf_f138
  rw [if_pos (own_geP (8204 : Int32) (k := 8204) rfl (by omega))]
  rw [if_pos (own_gtP (8205 : Int32) (k := 8205) rfl (by omega))]
  rw [if_pos (own_geP (8304 : Int32) (k := 8304) rfl (by omega))]
  rw [if_pos (own_gtP (8591 : Int32) (k := 8591) rfl (by omega))]
  unfold own_rf_f174
  rw [if_pos (own_geP (11264 : Int32) (k := 11264) rfl (by omega))]
  rw [if_pos (own_gtP (12271 : Int32) (k := 12271) rfl (by omega))]
  rw [if_pos (own_gtP (12288 : Int32) (k := 12288) rfl (by omega))]
  rw [if_pos (own_gtP (55295 : Int32) (k := 55295) rfl (by omega))]
  unfold own_rf_f209
  rw [if_pos (own_geP (63744 : Int32) (k := 63744) rfl (by omega))]
  rw [if_pos (own_gtP (64975 : Int32) (k := 64975) rfl (by omega))]
  rw [if_pos (own_geP (65008 : Int32) (k := 65008) rfl (by omega))]
  rw [if_pos (own_gtP (65533 : Int32) (k := 65533) rfl (by omega))]
  unfold own_rf_f241
  rw [if_neg (own_geN (65536 : Int32) (k := 65536) rfl (by omega))]
theorem own_ns_i29 (x0 : Int32) (h1 : 65536 ≤ x0.toInt) (h2 : x0.toInt ≤ 983039) : own_ns_f0 x0 = (1 : Int32) := by
  unfold own_ns_f0
  rw [if_neg (own_ltN (97 : Int32) (k := 97) rfl (by omega))]
  rw [if_neg (own_leN (122 : Int32) (k := 122) rfl (by omega))]
  unfold own_ns_f12
  rw [if_neg (own_ltN (65 : Int32) (k := 65) rfl (by omega))]
  rw [if_neg (own_leN (90 : Int32) (k := 90) rfl (by omega))]
  unfold own_ns_f24
  rw [if_neg (own_eqN (95 : Int32) (k := 95) rfl (by omega))]
  unfold own_ns_f30
  rw [if_neg (own_ltN (192 : Int32) (k := 192) rfl (by omega))]
  rw [if_neg (own_leN (214 : Int32) (k := 214) rfl (by omega))]
  unfold own_ns_f44
  rw [if_neg (own_ltN (216 : Int32) (k := 216) rfl (by omega))]
  rw [if_neg (own_leN (246 : Int32) (k := 246) rfl (by omega))]
  unfold own_ns_f58
  rw [if_neg (own_ltN (248 : Int32) (k := 248) rfl (by omega))]
  rw [if_neg (own_leN (767 : Int32) (k := 767) rfl (by omega))]
  unfold own_ns_f72
  rw [if_neg (own_ltN (880 : Int32) (k := 880) rfl (by omega))]
  rw [if_neg (own_leN (893 : Int32) (k := 893) rfl (by omega))]
  unfold own_ns_f86
  rw [if_neg (own_ltN (895 : Int32) (k := 895) rfl (by omega))]
  rw [if_neg (own_leN (8191 : Int32) (k := 8191) rfl (by omega))]
  unfold own_ns_f100
  rw [if_neg (own_ltN (8204 : Int32) (k := 8204) rfl (by omega))]
  rw [if_neg (own_leN (8205 : Int32) (k := 8205) rfl (by omega))]
  unfold own_ns_f114
  rw [if_neg (own_ltN (8304 : Int32) (k := 8304) rfl (by omega))]
  rw [if_neg (own_leN (8591 : Int32) (k := 8591) rfl (by omega))]
  unfold own_ns_f128
  rw [if_neg (own_ltN (11264 : Int32) (k := 11264) rfl (by omega))]
  rw [if_neg (own_leN (12271 : Int32) (k := 12271) rfl (by omega))]
  unfold own_ns_f142
  rw [if_neg (own_ltN (12289 : Int32) (k := 12289) rfl (by omega))]
  rw [if_neg (own_leN (55295 : Int32) (k := 55295) rfl (by omega))]
  unfold own_ns_f155
  rw [if_neg (own_ltN (63744 : Int32) (k := 63744) rfl (by omega))]
  rw [if_neg (own_leN (64975 : Int32) (k := 64975) rfl (by omega))]
  unfold own_ns_f167
  rw [if_neg (own_ltN (65008 : Int32) (k := 65008) rfl (by omega))]
  rw [if_neg (own_leN (65533 : Int32) (k := 65533) rfl (by omega))]
  unfold own_ns_f179
  rw [if_neg (own_ltN (65536 : Int32) (k := 65536) rfl (by omega))]
  rw [if_neg (own_gtN (983039 : Int32) (k := 983039) rfl (by omega))]
theorem own_rf_i29 (x0 : Int32) (h1 : 65536 ≤ x0.toInt) (h2 : x0.toInt ≤ 983039) : own_rf_f0 x0 = (1 : Int32) := by
  unfold own_rf_f0
  rw [if_pos (own_geP (65 : Int32) (k := 65) rfl (by omega))]
  rw [if_pos (own_gtP (90 : Int32) (k := 90) rfl (by omega))]
  rw [if_pos (own_geP (95 : Int32) (k := 95) rfl (by omega))]
  rw [if_neg (own_eqN (95 : Int32) (k := 95) rfl (by omega))]
  unfold own_rf_f32
  rw [if_neg (own_eqN (96 : Int32) (k := 96) rfl (by omega))]
  rw [if_pos (own_gtP (122 : Int32) (k := 122) rfl (by omega))]
  rw [if_pos (own_geP (192 : Int32) (k := 192) rfl (by omega))]
  rw [if_pos (own_gtP (214 : Int32) (k := 214) rfl (by omega))]
  unfold own_rf_f66
  rw [if_neg (own_eqN (215 : Int32) (k := 215) rfl (by omega))]
  rw [if_pos (own_gtP (246 : Int32) (k := 246) rfl (by omega))]
  rw [if_neg (own_eqN (247 : Int32) (k := 247) rfl (by omega))]
  rw [if_pos (own_gtP (767 : Int32) (k := 767) rfl (by omega))]
  unfold own_rf_f102
  rw [if_pos (own_geP (880 : Int32) (k := 880) rfl (by omega))]
  rw [if_pos (own_gtP (893 : Int32) (k := 893) rfl (by omega))]
  rw [if_neg (own_eqN (894 : Int32) (k := 894) rfl (by omega))]
  rw [if_pos (own_gtP (8191 : Int32) (k := 8191) rfl (by omega))]
  unfold own_rf_f138
  rw [if_pos (own_geP (8204 : Int32) (k := 8204) rfl (by omega))]
  rw [if_pos (own_gtP (8205 : Int32) (k := 8205) rfl (by omega))]
  rw [if_pos (own_geP (8304 : Int32) (k := 8304) rfl (by omega))]
  rw [if_pos (own_gtP (8591 : Int32) (k := 8591) rfl (by omega))]
  unfold own_rf_f174
  rw [if_pos (own_geP (11264 : Int32) (k := 11264) rfl (by omega))]
  rw [if_pos (own_gtP (12271 : Int32) (k := 12271) rfl (by omega))]
  rw [if_pos (own_gtP (12288 : Int32) (k := 12288) rfl (by omega))]
  rw [if_pos (own_gtP (55295 : Int32) (k := 55295) rfl (by omega))]
  unfold own_rf_f209
  rw [if_pos (own_geP (63744 : Int32) (k := 63744) rfl (by omega))]
  rw [if_pos (own_gtP (64975 : Int32) (k := 64975) rfl (by omega))]
  rw [if_pos (own_geP (65008 : Int32) (k := 65008) rfl (by omega))]
  rw [if_pos (own_gtP (65533 : Int32) (k := 65533) rfl (by omega))]
  unfold own_rf_f241
  rw [if_pos (own_geP (65536 : Int32) (k := 65536) rfl (by omega))]
  rw [if_neg (own_gtN (983039 : Int32) (k := 983039) rfl (by omega))]
theorem own_ns_i30 (x0 : Int32) (h1 : 983040 ≤ x0.toInt) : own_ns_f0 x0 = (0 : Int32) := by
  unfold own_ns_f0
  rw [if_neg (own_ltN (97 : Int32) (k := 97) rfl (by omega))]
  rw [if_neg (own_leN (122 : Int32) (k := 122) rfl (by omega))]
  unfold own_ns_f12
  rw [if_neg (own_ltN (65 : Int32) (k := 65) rfl (by omega))]
  rw [if_neg (own_leN (90 : Int32) (k := 90) rfl (by omega))]
  unfold own_ns_f24
  rw [if_neg (own_eqN (95 : Int32) (k := 95) rfl (by omega))]
  unfold own_ns_f30
  rw [if_neg (own_ltN (192 : Int32) (k := 192) rfl (by omega))]
  rw [if_neg (own_leN (214 : Int32) (k := 214) rfl (by omega))]
  unfold own_ns_f44
  rw [if_neg (own_ltN (216 : Int32) (k := 216) rfl (by omega))]
  rw [if_neg (own_leN (246 : Int32) (k := 246) rfl (by omega))]
  unfold own_ns_f58
  rw [if_neg (own_ltN (248 : Int32) (k := 248) rfl (by omega))]
  rw [if_neg (own_leN (767 : Int32) (k := 767) rfl (by omega))]
  unfold own_ns_f72
  rw [if_neg (own_ltN (880 : Int32) (k := 880) rfl (by omega))]
  rw [if_neg (own_leN (893 : Int32) (k := 893) rfl (by omega))]
  unfold own_ns_f86
  rw [if_neg (own_ltN (895 : Int32) (k := 895) rfl (by omega))]
  rw [if_neg (own_leN (8191 : Int32) (k := 8191) rfl (by omega))]
  unfold own_ns_f100
  rw [if_neg (own_ltN (8204 : Int32) (k := 8204) rfl (by omega))]
  rw [if_neg (own_leN (8205 : Int32) (k := 8205) rfl (by omega))]
  unfold own_ns_f114
  rw [if_neg (own_ltN (8304 : Int32) (k := 8304) rfl (by omega))]
  rw [if_neg (own_leN (8591 : Int32) (k := 8591) rfl (by omega))]
  unfold own_ns_f128
  rw [if_neg (own_ltN (11264 : Int32) (k := 11264) rfl (by omega))]
  rw [if_neg (own_leN (12271 : Int32) (k := 12271) rfl (by omega))]
  unfold own_ns_f142
  rw [if_neg (own_ltN (12289 : Int32) (k := 12289) rfl (by omega))]
  rw [if_neg (own_leN (55295 : Int32) (k := 55295) rfl (by omega))]
  unfold own_ns_f155
  rw [if_neg (own_ltN (63744 : Int32) (k := 63744) rfl (by omega))]
  rw [if_neg (own_leN (64975 : Int32) (k := 64975) rfl (by omega))]
  unfold own_ns_f167
  rw [if_neg (own_ltN (65008 : Int32) (k := 65008) rfl (by omega))]
  rw [if_neg (own_leN (65533 : Int32) (k := 65533) rfl (by omega))]
  unfold own_ns_f179
  rw [if_neg (own_ltN (65536 : Int32) (k := 65536) rfl (by omega))]
  rw [if_pos (own_gtP (983039 : Int32) (k := 983039) rfl (by omega))]
theorem own_rf_i30 (x0 : Int32) (h1 : 983040 ≤ x0.toInt) : own_rf_f0 x0 = (0 : Int32) := by
  unfold own_rf_f0
  rw [if_pos (own_geP (65 : Int32) (k := 65) rfl (by omega))]
  rw [if_pos (own_gtP (90 : Int32) (k := 90) rfl (by omega))]
  rw [if_pos (own_geP (95 : Int32) (k := 95) rfl (by omega))]
  rw [if_neg (own_eqN (95 : Int32) (k := 95) rfl (by omega))]
  unfold own_rf_f32
  rw [if_neg (own_eqN (96 : Int32) (k := 96) rfl (by omega))]
  rw [if_pos (own_gtP (122 : Int32) (k := 122) rfl (by omega))]
  rw [if_pos (own_geP (192 : Int32) (k := 192) rfl (by omega))]
  rw [if_pos (own_gtP (214 : Int32) (k := 214) rfl (by omega))]
  unfold own_rf_f66
  rw [if_neg (own_eqN (215 : Int32) (k := 215) rfl (by omega))]
  rw [if_pos (own_gtP (246 : Int32) (k := 246) rfl (by omega))]
  rw [if_neg (own_eqN (247 : Int32) (k := 247) rfl (by omega))]
  rw [if_pos (own_gtP (767 : Int32) (k := 767) rfl (by omega))]
  unfold own_rf_f102
  rw [if_pos (own_geP (880 : Int32) (k := 880) rfl (by omega))]
  rw [if_pos (own_gtP (893 : Int32) (k := 893) rfl (by omega))]
  rw [if_neg (own_eqN (894 : Int32) (k := 894) rfl (by omega))]
  rw [if_pos (own_gtP (8191 : Int32) (k := 8191) rfl (by omega))]
  unfold own_rf_f138
  rw [if_pos (own_geP (8204 : Int32) (k := 8204) rfl (by omega))]
  rw [if_pos (own_gtP (8205 : Int32) (k := 8205) rfl (by omega))]
  rw [if_pos (own_geP (8304 : Int32) (k := 8304) rfl (by omega))]
  rw [if_pos (own_gtP (8591 : Int32) (k := 8591) rfl (by omega))]
  unfold own_rf_f174
  rw [if_pos (own_geP (11264 : Int32) (k := 11264) rfl (by omega))]
  rw [if_pos (own_gtP (12271 : Int32) (k := 12271) rfl (by omega))]
  rw [if_pos (own_gtP (12288 : Int32) (k := 12288) rfl (by omega))]
  rw [if_pos (own_gtP (55295 : Int32) (k := 55295) rfl (by omega))]
  unfold own_rf_f209
  rw [if_pos (own_geP (63744 : Int32) (k := 63744) rfl (by omega))]
  rw [if_pos (own_gtP (64975 : Int32) (k := 64975) rfl (by omega))]
  rw [if_pos (own_geP (65008 : Int32) (k := 65008) rfl (by omega))]
  rw [if_pos (own_gtP (65533 : Int32) (k := 65533) rfl (by omega))]
  unfold own_rf_f241
  rw [if_pos (own_geP (65536 : Int32) (k := 65536) rfl (by omega))]
  rw [if_pos (own_gtP (983039 : Int32) (k := 983039) rfl (by omega))]
theorem own_same (x0 : Int32) : own_ns_f0 x0 = own_rf_f0 x0 := by
  by_cases h0 : x0.toInt ≤ 64
  · exact (own_ns_i0 x0 h0).trans (own_rf_i0 x0 h0).symm
  by_cases h1 : x0.toInt ≤ 90
  · exact (own_ns_i1 x0 (by omega) h1).trans (own_rf_i1 x0 (by omega) h1).symm
  by_cases h2 : x0.toInt ≤ 94
  · exact (own_ns_i2 x0 (by omega) h2).trans (own_rf_i2 x0 (by omega) h2).symm
  by_cases h3 : x0.toInt ≤ 95
  · exact (own_ns_i3 x0 (by omega) h3).trans (own_rf_i3 x0 (by omega) h3).symm
  by_cases h4 : x0.toInt ≤ 96
  · exact (own_ns_i4 x0 (by omega) h4).trans (own_rf_i4 x0 (by omega) h4).symm
  by_cases h5 : x0.toInt ≤ 122
  · exact (own_ns_i5 x0 (by omega) h5).trans (own_rf_i5 x0 (by omega) h5).symm
  by_cases h6 : x0.toInt ≤ 191
  · exact (own_ns_i6 x0 (by omega) h6).trans (own_rf_i6 x0 (by omega) h6).symm
  by_cases h7 : x0.toInt ≤ 214
  · exact (own_ns_i7 x0 (by omega) h7).trans (own_rf_i7 x0 (by omega) h7).symm
  by_cases h8 : x0.toInt ≤ 215
  · exact (own_ns_i8 x0 (by omega) h8).trans (own_rf_i8 x0 (by omega) h8).symm
  by_cases h9 : x0.toInt ≤ 246
  · exact (own_ns_i9 x0 (by omega) h9).trans (own_rf_i9 x0 (by omega) h9).symm
  by_cases h10 : x0.toInt ≤ 247
  · exact (own_ns_i10 x0 (by omega) h10).trans (own_rf_i10 x0 (by omega) h10).symm
  by_cases h11 : x0.toInt ≤ 767
  · exact (own_ns_i11 x0 (by omega) h11).trans (own_rf_i11 x0 (by omega) h11).symm
  by_cases h12 : x0.toInt ≤ 879
  · exact (own_ns_i12 x0 (by omega) h12).trans (own_rf_i12 x0 (by omega) h12).symm
  by_cases h13 : x0.toInt ≤ 893
  · exact (own_ns_i13 x0 (by omega) h13).trans (own_rf_i13 x0 (by omega) h13).symm
  by_cases h14 : x0.toInt ≤ 894
  · exact (own_ns_i14 x0 (by omega) h14).trans (own_rf_i14 x0 (by omega) h14).symm
  by_cases h15 : x0.toInt ≤ 8191
  · exact (own_ns_i15 x0 (by omega) h15).trans (own_rf_i15 x0 (by omega) h15).symm
  by_cases h16 : x0.toInt ≤ 8203
  · exact (own_ns_i16 x0 (by omega) h16).trans (own_rf_i16 x0 (by omega) h16).symm
  by_cases h17 : x0.toInt ≤ 8205
  · exact (own_ns_i17 x0 (by omega) h17).trans (own_rf_i17 x0 (by omega) h17).symm
  by_cases h18 : x0.toInt ≤ 8303
  · exact (own_ns_i18 x0 (by omega) h18).trans (own_rf_i18 x0 (by omega) h18).symm
  by_cases h19 : x0.toInt ≤ 8591
  · exact (own_ns_i19 x0 (by omega) h19).trans (own_rf_i19 x0 (by omega) h19).symm
  by_cases h20 : x0.toInt ≤ 11263
  · exact (own_ns_i20 x0 (by omega) h20).trans (own_rf_i20 x0 (by omega) h20).symm
  by_cases h21 : x0.toInt ≤ 12271
  · exact (own_ns_i21 x0 (by omega) h21).trans (own_rf_i21 x0 (by omega) h21).symm
  by_cases h22 : x0.toInt ≤ 12288
  · exact (own_ns_i22 x0 (by omega) h22).trans (own_rf_i22 x0 (by omega) h22).symm
  by_cases h23 : x0.toInt ≤ 55295
  · exact (own_ns_i23 x0 (by omega) h23).trans (own_rf_i23 x0 (by omega) h23).symm
  by_cases h24 : x0.toInt ≤ 63743
  · exact (own_ns_i24 x0 (by omega) h24).trans (own_rf_i24 x0 (by omega) h24).symm
  by_cases h25 : x0.toInt ≤ 64975
  · exact (own_ns_i25 x0 (by omega) h25).trans (own_rf_i25 x0 (by omega) h25).symm
  by_cases h26 : x0.toInt ≤ 65007
  · exact (own_ns_i26 x0 (by omega) h26).trans (own_rf_i26 x0 (by omega) h26).symm
  by_cases h27 : x0.toInt ≤ 65533
  · exact (own_ns_i27 x0 (by omega) h27).trans (own_rf_i27 x0 (by omega) h27).symm
  by_cases h28 : x0.toInt ≤ 65535
  · exact (own_ns_i28 x0 (by omega) h28).trans (own_rf_i28 x0 (by omega) h28).symm
  by_cases h29 : x0.toInt ≤ 983039
  · exact (own_ns_i29 x0 (by omega) h29).trans (own_rf_i29 x0 (by omega) h29).symm
  exact (own_ns_i30 x0 (by omega)).trans (own_rf_i30 x0 (by omega)).symm
theorem own_idx (x y : Int32) (d : Nat) (hx : 0 ≤ x.toInt) (hy : y.toInt = d) (hd : 0 < d) : ¬ (x % y) < 0 ∧ (x % y).toNatClampNeg < d := by
  have q := (c_irem x y d hy).1 hx
  have q1 := Int.emod_nonneg x.toInt (show (d : Int) ≠ 0 by omega)
  have q2 := Int.emod_lt_of_pos x.toInt (show (0 : Int) < d by omega)
  refine ⟨fun r => ?_, ?_⟩
  · have := Int32.lt_iff_toInt_lt.mp r
    have e : (0 : Int32).toInt = 0 := rfl
    omega
  · show (x % y).toInt.toNat < d
    omega

def own_law_f214  (x0 : Int32) (x1 : Int32) (x2 : Addr) (x3 : Int32) : Int32 := (if (own_ns_f0 x0) = (own_rf_f0 x0) then (if (own_ns_f0 x3) = (own_rf_f0 x3) then (1 : Int32) else (0 : Int32)) else (0 : Int32))
set_option maxRecDepth 65536 in
set_option maxHeartbeats 4000000 in
theorem own_law_b214 (hx : p.tables.exec = Jvm.exec) (hby : c.code = code) (hml : c.maxLocals = maxLocals) (hown : s.vm.findClass "com/example/quire/quire/xdm/NamesIsNameStartPinLaw" = some m.cls) {Z : State} {a0 : Array Value} (hZ : Z.Warmed39 s.vm) (hw : ∀ d ∈ tables_1, d.before a0 Z = true) (hret : meth.sig.returnType = some .boolean) (hlk : meth.locks = false)  (x0 : Int32) (x1 : Int32) (x2 : Addr) (x3 : Int32) (r : Int32) (hf : own_law_f214  x0 x1 x2 x3 = r) : own_W p l e room_1 s m args below meth c n0 16 128 (fun v _ => v = .int r) 1 30 h 214 #[.val (.int x0), .val (.int x1), .val (.ref x2), .val (.int x3)] [] := by
  unfold own_law_f214 at hf
  refine own_iloadN hx (hb hby at_214) rfl (pc' := 215) rfl ?_
  refine own_callS hx hZ hown (hw _ (List.mem_of_getElem? (i := 8) rfl)) (hw _ (List.mem_of_getElem? (i := 9) rfl)) (hw _ (List.mem_of_getElem? (i := 10) rfl)) (hw _ (List.mem_of_getElem? (i := 11) rfl)) (by decide) (argsL := [(.int x0)]) (S := []) (own_ns_C l Z a0 hw n0 h x0) own_pdI rfl (by decide) (Nat.le_of_ble_eq_true rfl) (by rw [hml]; rfl) rfl (hb hby at_215) (by decide) (by decide) (pc' := 218) rfl ?_
  refine own_iloadN hx (hb hby at_218) rfl (pc' := 219) rfl ?_
  refine own_callS hx hZ hown (hw _ (List.mem_of_getElem? (i := 15) rfl)) (hw _ (List.mem_of_getElem? (i := 16) rfl)) (hw _ (List.mem_of_getElem? (i := 17) rfl)) (hw _ (List.mem_of_getElem? (i := 18) rfl)) (by decide) (argsL := [(.int x0)]) (S := [(.int (own_ns_f0 x0))]) (own_rf_C l Z a0 hw n0 h x0) own_pdI rfl (by decide) (Nat.le_of_ble_eq_true rfl) (by rw [hml]; rfl) rfl (hb hby at_219) (by decide) (by decide) (pc' := 222) rfl ?_
  refine own_ine hx (hb hby at_222) (by decide) (pc' := 240) (by decide) (pc2 := 225) rfl hf (fun hf => ?_) (fun hf => ?_)
  · refine own_iconst hx (z := (0 : Int32)) (hb hby at_240) (by decide) (pc' := 241) rfl ?_
    exact own_retZ hx hret hlk rfl (hb hby at_241) (Nat.le_of_ble_eq_true rfl) (Nat.le_of_ble_eq_true rfl) (congrArg _ hf)
  · refine own_iloadN hx (hb hby at_225) rfl (pc' := 226) rfl ?_
    refine own_callS hx hZ hown (hw _ (List.mem_of_getElem? (i := 8) rfl)) (hw _ (List.mem_of_getElem? (i := 9) rfl)) (hw _ (List.mem_of_getElem? (i := 10) rfl)) (hw _ (List.mem_of_getElem? (i := 11) rfl)) (by decide) (argsL := [(.int x3)]) (S := []) (own_ns_C l Z a0 hw n0 h x3) own_pdI rfl (by decide) (Nat.le_of_ble_eq_true rfl) (by rw [hml]; rfl) rfl (hb hby at_226) (by decide) (by decide) (pc' := 229) rfl ?_
    refine own_iloadN hx (hb hby at_229) rfl (pc' := 230) rfl ?_
    refine own_callS hx hZ hown (hw _ (List.mem_of_getElem? (i := 15) rfl)) (hw _ (List.mem_of_getElem? (i := 16) rfl)) (hw _ (List.mem_of_getElem? (i := 17) rfl)) (hw _ (List.mem_of_getElem? (i := 18) rfl)) (by decide) (argsL := [(.int x3)]) (S := [(.int (own_ns_f0 x3))]) (own_rf_C l Z a0 hw n0 h x3) own_pdI rfl (by decide) (Nat.le_of_ble_eq_true rfl) (by rw [hml]; rfl) rfl (hb hby at_230) (by decide) (by decide) (pc' := 233) rfl ?_
    refine own_ine hx (hb hby at_233) (by decide) (pc' := 240) (by decide) (pc2 := 236) rfl hf (fun hf => ?_) (fun hf => ?_)
    · refine own_iconst hx (z := (0 : Int32)) (hb hby at_240) (by decide) (pc' := 241) rfl ?_
      exact own_retZ hx hret hlk rfl (hb hby at_241) (Nat.le_of_ble_eq_true rfl) (Nat.le_of_ble_eq_true rfl) (congrArg _ hf)
    · refine own_iconst hx (z := (1 : Int32)) (hb hby at_236) (by decide) (pc' := 237) rfl ?_
      refine own_goto hx (hb hby at_237) (by decide) (pc' := 241) (by decide) ?_
      exact own_retZ hx hret hlk rfl (hb hby at_241) (Nat.le_of_ble_eq_true rfl) (Nat.le_of_ble_eq_true rfl) (congrArg _ hf)
theorem own_plain (x0 x1 : Int32) (x2 : Addr) (x3 : Int32) : own_law_f214 x0 x1 x2 x3 = 1 := by
  unfold own_law_f214
  rw [if_pos (own_same x0), if_pos (own_same x3)]
set_option maxRecDepth 65536 in
set_option maxHeartbeats 4000000 in
theorem own_law_b0 (hx : p.tables.exec = Jvm.exec) (hby : c.code = code) (hml : c.maxLocals = maxLocals) (hown : s.vm.findClass "com/example/quire/quire/xdm/NamesIsNameStartPinLaw" = some m.cls) {Z : State} {a0 : Array Value} (hZ : Z.Warmed39 s.vm) (hw : ∀ d ∈ tables_1, d.before a0 Z = true) (hret : meth.sig.returnType = some .boolean) (hlk : meth.locks = false)  (Z0 : n0 ≤ h.size) (x0 x1 : Int32) : own_W p l e room_1 s m args below meth c n0 16 128 (fun v _ => v = .int 1) 0 0 h 0 #[.val (.int x0), .val (.int x1), .unset, .unset] [] := by
  refine own_bipush hx (z := (30 : Int32)) (hb hby at_0) (by decide) (pc' := 2) rfl ?_
  refine own_newI hx hZ (hw _ (List.mem_of_getElem? (i := 0) rfl)) (hb hby at_2) (by decide) (cap := 30) (by decide) (by decide) (by decide) (by decide) Z0 (pc' := 4) rfl (fun h a I ga => ?_)
  refine own_dup hx (hb hby at_4) rfl (pc' := 5) rfl ?_
  refine own_iconst hx (z := (0 : Int32)) (hb hby at_5) (by decide) (pc' := 6) rfl ?_
  refine own_bipush hx (z := (65 : Int32)) (hb hby at_6) (by decide) (pc' := 8) rfl ?_
  refine own_stI hx hZ I ga (by decide) (by decide) (hb hby at_8) (pc' := 9) rfl (fun h I => ?_)
  refine own_dup hx (hb hby at_9) rfl (pc' := 10) rfl ?_
  refine own_iconst hx (z := (1 : Int32)) (hb hby at_10) (by decide) (pc' := 11) rfl ?_
  refine own_bipush hx (z := (91 : Int32)) (hb hby at_11) (by decide) (pc' := 13) rfl ?_
  refine own_stI hx hZ I ga (by decide) (by decide) (hb hby at_13) (pc' := 14) rfl (fun h I => ?_)
  refine own_dup hx (hb hby at_14) rfl (pc' := 15) rfl ?_
  refine own_iconst hx (z := (2 : Int32)) (hb hby at_15) (by decide) (pc' := 16) rfl ?_
  refine own_bipush hx (z := (95 : Int32)) (hb hby at_16) (by decide) (pc' := 18) rfl ?_
  refine own_stI hx hZ I ga (by decide) (by decide) (hb hby at_18) (pc' := 19) rfl (fun h I => ?_)
  refine own_dup hx (hb hby at_19) rfl (pc' := 20) rfl ?_
  refine own_iconst hx (z := (3 : Int32)) (hb hby at_20) (by decide) (pc' := 21) rfl ?_
  refine own_bipush hx (z := (96 : Int32)) (hb hby at_21) (by decide) (pc' := 23) rfl ?_
  refine own_stI hx hZ I ga (by decide) (by decide) (hb hby at_23) (pc' := 24) rfl (fun h I => ?_)
  refine own_dup hx (hb hby at_24) rfl (pc' := 25) rfl ?_
  refine own_iconst hx (z := (4 : Int32)) (hb hby at_25) (by decide) (pc' := 26) rfl ?_
  refine own_bipush hx (z := (97 : Int32)) (hb hby at_26) (by decide) (pc' := 28) rfl ?_
  refine own_stI hx hZ I ga (by decide) (by decide) (hb hby at_28) (pc' := 29) rfl (fun h I => ?_)
  refine own_dup hx (hb hby at_29) rfl (pc' := 30) rfl ?_
  refine own_iconst hx (z := (5 : Int32)) (hb hby at_30) (by decide) (pc' := 31) rfl ?_
  refine own_bipush hx (z := (123 : Int32)) (hb hby at_31) (by decide) (pc' := 33) rfl ?_
  refine own_stI hx hZ I ga (by decide) (by decide) (hb hby at_33) (pc' := 34) rfl (fun h I => ?_)
  refine own_dup hx (hb hby at_34) rfl (pc' := 35) rfl ?_
  refine own_bipush hx (z := (6 : Int32)) (hb hby at_35) (by decide) (pc' := 37) rfl ?_
  refine own_sipush hx (z := (192 : Int32)) (hb hby at_37) (by decide) (pc' := 40) rfl ?_
  refine own_stI hx hZ I ga (by decide) (by decide) (hb hby at_40) (pc' := 41) rfl (fun h I => ?_)
  refine own_dup hx (hb hby at_41) rfl (pc' := 42) rfl ?_
  refine own_bipush hx (z := (7 : Int32)) (hb hby at_42) (by decide) (pc' := 44) rfl ?_
  refine own_sipush hx (z := (215 : Int32)) (hb hby at_44) (by decide) (pc' := 47) rfl ?_
  refine own_stI hx hZ I ga (by decide) (by decide) (hb hby at_47) (pc' := 48) rfl (fun h I => ?_)
  refine own_dup hx (hb hby at_48) rfl (pc' := 49) rfl ?_
  refine own_bipush hx (z := (8 : Int32)) (hb hby at_49) (by decide) (pc' := 51) rfl ?_
  refine own_sipush hx (z := (216 : Int32)) (hb hby at_51) (by decide) (pc' := 54) rfl ?_
  refine own_stI hx hZ I ga (by decide) (by decide) (hb hby at_54) (pc' := 55) rfl (fun h I => ?_)
  refine own_dup hx (hb hby at_55) rfl (pc' := 56) rfl ?_
  refine own_bipush hx (z := (9 : Int32)) (hb hby at_56) (by decide) (pc' := 58) rfl ?_
  refine own_sipush hx (z := (247 : Int32)) (hb hby at_58) (by decide) (pc' := 61) rfl ?_
  refine own_stI hx hZ I ga (by decide) (by decide) (hb hby at_61) (pc' := 62) rfl (fun h I => ?_)
  refine own_dup hx (hb hby at_62) rfl (pc' := 63) rfl ?_
  refine own_bipush hx (z := (10 : Int32)) (hb hby at_63) (by decide) (pc' := 65) rfl ?_
  refine own_sipush hx (z := (248 : Int32)) (hb hby at_65) (by decide) (pc' := 68) rfl ?_
  refine own_stI hx hZ I ga (by decide) (by decide) (hb hby at_68) (pc' := 69) rfl (fun h I => ?_)
  refine own_dup hx (hb hby at_69) rfl (pc' := 70) rfl ?_
  refine own_bipush hx (z := (11 : Int32)) (hb hby at_70) (by decide) (pc' := 72) rfl ?_
  refine own_sipush hx (z := (768 : Int32)) (hb hby at_72) (by decide) (pc' := 75) rfl ?_
  refine own_stI hx hZ I ga (by decide) (by decide) (hb hby at_75) (pc' := 76) rfl (fun h I => ?_)
  refine own_dup hx (hb hby at_76) rfl (pc' := 77) rfl ?_
  refine own_bipush hx (z := (12 : Int32)) (hb hby at_77) (by decide) (pc' := 79) rfl ?_
  refine own_sipush hx (z := (880 : Int32)) (hb hby at_79) (by decide) (pc' := 82) rfl ?_
  refine own_stI hx hZ I ga (by decide) (by decide) (hb hby at_82) (pc' := 83) rfl (fun h I => ?_)
  refine own_dup hx (hb hby at_83) rfl (pc' := 84) rfl ?_
  refine own_bipush hx (z := (13 : Int32)) (hb hby at_84) (by decide) (pc' := 86) rfl ?_
  refine own_sipush hx (z := (894 : Int32)) (hb hby at_86) (by decide) (pc' := 89) rfl ?_
  refine own_stI hx hZ I ga (by decide) (by decide) (hb hby at_89) (pc' := 90) rfl (fun h I => ?_)
  refine own_dup hx (hb hby at_90) rfl (pc' := 91) rfl ?_
  refine own_bipush hx (z := (14 : Int32)) (hb hby at_91) (by decide) (pc' := 93) rfl ?_
  refine own_sipush hx (z := (895 : Int32)) (hb hby at_93) (by decide) (pc' := 96) rfl ?_
  refine own_stI hx hZ I ga (by decide) (by decide) (hb hby at_96) (pc' := 97) rfl (fun h I => ?_)
  refine own_dup hx (hb hby at_97) rfl (pc' := 98) rfl ?_
  refine own_bipush hx (z := (15 : Int32)) (hb hby at_98) (by decide) (pc' := 100) rfl ?_
  refine own_sipush hx (z := (8192 : Int32)) (hb hby at_100) (by decide) (pc' := 103) rfl ?_
  refine own_stI hx hZ I ga (by decide) (by decide) (hb hby at_103) (pc' := 104) rfl (fun h I => ?_)
  refine own_dup hx (hb hby at_104) rfl (pc' := 105) rfl ?_
  refine own_bipush hx (z := (16 : Int32)) (hb hby at_105) (by decide) (pc' := 107) rfl ?_
  refine own_sipush hx (z := (8204 : Int32)) (hb hby at_107) (by decide) (pc' := 110) rfl ?_
  refine own_stI hx hZ I ga (by decide) (by decide) (hb hby at_110) (pc' := 111) rfl (fun h I => ?_)
  refine own_dup hx (hb hby at_111) rfl (pc' := 112) rfl ?_
  refine own_bipush hx (z := (17 : Int32)) (hb hby at_112) (by decide) (pc' := 114) rfl ?_
  refine own_sipush hx (z := (8206 : Int32)) (hb hby at_114) (by decide) (pc' := 117) rfl ?_
  refine own_stI hx hZ I ga (by decide) (by decide) (hb hby at_117) (pc' := 118) rfl (fun h I => ?_)
  refine own_dup hx (hb hby at_118) rfl (pc' := 119) rfl ?_
  refine own_bipush hx (z := (18 : Int32)) (hb hby at_119) (by decide) (pc' := 121) rfl ?_
  refine own_sipush hx (z := (8304 : Int32)) (hb hby at_121) (by decide) (pc' := 124) rfl ?_
  refine own_stI hx hZ I ga (by decide) (by decide) (hb hby at_124) (pc' := 125) rfl (fun h I => ?_)
  refine own_dup hx (hb hby at_125) rfl (pc' := 126) rfl ?_
  refine own_bipush hx (z := (19 : Int32)) (hb hby at_126) (by decide) (pc' := 128) rfl ?_
  refine own_sipush hx (z := (8592 : Int32)) (hb hby at_128) (by decide) (pc' := 131) rfl ?_
  refine own_stI hx hZ I ga (by decide) (by decide) (hb hby at_131) (pc' := 132) rfl (fun h I => ?_)
  refine own_dup hx (hb hby at_132) rfl (pc' := 133) rfl ?_
  refine own_bipush hx (z := (20 : Int32)) (hb hby at_133) (by decide) (pc' := 135) rfl ?_
  refine own_sipush hx (z := (11264 : Int32)) (hb hby at_135) (by decide) (pc' := 138) rfl ?_
  refine own_stI hx hZ I ga (by decide) (by decide) (hb hby at_138) (pc' := 139) rfl (fun h I => ?_)
  refine own_dup hx (hb hby at_139) rfl (pc' := 140) rfl ?_
  refine own_bipush hx (z := (21 : Int32)) (hb hby at_140) (by decide) (pc' := 142) rfl ?_
  refine own_sipush hx (z := (12272 : Int32)) (hb hby at_142) (by decide) (pc' := 145) rfl ?_
  refine own_stI hx hZ I ga (by decide) (by decide) (hb hby at_145) (pc' := 146) rfl (fun h I => ?_)
  refine own_dup hx (hb hby at_146) rfl (pc' := 147) rfl ?_
  refine own_bipush hx (z := (22 : Int32)) (hb hby at_147) (by decide) (pc' := 149) rfl ?_
  refine own_sipush hx (z := (12289 : Int32)) (hb hby at_149) (by decide) (pc' := 152) rfl ?_
  refine own_stI hx hZ I ga (by decide) (by decide) (hb hby at_152) (pc' := 153) rfl (fun h I => ?_)
  refine own_dup hx (hb hby at_153) rfl (pc' := 154) rfl ?_
  refine own_bipush hx (z := (23 : Int32)) (hb hby at_154) (by decide) (pc' := 156) rfl ?_
  refine own_ldc hx hZ hown (hw _ (List.mem_of_getElem? (i := 1) rfl)) (hb hby at_156) (pc' := 158) rfl ?_
  refine own_stI hx hZ I ga (by decide) (by decide) (hb hby at_158) (pc' := 159) rfl (fun h I => ?_)
  refine own_dup hx (hb hby at_159) rfl (pc' := 160) rfl ?_
  refine own_bipush hx (z := (24 : Int32)) (hb hby at_160) (by decide) (pc' := 162) rfl ?_
  refine own_ldc hx hZ hown (hw _ (List.mem_of_getElem? (i := 2) rfl)) (hb hby at_162) (pc' := 164) rfl ?_
  refine own_stI hx hZ I ga (by decide) (by decide) (hb hby at_164) (pc' := 165) rfl (fun h I => ?_)
  refine own_dup hx (hb hby at_165) rfl (pc' := 166) rfl ?_
  refine own_bipush hx (z := (25 : Int32)) (hb hby at_166) (by decide) (pc' := 168) rfl ?_
  refine own_ldc hx hZ hown (hw _ (List.mem_of_getElem? (i := 3) rfl)) (hb hby at_168) (pc' := 170) rfl ?_
  refine own_stI hx hZ I ga (by decide) (by decide) (hb hby at_170) (pc' := 171) rfl (fun h I => ?_)
  refine own_dup hx (hb hby at_171) rfl (pc' := 172) rfl ?_
  refine own_bipush hx (z := (26 : Int32)) (hb hby at_172) (by decide) (pc' := 174) rfl ?_
  refine own_ldc hx hZ hown (hw _ (List.mem_of_getElem? (i := 4) rfl)) (hb hby at_174) (pc' := 176) rfl ?_
  refine own_stI hx hZ I ga (by decide) (by decide) (hb hby at_176) (pc' := 177) rfl (fun h I => ?_)
  refine own_dup hx (hb hby at_177) rfl (pc' := 178) rfl ?_
  refine own_bipush hx (z := (27 : Int32)) (hb hby at_178) (by decide) (pc' := 180) rfl ?_
  refine own_ldc hx hZ hown (hw _ (List.mem_of_getElem? (i := 5) rfl)) (hb hby at_180) (pc' := 182) rfl ?_
  refine own_stI hx hZ I ga (by decide) (by decide) (hb hby at_182) (pc' := 183) rfl (fun h I => ?_)
  refine own_dup hx (hb hby at_183) rfl (pc' := 184) rfl ?_
  refine own_bipush hx (z := (28 : Int32)) (hb hby at_184) (by decide) (pc' := 186) rfl ?_
  refine own_ldc hx hZ hown (hw _ (List.mem_of_getElem? (i := 6) rfl)) (hb hby at_186) (pc' := 188) rfl ?_
  refine own_stI hx hZ I ga (by decide) (by decide) (hb hby at_188) (pc' := 189) rfl (fun h I => ?_)
  refine own_dup hx (hb hby at_189) rfl (pc' := 190) rfl ?_
  refine own_bipush hx (z := (29 : Int32)) (hb hby at_190) (by decide) (pc' := 192) rfl ?_
  refine own_ldc hx hZ hown (hw _ (List.mem_of_getElem? (i := 7) rfl)) (hb hby at_192) (pc' := 194) rfl ?_
  refine own_stI hx hZ I ga (by decide) (by decide) (hb hby at_194) (pc' := 195) rfl (fun h I => ?_)
  refine own_astoreN hx (L' := #[.val (.int x0), .val (.int x1), .val (.ref a), .unset]) (hb hby at_195) rfl rfl (pc' := 196) rfl ?_
  refine own_aloadN hx (hb hby at_196) rfl rfl (pc' := 197) rfl ?_
  refine own_iloadN hx (hb hby at_197) rfl (pc' := 198) rfl ?_
  refine own_bipush hx (z := (31 : Int32)) (hb hby at_198) (by decide) (pc' := 200) rfl ?_
  refine own_iand hx (hb hby at_200) (pc' := 201) rfl ?_
  refine own_bipush hx (z := (30 : Int32)) (hb hby at_201) (by decide) (pc' := 203) rfl ?_
  refine own_irem hx (hb hby at_203) (by decide) (pc' := 204) rfl ?_
  refine own_ldI hx hZ I (own_idx _ _ 30 (c_and x1 31 (by decide)).1 rfl (by decide)).1 (own_idx _ _ 30 (c_and x1 31 (by decide)).1 rfl (by decide)).2 (hb hby at_204) (pc' := 205) rfl (fun v => ?_)
  refine own_iloadN hx (hb hby at_205) rfl (pc' := 206) rfl ?_
  refine own_iconst hx (z := (5 : Int32)) (hb hby at_206) (by decide) (pc' := 207) rfl ?_
  refine own_ishr hx (hb hby at_207) (pc' := 208) rfl ?_
  refine own_iconst hx (z := (3 : Int32)) (hb hby at_208) (by decide) (pc' := 209) rfl ?_
  refine own_iand hx (hb hby at_209) (pc' := 210) rfl ?_
  refine own_iadd hx (hb hby at_210) (pc' := 211) rfl ?_
  refine own_iconst hx (z := (2 : Int32)) (hb hby at_211) (by decide) (pc' := 212) rfl ?_
  refine own_isub hx (hb hby at_212) (pc' := 213) rfl ?_
  refine own_istoreN hx (L' := #[.val (.int x0), .val (.int x1), .val (.ref a), .val (.int ((v + ((x1 >>> ((5 : Int32) &&& 31)) &&& (3 : Int32))) - (2 : Int32)))]) (hb hby at_213) rfl (pc' := 214) rfl ?_
  exact own_law_b214 hx hby hml hown hZ hw hret hlk x0 x1 a ((v + ((x1 >>> ((5 : Int32) &&& 31)) &&& (3 : Int32))) - (2 : Int32)) 1 (own_plain _ _ _ _)
theorem own_pn : plainName x.cls = true := by first | (simp [x, plainName, overriddenIn]; done) | decide +kernel

theorem own_law_ef (m : MethodId) (i0 : Int32) (i1 : Int32) : entryFrame m #[(.int i0), (.int i1)] maxLocals = mkF m 0 #[.val (.int i0), .val (.int i1), .unset, .unset] [] := by first | (simp [entryFrame, mkF, argsToLocals, Value.category, maxLocals]; done) | rfl
theorem own_law_M (l : Launch) (Z : State) (a0 : Array Value) (hw : ∀ d ∈ tables_1, d.before a0 Z = true) (n0 : Nat) (h : Heap) (Z0 : n0 ≤ h.size)  (i0 : Int32) (i1 : Int32) :
    MetFree l x (head1 (Jvm.Cond.code x code maxLocals ret :: tables_1) room_1) (fun a U => a = #[(.int i0), (.int i1)] ∧ Z.Warmed39 U.vm ∧ U.heap = h) (fun _ _ _ _ _ => True) (fun _ U o U' => ∃ v Lq, o = .returned v ∧ (∃ w, v = some w ∧ w = .int 1 ∧ Fr n0 Lq) ∧ FrameEnd U o U' Lq 16 128) :=
  own_met (Q := fun v _ => v = .int 1) own_pn (fun m => own_law_ef m i0 i1) fun p e s m below meth c hx hby hml hown hZ hret hlk => own_law_b0 hx hby hml hown hZ hw hret hlk Z0 i0 i1

end Own2
set_option maxRecDepth 65536 in
set_option maxHeartbeats 40000000 in
theorem own_comes {Post : Tables → Env → Array Value → State → Outcome → State → Prop} (hpost : ∀ tb e args s v u, (limb_1_1.after args s (.returned v) u = true ∧ limb_1_2.after args s (.returned v) u = true ∧ True) → FrameEnd s (.returned v) u (Jvm.fieldLocs frame_1_writes args s ++ Jvm.arrayLocs frame_1_arrays args s ++ Jvm.staticLocs frame_1_statics s) 16 128 → Post tb e args s (.returned v) u) :
    ArmFor flags0 classFile x code maxLocals ret World_1 tables_1 room_1 Calls_1 rest_1 Pre_1 Post := by
  intro l hfl _ _ p e ha hc hk s m args below hf hA hF happ hP
  obtain ⟨hcalls, hrest, hpre⟩ := hP
  obtain ⟨-, -, -, hnamed, -, -, -, hat⟩ := (Spec.applies_iff hf).mp happ
  obtain ⟨hg, hn⟩ := and_e (Cond.before_iff.mp (show (Jvm.Cond.and given_1 narrow_1).before args s = true from hpre))
  obtain ⟨g0, t0⟩ := and_e hg
  obtain ⟨g1, t1⟩ := and_e t0
  obtain ⟨w0, w1, rfl⟩ : ∃ w0 w1 : Value, args = #[w0, w1] := by
    have hs : args.size = 2 := by simpa [Cond.value, given_1] using g0
    obtain ⟨L⟩ := args
    match L, hs with
    | [w0, w1], _ => exact ⟨w0, w1, rfl⟩
  have hw := fun d (hd : d ∈ tables_1) => atoms_spec (ws := Jvm.Cond.code x code maxLocals ret :: tables_1) hat d (List.mem_cons_of_mem _ hd)
  obtain ⟨i0, e0⟩ := is_v g1
  obtain rfl : w0 = (.int i0) := Option.some.inj e0
  obtain ⟨i1, e1⟩ := is_v t1
  obtain rfl : w1 = (.int i1) := Option.some.inj e1
  obtain ⟨n, o, h1, h2, h3, _, L, rfl, ⟨_, rfl, rfl, N⟩, hq⟩ := own_law_M l s _ hw s.heap.size s.heap (Nat.le_refl _)  i0 i1 p e ha hc hk s m _ below hf ((Spec.applies_iff_loose hf).mp happ).1 ⟨rfl, State.Warmed39.refl s, rfl⟩ trivial
  refine ⟨n, _, h1, h2, h3, hpost _ _ _ _ _ _ ⟨Cond.after_iff.mpr rfl, Cond.after_iff.mpr (eq_i res_at (Term.int_eval (1)) rfl), trivial⟩ ⟨hq.1, hq.2.1, (hq.2.2.sift fun y hy => Or.inr (N y hy)).mono (by decide) (by decide)⟩⟩
theorem main_1_1 : Claimed_1_1 := own_comes fun _ _ _ _ _ _ h hF => ⟨h.1, hF⟩
theorem main_1_2 : Claimed_1_2 := own_comes fun _ _ _ _ _ _ h hF => ⟨h.2.1, hF⟩
end Jvm.Pilot.@@N@@
namespace Jvm.Pilot.@@N@@
open Jvm Jvm.ClassFile Sem Op Lib Jvm.Free Jvm.Stand Jvm.Pilot.@@N@@.Jvm.D
/-! MADE BY PROGRAM (witnessworld.py) out of the Statement's table words and the real class files: 9 classes; the members and pool entries that the words name. The judged class is class 1, her method 1. -/
namespace start1
open Jvm.ClassFile
def u (s : String) : CpInfo := .utf8 (stringToUtf16 s)
/-- a pool by its gaps: so many unusable entries, then the entry; so many at the end -/
def gap : Nat → List CpInfo → List CpInfo
  | 0, r => r
  | n + 1, r => .unusable :: gap n r
def poolList (es : List (Nat × CpInfo)) (last : Nat) : List CpInfo := es.foldr (fun e r => gap e.1 (e.2 :: r)) (gap last [])
def pool (es : List (Nat × CpInfo)) (last : Nat) : Array CpInfo := ⟨poolList es last⟩
def fileOf (pool : Array CpInfo) (this : Nat) (attrs : Array Attribute := #[]) (ms : Array MethodInfo := #[]) (fl : Nat := 33) (sup : Nat := 0) (ifs : Array Nat := #[]) (fds : Array FieldInfo := #[]) : ClassFile where
  minorVersion := 0
  majorVersion := 65
  constantPool := pool
  accessFlags := fl
  thisClass := this
  superClass := sup
  interfaces := ifs
  fields := fds
  methods := ms
  attributes := attrs
def plain (name : String) (sup : Option ClassId) : Class where
  name := name
  kind := .ordinary
  loader := none
  accessFlags := 33
  super := sup
  interfaces := #[]
  cf := none
  fields := #[]
  methods := #[]
  instanceTypes := #[]
  staticTypes := #[]
  resolved := #[]
  callSites := []
  init := .initialized
  statics := none
  mirror := none

def pool0 : Array CpInfo := pool [(5, u "<init>"), (0, u "()V"), (1, .class_ 10), (1, u "java/lang/Object")] 113

def k0m0 : Method := { name := "<init>", desc := "()V", sig := { parameters := [], returnType := none }, accessFlags := 1, code := none }
/-- java/lang/Object -/
def k0 : Class := { plain "java/lang/Object" none with
  accessFlags := 33
  interfaces := #[]
  cf := some (fileOf pool0 8 #[] #[{ accessFlags := 1, nameIndex := 5, descriptorIndex := 6, attributes := #[] }] 33 0 #[] #[])
  fields := #[]
  methods := #[k0m0]
  instanceTypes := #[]
  staticTypes := #[]
  resolved := Array.replicate 124 none
  statics := none }

def pool1 : Array CpInfo := pool [(2, .class_ 4), (1, u "java/lang/Object"), (0, u "<init>"), (0, u "()V"), (0, .integer 55296), (0, .integer 63744), (0, .integer 64976), (0, .integer 65008), (0, .integer 65534), (0, .integer 65536), (0, .integer 983040), (0, .methodref 15 16), (0, .class_ 17), (0, .nameAndType 18 19), (0, u "com/example/quire/quire/xdm/Names"), (0, u "isNameStart"), (0, u "(I)Z"), (0, .methodref 21 22), (0, .class_ 23), (0, .nameAndType 24 19), (0, u "com/example/quire/quire/xdm/NamesIsNameStartPinLaw"), (0, u "ref"), (0, .integer 55295), (0, .integer 64975), (0, .integer 65533), (0, .integer 983039), (2, u "law"), (0, u "(II)Z")] 5

def k1m0 : Method := { name := "<init>", desc := "()V", sig := { parameters := [], returnType := none }, accessFlags := 2, code := none }
def k1c1 : Code := { maxStack := 4, maxLocals := 4, code := code, exceptionTable := #[], attributes := #[] }
def k1m1 : Method := { name := "law", desc := "(II)Z", sig := { parameters := [.int, .int], returnType := some .boolean }, accessFlags := 9, code := some k1c1 }
def k1c2 : Code := { maxStack := 2, maxLocals := 1, code := method_3_code, exceptionTable := #[], attributes := #[] }
def k1m2 : Method := { name := "ref", desc := "(I)Z", sig := { parameters := [.int], returnType := some .boolean }, accessFlags := 10, code := some k1c2 }
/-- com/example/quire/quire/xdm/NamesIsNameStartPinLaw -/
def k1 : Class := { plain "com/example/quire/quire/xdm/NamesIsNameStartPinLaw" (some 0) with
  accessFlags := 49
  interfaces := #[]
  cf := some (fileOf pool1 21 #[] #[{ accessFlags := 2, nameIndex := 5, descriptorIndex := 6, attributes := #[] }, { accessFlags := 9, nameIndex := 31, descriptorIndex := 32, attributes := #[] }, { accessFlags := 10, nameIndex := 24, descriptorIndex := 19, attributes := #[] }] 49 2 #[] #[])
  fields := #[]
  methods := #[k1m0, k1m1, k1m2]
  instanceTypes := #[]
  staticTypes := #[]
  resolved := Array.replicate 38 none
  statics := none }

def pool2 : Array CpInfo := pool [(2, .class_ 4), (1, u "java/lang/Object"), (0, u "<init>"), (0, u "()V"), (0, .integer 55295), (0, .integer 63744), (0, .integer 64975), (0, .integer 65008), (0, .integer 65533), (0, .integer 65536), (0, .integer 983039), (1, .class_ 17), (1, u "com/example/quire/quire/xdm/Names"), (0, u "isNameStart"), (0, u "(I)Z")] 41

def k2m0 : Method := { name := "<init>", desc := "()V", sig := { parameters := [], returnType := none }, accessFlags := 2, code := none }
def k2c1 : Code := { maxStack := 2, maxLocals := 1, code := prog_65_method_2_code, exceptionTable := #[], attributes := #[] }
def k2m1 : Method := { name := "isNameStart", desc := "(I)Z", sig := { parameters := [.int], returnType := some .boolean }, accessFlags := 9, code := some k2c1 }
/-- com/example/quire/quire/xdm/Names -/
def k2 : Class := { plain "com/example/quire/quire/xdm/Names" (some 0) with
  accessFlags := 49
  interfaces := #[]
  cf := some (fileOf pool2 15 #[] #[{ accessFlags := 2, nameIndex := 5, descriptorIndex := 6, attributes := #[] }, { accessFlags := 9, nameIndex := 18, descriptorIndex := 19, attributes := #[] }] 49 2 #[] #[])
  fields := #[]
  methods := #[k2m0, k2m1]
  instanceTypes := #[]
  staticTypes := #[]
  resolved := Array.replicate 61 none
  statics := none }

def pool3 : Array CpInfo := pool [(1, u "java/lang/Cloneable"), (0, .class_ 1), (0, u "java/lang/Object"), (0, .class_ 3)] 3

/-- java/lang/Cloneable -/
def k3 : Class := { plain "java/lang/Cloneable" (some 0) with
  accessFlags := 1537
  interfaces := #[]
  cf := some (fileOf pool3 2 #[] #[] 1537 4 #[] #[])
  fields := #[]
  methods := #[]
  instanceTypes := #[]
  staticTypes := #[]
  resolved := Array.replicate 8 none
  statics := none }

def pool4 : Array CpInfo := pool [(1, u "java/io/Serializable"), (0, .class_ 1), (0, u "java/lang/Object"), (0, .class_ 3)] 3

/-- java/io/Serializable -/
def k4 : Class := { plain "java/io/Serializable" (some 0) with
  accessFlags := 1537
  interfaces := #[]
  cf := some (fileOf pool4 2 #[] #[] 1537 4 #[] #[])
  fields := #[]
  methods := #[]
  instanceTypes := #[]
  staticTypes := #[]
  resolved := Array.replicate 8 none
  statics := none }

/-- the primitive byte -/
def k5 : Class := { plain "byte" none with kind := .primitive 'B', accessFlags := 0x411 }
/-- [B -/
def k6 : Class := { plain "[B" (some 0) with kind := .array 5 .byte, interfaces := #[3, 4], accessFlags := 1041 }

/-- the primitive int -/
def k7 : Class := { plain "int" none with kind := .primitive 'I', accessFlags := 0x411 }
/-- [I -/
def k8 : Class := { plain "[I" (some 0) with kind := .array 7 .int, interfaces := #[3, 4], accessFlags := 1041 }

def heap : Heap := #[]
def classes : Array Class := #[k0, k1, k2, k3, k4, k5, k6, k7, k8]
def interned : List (Array UInt16 × Addr) := []
def slotsUsed : Nat := 0
def theMethod : MethodId := ⟨1, 1⟩
def args0 : Array Value := #[.int 5, .int 300]
def aboutOver (below : List Frame) : State where
  vm := { classes := classes, interned := interned.toArray }
  heap := heap
  slotsUsed := slotsUsed
  threads := #[{ frames := .invoking theMethod args0 :: below }]
def below0 : List Frame := [.native { method := ⟨0, 0⟩, args := #[] }]
def about1 : State := aboutOver below0
def p0 : Program := .bare "" "" ""
def e0 : Env := launch0.env 0 0 0
theorem w_frames : about1.frames = Frame.invoking theMethod args0 :: below0 := rfl
set_option maxRecDepth 65536 in
theorem w_args : argsFit about1.vm theMethod args0 = true := by decide +kernel
set_option maxRecDepth 65536 in
theorem w_heap : heapFits about1 = true := by decide +kernel
set_option maxRecDepth 65536 in
theorem w_runnable : about1.curStatus? = some .runnable := by decide +kernel
set_option maxRecDepth 65536 in
theorem w_alone : about1.alone = true := by decide +kernel
set_option maxRecDepth 65536 in
theorem w_named : about1.methodNamed? x = some theMethod := by decide +kernel
set_option maxRecDepth 65536 in
theorem w_hears : about1.hears theMethod below0 = true := by decide +kernel
set_option maxRecDepth 65536 in
theorem w_ripe : about1.ripe theMethod args0 below0 = true := by decide +kernel
theorem w_running : about1.status = .running := rfl
set_option maxRecDepth 65536 in
theorem w_room : about1.hasRoom e0.platform room_1 = true :=
  launch0.hasRoom_least _ room_1 (by decide +kernel) (by decide +kernel) (by decide +kernel) (by decide +kernel) (by decide +kernel) (by decide +kernel)
theorem allAtoms_all (ts : List Jvm.Cond) (a : Array Jvm.Value) (st : Jvm.State) : (allAtoms ts).before a st = ts.all (fun c => c.before a st) := by
  induction ts with
  | nil => rfl
  | cons c t ih =>
    show (Jvm.Cond.and c (allAtoms t)).before a st = _
    rw [Jvm.Cond.before_and, ih, List.all_cons]
def words1 : List Jvm.Cond := Jvm.Cond.code x code maxLocals ret :: tables_1
/-- a 'code' word, met by the world's own term for the bytes: nothing is compared byte by byte -/
theorem code_word {y : MethodName} {bytes : ByteArray} {mx : Nat} {rt : Option FieldType} {a : Array Value} {s : State} {m : MethodId} {meth : Method} {c : Code} (h1 : s.methodNamed? y = some m) (h2 : s.vm.method? m = some meth) (h3 : meth.code = some c) (h4 : c.code = bytes)
    (h5 : (c.maxLocals == mx && c.exceptionTable.isEmpty && decide (c.maxStack ≤ mostOperands) && decide (meth.sig.returnType = rt) && !meth.locks && decide (parseMethodDescriptor y.desc = some meth.sig)) = true) : (Jvm.Cond.code y bytes mx rt).before a s = true := by
  simp only [Bool.and_eq_true, beq_iff_eq, Bool.not_eq_true', decide_eq_true_eq] at h5
  obtain ⟨⟨⟨⟨⟨g1, g2⟩, g3⟩, g4⟩, g5⟩, g6⟩ := h5
  simp [Cond.before, Cond.holds, Cond.value, h1, h2, h3, h4, g1, g2, g3, g4, g5, g6]
def isCode : Jvm.Cond → Bool
  | .code _ _ _ _ => true
  | _ => false
theorem all_split {L : List Jvm.Cond} {P : Jvm.Cond → Bool} (h1 : L.all (fun c => isCode c || P c) = true) (h2 : ∀ c ∈ L.filter isCode, P c = true) : L.all P = true := by
  refine List.all_eq_true.mpr fun c hc => ?_
  have h := List.all_eq_true.mp h1 c hc
  rcases Bool.eq_false_or_eq_true (isCode c) with hi | hi
  · exact h2 c (List.mem_filter.mpr ⟨hc, hi⟩)
  · simpa [hi] using h
set_option maxRecDepth 65536 in
theorem w_c0 : (Jvm.Cond.code x code maxLocals ret).before args0 about1 = true := code_word (m := ⟨1, 1⟩) (meth := k1m1) (c := k1c1) (by decide +kernel) rfl rfl rfl (by decide +kernel)
set_option maxRecDepth 65536 in
theorem w_c1 : (Jvm.Cond.code ({ cls := "com/example/quire/quire/xdm/Names", name := "isNameStart", desc := "(I)Z" } : Jvm.MethodName) prog_65_method_2_code (1 : Nat) (Option.some Jvm.ClassFile.FieldType.boolean)).before args0 about1 = true := code_word (m := ⟨2, 1⟩) (meth := k2m1) (c := k2c1) (by decide +kernel) rfl rfl rfl (by decide +kernel)
set_option maxRecDepth 65536 in
theorem w_c2 : (Jvm.Cond.code ({ cls := "com/example/quire/quire/xdm/NamesIsNameStartPinLaw", name := "ref", desc := "(I)Z" } : Jvm.MethodName) method_3_code (1 : Nat) (Option.some Jvm.ClassFile.FieldType.boolean)).before args0 about1 = true := code_word (m := ⟨1, 2⟩) (meth := k1m2) (c := k1c2) (by decide +kernel) rfl rfl rfl (by decide +kernel)
def codes1 : List Jvm.Cond := [Jvm.Cond.code x code maxLocals ret, Jvm.Cond.code ({ cls := "com/example/quire/quire/xdm/Names", name := "isNameStart", desc := "(I)Z" } : Jvm.MethodName) prog_65_method_2_code (1 : Nat) (Option.some Jvm.ClassFile.FieldType.boolean), Jvm.Cond.code ({ cls := "com/example/quire/quire/xdm/NamesIsNameStartPinLaw", name := "ref", desc := "(I)Z" } : Jvm.MethodName) method_3_code (1 : Nat) (Option.some Jvm.ClassFile.FieldType.boolean)]
set_option maxRecDepth 65536 in
theorem codes_eq : words1.filter isCode = codes1 := rfl
theorem w_codes : ∀ c ∈ words1.filter isCode, c.before args0 about1 = true := by
  rw [codes_eq]
  intro c hc
  simp only [codes1, List.mem_cons, List.not_mem_nil, or_false] at hc
  rcases hc with rfl | rfl | rfl
  · exact w_c0
  · exact w_c1
  · exact w_c2
set_option maxRecDepth 65536 in
theorem w_t1 : (words1.take 24).all (fun c => isCode c || c.before args0 about1) = true := by decide +kernel
set_option maxRecDepth 65536 in
theorem w_t2 : (words1.drop 24).all (fun c => isCode c || c.before args0 about1) = true := by decide +kernel
theorem w_tables : (allAtoms (Jvm.Cond.code x code maxLocals ret :: tables_1)).before args0 about1 = true := by
  rw [allAtoms_all]
  show words1.all (fun c => c.before args0 about1) = true
  refine all_split ?_ w_codes
  rw [← List.take_append_drop 24 words1, List.all_append, w_t1, w_t2]
  rfl
set_option maxRecDepth 65536 in
theorem w_case : (Jvm.Cond.and given_1 narrow_1).before args0 about1 = true := by decide +kernel
theorem w_applies : (headSpec (Jvm.Cond.code x code maxLocals ret :: tables_1) room_1).applies x e0.platform about1 = true :=
  (Spec.applies_iff w_frames).mpr ⟨w_running, w_runnable, w_alone, w_named, w_hears, w_ripe, w_room, w_tables⟩
theorem atStart : AtStart classFile x code maxLocals ret World_1 tables_1 room_1 Calls_1 rest_1 Pre_1 launch0 p0 e0 about1 theMethod args0 below0 :=
  ⟨lists_1, trivial, launch0.admits_env _ _ _, launch0.least_env, fairChoices_fair.cas, fairChoices_fair.clock, w_frames, w_args, w_heap, w_applies, trivial, trivial, w_case⟩
end start1
theorem witness_1 : WitnessClaimed_1 := ⟨start1.p0, start1.e0, start1.about1, start1.theMethod, start1.args0, start1.below0, start1.atStart⟩
end Jvm.Pilot.@@N@@
