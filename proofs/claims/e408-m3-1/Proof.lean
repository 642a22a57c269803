import JvmDerived
import JvmDerived.Pilot.@@N@@Statement
import JvmDerived.Pilot.@@N@@Code
set_option linter.unusedVariables false
set_option linter.unusedSimpArgs false
namespace Jvm.Pilot.@@N@@
open Jvm Jvm.ClassFile Sem Op Lib Jvm.Free Jvm.Stand Jvm.LawKit Jvm.RoadKit Bundle Jvm.Pilot.@@N@@.Jvm.D
/-! The shared layer: from every state that stands at pc (locals L, operands S, over the heap h) the body ends and returns a value of which Q holds. -/
section Own
variable {p : Program} {l : Launch} {e : Env} {R : Room} {s : State} {m : MethodId} {args : Array Value} {below : List Frame} {meth : Method} {c : Code} {n0 mc ms k n : Nat} {Q : Value → Heap → Prop} {h : Heap} {pc pc' : Nat} {L : Array Slot} {S : List Value}
def own_W (p : Program) (l : Launch) (e : Env) (R : Room) (s : State) (m : MethodId) (args : Array Value) (below : List Frame) (meth : Method) (c : Code) (n0 mc ms : Nat) (Q : Value → Heap → Prop) (k n : Nat) (h : Heap) (pc : Nat) (L : Array Slot) (S : List Value) : Prop :=
  ∀ (T : State) (locs : List Loc), Stand p l e R s m args below meth c T locs k n → T.heap = h → Fr n0 locs →
    ∃ (t : State) (o : Outcome), Steps p.tables e below (T.setTop (mkF m pc L S)) t ∧ t.status = .running ∧ Ended t below o ∧ ∃ (v : Value) (lo : List Loc), o = .returned (some v) ∧ (Q v t.heap ∧ Fr n0 lo) ∧ FrameEnd s o t lo mc ms
abbrev own_R0 : Room := { frames := 0, cells := 0, slots := 0, locals := 0 }
theorem own_step {L' : Array Slot} {S' : List Value} (st : ∀ (T : State) (locs : List Loc), Stand p l e R s m args below meth c T locs k n → ∀ t, Steps p.tables e below (T.setTop (mkF m pc' L' S')) t → Steps p.tables e below (T.setTop (mkF m pc L S)) t) (hr : own_W p l e R s m args below meth c n0 mc ms Q k n h pc' L' S') : own_W p l e R s m args below meth c n0 mc ms Q k n h pc L S := fun T locs X hh N => by
  obtain ⟨t, o, a, r⟩ := hr T locs X hh N
  exact ⟨t, o, st T locs X t a, r⟩
theorem own_iloadN (hx : p.tables.exec = Jvm.exec) {i : Fin 4} {v : Int32} (hd : decode c.code pc = .ok (.iload_n i, 1)) (hl : L[i.val]? = some (.val (.int v))) (hp : pc + 1 = pc') (hr : own_W p l e R s m args below meth c n0 mc ms Q k n h pc' L (.int v :: S)) : own_W p l e R s m args below meth c n0 mc ms Q k n h pc L S := by
  subst hp
  exact own_step (fun T locs X t a => XS.iloadN X.here hx rfl hd hl a) hr
theorem own_iload (hx : p.tables.exec = Jvm.exec) {i : Nat} {v : Int32} (hd : decode c.code pc = .ok (.iload i, 2)) (hl : L[i]? = some (.val (.int v))) (hp : pc + 2 = pc') (hr : own_W p l e R s m args below meth c n0 mc ms Q k n h pc' L (.int v :: S)) : own_W p l e R s m args below meth c n0 mc ms Q k n h pc L S := by
  subst hp
  exact own_step (fun T locs X t a => XS.iload X.here hx rfl hd hl a) hr
theorem own_aloadN (hx : p.tables.exec = Jvm.exec) {i : Fin 4} {v : Value} (hd : decode c.code pc = .ok (.aload_n i, 1)) (hl : L[i.val]? = some (.val v)) (hv : v.isRef = true) (hp : pc + 1 = pc') (hr : own_W p l e R s m args below meth c n0 mc ms Q k n h pc' L (v :: S)) : own_W p l e R s m args below meth c n0 mc ms Q k n h pc L S := by
  subst hp
  exact own_step (fun T locs X t a => XS.aloadN X.here hx rfl hd hl hv a) hr
theorem own_aload (hx : p.tables.exec = Jvm.exec) {i : Nat} {v : Value} (hd : decode c.code pc = .ok (.aload i, 2)) (hl : L[i]? = some (.val v)) (hv : v.isRef = true) (hp : pc + 2 = pc') (hr : own_W p l e R s m args below meth c n0 mc ms Q k n h pc' L (v :: S)) : own_W p l e R s m args below meth c n0 mc ms Q k n h pc L S := by
  subst hp
  exact own_step (fun T locs X t a => XS.aload X.here hx rfl hd hl hv a) hr
theorem own_iconst (hx : p.tables.exec = Jvm.exec) {i : Int} {z : Int32} (hd : decode c.code pc = .ok (.iconst i, 1)) (hz : Int32.ofInt i = z) (hp : pc + 1 = pc') (hr : own_W p l e R s m args below meth c n0 mc ms Q k n h pc' L (.int z :: S)) : own_W p l e R s m args below meth c n0 mc ms Q k n h pc L S := by
  subst hp
  exact own_step (fun T locs X t a => XS.iconst X.here hx rfl hd (by rw [hz]; exact a)) hr
theorem own_bipush (hx : p.tables.exec = Jvm.exec) {i : Int} {z : Int32} (hd : decode c.code pc = .ok (.bipush i, 2)) (hz : (Int8.ofInt i).toInt32 = z) (hp : pc + 2 = pc') (hr : own_W p l e R s m args below meth c n0 mc ms Q k n h pc' L (.int z :: S)) : own_W p l e R s m args below meth c n0 mc ms Q k n h pc L S := by
  subst hp
  exact own_step (fun T locs X t a => XS.bipush X.here hx rfl hd (by rw [hz]; exact a)) hr
theorem own_sipush (hx : p.tables.exec = Jvm.exec) {i : Int} {z : Int32} (hd : decode c.code pc = .ok (.sipush i, 3)) (hz : (Int16.ofInt i).toInt32 = z) (hp : pc + 3 = pc') (hr : own_W p l e R s m args below meth c n0 mc ms Q k n h pc' L (.int z :: S)) : own_W p l e R s m args below meth c n0 mc ms Q k n h pc L S := by
  subst hp
  exact own_step (fun T locs X t a => XS.sipush X.here hx rfl hd (by rw [hz]; exact a)) hr
theorem own_ldc (hx : p.tables.exec = Jvm.exec) {own : String} {i : Nat} {z : Int32} {Z : State} {a0 : Array Value} (hZ : Z.Warmed39 s.vm) (hown : s.vm.findClass own = some m.cls) (w : (Jvm.Cond.constant own i z).before a0 Z = true) (hd : decode c.code pc = .ok (.ldc i, 2))  (hp : pc + 2 = pc') (hr : own_W p l e R s m args below meth c n0 mc ms Q k n h pc' L (.int z :: S)) : own_W p l e R s m args below meth c n0 mc ms Q k n h pc L S := by
  subst hp
  exact own_step (fun T locs X t a => X.ldcInt hx hown (mvT hZ w) (g := mkF m pc L S) rfl hd _ a) hr
theorem own_ldc2 (hx : p.tables.exec = Jvm.exec) {own : String} {i : Nat} {z : Int64} {Z : State} {a0 : Array Value} (hZ : Z.Warmed39 s.vm) (hown : s.vm.findClass own = some m.cls) (w : (Jvm.Cond.constantLong own i z).before a0 Z = true) (hd : decode c.code pc = .ok (.ldc2_w i, 3))  (hp : pc + 3 = pc') (hr : own_W p l e R s m args below meth c n0 mc ms Q k n h pc' L (.long z :: S)) : own_W p l e R s m args below meth c n0 mc ms Q k n h pc L S := by
  subst hp
  exact own_step (fun T locs X t a => X.ldc2Long hx hown (mvT hZ w) (g := mkF m pc L S) rfl hd _ a) hr
theorem own_iadd (hx : p.tables.exec = Jvm.exec) {x y : Int32} (hd : decode c.code pc = .ok (.iadd, 1))  (hp : pc + 1 = pc') (hr : own_W p l e R s m args below meth c n0 mc ms Q k n h pc' L (.int (x + y) :: S)) : own_W p l e R s m args below meth c n0 mc ms Q k n h pc L (.int y :: .int x :: S) := by
  subst hp
  exact own_step (fun T locs X t a => XS.iadd X.here hx rfl hd rfl a) hr
theorem own_isub (hx : p.tables.exec = Jvm.exec) {x y : Int32} (hd : decode c.code pc = .ok (.isub, 1))  (hp : pc + 1 = pc') (hr : own_W p l e R s m args below meth c n0 mc ms Q k n h pc' L (.int (x - y) :: S)) : own_W p l e R s m args below meth c n0 mc ms Q k n h pc L (.int y :: .int x :: S) := by
  subst hp
  exact own_step (fun T locs X t a => XS.isub X.here hx rfl hd rfl a) hr
theorem own_iand (hx : p.tables.exec = Jvm.exec) {x y : Int32} (hd : decode c.code pc = .ok (.iand, 1))  (hp : pc + 1 = pc') (hr : own_W p l e R s m args below meth c n0 mc ms Q k n h pc' L (.int (x &&& y) :: S)) : own_W p l e R s m args below meth c n0 mc ms Q k n h pc L (.int y :: .int x :: S) := by
  subst hp
  exact own_step (fun T locs X t a => XS.iand X.here hx rfl hd rfl a) hr
theorem own_irem (hx : p.tables.exec = Jvm.exec) {x y : Int32} (hd : decode c.code pc = .ok (.irem, 1)) (hy : y ≠ 0) (hp : pc + 1 = pc') (hr : own_W p l e R s m args below meth c n0 mc ms Q k n h pc' L (.int (x % y) :: S)) : own_W p l e R s m args below meth c n0 mc ms Q k n h pc L (.int y :: .int x :: S) := by
  subst hp
  exact own_step (fun T locs X t a => XS.irem X.here hx rfl hd rfl hy (by rw [irem_eq_mod]; exact a)) hr
theorem own_ishr (hx : p.tables.exec = Jvm.exec) {x y : Int32} (hd : decode c.code pc = .ok (.ishr, 1))  (hp : pc + 1 = pc') (hr : own_W p l e R s m args below meth c n0 mc ms Q k n h pc' L (.int (x >>> (y &&& 31)) :: S)) : own_W p l e R s m args below meth c n0 mc ms Q k n h pc L (.int y :: .int x :: S) := by
  subst hp
  exact own_step (fun T locs X t a => XT.ishr X.here hx rfl hd rfl a) hr
theorem own_iushr (hx : p.tables.exec = Jvm.exec) {x y : Int32} (hd : decode c.code pc = .ok (.iushr, 1))  (hp : pc + 1 = pc') (hr : own_W p l e R s m args below meth c n0 mc ms Q k n h pc' L (.int (XT.ushr x y) :: S)) : own_W p l e R s m args below meth c n0 mc ms Q k n h pc L (.int y :: .int x :: S) := by
  subst hp
  exact own_step (fun T locs X t a => XT.iushr X.here hx rfl hd rfl a) hr
theorem own_i2c (hx : p.tables.exec = Jvm.exec) {x : Int32} (hd : decode c.code pc = .ok (.i2c, 1))  (hp : pc + 1 = pc') (hr : own_W p l e R s m args below meth c n0 mc ms Q k n h pc' L (.int (x.toUInt32.toUInt16.toUInt32.toInt32) :: S)) : own_W p l e R s m args below meth c n0 mc ms Q k n h pc L (.int x :: S) := by
  subst hp
  exact own_step (fun T locs X t a => XT.i2c X.here hx rfl hd rfl a) hr
theorem own_lushr (hx : p.tables.exec = Jvm.exec) {x : Int64} {y : Int32} (hd : decode c.code pc = .ok (.lushr, 1))  (hp : pc + 1 = pc') (hr : own_W p l e R s m args below meth c n0 mc ms Q k n h pc' L (.long (XT.ushrL x y) :: S)) : own_W p l e R s m args below meth c n0 mc ms Q k n h pc L (.int y :: .long x :: S) := by
  subst hp
  exact own_step (fun T locs X t a => XT.lushr X.here hx rfl hd rfl a) hr
theorem own_land (hx : p.tables.exec = Jvm.exec) {x y : Int64} (hd : decode c.code pc = .ok (.land, 1))  (hp : pc + 1 = pc') (hr : own_W p l e R s m args below meth c n0 mc ms Q k n h pc' L (.long (x &&& y) :: S)) : own_W p l e R s m args below meth c n0 mc ms Q k n h pc L (.long y :: .long x :: S) := by
  subst hp
  exact own_step (fun T locs X t a => XT.land X.here hx rfl hd rfl a) hr
theorem own_lconst (hx : p.tables.exec = Jvm.exec) {i : Fin 2} {z : Int64} (hd : decode c.code pc = .ok (.lconst i, 1)) (hz : Int64.ofNat i = z) (hp : pc + 1 = pc') (hr : own_W p l e R s m args below meth c n0 mc ms Q k n h pc' L (.long z :: S)) : own_W p l e R s m args below meth c n0 mc ms Q k n h pc L S := by
  subst hp
  exact own_step (fun T locs X t a => XT.lconst X.here hx rfl hd (by rw [hz]; exact a)) hr
theorem own_lcmp (hx : p.tables.exec = Jvm.exec) {x y : Int64} (hd : decode c.code pc = .ok (.lcmp, 1))  (hp : pc + 1 = pc') (hr : own_W p l e R s m args below meth c n0 mc ms Q k n h pc' L (.int (XT.cmpL x y) :: S)) : own_W p l e R s m args below meth c n0 mc ms Q k n h pc L (.long y :: .long x :: S) := by
  subst hp
  exact own_step (fun T locs X t a => XT.lcmp X.here hx rfl hd rfl a) hr
theorem own_dup (hx : p.tables.exec = Jvm.exec) {v : Value} (hd : decode c.code pc = .ok (.dup, 1)) (hv : v.category = 1) (hp : pc + 1 = pc') (hr : own_W p l e R s m args below meth c n0 mc ms Q k n h pc' L (v :: v :: S)) : own_W p l e R s m args below meth c n0 mc ms Q k n h pc L (v :: S) := by
  subst hp
  exact own_step (fun T locs X t a => XS.dup X.here hx rfl hd rfl hv a) hr
theorem own_istoreN (hx : p.tables.exec = Jvm.exec) {i : Fin 4} {x : Int32} {L' : Array Slot} (hd : decode c.code pc = .ok (.istore_n i, 1)) (hl : storeLocals L i.val (.int x) = some L') (hp : pc + 1 = pc') (hr : own_W p l e R s m args below meth c n0 mc ms Q k n h pc' L' S) : own_W p l e R s m args below meth c n0 mc ms Q k n h pc L (.int x :: S) := by
  subst hp
  exact own_step (fun T locs X t a => XS.istoreN X.here hx rfl hd rfl hl a) hr
theorem own_istore (hx : p.tables.exec = Jvm.exec) {i : Nat} {x : Int32} {L' : Array Slot} (hd : decode c.code pc = .ok (.istore i, 2)) (hl : storeLocals L i (.int x) = some L') (hp : pc + 2 = pc') (hr : own_W p l e R s m args below meth c n0 mc ms Q k n h pc' L' S) : own_W p l e R s m args below meth c n0 mc ms Q k n h pc L (.int x :: S) := by
  subst hp
  exact own_step (fun T locs X t a => XS.istore X.here hx rfl hd rfl hl a) hr
theorem own_astoreN (hx : p.tables.exec = Jvm.exec) {i : Fin 4} {v : Value} {L' : Array Slot} (hd : decode c.code pc = .ok (.astore_n i, 1)) (hv : v.isRef = true) (hl : storeLocals L i.val v = some L') (hp : pc + 1 = pc') (hr : own_W p l e R s m args below meth c n0 mc ms Q k n h pc' L' S) : own_W p l e R s m args below meth c n0 mc ms Q k n h pc L (v :: S) := by
  subst hp
  exact own_step (fun T locs X t a => XS.astoreN X.here hx rfl hd rfl hv hl a) hr
theorem own_astore (hx : p.tables.exec = Jvm.exec) {i : Nat} {v : Value} {L' : Array Slot} (hd : decode c.code pc = .ok (.astore i, 2)) (hv : v.isRef = true) (hl : storeLocals L i v = some L') (hp : pc + 2 = pc') (hr : own_W p l e R s m args below meth c n0 mc ms Q k n h pc' L' S) : own_W p l e R s m args below meth c n0 mc ms Q k n h pc L (v :: S) := by
  subst hp
  exact own_step (fun T locs X t a => XS.astore X.here hx rfl hd rfl hv hl a) hr
theorem own_goto (hx : p.tables.exec = Jvm.exec) {o : Int} (hd : decode c.code pc = .ok (.goto o, 3)) (ho : 0 ≤ (pc : Int) + o) (hp : ((pc : Int) + o).toNat = pc') (hr : own_W p l e R s m args below meth c n0 mc ms Q k n h pc' L S) : own_W p l e R s m args below meth c n0 mc ms Q k n h pc L S :=
  own_step (fun T locs X t a => XS.goto X.here hx rfl (pc0 := pc) rfl hd ho hp a) hr
theorem own_icmp (hx : p.tables.exec = Jvm.exec) {cd : ClassFile.Cond} {o : Int} {x y : Int32} {pc2 : Nat} (hd : decode c.code pc = .ok (.if_icmp cd o, 3)) (ho : 0 ≤ (pc : Int) + o) (hp : ((pc : Int) + o).toNat = pc') (h3 : pc + 3 = pc2) (hy : if_icmp.holds cd x y = true → own_W p l e R s m args below meth c n0 mc ms Q k n h pc' L S) (hn : if_icmp.holds cd x y = false → own_W p l e R s m args below meth c n0 mc ms Q k n h pc2 L S) : own_W p l e R s m args below meth c n0 mc ms Q k n h pc L (.int y :: .int x :: S) := by
  subst h3
  cases q : if_icmp.holds cd x y with
  | true => exact own_step (fun T locs X t a => XS.icmpYes X.here hx rfl (pc0 := pc) rfl hd rfl q ho hp a) (hy q)
  | false => exact own_step (fun T locs X t a => XS.icmpNo X.here hx rfl hd rfl q a) (hn q)
theorem own_ifc (hx : p.tables.exec = Jvm.exec) {cd : ClassFile.Cond} {o : Int} {x : Int32} {pc2 : Nat} (hd : decode c.code pc = .ok (.ifCond cd o, 3)) (ho : 0 ≤ (pc : Int) + o) (hp : ((pc : Int) + o).toNat = pc') (h3 : pc + 3 = pc2) (hy : ifCond.holds cd x = true → own_W p l e R s m args below meth c n0 mc ms Q k n h pc' L S) (hn : ifCond.holds cd x = false → own_W p l e R s m args below meth c n0 mc ms Q k n h pc2 L S) : own_W p l e R s m args below meth c n0 mc ms Q k n h pc L (.int x :: S) := by
  subst h3
  cases q : ifCond.holds cd x with
  | true => exact own_step (fun T locs X t a => XS.ifYes X.here hx rfl (pc0 := pc) rfl hd rfl q ho hp a) (hy q)
  | false => exact own_step (fun T locs X t a => XS.ifNo X.here hx rfl hd rfl q a) (hn q)
theorem own_ilt (hx : p.tables.exec = Jvm.exec) {α : Type} {A B r : α} {o : Int} {x y : Int32} {pc2 : Nat} (hd : decode c.code pc = .ok (.if_icmp .lt o, 3)) (ho : 0 ≤ (pc : Int) + o) (hp : ((pc : Int) + o).toNat = pc') (h3 : pc + 3 = pc2) (hf : (if x < y then A else B) = r) (hy : A = r → own_W p l e R s m args below meth c n0 mc ms Q k n h pc' L S) (hn : B = r → own_W p l e R s m args below meth c n0 mc ms Q k n h pc2 L S) : own_W p l e R s m args below meth c n0 mc ms Q k n h pc L (.int y :: .int x :: S) := by
  refine own_icmp hx hd ho hp h3 (fun q => hy ?_) (fun q => hn ?_)
  · have q' : x < y := by simpa [if_icmp.holds] using q
    rw [if_pos q'] at hf; exact hf
  · have q' : ¬ (x < y) := by simpa [if_icmp.holds] using q
    rw [if_neg q'] at hf; exact hf
theorem own_ilt0 (hx : p.tables.exec = Jvm.exec) {α : Type} {A B r : α} {o : Int} {x : Int32} {pc2 : Nat} (hd : decode c.code pc = .ok (.ifCond .lt o, 3)) (ho : 0 ≤ (pc : Int) + o) (hp : ((pc : Int) + o).toNat = pc') (h3 : pc + 3 = pc2) (hf : (if x < 0 then A else B) = r) (hy : A = r → own_W p l e R s m args below meth c n0 mc ms Q k n h pc' L S) (hn : B = r → own_W p l e R s m args below meth c n0 mc ms Q k n h pc2 L S) : own_W p l e R s m args below meth c n0 mc ms Q k n h pc L (.int x :: S) := by
  refine own_ifc hx hd ho hp h3 (fun q => hy ?_) (fun q => hn ?_)
  · have q' : x < 0 := by simpa [ifCond.holds] using q
    rw [if_pos q'] at hf; exact hf
  · have q' : ¬ (x < 0) := by simpa [ifCond.holds] using q
    rw [if_neg q'] at hf; exact hf
theorem own_ige (hx : p.tables.exec = Jvm.exec) {α : Type} {A B r : α} {o : Int} {x y : Int32} {pc2 : Nat} (hd : decode c.code pc = .ok (.if_icmp .ge o, 3)) (ho : 0 ≤ (pc : Int) + o) (hp : ((pc : Int) + o).toNat = pc') (h3 : pc + 3 = pc2) (hf : (if y ≤ x then A else B) = r) (hy : A = r → own_W p l e R s m args below meth c n0 mc ms Q k n h pc' L S) (hn : B = r → own_W p l e R s m args below meth c n0 mc ms Q k n h pc2 L S) : own_W p l e R s m args below meth c n0 mc ms Q k n h pc L (.int y :: .int x :: S) := by
  refine own_icmp hx hd ho hp h3 (fun q => hy ?_) (fun q => hn ?_)
  · have q' : y ≤ x := by simpa [if_icmp.holds] using q
    rw [if_pos q'] at hf; exact hf
  · have q' : ¬ (y ≤ x) := by simpa [if_icmp.holds] using q
    rw [if_neg q'] at hf; exact hf
theorem own_ige0 (hx : p.tables.exec = Jvm.exec) {α : Type} {A B r : α} {o : Int} {x : Int32} {pc2 : Nat} (hd : decode c.code pc = .ok (.ifCond .ge o, 3)) (ho : 0 ≤ (pc : Int) + o) (hp : ((pc : Int) + o).toNat = pc') (h3 : pc + 3 = pc2) (hf : (if 0 ≤ x then A else B) = r) (hy : A = r → own_W p l e R s m args below meth c n0 mc ms Q k n h pc' L S) (hn : B = r → own_W p l e R s m args below meth c n0 mc ms Q k n h pc2 L S) : own_W p l e R s m args below meth c n0 mc ms Q k n h pc L (.int x :: S) := by
  refine own_ifc hx hd ho hp h3 (fun q => hy ?_) (fun q => hn ?_)
  · have q' : 0 ≤ x := by simpa [ifCond.holds] using q
    rw [if_pos q'] at hf; exact hf
  · have q' : ¬ (0 ≤ x) := by simpa [ifCond.holds] using q
    rw [if_neg q'] at hf; exact hf
theorem own_igt (hx : p.tables.exec = Jvm.exec) {α : Type} {A B r : α} {o : Int} {x y : Int32} {pc2 : Nat} (hd : decode c.code pc = .ok (.if_icmp .gt o, 3)) (ho : 0 ≤ (pc : Int) + o) (hp : ((pc : Int) + o).toNat = pc') (h3 : pc + 3 = pc2) (hf : (if y < x then A else B) = r) (hy : A = r → own_W p l e R s m args below meth c n0 mc ms Q k n h pc' L S) (hn : B = r → own_W p l e R s m args below meth c n0 mc ms Q k n h pc2 L S) : own_W p l e R s m args below meth c n0 mc ms Q k n h pc L (.int y :: .int x :: S) := by
  refine own_icmp hx hd ho hp h3 (fun q => hy ?_) (fun q => hn ?_)
  · have q' : y < x := by simpa [if_icmp.holds] using q
    rw [if_pos q'] at hf; exact hf
  · have q' : ¬ (y < x) := by simpa [if_icmp.holds] using q
    rw [if_neg q'] at hf; exact hf
theorem own_igt0 (hx : p.tables.exec = Jvm.exec) {α : Type} {A B r : α} {o : Int} {x : Int32} {pc2 : Nat} (hd : decode c.code pc = .ok (.ifCond .gt o, 3)) (ho : 0 ≤ (pc : Int) + o) (hp : ((pc : Int) + o).toNat = pc') (h3 : pc + 3 = pc2) (hf : (if 0 < x then A else B) = r) (hy : A = r → own_W p l e R s m args below meth c n0 mc ms Q k n h pc' L S) (hn : B = r → own_W p l e R s m args below meth c n0 mc ms Q k n h pc2 L S) : own_W p l e R s m args below meth c n0 mc ms Q k n h pc L (.int x :: S) := by
  refine own_ifc hx hd ho hp h3 (fun q => hy ?_) (fun q => hn ?_)
  · have q' : 0 < x := by simpa [ifCond.holds] using q
    rw [if_pos q'] at hf; exact hf
  · have q' : ¬ (0 < x) := by simpa [ifCond.holds] using q
    rw [if_neg q'] at hf; exact hf
theorem own_ile (hx : p.tables.exec = Jvm.exec) {α : Type} {A B r : α} {o : Int} {x y : Int32} {pc2 : Nat} (hd : decode c.code pc = .ok (.if_icmp .le o, 3)) (ho : 0 ≤ (pc : Int) + o) (hp : ((pc : Int) + o).toNat = pc') (h3 : pc + 3 = pc2) (hf : (if x ≤ y then A else B) = r) (hy : A = r → own_W p l e R s m args below meth c n0 mc ms Q k n h pc' L S) (hn : B = r → own_W p l e R s m args below meth c n0 mc ms Q k n h pc2 L S) : own_W p l e R s m args below meth c n0 mc ms Q k n h pc L (.int y :: .int x :: S) := by
  refine own_icmp hx hd ho hp h3 (fun q => hy ?_) (fun q => hn ?_)
  · have q' : x ≤ y := by simpa [if_icmp.holds] using q
    rw [if_pos q'] at hf; exact hf
  · have q' : ¬ (x ≤ y) := by simpa [if_icmp.holds] using q
    rw [if_neg q'] at hf; exact hf
theorem own_ile0 (hx : p.tables.exec = Jvm.exec) {α : Type} {A B r : α} {o : Int} {x : Int32} {pc2 : Nat} (hd : decode c.code pc = .ok (.ifCond .le o, 3)) (ho : 0 ≤ (pc : Int) + o) (hp : ((pc : Int) + o).toNat = pc') (h3 : pc + 3 = pc2) (hf : (if x ≤ 0 then A else B) = r) (hy : A = r → own_W p l e R s m args below meth c n0 mc ms Q k n h pc' L S) (hn : B = r → own_W p l e R s m args below meth c n0 mc ms Q k n h pc2 L S) : own_W p l e R s m args below meth c n0 mc ms Q k n h pc L (.int x :: S) := by
  refine own_ifc hx hd ho hp h3 (fun q => hy ?_) (fun q => hn ?_)
  · have q' : x ≤ 0 := by simpa [ifCond.holds] using q
    rw [if_pos q'] at hf; exact hf
  · have q' : ¬ (x ≤ 0) := by simpa [ifCond.holds] using q
    rw [if_neg q'] at hf; exact hf
theorem own_ieq (hx : p.tables.exec = Jvm.exec) {α : Type} {A B r : α} {o : Int} {x y : Int32} {pc2 : Nat} (hd : decode c.code pc = .ok (.if_icmp .eq o, 3)) (ho : 0 ≤ (pc : Int) + o) (hp : ((pc : Int) + o).toNat = pc') (h3 : pc + 3 = pc2) (hf : (if x = y then A else B) = r) (hy : A = r → own_W p l e R s m args below meth c n0 mc ms Q k n h pc' L S) (hn : B = r → own_W p l e R s m args below meth c n0 mc ms Q k n h pc2 L S) : own_W p l e R s m args below meth c n0 mc ms Q k n h pc L (.int y :: .int x :: S) := by
  refine own_icmp hx hd ho hp h3 (fun q => hy ?_) (fun q => hn ?_)
  · have q' : x = y := by simpa [if_icmp.holds] using q
    rw [if_pos q'] at hf; exact hf
  · have q' : ¬ (x = y) := by simpa [if_icmp.holds] using q
    rw [if_neg q'] at hf; exact hf
theorem own_ieq0 (hx : p.tables.exec = Jvm.exec) {α : Type} {A B r : α} {o : Int} {x : Int32} {pc2 : Nat} (hd : decode c.code pc = .ok (.ifCond .eq o, 3)) (ho : 0 ≤ (pc : Int) + o) (hp : ((pc : Int) + o).toNat = pc') (h3 : pc + 3 = pc2) (hf : (if x = 0 then A else B) = r) (hy : A = r → own_W p l e R s m args below meth c n0 mc ms Q k n h pc' L S) (hn : B = r → own_W p l e R s m args below meth c n0 mc ms Q k n h pc2 L S) : own_W p l e R s m args below meth c n0 mc ms Q k n h pc L (.int x :: S) := by
  refine own_ifc hx hd ho hp h3 (fun q => hy ?_) (fun q => hn ?_)
  · have q' : x = 0 := by simpa [ifCond.holds] using q
    rw [if_pos q'] at hf; exact hf
  · have q' : ¬ (x = 0) := by simpa [ifCond.holds] using q
    rw [if_neg q'] at hf; exact hf
theorem own_ine (hx : p.tables.exec = Jvm.exec) {α : Type} {A B r : α} {o : Int} {x y : Int32} {pc2 : Nat} (hd : decode c.code pc = .ok (.if_icmp .ne o, 3)) (ho : 0 ≤ (pc : Int) + o) (hp : ((pc : Int) + o).toNat = pc') (h3 : pc + 3 = pc2) (hf : (if x = y then A else B) = r) (hy : B = r → own_W p l e R s m args below meth c n0 mc ms Q k n h pc' L S) (hn : A = r → own_W p l e R s m args below meth c n0 mc ms Q k n h pc2 L S) : own_W p l e R s m args below meth c n0 mc ms Q k n h pc L (.int y :: .int x :: S) := by
  refine own_icmp hx hd ho hp h3 (fun q => hy ?_) (fun q => hn ?_)
  · have q' : ¬ (x = y) := by simpa [if_icmp.holds] using q
    rw [if_neg q'] at hf; exact hf
  · have q' : x = y := by simpa [if_icmp.holds] using q
    rw [if_pos q'] at hf; exact hf
theorem own_ine0 (hx : p.tables.exec = Jvm.exec) {α : Type} {A B r : α} {o : Int} {x : Int32} {pc2 : Nat} (hd : decode c.code pc = .ok (.ifCond .ne o, 3)) (ho : 0 ≤ (pc : Int) + o) (hp : ((pc : Int) + o).toNat = pc') (h3 : pc + 3 = pc2) (hf : (if x = 0 then A else B) = r) (hy : B = r → own_W p l e R s m args below meth c n0 mc ms Q k n h pc' L S) (hn : A = r → own_W p l e R s m args below meth c n0 mc ms Q k n h pc2 L S) : own_W p l e R s m args below meth c n0 mc ms Q k n h pc L (.int x :: S) := by
  refine own_ifc hx hd ho hp h3 (fun q => hy ?_) (fun q => hn ?_)
  · have q' : ¬ (x = 0) := by simpa [ifCond.holds] using q
    rw [if_neg q'] at hf; exact hf
  · have q' : x = 0 := by simpa [ifCond.holds] using q
    rw [if_pos q'] at hf; exact hf
theorem own_aeq (hx : p.tables.exec = Jvm.exec) {α : Type} {A B r : α} {o : Int} {x y : Addr} {pc2 : Nat} (hd : decode c.code pc = .ok (.if_acmp .eq o, 3)) (ho : 0 ≤ (pc : Int) + o) (hp : ((pc : Int) + o).toNat = pc') (h3 : pc + 3 = pc2) (hf : (if x = y then A else B) = r) (hy : A = r → own_W p l e R s m args below meth c n0 mc ms Q k n h pc' L S) (hn : B = r → own_W p l e R s m args below meth c n0 mc ms Q k n h pc2 L S) : own_W p l e R s m args below meth c n0 mc ms Q k n h pc L (.ref y :: .ref x :: S) := by
  subst h3
  by_cases q : x = y
  · rw [if_pos q] at hf
    exact own_step (fun T locs X t a => XT.acmpYes X.here hx rfl (pc0 := pc) rfl hd rfl rfl rfl (by simp [XT.acmp, q]) ho hp a) (hy hf)
  · rw [if_neg q] at hf
    exact own_step (fun T locs X t a => XT.acmpNo X.here hx rfl hd rfl rfl rfl (by simp [XT.acmp, q]) a) (hn hf)
theorem own_ane (hx : p.tables.exec = Jvm.exec) {α : Type} {A B r : α} {o : Int} {x y : Addr} {pc2 : Nat} (hd : decode c.code pc = .ok (.if_acmp .ne o, 3)) (ho : 0 ≤ (pc : Int) + o) (hp : ((pc : Int) + o).toNat = pc') (h3 : pc + 3 = pc2) (hf : (if x = y then A else B) = r) (hy : B = r → own_W p l e R s m args below meth c n0 mc ms Q k n h pc' L S) (hn : A = r → own_W p l e R s m args below meth c n0 mc ms Q k n h pc2 L S) : own_W p l e R s m args below meth c n0 mc ms Q k n h pc L (.ref y :: .ref x :: S) := by
  subst h3
  by_cases q : x = y
  · rw [if_pos q] at hf
    exact own_step (fun T locs X t a => XT.acmpNo X.here hx rfl hd rfl rfl rfl (by simp [XT.acmp, q]) a) (hn hf)
  · rw [if_neg q] at hf
    exact own_step (fun T locs X t a => XT.acmpYes X.here hx rfl (pc0 := pc) rfl hd rfl rfl rfl (by simp [XT.acmp, q]) ho hp a) (hy hf)
theorem own_ifnonnull (hx : p.tables.exec = Jvm.exec) {o : Int} {x : Addr} (hd : decode c.code pc = .ok (.ifnonnull o, 3)) (ho : 0 ≤ (pc : Int) + o) (hp : ((pc : Int) + o).toNat = pc') (hr : own_W p l e R s m args below meth c n0 mc ms Q k n h pc' L S) : own_W p l e R s m args below meth c n0 mc ms Q k n h pc L (.ref x :: S) :=
  own_step (fun T locs X t a => XT.ifnonnullYes X.here hx rfl (pc0 := pc) rfl hd rfl ho hp a) hr
theorem own_ifnullNo (hx : p.tables.exec = Jvm.exec) {o : Int} {x : Addr} (hd : decode c.code pc = .ok (.ifnull o, 3)) (hp : pc + 3 = pc') (hr : own_W p l e R s m args below meth c n0 mc ms Q k n h pc' L S) : own_W p l e R s m args below meth c n0 mc ms Q k n h pc L (.ref x :: S) := by
  subst hp
  exact own_step (fun T locs X t a => XS.ifnullNo X.here hx rfl hd rfl a) hr
theorem own_ifnullYes (hx : p.tables.exec = Jvm.exec) {o : Int} (hd : decode c.code pc = .ok (.ifnull o, 3)) (ho : 0 ≤ (pc : Int) + o) (hp : ((pc : Int) + o).toNat = pc') (hr : own_W p l e R s m args below meth c n0 mc ms Q k n h pc' L S) : own_W p l e R s m args below meth c n0 mc ms Q k n h pc L (.null :: S) :=
  own_step (fun T locs X t a => XS.ifnullYes X.here hx rfl (pc0 := pc) rfl hd rfl ho hp a) hr
theorem own_tswIn (hx : p.tables.exec = Jvm.exec) {dflt low high o : Int} {offs : Array Int} {len : Nat} {i : Int32} (hd : decode c.code pc = .ok (.tableswitch dflt low high offs, len)) (hin : ¬ (i.toInt < low ∨ i.toInt > high)) (hoff : offs[(i.toInt - low).toNat]? = some o) (ho : 0 ≤ (pc : Int) + o) (hp : ((pc : Int) + o).toNat = pc') (hr : own_W p l e R s m args below meth c n0 mc ms Q k n h pc' L S) : own_W p l e R s m args below meth c n0 mc ms Q k n h pc L (.int i :: S) :=
  own_step (fun T locs X t a => XS.tswIn X.here hx rfl (pc0 := pc) rfl hd rfl hin hoff ho hp a) hr
theorem own_tswOut (hx : p.tables.exec = Jvm.exec) {dflt low high : Int} {offs : Array Int} {len : Nat} {i : Int32} (hd : decode c.code pc = .ok (.tableswitch dflt low high offs, len)) (hout : i.toInt < low ∨ i.toInt > high) (ho : 0 ≤ (pc : Int) + dflt) (hp : ((pc : Int) + dflt).toNat = pc') (hr : own_W p l e R s m args below meth c n0 mc ms Q k n h pc' L S) : own_W p l e R s m args below meth c n0 mc ms Q k n h pc L (.int i :: S) :=
  own_step (fun T locs X t a => XS.tswOut X.here hx rfl (pc0 := pc) rfl hd rfl hout ho hp a) hr
theorem own_ret (hx : p.tables.exec = Jvm.exec) {w : Value} {t0 : FieldType} {i : Instr} (hret : meth.sig.returnType = some t0) (hlk : meth.locks = false) (hn : narrow t0 w = w)
    (hi : (i = .ireturn ∧ (t0 = .int ∨ t0 = .boolean ∨ t0 = .byte ∨ t0 = .char ∨ t0 = .short) ∧ ∃ z, w = .int z) ∨ (i = .lreturn ∧ t0 = .long ∧ ∃ z, w = .long z) ∨ (i = .dreturn ∧ t0 = .double ∧ ∃ z, w = .double z) ∨ (i = .freturn ∧ t0 = .float ∧ ∃ z, w = .float z) ∨ (i = .areturn ∧ t0.isReference = true ∧ w.isRef = true))
    (hd : decode c.code pc = .ok (i, 1)) (hk : k ≤ mc) (hs : n ≤ ms) (hq : Q w h) : own_W p l e R s m args below meth c n0 mc ms Q k n h pc L (w :: S) := fun T locs X hh N => by
  obtain ⟨fs, hr, hrun, hended, hW, hsame⟩ := X.leave (v := some w) (fun q => by rw [hret] at q; cases q) hlk
  refine ⟨_, _, retOut X hx hret hn hi hd hr, hrun, hended, w, locs, rfl, ⟨?_, N⟩, ⟨_, rfl⟩, hW, hsame.mono hk hs⟩
  show Q w T.heap
  rw [hh]; exact hq
theorem own_retI (hx : p.tables.exec = Jvm.exec) {z : Int32} (hret : meth.sig.returnType = some .int) (hlk : meth.locks = false) (hd : decode c.code pc = .ok (.ireturn, 1)) (hk : k ≤ mc) (hs : n ≤ ms) (hq : Q (.int z) h) : own_W p l e R s m args below meth c n0 mc ms Q k n h pc L (.int z :: S) :=
  own_ret hx hret hlk rfl (Or.inl ⟨rfl, Or.inl rfl, z, rfl⟩) hd hk hs hq
theorem own_retZ (hx : p.tables.exec = Jvm.exec) {z : Int32} (hret : meth.sig.returnType = some .boolean) (hlk : meth.locks = false) (hz : narrow .boolean (.int z) = .int z) (hd : decode c.code pc = .ok (.ireturn, 1)) (hk : k ≤ mc) (hs : n ≤ ms) (hq : Q (.int z) h) : own_W p l e R s m args below meth c n0 mc ms Q k n h pc L (.int z :: S) :=
  own_ret hx hret hlk hz (Or.inl ⟨rfl, Or.inr (Or.inl rfl), z, rfl⟩) hd hk hs hq
theorem own_retA (hx : p.tables.exec = Jvm.exec) {C : String} {a : Addr} (hret : meth.sig.returnType = some (.object C)) (hlk : meth.locks = false) (hd : decode c.code pc = .ok (.areturn, 1)) (hk : k ≤ mc) (hs : n ≤ ms) (hq : Q (.ref a) h) : own_W p l e R s m args below meth c n0 mc ms Q k n h pc L (.ref a :: S) :=
  own_ret hx hret hlk rfl (Or.inr (Or.inr (Or.inr (Or.inr ⟨rfl, rfl, rfl⟩)))) hd hk hs hq
theorem own_getS (hx : p.tables.exec = Jvm.exec) {Z : State} {a0 : Array Value} (hZ : Z.Warmed39 s.vm) {own : String} (hown : s.vm.findClass own = some m.cls) {C nm d : String} {i : Nat} {v : Value} (w : (Jvm.Cond.fieldLink own i C nm d).before a0 Z = true) (F : Sta Z h C nm d v) (hd : decode c.code pc = .ok (.getstatic i, 3)) (hp : pc + 3 = pc') (hr : own_W p l e R s m args below meth c n0 mc ms Q k n h pc' L (v :: S)) : own_W p l e R s m args below meth c n0 mc ms Q k n h pc L S := fun T locs X hh N => by
  subst hp
  obtain ⟨T', X', e', st⟩ := getS X hx hZ (host := "") hown w Via.refl hh F (g := mkF m pc L S) rfl hd
  obtain ⟨t, o, a, r⟩ := hr T' locs X' e' N
  exact ⟨t, o, st t a, r⟩
theorem own_getF (hx : p.tables.exec = Jvm.exec) {Z : State} {a0 : Array Value} (hZ : Z.Warmed39 s.vm) {own : String} (hown : s.vm.findClass own = some m.cls) {C nm d : String} {i : Nat} {b : Addr} {v : Value} (w : (Jvm.Cond.fieldLink own i C nm d).before a0 Z = true) (F : Fld Z h b C nm d v) (hd : decode c.code pc = .ok (.getfield i, 3)) (hp : pc + 3 = pc') (hr : own_W p l e R s m args below meth c n0 mc ms Q k n h pc' L (v :: S)) : own_W p l e R s m args below meth c n0 mc ms Q k n h pc L (.ref b :: S) := fun T locs X hh N => by
  subst hp
  obtain ⟨T', X', e', st⟩ := getF X hx hZ hown (host := "") (Or.inl w) Via.refl hh F (g := mkF m pc L (.ref b :: S)) rfl rfl hd
  obtain ⟨t, o, a, r⟩ := hr T' locs X' e' N
  exact ⟨t, o, st t a, r⟩
def own_IA (Z : State) (h : Heap) (a : Addr) (len : Nat) : Prop := ∃ cl : Cell, Arr Z h a cl .int ∧ cl.slots.size = len ∧ ∀ i, i < len → ∃ x : Int32, cl.slots[i]? = some (.int x)
theorem own_newI (hx : p.tables.exec = Jvm.exec) {Z : State} {a0 : Array Value} (hZ : Z.Warmed39 s.vm) (w : (Jvm.Cond.arrayClass .int).before a0 Z = true) {z : Int32} (hd : decode c.code pc = .ok (.newarray .int, 2)) (hz : ¬ z < 0) {cap : Nat} (hcap : z.toNatClampNeg = cap) (hb : cap * 8 ≤ 536870912) (hc : k + 1 ≤ R.cells) (hl : n + cap ≤ R.slots) (Z0 : n0 ≤ h.size) (hp : pc + 2 = pc')
    (hr : ∀ (h' : Heap) (a : Addr), own_IA Z h' a cap → n0 ≤ a → own_W p l e R s m args below meth c n0 mc ms Q (k + 1) (n + cap) h' pc' L (.ref a :: S)) : own_W p l e R s m args below meth c n0 mc ms Q k n h pc L (.int z :: S) := fun T locs X hh N => by
  subst hp
  obtain ⟨T', h', cA, X', e', E', A', st⟩ := newP X hx hZ (aty := .int) w hh (g := mkF m pc L (.int z :: S)) rfl hd rfl hz (Nat.le_of_eq hcap) hb hc hl
  have I' : own_IA Z h' h.size cap := ⟨_, A', by rw [sz_new]; exact hcap, fun i hi => ⟨0, by
    have hi' : i < z.toNatClampNeg := by omega
    simp [newA, newarray.typeOf, defaultValue, hi']⟩⟩
  obtain ⟨t, o, a, r⟩ := hr h' h.size I' Z0 T' locs X' e' N
  exact ⟨t, o, st t a, r⟩
theorem own_stI (hx : p.tables.exec = Jvm.exec) {Z : State} (hZ : Z.Warmed39 s.vm) {a : Addr} {len : Nat} (A : own_IA Z h a len) (ga : n0 ≤ a) {j x : Int32} (hj : ¬ j < 0) (hj2 : j.toNatClampNeg < len) (hd : decode c.code pc = .ok (.iastore, 1)) (hp : pc + 1 = pc') (hr : ∀ h' : Heap, own_IA Z h' a len → own_W p l e R s m args below meth c n0 mc ms Q k n h' pc' L S) : own_W p l e R s m args below meth c n0 mc ms Q k n h pc L (.int x :: .int j :: .ref a :: S) := fun T locs X hh N => by
  subst hp
  obtain ⟨cl, Ar, sz, el⟩ := A
  obtain ⟨T', h', X', e', W', st⟩ := stI X hx hZ hh Ar (j := j) (x := x) (by rw [sz]; exact fun q => q.elim hj fun r => Nat.not_lt.mpr r hj2) (g := mkF m pc L (.int x :: .int j :: .ref a :: S)) rfl rfl hd
  have I' : own_IA Z h' a len := ⟨_, Ar.same W', by rw [sz_set]; exact sz, fun i hi => by
    by_cases q : j.toNatClampNeg = i
    · exact ⟨x, by subst q; simp [Cell.setSlot, sz, hj2]⟩
    · obtain ⟨y, hy⟩ := el i hi
      exact ⟨y, by rw [show (cl.setSlot j.toNatClampNeg (.int x)).slots = cl.slots.setIfInBounds j.toNatClampNeg (.int x) from rfl, Array.getElem?_setIfInBounds_ne q]; exact hy⟩⟩
  obtain ⟨t, o, b, r⟩ := hr h' I' T' _ X' e' (Fr.snoc X' N ga)
  exact ⟨t, o, st t b, r⟩
theorem own_ldI (hx : p.tables.exec = Jvm.exec) {Z : State} (hZ : Z.Warmed39 s.vm) {a : Addr} {len : Nat} (A : own_IA Z h a len) {j : Int32} (hj : ¬ j < 0) (hj2 : j.toNatClampNeg < len) (hd : decode c.code pc = .ok (.iaload, 1)) (hp : pc + 1 = pc') (hr : ∀ x : Int32, own_W p l e R s m args below meth c n0 mc ms Q k n h pc' L (.int x :: S)) : own_W p l e R s m args below meth c n0 mc ms Q k n h pc L (.int j :: .ref a :: S) := fun T locs X hh N => by
  subst hp
  obtain ⟨cl, Ar, sz, el⟩ := A
  obtain ⟨x, hx'⟩ := el _ hj2
  obtain ⟨t, o, b, r⟩ := hr x T locs X hh N
  exact ⟨t, o, X.iaload hx (j := j) (v := .int x) (by rw [hh]; exact Ar.1) (State.isArrayOf_alike hZ.alike Ar.2.1) Ar.2.2 (by rw [sz]; exact fun q => q.elim hj fun r => Nat.not_lt.mpr r hj2) hx' (g := mkF m pc L (.int j :: .ref a :: S)) rfl rfl hd _ b, r⟩
/-- the callee y, handed as' over the heap h, returns r, and keeps the heap -/
def own_C (l : Launch) (Z : State) (y : MethodName) (bytes : ByteArray) (maxL : Nat) (ret : Option FieldType) (as' : Array Value) (n0 : Nat) (h : Heap) (r : Value) : Prop :=
  MetFree l y (head1 [Jvm.Cond.code y bytes maxL ret] own_R0) (fun a U => a = as' ∧ Z.Warmed39 U.vm ∧ U.heap = h) (fun _ _ _ _ _ => True) (fun _ U o U' => ∃ v Lq, o = .returned v ∧ (∃ w, v = some w ∧ (w = r ∧ U'.heap = h) ∧ Fr n0 Lq) ∧ FrameEnd U o U' Lq own_R0.cells own_R0.slots)
theorem own_callS (hx : p.tables.exec = Jvm.exec) {Z : State} {a0 : Array Value} (hZ : Z.Warmed39 s.vm) {own : String} (hown : s.vm.findClass own = some m.cls) {i : Nat} {y : MethodName} {bytes : ByteArray} {maxL : Nat} {ret : Option FieldType} (w1 : (Jvm.Cond.methodLink own i y).before a0 Z = true) (w2 : (Jvm.Cond.static y).before a0 Z = true) (w3 : (Jvm.Cond.initialized y.cls).before a0 Z = true) (w4 : (Jvm.Cond.code y bytes maxL ret).before a0 Z = true) (hy : y.cls ≠ "java/lang/invoke/MethodHandle" ∧ y.cls ≠ "java/lang/invoke/VarHandle") {argsL : List Value} {r : Value} (hC : own_C l Z y bytes maxL ret argsL.toArray n0 h r) {ps : List FieldType} {rr : Option FieldType} (hps : parseMethodDescriptor y.desc = some ⟨ps, rr⟩) (hlen : argsL.length = ps.length) (hfr : 0 + 1 ≤ R.frames) (hlo : (S.map fun v => v.category).sum + (maxL + 11) + 0 ≤ R.locals) (hml : L.size = c.maxLocals) {S0 : List Value} (hS : S0 = argsL.reverse ++ S) (hd : decode c.code pc = .ok (.invokestatic i, 3)) (hkc : k + 0 ≤ R.cells) (hns : n + 0 ≤ R.slots) (hp : pc + 3 = pc') (hr : own_W p l e R s m args below meth c n0 mc ms Q k n h pc' L (r :: S)) : own_W p l e R s m args below meth c n0 mc ms Q k n h pc L S0 := fun T locs X hh N => by
  subst hp
  obtain ⟨_, _, ⟨T1, L1, k1, n1⟩, -, X1, ⟨Lc, hQ, hl, hk, hn⟩, st⟩ := Jvm.LawKit.callS X hx (y := y) hown (mvT hZ w1) (mvT hZ w2) (mvT hZ w3) (mvT hZ w4) hy (backOf (Q := fun v h' Lq => ∃ w, v = some w ∧ (w = r ∧ h' = h) ∧ Fr n0 Lq) (W := (S.map fun v => v.category).sum) hC hZ w4 w3 hfr hlo) (g := mkF m pc L S0) rfl hml (argsL := argsL) (rest := S) (lenOf hps hlen) hS (by show 2 * 0 + _ ≤ _; omega) hd (fun _ _ => ⟨rfl, hh, hkc, hns⟩)
  dsimp only [Pt.U, Pt.locs, Pt.cells, Pt.slots] at X1 hl hk hn st hQ
  obtain ⟨w, rfl, ⟨rfl, e1⟩, N1⟩ := hQ
  subst hl hk hn
  obtain ⟨t, o, a, q⟩ := hr T1 _ X1 e1 (Fr.app N N1)
  exact ⟨t, o, st t a, q⟩
theorem own_callV (hx : p.tables.exec = Jvm.exec) {Z : State} {a0 : Array Value} (hZ : Z.Warmed39 s.vm) {own : String} (hown : s.vm.findClass own = some m.cls) {i : Nat} {y : MethodName} {bytes : ByteArray} {maxL : Nat} {ret : Option FieldType} (w1 : (Jvm.Cond.methodLink own i y).before a0 Z = true) (w2 : (Jvm.Cond.declares y).before a0 Z = true) (w3 : (Jvm.Cond.instanceMethod y).before a0 Z = true) (w5 : (Jvm.Cond.selects y.cls y y).before a0 Z = true) (wz : (Jvm.Cond.initialized y.cls).before a0 Z = true) (w4 : (Jvm.Cond.code y bytes maxL ret).before a0 Z = true) (hy : y.cls ≠ "java/lang/invoke/MethodHandle" ∧ y.cls ≠ "java/lang/invoke/VarHandle") {argsL : List Value} {b : Addr} {r : Value} (E : Exa Z h b y.cls) (hC : own_C l Z y bytes maxL ret (.ref b :: argsL).toArray n0 h r) {ps : List FieldType} {rr : Option FieldType} (hps : parseMethodDescriptor y.desc = some ⟨ps, rr⟩) (hlen : argsL.length = ps.length) (hfr : 0 + 1 ≤ R.frames) (hlo : (S.map fun v => v.category).sum + (maxL + 11) + 0 ≤ R.locals) (hml : L.size = c.maxLocals) {S0 : List Value} (hS : S0 = argsL.reverse ++ .ref b :: S) (hd : decode c.code pc = .ok (.invokevirtual i, 3)) (hkc : k + 0 ≤ R.cells) (hns : n + 0 ≤ R.slots) (hp : pc + 3 = pc') (hr : own_W p l e R s m args below meth c n0 mc ms Q k n h pc' L (r :: S)) : own_W p l e R s m args below meth c n0 mc ms Q k n h pc L S0 := fun T locs X hh N => by
  subst hp
  obtain ⟨cq, kq, qa, qb, qc⟩ := isOf hZ hh E
  obtain ⟨_, _, ⟨T1, L1, k1, n1⟩, -, X1, ⟨Lc, hQ, hl, hk, hn⟩, st⟩ := X.virtualBack hx (y := y) (z := y) hown (mvT hZ w1) (mvT hZ w2) (notFace_of_selects (args := #[]) (mvT hZ w5)) (mvT hZ w5) (mvT hZ w3) hy (backOf (Q := fun v h' Lq => ∃ w, v = some w ∧ (w = r ∧ h' = h) ∧ Fr n0 Lq) (W := (S.map fun v => v.category).sum) hC hZ w4 wz hfr hlo) qa qc (g := mkF m pc L S0) rfl hml (Steps.refl _) (argsL := argsL) (rest := S) (lenOf hps hlen) hS (by show 2 * 0 + _ ≤ _; omega) hd (fun _ _ => ⟨rfl, hh, hkc, hns⟩)
  dsimp only [Pt.U, Pt.locs, Pt.cells, Pt.slots] at X1 hl hk hn st hQ
  obtain ⟨w, rfl, ⟨rfl, e1⟩, N1⟩ := hQ
  subst hl hk hn
  obtain ⟨t, o, a, q⟩ := hr T1 _ X1 e1 (Fr.app N N1)
  exact ⟨t, o, st.trans a, q⟩
theorem own_met {Z : State} {y : MethodName} {bytes : ByteArray} {maxL : Nat} {ret : Option FieldType} {ws : List Jvm.Cond} {as' : Array Value} {L0 : Array Slot} (hpl : plainName y.cls = true) (hef : ∀ m : MethodId, entryFrame m as' maxL = mkF m 0 L0 [])
    (body : ∀ (p : Program) (e : Env) (s : State) (m : MethodId) (below : List Frame) (meth : Method) (c : Code), p.tables.exec = Jvm.exec → c.code = bytes → c.maxLocals = maxL → s.vm.findClass y.cls = some m.cls → Z.Warmed39 s.vm → meth.sig.returnType = ret → meth.locks = false → own_W p l e R s m as' below meth c n0 mc ms Q 0 0 h 0 L0 []) :
    MetFree l y (head1 (Jvm.Cond.code y bytes maxL ret :: ws) R) (fun a U => a = as' ∧ Z.Warmed39 U.vm ∧ U.heap = h) (fun _ _ _ _ _ => True) (fun _ U o U' => ∃ v Lq, o = .returned v ∧ (∃ w, v = some w ∧ Q w U'.heap ∧ Fr n0 Lq) ∧ FrameEnd U o U' Lq mc ms) := by
  refine MetFree.of_bodySF (plainFor_of_name hpl) hisR ?_
  intro p e s m args below meth c s₁ Bd hml0 hP hK
  obtain ⟨rfl, hZ, hh⟩ := hP
  have X0 : Stand p l e R s m _ below meth c s₁ [] 0 0 := Stand.of_body Bd
  have e0 : s₁.heap = h := by rw [← hh, Bd.state]; rfl
  obtain ⟨t, o, st, h1, h2, v, lo, rfl, ⟨hq, hN⟩, hF⟩ := body p e s m below meth c Bd.exec Bd.bytes hml0 (findClass_of_methodNamed Bd.named) hZ Bd.returns Bd.notSynchronized s₁ [] X0 e0 (Fr.nil n0)
  exact ⟨t, _, castTop (hef m) st, h1, h2, some v, lo, rfl, ⟨v, rfl, hq, hN⟩, hF⟩
end Own

section Own2
variable {p : Program} {l : Launch} {e : Env} {R : Room} {s : State} {m : MethodId} {args : Array Value} {below : List Frame} {meth : Method} {c : Code} {n0 mc ms k n : Nat} {Q : Value → Heap → Prop} {h : Heap} {pc pc' : Nat} {L : Array Slot} {S : List Value}
theorem own_pk_d0 : decode method_3_code 0 = .ok (.iload_n 0, 1) := by decide +kernel
theorem own_pk_d1 : decode method_3_code 1 = .ok (.tableswitch 119 0 12 #[67, 71, 75, 79, 83, 87, 91, 95, 99, 103, 107, 111, 115], 67) := by decide +kernel
theorem own_pk_d68 : decode method_3_code 68 = .ok (.getstatic 36, 3) := by decide +kernel
theorem own_pk_d71 : decode method_3_code 71 = .ok (.areturn, 1) := by decide +kernel
theorem own_pk_d72 : decode method_3_code 72 = .ok (.getstatic 39, 3) := by decide +kernel
theorem own_pk_d75 : decode method_3_code 75 = .ok (.areturn, 1) := by decide +kernel
theorem own_pk_d76 : decode method_3_code 76 = .ok (.getstatic 42, 3) := by decide +kernel
theorem own_pk_d79 : decode method_3_code 79 = .ok (.areturn, 1) := by decide +kernel
theorem own_pk_d80 : decode method_3_code 80 = .ok (.getstatic 20, 3) := by decide +kernel
theorem own_pk_d83 : decode method_3_code 83 = .ok (.areturn, 1) := by decide +kernel
theorem own_pk_d84 : decode method_3_code 84 = .ok (.getstatic 14, 3) := by decide +kernel
theorem own_pk_d87 : decode method_3_code 87 = .ok (.areturn, 1) := by decide +kernel
theorem own_pk_d88 : decode method_3_code 88 = .ok (.getstatic 45, 3) := by decide +kernel
theorem own_pk_d91 : decode method_3_code 91 = .ok (.areturn, 1) := by decide +kernel
theorem own_pk_d92 : decode method_3_code 92 = .ok (.getstatic 48, 3) := by decide +kernel
theorem own_pk_d95 : decode method_3_code 95 = .ok (.areturn, 1) := by decide +kernel
theorem own_pk_d96 : decode method_3_code 96 = .ok (.getstatic 29, 3) := by decide +kernel
theorem own_pk_d99 : decode method_3_code 99 = .ok (.areturn, 1) := by decide +kernel
theorem own_pk_d100 : decode method_3_code 100 = .ok (.getstatic 23, 3) := by decide +kernel
theorem own_pk_d103 : decode method_3_code 103 = .ok (.areturn, 1) := by decide +kernel
theorem own_pk_d104 : decode method_3_code 104 = .ok (.getstatic 26, 3) := by decide +kernel
theorem own_pk_d107 : decode method_3_code 107 = .ok (.areturn, 1) := by decide +kernel
theorem own_pk_d108 : decode method_3_code 108 = .ok (.getstatic 51, 3) := by decide +kernel
theorem own_pk_d111 : decode method_3_code 111 = .ok (.areturn, 1) := by decide +kernel
theorem own_pk_d112 : decode method_3_code 112 = .ok (.getstatic 54, 3) := by decide +kernel
theorem own_pk_d115 : decode method_3_code 115 = .ok (.areturn, 1) := by decide +kernel
theorem own_pk_d116 : decode method_3_code 116 = .ok (.getstatic 57, 3) := by decide +kernel
theorem own_pk_d119 : decode method_3_code 119 = .ok (.areturn, 1) := by decide +kernel
theorem own_pk_d120 : decode method_3_code 120 = .ok (.getstatic 60, 3) := by decide +kernel
theorem own_pk_d123 : decode method_3_code 123 = .ok (.areturn, 1) := by decide +kernel
set_option maxRecDepth 65536 in
set_option maxHeartbeats 4000000 in
theorem own_pk_b0 (hx : p.tables.exec = Jvm.exec) (hby : c.code = method_3_code) (hml : c.maxLocals = 1) (hown : s.vm.findClass "com/example/quire/quire/xdm/AtomicTypeDerivesFromPinLaw" = some m.cls) {Z : State} {a0 : Array Value} (hZ : Z.Warmed39 s.vm) (hw : ∀ d ∈ tables_1, d.before a0 Z = true) (hret : meth.sig.returnType = some (.object "com/example/quire/quire/xdm/AtomicType")) (hlk : meth.locks = false) {A : Nat → Addr} (S0 : Sta Z h "com/example/quire/quire/xdm/AtomicType" "UNTYPED_ATOMIC" "Lcom/example/quire/quire/xdm/AtomicType;" (.ref (A 0))) (S1 : Sta Z h "com/example/quire/quire/xdm/AtomicType" "STRING" "Lcom/example/quire/quire/xdm/AtomicType;" (.ref (A 1))) (S2 : Sta Z h "com/example/quire/quire/xdm/AtomicType" "BOOLEAN" "Lcom/example/quire/quire/xdm/AtomicType;" (.ref (A 2))) (S3 : Sta Z h "com/example/quire/quire/xdm/AtomicType" "DECIMAL" "Lcom/example/quire/quire/xdm/AtomicType;" (.ref (A 3))) (S4 : Sta Z h "com/example/quire/quire/xdm/AtomicType" "INTEGER" "Lcom/example/quire/quire/xdm/AtomicType;" (.ref (A 4))) (S5 : Sta Z h "com/example/quire/quire/xdm/AtomicType" "FLOAT" "Lcom/example/quire/quire/xdm/AtomicType;" (.ref (A 5))) (S6 : Sta Z h "com/example/quire/quire/xdm/AtomicType" "DOUBLE" "Lcom/example/quire/quire/xdm/AtomicType;" (.ref (A 6))) (S7 : Sta Z h "com/example/quire/quire/xdm/AtomicType" "DURATION" "Lcom/example/quire/quire/xdm/AtomicType;" (.ref (A 7))) (S8 : Sta Z h "com/example/quire/quire/xdm/AtomicType" "YEAR_MONTH_DURATION" "Lcom/example/quire/quire/xdm/AtomicType;" (.ref (A 8))) (S9 : Sta Z h "com/example/quire/quire/xdm/AtomicType" "DAY_TIME_DURATION" "Lcom/example/quire/quire/xdm/AtomicType;" (.ref (A 9))) (S10 : Sta Z h "com/example/quire/quire/xdm/AtomicType" "DATE_TIME" "Lcom/example/quire/quire/xdm/AtomicType;" (.ref (A 10))) (S11 : Sta Z h "com/example/quire/quire/xdm/AtomicType" "DATE" "Lcom/example/quire/quire/xdm/AtomicType;" (.ref (A 11))) (S12 : Sta Z h "com/example/quire/quire/xdm/AtomicType" "TIME" "Lcom/example/quire/quire/xdm/AtomicType;" (.ref (A 12))) (S13 : Sta Z h "com/example/quire/quire/xdm/AtomicType" "QNAME" "Lcom/example/quire/quire/xdm/AtomicType;" (.ref (A 13))) (x0 : Int32) (i : Nat) (hi : i < 14) (hi0 : x0.toInt = i) (r : Addr) (hr0 : A i = r) : own_W p l e own_R0 s m args below meth c n0 0 0 (fun v h' => v = .ref r ∧ h' = h) 0 0 h 0 #[.val (.int x0)] [] := by
  refine own_iloadN hx (hb hby own_pk_d0) rfl (pc' := 1) rfl ?_
  match i, hi, hi0, hr0 with
  | 0, hi, hi0, hr0 =>
    refine own_tswIn hx (hb hby own_pk_d1) (by omega) (by rw [hi0]; rfl) (by decide) (pc' := 68) (by decide) ?_
    refine own_getS hx hZ hown (hw _ (List.mem_of_getElem? (i := 5) rfl)) S0 (hb hby own_pk_d68) (pc' := 71) rfl ?_
    exact own_retA hx hret hlk (hb hby own_pk_d71) (Nat.le_of_ble_eq_true rfl) (Nat.le_of_ble_eq_true rfl) ⟨congrArg _ hr0, rfl⟩
  | 1, hi, hi0, hr0 =>
    refine own_tswIn hx (hb hby own_pk_d1) (by omega) (by rw [hi0]; rfl) (by decide) (pc' := 72) (by decide) ?_
    refine own_getS hx hZ hown (hw _ (List.mem_of_getElem? (i := 23) rfl)) S1 (hb hby own_pk_d72) (pc' := 75) rfl ?_
    exact own_retA hx hret hlk (hb hby own_pk_d75) (Nat.le_of_ble_eq_true rfl) (Nat.le_of_ble_eq_true rfl) ⟨congrArg _ hr0, rfl⟩
  | 2, hi, hi0, hr0 =>
    refine own_tswIn hx (hb hby own_pk_d1) (by omega) (by rw [hi0]; rfl) (by decide) (pc' := 76) (by decide) ?_
    refine own_getS hx hZ hown (hw _ (List.mem_of_getElem? (i := 29) rfl)) S2 (hb hby own_pk_d76) (pc' := 79) rfl ?_
    exact own_retA hx hret hlk (hb hby own_pk_d79) (Nat.le_of_ble_eq_true rfl) (Nat.le_of_ble_eq_true rfl) ⟨congrArg _ hr0, rfl⟩
  | 3, hi, hi0, hr0 =>
    refine own_tswIn hx (hb hby own_pk_d1) (by omega) (by rw [hi0]; rfl) (by decide) (pc' := 80) (by decide) ?_
    refine own_getS hx hZ hown (hw _ (List.mem_of_getElem? (i := 8) rfl)) S3 (hb hby own_pk_d80) (pc' := 83) rfl ?_
    exact own_retA hx hret hlk (hb hby own_pk_d83) (Nat.le_of_ble_eq_true rfl) (Nat.le_of_ble_eq_true rfl) ⟨congrArg _ hr0, rfl⟩
  | 4, hi, hi0, hr0 =>
    refine own_tswIn hx (hb hby own_pk_d1) (by omega) (by rw [hi0]; rfl) (by decide) (pc' := 84) (by decide) ?_
    refine own_getS hx hZ hown (hw _ (List.mem_of_getElem? (i := 10) rfl)) S4 (hb hby own_pk_d84) (pc' := 87) rfl ?_
    exact own_retA hx hret hlk (hb hby own_pk_d87) (Nat.le_of_ble_eq_true rfl) (Nat.le_of_ble_eq_true rfl) ⟨congrArg _ hr0, rfl⟩
  | 5, hi, hi0, hr0 =>
    refine own_tswIn hx (hb hby own_pk_d1) (by omega) (by rw [hi0]; rfl) (by decide) (pc' := 88) (by decide) ?_
    refine own_getS hx hZ hown (hw _ (List.mem_of_getElem? (i := 27) rfl)) S5 (hb hby own_pk_d88) (pc' := 91) rfl ?_
    exact own_retA hx hret hlk (hb hby own_pk_d91) (Nat.le_of_ble_eq_true rfl) (Nat.le_of_ble_eq_true rfl) ⟨congrArg _ hr0, rfl⟩
  | 6, hi, hi0, hr0 =>
    refine own_tswIn hx (hb hby own_pk_d1) (by omega) (by rw [hi0]; rfl) (by decide) (pc' := 92) (by decide) ?_
    refine own_getS hx hZ hown (hw _ (List.mem_of_getElem? (i := 37) rfl)) S6 (hb hby own_pk_d92) (pc' := 95) rfl ?_
    exact own_retA hx hret hlk (hb hby own_pk_d95) (Nat.le_of_ble_eq_true rfl) (Nat.le_of_ble_eq_true rfl) ⟨congrArg _ hr0, rfl⟩
  | 7, hi, hi0, hr0 =>
    refine own_tswIn hx (hb hby own_pk_d1) (by omega) (by rw [hi0]; rfl) (by decide) (pc' := 96) (by decide) ?_
    refine own_getS hx hZ hown (hw _ (List.mem_of_getElem? (i := 31) rfl)) S7 (hb hby own_pk_d96) (pc' := 99) rfl ?_
    exact own_retA hx hret hlk (hb hby own_pk_d99) (Nat.le_of_ble_eq_true rfl) (Nat.le_of_ble_eq_true rfl) ⟨congrArg _ hr0, rfl⟩
  | 8, hi, hi0, hr0 =>
    refine own_tswIn hx (hb hby own_pk_d1) (by omega) (by rw [hi0]; rfl) (by decide) (pc' := 100) (by decide) ?_
    refine own_getS hx hZ hown (hw _ (List.mem_of_getElem? (i := 12) rfl)) S8 (hb hby own_pk_d100) (pc' := 103) rfl ?_
    exact own_retA hx hret hlk (hb hby own_pk_d103) (Nat.le_of_ble_eq_true rfl) (Nat.le_of_ble_eq_true rfl) ⟨congrArg _ hr0, rfl⟩
  | 9, hi, hi0, hr0 =>
    refine own_tswIn hx (hb hby own_pk_d1) (by omega) (by rw [hi0]; rfl) (by decide) (pc' := 104) (by decide) ?_
    refine own_getS hx hZ hown (hw _ (List.mem_of_getElem? (i := 14) rfl)) S9 (hb hby own_pk_d104) (pc' := 107) rfl ?_
    exact own_retA hx hret hlk (hb hby own_pk_d107) (Nat.le_of_ble_eq_true rfl) (Nat.le_of_ble_eq_true rfl) ⟨congrArg _ hr0, rfl⟩
  | 10, hi, hi0, hr0 =>
    refine own_tswIn hx (hb hby own_pk_d1) (by omega) (by rw [hi0]; rfl) (by decide) (pc' := 108) (by decide) ?_
    refine own_getS hx hZ hown (hw _ (List.mem_of_getElem? (i := 25) rfl)) S10 (hb hby own_pk_d108) (pc' := 111) rfl ?_
    exact own_retA hx hret hlk (hb hby own_pk_d111) (Nat.le_of_ble_eq_true rfl) (Nat.le_of_ble_eq_true rfl) ⟨congrArg _ hr0, rfl⟩
  | 11, hi, hi0, hr0 =>
    refine own_tswIn hx (hb hby own_pk_d1) (by omega) (by rw [hi0]; rfl) (by decide) (pc' := 112) (by decide) ?_
    refine own_getS hx hZ hown (hw _ (List.mem_of_getElem? (i := 33) rfl)) S11 (hb hby own_pk_d112) (pc' := 115) rfl ?_
    exact own_retA hx hret hlk (hb hby own_pk_d115) (Nat.le_of_ble_eq_true rfl) (Nat.le_of_ble_eq_true rfl) ⟨congrArg _ hr0, rfl⟩
  | 12, hi, hi0, hr0 =>
    refine own_tswIn hx (hb hby own_pk_d1) (by omega) (by rw [hi0]; rfl) (by decide) (pc' := 116) (by decide) ?_
    refine own_getS hx hZ hown (hw _ (List.mem_of_getElem? (i := 39) rfl)) S12 (hb hby own_pk_d116) (pc' := 119) rfl ?_
    exact own_retA hx hret hlk (hb hby own_pk_d119) (Nat.le_of_ble_eq_true rfl) (Nat.le_of_ble_eq_true rfl) ⟨congrArg _ hr0, rfl⟩
  | 13, hi, hi0, hr0 =>
    refine own_tswOut hx (hb hby own_pk_d1) (by omega) (by decide) (pc' := 120) (by decide) ?_
    refine own_getS hx hZ hown (hw _ (List.mem_of_getElem? (i := 35) rfl)) S13 (hb hby own_pk_d120) (pc' := 123) rfl ?_
    exact own_retA hx hret hlk (hb hby own_pk_d123) (Nat.le_of_ble_eq_true rfl) (Nat.le_of_ble_eq_true rfl) ⟨congrArg _ hr0, rfl⟩
  | n + 14, hi, _, _ => exact absurd hi (by omega)
theorem own_pk_pn : plainName "com/example/quire/quire/xdm/AtomicTypeDerivesFromPinLaw" = true := by first | (simp [plainName, overriddenIn]; done) | decide +kernel
theorem own_pk_ef (m : MethodId) (x0 : Int32) : entryFrame m #[.int x0] 1 = mkF m 0 #[.val (.int x0)] [] := by first | (simp [entryFrame, mkF, argsToLocals, Value.category]; done) | rfl
theorem own_pk_C (l : Launch) (Z : State) (a0 : Array Value) (hw : ∀ d ∈ tables_1, d.before a0 Z = true) (n0 : Nat) (h : Heap) {A : Nat → Addr} (S0 : Sta Z h "com/example/quire/quire/xdm/AtomicType" "UNTYPED_ATOMIC" "Lcom/example/quire/quire/xdm/AtomicType;" (.ref (A 0))) (S1 : Sta Z h "com/example/quire/quire/xdm/AtomicType" "STRING" "Lcom/example/quire/quire/xdm/AtomicType;" (.ref (A 1))) (S2 : Sta Z h "com/example/quire/quire/xdm/AtomicType" "BOOLEAN" "Lcom/example/quire/quire/xdm/AtomicType;" (.ref (A 2))) (S3 : Sta Z h "com/example/quire/quire/xdm/AtomicType" "DECIMAL" "Lcom/example/quire/quire/xdm/AtomicType;" (.ref (A 3))) (S4 : Sta Z h "com/example/quire/quire/xdm/AtomicType" "INTEGER" "Lcom/example/quire/quire/xdm/AtomicType;" (.ref (A 4))) (S5 : Sta Z h "com/example/quire/quire/xdm/AtomicType" "FLOAT" "Lcom/example/quire/quire/xdm/AtomicType;" (.ref (A 5))) (S6 : Sta Z h "com/example/quire/quire/xdm/AtomicType" "DOUBLE" "Lcom/example/quire/quire/xdm/AtomicType;" (.ref (A 6))) (S7 : Sta Z h "com/example/quire/quire/xdm/AtomicType" "DURATION" "Lcom/example/quire/quire/xdm/AtomicType;" (.ref (A 7))) (S8 : Sta Z h "com/example/quire/quire/xdm/AtomicType" "YEAR_MONTH_DURATION" "Lcom/example/quire/quire/xdm/AtomicType;" (.ref (A 8))) (S9 : Sta Z h "com/example/quire/quire/xdm/AtomicType" "DAY_TIME_DURATION" "Lcom/example/quire/quire/xdm/AtomicType;" (.ref (A 9))) (S10 : Sta Z h "com/example/quire/quire/xdm/AtomicType" "DATE_TIME" "Lcom/example/quire/quire/xdm/AtomicType;" (.ref (A 10))) (S11 : Sta Z h "com/example/quire/quire/xdm/AtomicType" "DATE" "Lcom/example/quire/quire/xdm/AtomicType;" (.ref (A 11))) (S12 : Sta Z h "com/example/quire/quire/xdm/AtomicType" "TIME" "Lcom/example/quire/quire/xdm/AtomicType;" (.ref (A 12))) (S13 : Sta Z h "com/example/quire/quire/xdm/AtomicType" "QNAME" "Lcom/example/quire/quire/xdm/AtomicType;" (.ref (A 13))) (x0 : Int32) (i : Nat) (hi : i < 14) (hi0 : x0.toInt = i) : own_C l Z ⟨"com/example/quire/quire/xdm/AtomicTypeDerivesFromPinLaw", "pick", "(I)Lcom/example/quire/quire/xdm/AtomicType;"⟩ method_3_code 1 (some (.object "com/example/quire/quire/xdm/AtomicType")) #[.int x0] n0 h (.ref (A i)) :=
  own_met own_pk_pn (fun m => own_pk_ef m x0) fun p e s m below meth c hx hby hml hown hZ hret hlk => own_pk_b0 hx hby hml hown hZ hw hret hlk S0 S1 S2 S3 S4 S5 S6 S7 S8 S9 S10 S11 S12 S13 x0 i hi hi0 _ rfl
theorem own_df_d0 : decode prog_41_method_4_code 0 = .ok (.aload_n 0, 1) := by decide +kernel
theorem own_df_d1 : decode prog_41_method_4_code 1 = .ok (.astore_n 2, 1) := by decide +kernel
theorem own_df_d2 : decode prog_41_method_4_code 2 = .ok (.aload_n 2, 1) := by decide +kernel
theorem own_df_d3 : decode prog_41_method_4_code 3 = .ok (.ifnull 18, 3) := by decide +kernel
theorem own_df_d6 : decode prog_41_method_4_code 6 = .ok (.aload_n 2, 1) := by decide +kernel
theorem own_df_d7 : decode prog_41_method_4_code 7 = .ok (.aload_n 1, 1) := by decide +kernel
theorem own_df_d8 : decode prog_41_method_4_code 8 = .ok (.if_acmp .ne 5, 3) := by decide +kernel
theorem own_df_d11 : decode prog_41_method_4_code 11 = .ok (.iconst 1, 1) := by decide +kernel
theorem own_df_d12 : decode prog_41_method_4_code 12 = .ok (.ireturn, 1) := by decide +kernel
theorem own_df_d13 : decode prog_41_method_4_code 13 = .ok (.aload_n 2, 1) := by decide +kernel
theorem own_df_d14 : decode prog_41_method_4_code 14 = .ok (.getfield 69, 3) := by decide +kernel
theorem own_df_d17 : decode prog_41_method_4_code 17 = .ok (.astore_n 2, 1) := by decide +kernel
theorem own_df_d18 : decode prog_41_method_4_code 18 = .ok (.goto (-16), 3) := by decide +kernel
theorem own_df_d21 : decode prog_41_method_4_code 21 = .ok (.iconst 0, 1) := by decide +kernel
theorem own_df_d22 : decode prog_41_method_4_code 22 = .ok (.ireturn, 1) := by decide +kernel
set_option maxRecDepth 65536 in
set_option maxHeartbeats 4000000 in
theorem own_df_nul (hx : p.tables.exec = Jvm.exec) (hby : c.code = prog_41_method_4_code) (hml : c.maxLocals = 3) (hown : s.vm.findClass "com/example/quire/quire/xdm/AtomicType" = some m.cls) {Z : State} {a0 : Array Value} (hZ : Z.Warmed39 s.vm) (hw : ∀ d ∈ tables_1, d.before a0 Z = true) (hret : meth.sig.returnType = some .boolean) (hlk : meth.locks = false)  (x0 x1 : Addr) (r : Int32) (hf : (0 : Int32) = r) : own_W p l e own_R0 s m args below meth c n0 0 0 (fun v h' => v = .int r ∧ h' = h) 0 0 h 2 #[.val (.ref x0), .val (.ref x1), .val .null] [] := by
  refine own_aloadN hx (hb hby own_df_d2) rfl rfl (pc' := 3) rfl ?_
  refine own_ifnullYes hx (hb hby own_df_d3) (by decide) (pc' := 21) (by decide) ?_
  refine own_iconst hx (z := (0 : Int32)) (hb hby own_df_d21) (by decide) (pc' := 22) rfl ?_
  exact own_retZ hx hret hlk rfl (hb hby own_df_d22) (Nat.le_of_ble_eq_true rfl) (Nat.le_of_ble_eq_true rfl) ⟨congrArg _ hf, rfl⟩
set_option maxRecDepth 65536 in
set_option maxHeartbeats 4000000 in
theorem own_df_one (hx : p.tables.exec = Jvm.exec) (hby : c.code = prog_41_method_4_code) (hml : c.maxLocals = 3) (hown : s.vm.findClass "com/example/quire/quire/xdm/AtomicType" = some m.cls) {Z : State} {a0 : Array Value} (hZ : Z.Warmed39 s.vm) (hw : ∀ d ∈ tables_1, d.before a0 Z = true) (hret : meth.sig.returnType = some .boolean) (hlk : meth.locks = false)  (x0 x1 x2 : Addr) (F : Fld Z h x2 "com/example/quire/quire/xdm/AtomicType" "base" "Lcom/example/quire/quire/xdm/AtomicType;" .null) (r : Int32) (hf : (if x2 = x1 then (1 : Int32) else 0) = r) : own_W p l e own_R0 s m args below meth c n0 0 0 (fun v h' => v = .int r ∧ h' = h) 0 0 h 2 #[.val (.ref x0), .val (.ref x1), .val (.ref x2)] [] := by
  refine own_aloadN hx (hb hby own_df_d2) rfl rfl (pc' := 3) rfl ?_
  refine own_ifnullNo hx (hb hby own_df_d3) (pc' := 6) rfl ?_
  refine own_aloadN hx (hb hby own_df_d6) rfl rfl (pc' := 7) rfl ?_
  refine own_aloadN hx (hb hby own_df_d7) rfl rfl (pc' := 8) rfl ?_
  refine own_ane hx (hb hby own_df_d8) (by decide) (pc' := 13) (by decide) (pc2 := 11) rfl hf (fun hf => ?_) (fun hf => ?_)
  · refine own_aloadN hx (hb hby own_df_d13) rfl rfl (pc' := 14) rfl ?_
    refine own_getF hx hZ hown (hw _ (List.mem_of_getElem? (i := 21) rfl)) F (hb hby own_df_d14) (pc' := 17) rfl ?_
    refine own_astoreN hx (L' := #[.val (.ref x0), .val (.ref x1), .val .null]) (hb hby own_df_d17) rfl rfl (pc' := 18) rfl ?_
    refine own_goto hx (hb hby own_df_d18) (by decide) (pc' := 2) (by decide) ?_
    exact own_df_nul hx hby hml hown hZ hw hret hlk x0 x1 r hf
  · refine own_iconst hx (z := (1 : Int32)) (hb hby own_df_d11) (by decide) (pc' := 12) rfl ?_
    exact own_retZ hx hret hlk rfl (hb hby own_df_d12) (Nat.le_of_ble_eq_true rfl) (Nat.le_of_ble_eq_true rfl) ⟨congrArg _ hf, rfl⟩
set_option maxRecDepth 65536 in
set_option maxHeartbeats 4000000 in
theorem own_df_two (hx : p.tables.exec = Jvm.exec) (hby : c.code = prog_41_method_4_code) (hml : c.maxLocals = 3) (hown : s.vm.findClass "com/example/quire/quire/xdm/AtomicType" = some m.cls) {Z : State} {a0 : Array Value} (hZ : Z.Warmed39 s.vm) (hw : ∀ d ∈ tables_1, d.before a0 Z = true) (hret : meth.sig.returnType = some .boolean) (hlk : meth.locks = false)  (x0 x1 x2 x3 : Addr) (F : Fld Z h x2 "com/example/quire/quire/xdm/AtomicType" "base" "Lcom/example/quire/quire/xdm/AtomicType;" (.ref x3)) (G : Fld Z h x3 "com/example/quire/quire/xdm/AtomicType" "base" "Lcom/example/quire/quire/xdm/AtomicType;" .null) (r : Int32) (hf : (if x2 = x1 then (1 : Int32) else (if x3 = x1 then (1 : Int32) else 0)) = r) : own_W p l e own_R0 s m args below meth c n0 0 0 (fun v h' => v = .int r ∧ h' = h) 0 0 h 2 #[.val (.ref x0), .val (.ref x1), .val (.ref x2)] [] := by
  refine own_aloadN hx (hb hby own_df_d2) rfl rfl (pc' := 3) rfl ?_
  refine own_ifnullNo hx (hb hby own_df_d3) (pc' := 6) rfl ?_
  refine own_aloadN hx (hb hby own_df_d6) rfl rfl (pc' := 7) rfl ?_
  refine own_aloadN hx (hb hby own_df_d7) rfl rfl (pc' := 8) rfl ?_
  refine own_ane hx (hb hby own_df_d8) (by decide) (pc' := 13) (by decide) (pc2 := 11) rfl hf (fun hf => ?_) (fun hf => ?_)
  · refine own_aloadN hx (hb hby own_df_d13) rfl rfl (pc' := 14) rfl ?_
    refine own_getF hx hZ hown (hw _ (List.mem_of_getElem? (i := 21) rfl)) F (hb hby own_df_d14) (pc' := 17) rfl ?_
    refine own_astoreN hx (L' := #[.val (.ref x0), .val (.ref x1), .val (.ref x3)]) (hb hby own_df_d17) rfl rfl (pc' := 18) rfl ?_
    refine own_goto hx (hb hby own_df_d18) (by decide) (pc' := 2) (by decide) ?_
    exact own_df_one hx hby hml hown hZ hw hret hlk x0 x1 x3 G r hf
  · refine own_iconst hx (z := (1 : Int32)) (hb hby own_df_d11) (by decide) (pc' := 12) rfl ?_
    exact own_retZ hx hret hlk rfl (hb hby own_df_d12) (Nat.le_of_ble_eq_true rfl) (Nat.le_of_ble_eq_true rfl) ⟨congrArg _ hf, rfl⟩
def own_bs (i : Nat) : Option Nat := if i = 4 then some 3 else if i = 8 then some 7 else if i = 9 then some 7 else none
def own_bv (A : Nat → Addr) (i : Nat) : Value := match own_bs i with | none => .null | some u => .ref (A u)
def own_df (A : Nat → Addr) (i j : Nat) : Int32 := match own_bs i with | none => if A i = A j then 1 else 0 | some u => if A i = A j then 1 else (if A u = A j then 1 else 0)
theorem own_bs_lt {i u : Nat} (q : own_bs i = some u) : u < 14 ∧ own_bs u = none := by
  unfold own_bs at q
  split at q
  · cases q; decide
  · split at q
    · cases q; decide
    · split at q
      · cases q; decide
      · cases q
set_option maxRecDepth 65536 in
set_option maxHeartbeats 4000000 in
theorem own_df_b0 (hx : p.tables.exec = Jvm.exec) (hby : c.code = prog_41_method_4_code) (hml : c.maxLocals = 3) (hown : s.vm.findClass "com/example/quire/quire/xdm/AtomicType" = some m.cls) {Z : State} {a0 : Array Value} (hZ : Z.Warmed39 s.vm) (hw : ∀ d ∈ tables_1, d.before a0 Z = true) (hret : meth.sig.returnType = some .boolean) (hlk : meth.locks = false)  {A : Nat → Addr} (HB : ∀ i, i < 14 → Fld Z h (A i) "com/example/quire/quire/xdm/AtomicType" "base" "Lcom/example/quire/quire/xdm/AtomicType;" (own_bv A i)) (i j : Nat) (hi : i < 14) (r : Int32) (hf : own_df A i j = r) : own_W p l e own_R0 s m args below meth c n0 0 0 (fun v h' => v = .int r ∧ h' = h) 0 0 h 0 #[.val (.ref (A i)), .val (.ref (A j)), .unset] [] := by
  refine own_aloadN hx (hb hby own_df_d0) rfl rfl (pc' := 1) rfl ?_
  refine own_astoreN hx (L' := #[.val (.ref (A i)), .val (.ref (A j)), .val (.ref (A i))]) (hb hby own_df_d1) rfl rfl (pc' := 2) rfl ?_
  have F := HB i hi
  cases q : own_bs i with
  | none =>
    simp only [own_bv, q] at F
    simp only [own_df, q] at hf
    exact own_df_one hx hby hml hown hZ hw hret hlk _ _ _ F r hf
  | some u =>
    have G := HB u (own_bs_lt q).1
    simp only [own_bv, (own_bs_lt q).2] at G
    simp only [own_bv, q] at F
    simp only [own_df, q] at hf
    exact own_df_two hx hby hml hown hZ hw hret hlk _ _ _ _ F G r hf
theorem own_df_pn : plainName "com/example/quire/quire/xdm/AtomicType" = true := by first | (simp [plainName, overriddenIn]; done) | decide +kernel
theorem own_df_ef (m : MethodId) (x0 x1 : Addr) : entryFrame m #[.ref x0, .ref x1] 3 = mkF m 0 #[.val (.ref x0), .val (.ref x1), .unset] [] := by first | (simp [entryFrame, mkF, argsToLocals, Value.category]; done) | rfl
theorem own_df_C (l : Launch) (Z : State) (a0 : Array Value) (hw : ∀ d ∈ tables_1, d.before a0 Z = true) (n0 : Nat) (h : Heap) {A : Nat → Addr} (HB : ∀ i, i < 14 → Fld Z h (A i) "com/example/quire/quire/xdm/AtomicType" "base" "Lcom/example/quire/quire/xdm/AtomicType;" (own_bv A i)) (i j : Nat) (hi : i < 14) : own_C l Z ⟨"com/example/quire/quire/xdm/AtomicType", "derivesFrom", "(Lcom/example/quire/quire/xdm/AtomicType;)Z"⟩ prog_41_method_4_code 3 (some .boolean) #[.ref (A i), .ref (A j)] n0 h (.int (own_df A i j)) :=
  own_met own_df_pn (fun m => own_df_ef m _ _) fun p e s m below meth c hx hby hml hown hZ hret hlk => own_df_b0 hx hby hml hown hZ hw hret hlk HB i j hi _ rfl
theorem own_pdP : parseMethodDescriptor "(I)Lcom/example/quire/quire/xdm/AtomicType;" = some ⟨[.int], some (.object "com/example/quire/quire/xdm/AtomicType")⟩ := by decide +kernel
theorem own_pdF : parseMethodDescriptor "(Lcom/example/quire/quire/xdm/AtomicType;)Z" = some ⟨[.object "com/example/quire/quire/xdm/AtomicType"], some .boolean⟩ := by decide +kernel
def own_law_f67 (A : Nat → Addr) (i j : Nat) (x0 : Int32) (x1 : Int32) (s0 : Int32) : Int32 := (if (own_df A i j) = s0 then (1 : Int32) else (0 : Int32))
set_option maxRecDepth 65536 in
set_option maxHeartbeats 4000000 in
theorem own_law_b67 (hx : p.tables.exec = Jvm.exec) (hby : c.code = code) (hml : c.maxLocals = maxLocals) (hown : s.vm.findClass "com/example/quire/quire/xdm/AtomicTypeDerivesFromPinLaw" = some m.cls) {Z : State} {a0 : Array Value} (hZ : Z.Warmed39 s.vm) (hw : ∀ d ∈ tables_1, d.before a0 Z = true) (hret : meth.sig.returnType = some .boolean) (hlk : meth.locks = false) {A : Nat → Addr} (S0 : Sta Z h "com/example/quire/quire/xdm/AtomicType" "UNTYPED_ATOMIC" "Lcom/example/quire/quire/xdm/AtomicType;" (.ref (A 0))) (S1 : Sta Z h "com/example/quire/quire/xdm/AtomicType" "STRING" "Lcom/example/quire/quire/xdm/AtomicType;" (.ref (A 1))) (S2 : Sta Z h "com/example/quire/quire/xdm/AtomicType" "BOOLEAN" "Lcom/example/quire/quire/xdm/AtomicType;" (.ref (A 2))) (S3 : Sta Z h "com/example/quire/quire/xdm/AtomicType" "DECIMAL" "Lcom/example/quire/quire/xdm/AtomicType;" (.ref (A 3))) (S4 : Sta Z h "com/example/quire/quire/xdm/AtomicType" "INTEGER" "Lcom/example/quire/quire/xdm/AtomicType;" (.ref (A 4))) (S5 : Sta Z h "com/example/quire/quire/xdm/AtomicType" "FLOAT" "Lcom/example/quire/quire/xdm/AtomicType;" (.ref (A 5))) (S6 : Sta Z h "com/example/quire/quire/xdm/AtomicType" "DOUBLE" "Lcom/example/quire/quire/xdm/AtomicType;" (.ref (A 6))) (S7 : Sta Z h "com/example/quire/quire/xdm/AtomicType" "DURATION" "Lcom/example/quire/quire/xdm/AtomicType;" (.ref (A 7))) (S8 : Sta Z h "com/example/quire/quire/xdm/AtomicType" "YEAR_MONTH_DURATION" "Lcom/example/quire/quire/xdm/AtomicType;" (.ref (A 8))) (S9 : Sta Z h "com/example/quire/quire/xdm/AtomicType" "DAY_TIME_DURATION" "Lcom/example/quire/quire/xdm/AtomicType;" (.ref (A 9))) (S10 : Sta Z h "com/example/quire/quire/xdm/AtomicType" "DATE_TIME" "Lcom/example/quire/quire/xdm/AtomicType;" (.ref (A 10))) (S11 : Sta Z h "com/example/quire/quire/xdm/AtomicType" "DATE" "Lcom/example/quire/quire/xdm/AtomicType;" (.ref (A 11))) (S12 : Sta Z h "com/example/quire/quire/xdm/AtomicType" "TIME" "Lcom/example/quire/quire/xdm/AtomicType;" (.ref (A 12))) (S13 : Sta Z h "com/example/quire/quire/xdm/AtomicType" "QNAME" "Lcom/example/quire/quire/xdm/AtomicType;" (.ref (A 13))) (HB : ∀ i, i < 14 → Fld Z h (A i) "com/example/quire/quire/xdm/AtomicType" "base" "Lcom/example/quire/quire/xdm/AtomicType;" (own_bv A i)) (HE : ∀ i, i < 14 → Exa Z h (A i) "com/example/quire/quire/xdm/AtomicType") (i j : Nat) (hi : i < 14) (hj : j < 14) (x0 : Int32) (x1 : Int32) (s0 : Int32) (r : Int32) (hf : own_law_f67 A i j x0 x1 s0 = r) : own_W p l e room_1 s m args below meth c n0 0 0 (fun v _ => v = .int r) 0 0 h 67 #[.val (.int x0), .val (.int x1), .val (.ref (A i)), .val (.ref (A j)), .unset] [(.int s0)] := by
  unfold own_law_f67 at hf
  refine own_istore hx (L' := #[.val (.int x0), .val (.int x1), .val (.ref (A i)), .val (.ref (A j)), .val (.int s0)]) (hb hby at_67) rfl (pc' := 69) rfl ?_
  refine own_aloadN hx (hb hby at_69) rfl rfl (pc' := 70) rfl ?_
  refine own_aloadN hx (hb hby at_70) rfl rfl (pc' := 71) rfl ?_
  refine own_callV hx hZ hown (hw _ (List.mem_of_getElem? (i := 16) rfl)) (hw _ (List.mem_of_getElem? (i := 17) rfl)) (hw _ (List.mem_of_getElem? (i := 18) rfl)) (hw _ (List.mem_of_getElem? (i := 19) rfl)) (hw _ (List.mem_of_getElem? (i := 6) rfl)) (hw _ (List.mem_of_getElem? (i := 20) rfl)) (by decide) (argsL := [(.ref (A j))]) (S := []) (HE i hi) (own_df_C l Z a0 hw n0 h HB i j hi) own_pdF rfl (by decide) (Nat.le_of_ble_eq_true rfl) (by rw [hml]; rfl) rfl (hb hby at_71) (by decide) (by decide) (pc' := 74) rfl ?_
  refine own_iload hx (hb hby at_74) rfl (pc' := 76) rfl ?_
  refine own_ine hx (hb hby at_76) (by decide) (pc' := 83) (by decide) (pc2 := 79) rfl hf (fun hf => ?_) (fun hf => ?_)
  · refine own_iconst hx (z := (0 : Int32)) (hb hby at_83) (by decide) (pc' := 84) rfl ?_
    exact own_retZ hx hret hlk rfl (hb hby at_84) (Nat.le_of_ble_eq_true rfl) (Nat.le_of_ble_eq_true rfl) (congrArg _ hf)
  · refine own_iconst hx (z := (1 : Int32)) (hb hby at_79) (by decide) (pc' := 80) rfl ?_
    refine own_goto hx (hb hby at_80) (by decide) (pc' := 84) (by decide) ?_
    exact own_retZ hx hret hlk rfl (hb hby at_84) (Nat.le_of_ble_eq_true rfl) (Nat.le_of_ble_eq_true rfl) (congrArg _ hf)
def own_law_f41 (A : Nat → Addr) (i j : Nat) (x0 : Int32) (x1 : Int32) : Int32 := (if (A i) = (A 8) then (if (A j) = (A 7) then own_law_f67 A i j x0 x1 (1 : Int32) else own_law_f67 A i j x0 x1 (0 : Int32)) else (if (A i) = (A 9) then (if (A j) = (A 7) then own_law_f67 A i j x0 x1 (1 : Int32) else own_law_f67 A i j x0 x1 (0 : Int32)) else own_law_f67 A i j x0 x1 (0 : Int32)))
set_option maxRecDepth 65536 in
set_option maxHeartbeats 4000000 in
theorem own_law_b41 (hx : p.tables.exec = Jvm.exec) (hby : c.code = code) (hml : c.maxLocals = maxLocals) (hown : s.vm.findClass "com/example/quire/quire/xdm/AtomicTypeDerivesFromPinLaw" = some m.cls) {Z : State} {a0 : Array Value} (hZ : Z.Warmed39 s.vm) (hw : ∀ d ∈ tables_1, d.before a0 Z = true) (hret : meth.sig.returnType = some .boolean) (hlk : meth.locks = false) {A : Nat → Addr} (S0 : Sta Z h "com/example/quire/quire/xdm/AtomicType" "UNTYPED_ATOMIC" "Lcom/example/quire/quire/xdm/AtomicType;" (.ref (A 0))) (S1 : Sta Z h "com/example/quire/quire/xdm/AtomicType" "STRING" "Lcom/example/quire/quire/xdm/AtomicType;" (.ref (A 1))) (S2 : Sta Z h "com/example/quire/quire/xdm/AtomicType" "BOOLEAN" "Lcom/example/quire/quire/xdm/AtomicType;" (.ref (A 2))) (S3 : Sta Z h "com/example/quire/quire/xdm/AtomicType" "DECIMAL" "Lcom/example/quire/quire/xdm/AtomicType;" (.ref (A 3))) (S4 : Sta Z h "com/example/quire/quire/xdm/AtomicType" "INTEGER" "Lcom/example/quire/quire/xdm/AtomicType;" (.ref (A 4))) (S5 : Sta Z h "com/example/quire/quire/xdm/AtomicType" "FLOAT" "Lcom/example/quire/quire/xdm/AtomicType;" (.ref (A 5))) (S6 : Sta Z h "com/example/quire/quire/xdm/AtomicType" "DOUBLE" "Lcom/example/quire/quire/xdm/AtomicType;" (.ref (A 6))) (S7 : Sta Z h "com/example/quire/quire/xdm/AtomicType" "DURATION" "Lcom/example/quire/quire/xdm/AtomicType;" (.ref (A 7))) (S8 : Sta Z h "com/example/quire/quire/xdm/AtomicType" "YEAR_MONTH_DURATION" "Lcom/example/quire/quire/xdm/AtomicType;" (.ref (A 8))) (S9 : Sta Z h "com/example/quire/quire/xdm/AtomicType" "DAY_TIME_DURATION" "Lcom/example/quire/quire/xdm/AtomicType;" (.ref (A 9))) (S10 : Sta Z h "com/example/quire/quire/xdm/AtomicType" "DATE_TIME" "Lcom/example/quire/quire/xdm/AtomicType;" (.ref (A 10))) (S11 : Sta Z h "com/example/quire/quire/xdm/AtomicType" "DATE" "Lcom/example/quire/quire/xdm/AtomicType;" (.ref (A 11))) (S12 : Sta Z h "com/example/quire/quire/xdm/AtomicType" "TIME" "Lcom/example/quire/quire/xdm/AtomicType;" (.ref (A 12))) (S13 : Sta Z h "com/example/quire/quire/xdm/AtomicType" "QNAME" "Lcom/example/quire/quire/xdm/AtomicType;" (.ref (A 13))) (HB : ∀ i, i < 14 → Fld Z h (A i) "com/example/quire/quire/xdm/AtomicType" "base" "Lcom/example/quire/quire/xdm/AtomicType;" (own_bv A i)) (HE : ∀ i, i < 14 → Exa Z h (A i) "com/example/quire/quire/xdm/AtomicType") (i j : Nat) (hi : i < 14) (hj : j < 14) (x0 : Int32) (x1 : Int32) (r : Int32) (hf : own_law_f41 A i j x0 x1 = r) : own_W p l e room_1 s m args below meth c n0 0 0 (fun v _ => v = .int r) 0 0 h 41 #[.val (.int x0), .val (.int x1), .val (.ref (A i)), .val (.ref (A j)), .unset] [] := by
  unfold own_law_f41 at hf
  refine own_aloadN hx (hb hby at_41) rfl rfl (pc' := 42) rfl ?_
  refine own_getS hx hZ hown (hw _ (List.mem_of_getElem? (i := 12) rfl)) S8 (hb hby at_42) (pc' := 45) rfl ?_
  refine own_aeq hx (hb hby at_45) (by decide) (pc' := 55) (by decide) (pc2 := 48) rfl hf (fun hf => ?_) (fun hf => ?_)
  · refine own_aloadN hx (hb hby at_55) rfl rfl (pc' := 56) rfl ?_
    refine own_getS hx hZ hown (hw _ (List.mem_of_getElem? (i := 31) rfl)) S7 (hb hby at_56) (pc' := 59) rfl ?_
    refine own_ane hx (hb hby at_59) (by decide) (pc' := 66) (by decide) (pc2 := 62) rfl hf (fun hf => ?_) (fun hf => ?_)
    · refine own_iconst hx (z := (0 : Int32)) (hb hby at_66) (by decide) (pc' := 67) rfl ?_
      exact own_law_b67 hx hby hml hown hZ hw hret hlk S0 S1 S2 S3 S4 S5 S6 S7 S8 S9 S10 S11 S12 S13 HB HE i j hi hj x0 x1 (0 : Int32) r hf
    · refine own_iconst hx (z := (1 : Int32)) (hb hby at_62) (by decide) (pc' := 63) rfl ?_
      refine own_goto hx (hb hby at_63) (by decide) (pc' := 67) (by decide) ?_
      exact own_law_b67 hx hby hml hown hZ hw hret hlk S0 S1 S2 S3 S4 S5 S6 S7 S8 S9 S10 S11 S12 S13 HB HE i j hi hj x0 x1 (1 : Int32) r hf
  · refine own_aloadN hx (hb hby at_48) rfl rfl (pc' := 49) rfl ?_
    refine own_getS hx hZ hown (hw _ (List.mem_of_getElem? (i := 14) rfl)) S9 (hb hby at_49) (pc' := 52) rfl ?_
    refine own_ane hx (hb hby at_52) (by decide) (pc' := 66) (by decide) (pc2 := 55) rfl hf (fun hf => ?_) (fun hf => ?_)
    · refine own_iconst hx (z := (0 : Int32)) (hb hby at_66) (by decide) (pc' := 67) rfl ?_
      exact own_law_b67 hx hby hml hown hZ hw hret hlk S0 S1 S2 S3 S4 S5 S6 S7 S8 S9 S10 S11 S12 S13 HB HE i j hi hj x0 x1 (0 : Int32) r hf
    · refine own_aloadN hx (hb hby at_55) rfl rfl (pc' := 56) rfl ?_
      refine own_getS hx hZ hown (hw _ (List.mem_of_getElem? (i := 31) rfl)) S7 (hb hby at_56) (pc' := 59) rfl ?_
      refine own_ane hx (hb hby at_59) (by decide) (pc' := 66) (by decide) (pc2 := 62) rfl hf (fun hf => ?_) (fun hf => ?_)
      · refine own_iconst hx (z := (0 : Int32)) (hb hby at_66) (by decide) (pc' := 67) rfl ?_
        exact own_law_b67 hx hby hml hown hZ hw hret hlk S0 S1 S2 S3 S4 S5 S6 S7 S8 S9 S10 S11 S12 S13 HB HE i j hi hj x0 x1 (0 : Int32) r hf
      · refine own_iconst hx (z := (1 : Int32)) (hb hby at_62) (by decide) (pc' := 63) rfl ?_
        refine own_goto hx (hb hby at_63) (by decide) (pc' := 67) (by decide) ?_
        exact own_law_b67 hx hby hml hown hZ hw hret hlk S0 S1 S2 S3 S4 S5 S6 S7 S8 S9 S10 S11 S12 S13 HB HE i j hi hj x0 x1 (1 : Int32) r hf
def own_law_f22 (A : Nat → Addr) (i j : Nat) (x0 : Int32) (x1 : Int32) : Int32 := (if (A i) = (A j) then own_law_f67 A i j x0 x1 (1 : Int32) else (if (A i) = (A 4) then (if (A j) = (A 3) then own_law_f67 A i j x0 x1 (1 : Int32) else own_law_f41 A i j x0 x1) else own_law_f41 A i j x0 x1))
set_option maxRecDepth 65536 in
set_option maxHeartbeats 4000000 in
theorem own_law_b22 (hx : p.tables.exec = Jvm.exec) (hby : c.code = code) (hml : c.maxLocals = maxLocals) (hown : s.vm.findClass "com/example/quire/quire/xdm/AtomicTypeDerivesFromPinLaw" = some m.cls) {Z : State} {a0 : Array Value} (hZ : Z.Warmed39 s.vm) (hw : ∀ d ∈ tables_1, d.before a0 Z = true) (hret : meth.sig.returnType = some .boolean) (hlk : meth.locks = false) {A : Nat → Addr} (S0 : Sta Z h "com/example/quire/quire/xdm/AtomicType" "UNTYPED_ATOMIC" "Lcom/example/quire/quire/xdm/AtomicType;" (.ref (A 0))) (S1 : Sta Z h "com/example/quire/quire/xdm/AtomicType" "STRING" "Lcom/example/quire/quire/xdm/AtomicType;" (.ref (A 1))) (S2 : Sta Z h "com/example/quire/quire/xdm/AtomicType" "BOOLEAN" "Lcom/example/quire/quire/xdm/AtomicType;" (.ref (A 2))) (S3 : Sta Z h "com/example/quire/quire/xdm/AtomicType" "DECIMAL" "Lcom/example/quire/quire/xdm/AtomicType;" (.ref (A 3))) (S4 : Sta Z h "com/example/quire/quire/xdm/AtomicType" "INTEGER" "Lcom/example/quire/quire/xdm/AtomicType;" (.ref (A 4))) (S5 : Sta Z h "com/example/quire/quire/xdm/AtomicType" "FLOAT" "Lcom/example/quire/quire/xdm/AtomicType;" (.ref (A 5))) (S6 : Sta Z h "com/example/quire/quire/xdm/AtomicType" "DOUBLE" "Lcom/example/quire/quire/xdm/AtomicType;" (.ref (A 6))) (S7 : Sta Z h "com/example/quire/quire/xdm/AtomicType" "DURATION" "Lcom/example/quire/quire/xdm/AtomicType;" (.ref (A 7))) (S8 : Sta Z h "com/example/quire/quire/xdm/AtomicType" "YEAR_MONTH_DURATION" "Lcom/example/quire/quire/xdm/AtomicType;" (.ref (A 8))) (S9 : Sta Z h "com/example/quire/quire/xdm/AtomicType" "DAY_TIME_DURATION" "Lcom/example/quire/quire/xdm/AtomicType;" (.ref (A 9))) (S10 : Sta Z h "com/example/quire/quire/xdm/AtomicType" "DATE_TIME" "Lcom/example/quire/quire/xdm/AtomicType;" (.ref (A 10))) (S11 : Sta Z h "com/example/quire/quire/xdm/AtomicType" "DATE" "Lcom/example/quire/quire/xdm/AtomicType;" (.ref (A 11))) (S12 : Sta Z h "com/example/quire/quire/xdm/AtomicType" "TIME" "Lcom/example/quire/quire/xdm/AtomicType;" (.ref (A 12))) (S13 : Sta Z h "com/example/quire/quire/xdm/AtomicType" "QNAME" "Lcom/example/quire/quire/xdm/AtomicType;" (.ref (A 13))) (HB : ∀ i, i < 14 → Fld Z h (A i) "com/example/quire/quire/xdm/AtomicType" "base" "Lcom/example/quire/quire/xdm/AtomicType;" (own_bv A i)) (HE : ∀ i, i < 14 → Exa Z h (A i) "com/example/quire/quire/xdm/AtomicType") (i j : Nat) (hi : i < 14) (hj : j < 14) (x0 : Int32) (x1 : Int32) (r : Int32) (hf : own_law_f22 A i j x0 x1 = r) : own_W p l e room_1 s m args below meth c n0 0 0 (fun v _ => v = .int r) 0 0 h 22 #[.val (.int x0), .val (.int x1), .val (.ref (A i)), .val (.ref (A j)), .unset] [] := by
  unfold own_law_f22 at hf
  refine own_aloadN hx (hb hby at_22) rfl rfl (pc' := 23) rfl ?_
  refine own_aloadN hx (hb hby at_23) rfl rfl (pc' := 24) rfl ?_
  refine own_aeq hx (hb hby at_24) (by decide) (pc' := 62) (by decide) (pc2 := 27) rfl hf (fun hf => ?_) (fun hf => ?_)
  · refine own_iconst hx (z := (1 : Int32)) (hb hby at_62) (by decide) (pc' := 63) rfl ?_
    refine own_goto hx (hb hby at_63) (by decide) (pc' := 67) (by decide) ?_
    exact own_law_b67 hx hby hml hown hZ hw hret hlk S0 S1 S2 S3 S4 S5 S6 S7 S8 S9 S10 S11 S12 S13 HB HE i j hi hj x0 x1 (1 : Int32) r hf
  · refine own_aloadN hx (hb hby at_27) rfl rfl (pc' := 28) rfl ?_
    refine own_getS hx hZ hown (hw _ (List.mem_of_getElem? (i := 10) rfl)) S4 (hb hby at_28) (pc' := 31) rfl ?_
    refine own_ane hx (hb hby at_31) (by decide) (pc' := 41) (by decide) (pc2 := 34) rfl hf (fun hf => ?_) (fun hf => ?_)
    · exact own_law_b41 hx hby hml hown hZ hw hret hlk S0 S1 S2 S3 S4 S5 S6 S7 S8 S9 S10 S11 S12 S13 HB HE i j hi hj x0 x1 r hf
    · refine own_aloadN hx (hb hby at_34) rfl rfl (pc' := 35) rfl ?_
      refine own_getS hx hZ hown (hw _ (List.mem_of_getElem? (i := 8) rfl)) S3 (hb hby at_35) (pc' := 38) rfl ?_
      refine own_aeq hx (hb hby at_38) (by decide) (pc' := 62) (by decide) (pc2 := 41) rfl hf (fun hf => ?_) (fun hf => ?_)
      · refine own_iconst hx (z := (1 : Int32)) (hb hby at_62) (by decide) (pc' := 63) rfl ?_
        refine own_goto hx (hb hby at_63) (by decide) (pc' := 67) (by decide) ?_
        exact own_law_b67 hx hby hml hown hZ hw hret hlk S0 S1 S2 S3 S4 S5 S6 S7 S8 S9 S10 S11 S12 S13 HB HE i j hi hj x0 x1 (1 : Int32) r hf
      · exact own_law_b41 hx hby hml hown hZ hw hret hlk S0 S1 S2 S3 S4 S5 S6 S7 S8 S9 S10 S11 S12 S13 HB HE i j hi hj x0 x1 r hf
set_option maxRecDepth 65536 in
set_option maxHeartbeats 4000000 in
theorem own_law_b0 (hx : p.tables.exec = Jvm.exec) (hby : c.code = code) (hml : c.maxLocals = maxLocals) (hown : s.vm.findClass "com/example/quire/quire/xdm/AtomicTypeDerivesFromPinLaw" = some m.cls) {Z : State} {a0 : Array Value} (hZ : Z.Warmed39 s.vm) (hw : ∀ d ∈ tables_1, d.before a0 Z = true) (hret : meth.sig.returnType = some .boolean) (hlk : meth.locks = false) {A : Nat → Addr} (S0 : Sta Z h "com/example/quire/quire/xdm/AtomicType" "UNTYPED_ATOMIC" "Lcom/example/quire/quire/xdm/AtomicType;" (.ref (A 0))) (S1 : Sta Z h "com/example/quire/quire/xdm/AtomicType" "STRING" "Lcom/example/quire/quire/xdm/AtomicType;" (.ref (A 1))) (S2 : Sta Z h "com/example/quire/quire/xdm/AtomicType" "BOOLEAN" "Lcom/example/quire/quire/xdm/AtomicType;" (.ref (A 2))) (S3 : Sta Z h "com/example/quire/quire/xdm/AtomicType" "DECIMAL" "Lcom/example/quire/quire/xdm/AtomicType;" (.ref (A 3))) (S4 : Sta Z h "com/example/quire/quire/xdm/AtomicType" "INTEGER" "Lcom/example/quire/quire/xdm/AtomicType;" (.ref (A 4))) (S5 : Sta Z h "com/example/quire/quire/xdm/AtomicType" "FLOAT" "Lcom/example/quire/quire/xdm/AtomicType;" (.ref (A 5))) (S6 : Sta Z h "com/example/quire/quire/xdm/AtomicType" "DOUBLE" "Lcom/example/quire/quire/xdm/AtomicType;" (.ref (A 6))) (S7 : Sta Z h "com/example/quire/quire/xdm/AtomicType" "DURATION" "Lcom/example/quire/quire/xdm/AtomicType;" (.ref (A 7))) (S8 : Sta Z h "com/example/quire/quire/xdm/AtomicType" "YEAR_MONTH_DURATION" "Lcom/example/quire/quire/xdm/AtomicType;" (.ref (A 8))) (S9 : Sta Z h "com/example/quire/quire/xdm/AtomicType" "DAY_TIME_DURATION" "Lcom/example/quire/quire/xdm/AtomicType;" (.ref (A 9))) (S10 : Sta Z h "com/example/quire/quire/xdm/AtomicType" "DATE_TIME" "Lcom/example/quire/quire/xdm/AtomicType;" (.ref (A 10))) (S11 : Sta Z h "com/example/quire/quire/xdm/AtomicType" "DATE" "Lcom/example/quire/quire/xdm/AtomicType;" (.ref (A 11))) (S12 : Sta Z h "com/example/quire/quire/xdm/AtomicType" "TIME" "Lcom/example/quire/quire/xdm/AtomicType;" (.ref (A 12))) (S13 : Sta Z h "com/example/quire/quire/xdm/AtomicType" "QNAME" "Lcom/example/quire/quire/xdm/AtomicType;" (.ref (A 13))) (HB : ∀ i, i < 14 → Fld Z h (A i) "com/example/quire/quire/xdm/AtomicType" "base" "Lcom/example/quire/quire/xdm/AtomicType;" (own_bv A i)) (HE : ∀ i, i < 14 → Exa Z h (A i) "com/example/quire/quire/xdm/AtomicType") (i j : Nat) (hi : i < 14) (hj : j < 14) (x0 x1 : Int32) (gi : ((x0 &&& (2147483647 : Int32)) % (14 : Int32)).toInt = i) (gj : ((x1 &&& (2147483647 : Int32)) % (14 : Int32)).toInt = j) (r : Int32) (hf : own_law_f22 A i j x0 x1 = r) : own_W p l e room_1 s m args below meth c n0 0 0 (fun v _ => v = .int r) 0 0 h 0 #[.val (.int x0), .val (.int x1), .unset, .unset, .unset] [] := by
  refine own_iloadN hx (hb hby at_0) rfl (pc' := 1) rfl ?_
  refine own_ldc hx hZ hown (hw _ (List.mem_of_getElem? (i := 0) rfl)) (hb hby at_1) (pc' := 3) rfl ?_
  refine own_iand hx (hb hby at_3) (pc' := 4) rfl ?_
  refine own_bipush hx (z := (14 : Int32)) (hb hby at_4) (by decide) (pc' := 6) rfl ?_
  refine own_irem hx (hb hby at_6) (by decide) (pc' := 7) rfl ?_
  refine own_callS hx hZ hown (hw _ (List.mem_of_getElem? (i := 1) rfl)) (hw _ (List.mem_of_getElem? (i := 2) rfl)) (hw _ (List.mem_of_getElem? (i := 3) rfl)) (hw _ (List.mem_of_getElem? (i := 4) rfl)) (by decide) (argsL := [(.int ((x0 &&& (2147483647 : Int32)) % (14 : Int32)))]) (S := []) (own_pk_C l Z a0 hw n0 h S0 S1 S2 S3 S4 S5 S6 S7 S8 S9 S10 S11 S12 S13 ((x0 &&& (2147483647 : Int32)) % (14 : Int32)) i hi gi) own_pdP rfl (by decide) (Nat.le_of_ble_eq_true rfl) (by rw [hml]; rfl) rfl (hb hby at_7) (by decide) (by decide) (pc' := 10) rfl ?_
  refine own_astoreN hx (L' := #[.val (.int x0), .val (.int x1), .val (.ref (A i)), .unset, .unset]) (hb hby at_10) rfl rfl (pc' := 11) rfl ?_
  refine own_iloadN hx (hb hby at_11) rfl (pc' := 12) rfl ?_
  refine own_ldc hx hZ hown (hw _ (List.mem_of_getElem? (i := 0) rfl)) (hb hby at_12) (pc' := 14) rfl ?_
  refine own_iand hx (hb hby at_14) (pc' := 15) rfl ?_
  refine own_bipush hx (z := (14 : Int32)) (hb hby at_15) (by decide) (pc' := 17) rfl ?_
  refine own_irem hx (hb hby at_17) (by decide) (pc' := 18) rfl ?_
  refine own_callS hx hZ hown (hw _ (List.mem_of_getElem? (i := 1) rfl)) (hw _ (List.mem_of_getElem? (i := 2) rfl)) (hw _ (List.mem_of_getElem? (i := 3) rfl)) (hw _ (List.mem_of_getElem? (i := 4) rfl)) (by decide) (argsL := [(.int ((x1 &&& (2147483647 : Int32)) % (14 : Int32)))]) (S := []) (own_pk_C l Z a0 hw n0 h S0 S1 S2 S3 S4 S5 S6 S7 S8 S9 S10 S11 S12 S13 ((x1 &&& (2147483647 : Int32)) % (14 : Int32)) j hj gj) own_pdP rfl (by decide) (Nat.le_of_ble_eq_true rfl) (by rw [hml]; rfl) rfl (hb hby at_18) (by decide) (by decide) (pc' := 21) rfl ?_
  refine own_astoreN hx (L' := #[.val (.int x0), .val (.int x1), .val (.ref (A i)), .val (.ref (A j)), .unset]) (hb hby at_21) rfl rfl (pc' := 22) rfl ?_
  exact own_law_b22 hx hby hml hown hZ hw hret hlk S0 S1 S2 S3 S4 S5 S6 S7 S8 S9 S10 S11 S12 S13 HB HE i j hi hj x0 x1 r hf
/-! the plain law: where the fourteen are distinct, addresses compare as their places do -/
def own_g (i j : Nat) : Int32 := own_law_f22 id i j 0 0
theorem own_small : ∀ i j : Fin 14, decide (own_g i.val j.val = 1) = true := by decide +kernel
theorem own_df_id {A : Nat → Addr} (inj : ∀ i j, i < 14 → j < 14 → (A i = A j ↔ i = j)) (i j : Nat) (hi : i < 14) (hj : j < 14) : own_df A i j = own_df id i j := by
  unfold own_df
  cases q : own_bs i with
  | none => simp only [inj i j hi hj, id]
  | some u => simp only [inj i j hi hj, inj u j (own_bs_lt q).1 hj, id]
theorem own_plain {A : Nat → Addr} (inj : ∀ i j, i < 14 → j < 14 → (A i = A j ↔ i = j)) (i j : Nat) (hi : i < 14) (hj : j < 14) (x0 x1 : Int32) : own_law_f22 A i j x0 x1 = 1 := by
  have e : own_law_f22 A i j x0 x1 = own_g i j := by
    unfold own_g own_law_f22 own_law_f41 own_law_f67
    simp only [own_df_id inj i j hi hj, inj i j hi hj, inj i 4 hi (by decide), inj i 8 hi (by decide), inj i 9 hi (by decide), inj j 3 hj (by decide), inj j 7 hj (by decide), id]
  rw [e]
  exact of_decide_eq_true (own_small ⟨i, hi⟩ ⟨j, hj⟩)
theorem own_rem (x : Int32) : ∃ i : Nat, i < 14 ∧ ((x &&& (2147483647 : Int32)) % (14 : Int32)).toInt = i := by
  have q0 := (c_and x 2147483647 (by decide)).1
  have q := (c_irem (x &&& 2147483647) 14 14 rfl).1 q0
  exact ⟨((x &&& 2147483647).toInt % 14).toNat, by omega, by rw [q]; omega⟩
theorem own_pn : plainName x.cls = true := by first | (simp [x, plainName, overriddenIn]; done) | decide +kernel

theorem own_law_ef (m : MethodId) (i0 : Int32) (i1 : Int32) : entryFrame m #[(.int i0), (.int i1)] maxLocals = mkF m 0 #[.val (.int i0), .val (.int i1), .unset, .unset, .unset] [] := by first | (simp [entryFrame, mkF, argsToLocals, Value.category, maxLocals]; done) | rfl
theorem own_law_M (l : Launch) (Z : State) (a0 : Array Value) (hw : ∀ d ∈ tables_1, d.before a0 Z = true) (n0 : Nat) (h : Heap) (Z0 : n0 ≤ h.size) {A : Nat → Addr} (S0 : Sta Z h "com/example/quire/quire/xdm/AtomicType" "UNTYPED_ATOMIC" "Lcom/example/quire/quire/xdm/AtomicType;" (.ref (A 0))) (S1 : Sta Z h "com/example/quire/quire/xdm/AtomicType" "STRING" "Lcom/example/quire/quire/xdm/AtomicType;" (.ref (A 1))) (S2 : Sta Z h "com/example/quire/quire/xdm/AtomicType" "BOOLEAN" "Lcom/example/quire/quire/xdm/AtomicType;" (.ref (A 2))) (S3 : Sta Z h "com/example/quire/quire/xdm/AtomicType" "DECIMAL" "Lcom/example/quire/quire/xdm/AtomicType;" (.ref (A 3))) (S4 : Sta Z h "com/example/quire/quire/xdm/AtomicType" "INTEGER" "Lcom/example/quire/quire/xdm/AtomicType;" (.ref (A 4))) (S5 : Sta Z h "com/example/quire/quire/xdm/AtomicType" "FLOAT" "Lcom/example/quire/quire/xdm/AtomicType;" (.ref (A 5))) (S6 : Sta Z h "com/example/quire/quire/xdm/AtomicType" "DOUBLE" "Lcom/example/quire/quire/xdm/AtomicType;" (.ref (A 6))) (S7 : Sta Z h "com/example/quire/quire/xdm/AtomicType" "DURATION" "Lcom/example/quire/quire/xdm/AtomicType;" (.ref (A 7))) (S8 : Sta Z h "com/example/quire/quire/xdm/AtomicType" "YEAR_MONTH_DURATION" "Lcom/example/quire/quire/xdm/AtomicType;" (.ref (A 8))) (S9 : Sta Z h "com/example/quire/quire/xdm/AtomicType" "DAY_TIME_DURATION" "Lcom/example/quire/quire/xdm/AtomicType;" (.ref (A 9))) (S10 : Sta Z h "com/example/quire/quire/xdm/AtomicType" "DATE_TIME" "Lcom/example/quire/quire/xdm/AtomicType;" (.ref (A 10))) (S11 : Sta Z h "com/example/quire/quire/xdm/AtomicType" "DATE" "Lcom/example/quire/quire/xdm/AtomicType;" (.ref (A 11))) (S12 : Sta Z h "com/example/quire/quire/xdm/AtomicType" "TIME" "Lcom/example/quire/quire/xdm/AtomicType;" (.ref (A 12))) (S13 : Sta Z h "com/example/quire/quire/xdm/AtomicType" "QNAME" "Lcom/example/quire/quire/xdm/AtomicType;" (.ref (A 13))) (HB : ∀ i, i < 14 → Fld Z h (A i) "com/example/quire/quire/xdm/AtomicType" "base" "Lcom/example/quire/quire/xdm/AtomicType;" (own_bv A i)) (HE : ∀ i, i < 14 → Exa Z h (A i) "com/example/quire/quire/xdm/AtomicType") (i j : Nat) (hi : i < 14) (hj : j < 14) (inj : ∀ i j, i < 14 → j < 14 → (A i = A j ↔ i = j)) (i0 : Int32) (i1 : Int32) (gi : ((i0 &&& (2147483647 : Int32)) % (14 : Int32)).toInt = i) (gj : ((i1 &&& (2147483647 : Int32)) % (14 : Int32)).toInt = j) :
    MetFree l x (head1 (Jvm.Cond.code x code maxLocals ret :: tables_1) room_1) (fun a U => a = #[(.int i0), (.int i1)] ∧ Z.Warmed39 U.vm ∧ U.heap = h) (fun _ _ _ _ _ => True) (fun _ U o U' => ∃ v Lq, o = .returned v ∧ (∃ w, v = some w ∧ w = .int 1 ∧ Fr n0 Lq) ∧ FrameEnd U o U' Lq 0 0) :=
  own_met (Q := fun v _ => v = .int 1) own_pn (fun m => own_law_ef m i0 i1) fun p e s m below meth c hx hby hml hown hZ hret hlk => own_law_b0 hx hby hml hown hZ hw hret hlk S0 S1 S2 S3 S4 S5 S6 S7 S8 S9 S10 S11 S12 S13 HB HE i j hi hj i0 i1 gi gj 1 (own_plain inj i j hi hj i0 i1)

end Own2
theorem own_eqv_r {Z : State} {args : Array Value} {X F : Jvm.Term} {idx : List Nat} {y : Addr} (hF : F.eval args Z none idx Z = some (.ref y)) (h : (Jvm.Cond.eq X F).value args Z none Z idx = some true) : X.eval args Z none idx Z = some (.ref y) := by
  cases hX : X.eval args Z none idx Z with
  | none => simp [Cond.value, hX, hF] at h
  | some v => cases v <;> simp [Cond.value, hX, hF] at h <;> simp [h]
theorem own_ofNat {i j : Nat} (hi : i < 14) (hj : j < 14) (q : Int32.ofNat i = Int32.ofNat j) : i = j := by
  have q' := congrArg Int32.toInt q
  rw [Int32.toInt_ofNat_of_lt (by omega), Int32.toInt_ofNat_of_lt (by omega)] at q'
  omega
set_option maxRecDepth 65536 in
set_option maxHeartbeats 40000000 in
theorem own_comes {Post : Tables → Env → Array Value → State → Outcome → State → Prop} (hpost : ∀ tb e args s v u, (limb_1_1.after args s (.returned v) u = true ∧ limb_1_2.after args s (.returned v) u = true ∧ True) → FrameEnd s (.returned v) u (Jvm.fieldLocs frame_1_writes args s ++ Jvm.arrayLocs frame_1_arrays args s ++ Jvm.staticLocs frame_1_statics s) 0 0 → Post tb e args s (.returned v) u) :
    ArmFor flags0 classFile x code maxLocals ret World_1 tables_1 room_1 Calls_1 rest_1 Pre_1 Post := by
  intro l hfl _ _ p e ha hc hk s m args below hf hA hF happ hP
  obtain ⟨hcalls, hrest, hpre⟩ := hP
  obtain ⟨-, -, -, hnamed, -, -, -, hat⟩ := (Spec.applies_iff hf).mp happ
  obtain ⟨hg, hn⟩ := and_e (Cond.before_iff.mp (show (Jvm.Cond.and given_1 narrow_1).before args s = true from hpre))
  obtain ⟨g0, t0⟩ := and_e hg
  obtain ⟨g1, t1⟩ := and_e t0
  obtain ⟨w0, w1, rfl⟩ : ∃ w0 w1 : Value, args = #[w0, w1] := by
    have hs : args.size = 2 := by simpa [Cond.value, given_1] using g0
    obtain ⟨L⟩ := args
    match L, hs with
    | [w0, w1], _ => exact ⟨w0, w1, rfl⟩
  have hw := fun d (hd : d ∈ tables_1) => atoms_spec (ws := Jvm.Cond.code x code maxLocals ret :: tables_1) hat d (List.mem_cons_of_mem _ hd)
  obtain ⟨i0, e0⟩ := is_v g1
  obtain rfl : w0 = (.int i0) := Option.some.inj e0
  obtain ⟨i1, e1⟩ := is_v t1
  obtain rfl : w1 = (.int i1) := Option.some.inj e1
  have r0 := hn
  obtain ⟨c0, r1⟩ := and_e r0
  obtain ⟨c1, r2⟩ := and_e r1
  obtain ⟨c2, r3⟩ := and_e r2
  obtain ⟨c3, r4⟩ := and_e r3
  obtain ⟨c4, r5⟩ := and_e r4
  obtain ⟨c5, r6⟩ := and_e r5
  obtain ⟨c6, r7⟩ := and_e r6
  obtain ⟨c7, r8⟩ := and_e r7
  obtain ⟨c8, r9⟩ := and_e r8
  obtain ⟨c9, r10⟩ := and_e r9
  obtain ⟨c10, r11⟩ := and_e r10
  obtain ⟨c11, r12⟩ := and_e r11
  obtain ⟨c12, r13⟩ := and_e r12
  obtain ⟨c13, r14⟩ := and_e r13
  obtain ⟨c14, r15⟩ := and_e r14
  obtain ⟨c15, r16⟩ := and_e r15
  obtain ⟨c16, r17⟩ := and_e r16
  obtain ⟨c17, r18⟩ := and_e r17
  obtain ⟨c18, r19⟩ := and_e r18
  obtain ⟨c19, r20⟩ := and_e r19
  obtain ⟨c20, r21⟩ := and_e r20
  obtain ⟨c21, r22⟩ := and_e r21
  obtain ⟨c22, r23⟩ := and_e r22
  obtain ⟨c23, r24⟩ := and_e r23
  obtain ⟨c24, r25⟩ := and_e r24
  obtain ⟨c25, r26⟩ := and_e r25
  obtain ⟨c26, r27⟩ := and_e r26
  obtain ⟨c27, r28⟩ := and_e r27
  obtain ⟨c28, r29⟩ := and_e r28
  obtain ⟨c29, r30⟩ := and_e r29
  obtain ⟨c30, r31⟩ := and_e r30
  obtain ⟨c31, r32⟩ := and_e r31
  obtain ⟨c32, r33⟩ := and_e r32
  obtain ⟨c33, r34⟩ := and_e r33
  obtain ⟨c34, r35⟩ := and_e r34
  obtain ⟨c35, r36⟩ := and_e r35
  obtain ⟨c36, r37⟩ := and_e r36
  obtain ⟨c37, r38⟩ := and_e r37
  obtain ⟨c38, r39⟩ := and_e r38
  obtain ⟨c39, r40⟩ := and_e r39
  obtain ⟨c40, r41⟩ := and_e r40
  have c41 := r41
  obtain ⟨a0, v0⟩ := exa_v c0
  obtain ⟨a1, v1⟩ := exa_v c11
  obtain ⟨a2, v2⟩ := exa_v c18
  obtain ⟨a3, v3⟩ := exa_v c1
  obtain ⟨a4, v4⟩ := exa_v c4
  obtain ⟨a5, v5⟩ := exa_v c14
  obtain ⟨a6, v6⟩ := exa_v c31
  obtain ⟨a7, v7⟩ := exa_v c20
  obtain ⟨a8, v8⟩ := exa_v c6
  obtain ⟨a9, v9⟩ := exa_v c8
  obtain ⟨a10, v10⟩ := exa_v c13
  obtain ⟨a11, v11⟩ := exa_v c26
  obtain ⟨a12, v12⟩ := exa_v c34
  obtain ⟨a13, v13⟩ := exa_v c27
  obtain ⟨A, hA⟩ : ∃ A : Nat → Addr, A = fun i => ([a0, a1, a2, a3, a4, a5, a6, a7, a8, a9, a10, a11, a12, a13] : List Addr).getD i 0 := ⟨_, rfl⟩
  replace v0 : (Jvm.Term.static "com/example/quire/quire/xdm/AtomicType" "UNTYPED_ATOMIC" "Lcom/example/quire/quire/xdm/AtomicType;").eval #[.int i0, .int i1] s none [] s = some (.ref (A 0)) := by rw [hA]; exact v0
  replace v1 : (Jvm.Term.static "com/example/quire/quire/xdm/AtomicType" "STRING" "Lcom/example/quire/quire/xdm/AtomicType;").eval #[.int i0, .int i1] s none [] s = some (.ref (A 1)) := by rw [hA]; exact v1
  replace v2 : (Jvm.Term.static "com/example/quire/quire/xdm/AtomicType" "BOOLEAN" "Lcom/example/quire/quire/xdm/AtomicType;").eval #[.int i0, .int i1] s none [] s = some (.ref (A 2)) := by rw [hA]; exact v2
  replace v3 : (Jvm.Term.static "com/example/quire/quire/xdm/AtomicType" "DECIMAL" "Lcom/example/quire/quire/xdm/AtomicType;").eval #[.int i0, .int i1] s none [] s = some (.ref (A 3)) := by rw [hA]; exact v3
  replace v4 : (Jvm.Term.static "com/example/quire/quire/xdm/AtomicType" "INTEGER" "Lcom/example/quire/quire/xdm/AtomicType;").eval #[.int i0, .int i1] s none [] s = some (.ref (A 4)) := by rw [hA]; exact v4
  replace v5 : (Jvm.Term.static "com/example/quire/quire/xdm/AtomicType" "FLOAT" "Lcom/example/quire/quire/xdm/AtomicType;").eval #[.int i0, .int i1] s none [] s = some (.ref (A 5)) := by rw [hA]; exact v5
  replace v6 : (Jvm.Term.static "com/example/quire/quire/xdm/AtomicType" "DOUBLE" "Lcom/example/quire/quire/xdm/AtomicType;").eval #[.int i0, .int i1] s none [] s = some (.ref (A 6)) := by rw [hA]; exact v6
  replace v7 : (Jvm.Term.static "com/example/quire/quire/xdm/AtomicType" "DURATION" "Lcom/example/quire/quire/xdm/AtomicType;").eval #[.int i0, .int i1] s none [] s = some (.ref (A 7)) := by rw [hA]; exact v7
  replace v8 : (Jvm.Term.static "com/example/quire/quire/xdm/AtomicType" "YEAR_MONTH_DURATION" "Lcom/example/quire/quire/xdm/AtomicType;").eval #[.int i0, .int i1] s none [] s = some (.ref (A 8)) := by rw [hA]; exact v8
  replace v9 : (Jvm.Term.static "com/example/quire/quire/xdm/AtomicType" "DAY_TIME_DURATION" "Lcom/example/quire/quire/xdm/AtomicType;").eval #[.int i0, .int i1] s none [] s = some (.ref (A 9)) := by rw [hA]; exact v9
  replace v10 : (Jvm.Term.static "com/example/quire/quire/xdm/AtomicType" "DATE_TIME" "Lcom/example/quire/quire/xdm/AtomicType;").eval #[.int i0, .int i1] s none [] s = some (.ref (A 10)) := by rw [hA]; exact v10
  replace v11 : (Jvm.Term.static "com/example/quire/quire/xdm/AtomicType" "DATE" "Lcom/example/quire/quire/xdm/AtomicType;").eval #[.int i0, .int i1] s none [] s = some (.ref (A 11)) := by rw [hA]; exact v11
  replace v12 : (Jvm.Term.static "com/example/quire/quire/xdm/AtomicType" "TIME" "Lcom/example/quire/quire/xdm/AtomicType;").eval #[.int i0, .int i1] s none [] s = some (.ref (A 12)) := by rw [hA]; exact v12
  replace v13 : (Jvm.Term.static "com/example/quire/quire/xdm/AtomicType" "QNAME" "Lcom/example/quire/quire/xdm/AtomicType;").eval #[.int i0, .int i1] s none [] s = some (.ref (A 13)) := by rw [hA]; exact v13
  have S0 := Sta.start v0 (Or.inr ⟨(hw _ (List.mem_of_getElem? (i := 6) rfl)), (hw _ (List.mem_of_getElem? (i := 7) rfl))⟩)
  have E0 := Exa.start v0 c0
  have d0 := (fld_at v0).symm.trans (eqv_i (Term.int_eval (0)) c2)
  have b0 : Fld s s.heap (A 0) "com/example/quire/quire/xdm/AtomicType" "base" "Lcom/example/quire/quire/xdm/AtomicType;" (own_bv A 0) := Fld.start ((fld_at v0).symm.trans (null_v c10))
  have S1 := Sta.start v1 (Or.inr ⟨(hw _ (List.mem_of_getElem? (i := 6) rfl)), (hw _ (List.mem_of_getElem? (i := 24) rfl))⟩)
  have E1 := Exa.start v1 c11
  have d1 := (fld_at v1).symm.trans (eqv_i (Term.int_eval (1)) c12)
  have b1 : Fld s s.heap (A 1) "com/example/quire/quire/xdm/AtomicType" "base" "Lcom/example/quire/quire/xdm/AtomicType;" (own_bv A 1) := Fld.start ((fld_at v1).symm.trans (null_v c38))
  have S2 := Sta.start v2 (Or.inr ⟨(hw _ (List.mem_of_getElem? (i := 6) rfl)), (hw _ (List.mem_of_getElem? (i := 30) rfl))⟩)
  have E2 := Exa.start v2 c18
  have d2 := (fld_at v2).symm.trans (eqv_i (Term.int_eval (2)) c19)
  have b2 : Fld s s.heap (A 2) "com/example/quire/quire/xdm/AtomicType" "base" "Lcom/example/quire/quire/xdm/AtomicType;" (own_bv A 2) := Fld.start ((fld_at v2).symm.trans (null_v c41))
  have S3 := Sta.start v3 (Or.inr ⟨(hw _ (List.mem_of_getElem? (i := 6) rfl)), (hw _ (List.mem_of_getElem? (i := 9) rfl))⟩)
  have E3 := Exa.start v3 c1
  have d3 := (fld_at v3).symm.trans (eqv_i (Term.int_eval (3)) c3)
  have b3 : Fld s s.heap (A 3) "com/example/quire/quire/xdm/AtomicType" "base" "Lcom/example/quire/quire/xdm/AtomicType;" (own_bv A 3) := Fld.start ((fld_at v3).symm.trans (null_v c25))
  have S4 := Sta.start v4 (Or.inr ⟨(hw _ (List.mem_of_getElem? (i := 6) rfl)), (hw _ (List.mem_of_getElem? (i := 11) rfl))⟩)
  have E4 := Exa.start v4 c4
  have d4 := (fld_at v4).symm.trans (eqv_i (Term.int_eval (4)) c5)
  have b4 : Fld s s.heap (A 4) "com/example/quire/quire/xdm/AtomicType" "base" "Lcom/example/quire/quire/xdm/AtomicType;" (own_bv A 4) := Fld.start ((fld_at v4).symm.trans (own_eqv_r v3 c24))
  have S5 := Sta.start v5 (Or.inr ⟨(hw _ (List.mem_of_getElem? (i := 6) rfl)), (hw _ (List.mem_of_getElem? (i := 28) rfl))⟩)
  have E5 := Exa.start v5 c14
  have d5 := (fld_at v5).symm.trans (eqv_i (Term.int_eval (5)) c16)
  have b5 : Fld s s.heap (A 5) "com/example/quire/quire/xdm/AtomicType" "base" "Lcom/example/quire/quire/xdm/AtomicType;" (own_bv A 5) := Fld.start ((fld_at v5).symm.trans (null_v c37))
  have S6 := Sta.start v6 (Or.inr ⟨(hw _ (List.mem_of_getElem? (i := 6) rfl)), (hw _ (List.mem_of_getElem? (i := 38) rfl))⟩)
  have E6 := Exa.start v6 c31
  have d6 := (fld_at v6).symm.trans (eqv_i (Term.int_eval (6)) c32)
  have b6 : Fld s s.heap (A 6) "com/example/quire/quire/xdm/AtomicType" "base" "Lcom/example/quire/quire/xdm/AtomicType;" (own_bv A 6) := Fld.start ((fld_at v6).symm.trans (null_v c33))
  have S7 := Sta.start v7 (Or.inr ⟨(hw _ (List.mem_of_getElem? (i := 6) rfl)), (hw _ (List.mem_of_getElem? (i := 32) rfl))⟩)
  have E7 := Exa.start v7 c20
  have d7 := (fld_at v7).symm.trans (eqv_i (Term.int_eval (7)) c21)
  have b7 : Fld s s.heap (A 7) "com/example/quire/quire/xdm/AtomicType" "base" "Lcom/example/quire/quire/xdm/AtomicType;" (own_bv A 7) := Fld.start ((fld_at v7).symm.trans (null_v c23))
  have S8 := Sta.start v8 (Or.inr ⟨(hw _ (List.mem_of_getElem? (i := 6) rfl)), (hw _ (List.mem_of_getElem? (i := 13) rfl))⟩)
  have E8 := Exa.start v8 c6
  have d8 := (fld_at v8).symm.trans (eqv_i (Term.int_eval (8)) c7)
  have b8 : Fld s s.heap (A 8) "com/example/quire/quire/xdm/AtomicType" "base" "Lcom/example/quire/quire/xdm/AtomicType;" (own_bv A 8) := Fld.start ((fld_at v8).symm.trans (own_eqv_r v7 c22))
  have S9 := Sta.start v9 (Or.inr ⟨(hw _ (List.mem_of_getElem? (i := 6) rfl)), (hw _ (List.mem_of_getElem? (i := 15) rfl))⟩)
  have E9 := Exa.start v9 c8
  have d9 := (fld_at v9).symm.trans (eqv_i (Term.int_eval (9)) c9)
  have b9 : Fld s s.heap (A 9) "com/example/quire/quire/xdm/AtomicType" "base" "Lcom/example/quire/quire/xdm/AtomicType;" (own_bv A 9) := Fld.start ((fld_at v9).symm.trans (own_eqv_r v7 c40))
  have S10 := Sta.start v10 (Or.inr ⟨(hw _ (List.mem_of_getElem? (i := 6) rfl)), (hw _ (List.mem_of_getElem? (i := 26) rfl))⟩)
  have E10 := Exa.start v10 c13
  have d10 := (fld_at v10).symm.trans (eqv_i (Term.int_eval (10)) c15)
  have b10 : Fld s s.heap (A 10) "com/example/quire/quire/xdm/AtomicType" "base" "Lcom/example/quire/quire/xdm/AtomicType;" (own_bv A 10) := Fld.start ((fld_at v10).symm.trans (null_v c17))
  have S11 := Sta.start v11 (Or.inr ⟨(hw _ (List.mem_of_getElem? (i := 6) rfl)), (hw _ (List.mem_of_getElem? (i := 34) rfl))⟩)
  have E11 := Exa.start v11 c26
  have d11 := (fld_at v11).symm.trans (eqv_i (Term.int_eval (11)) c28)
  have b11 : Fld s s.heap (A 11) "com/example/quire/quire/xdm/AtomicType" "base" "Lcom/example/quire/quire/xdm/AtomicType;" (own_bv A 11) := Fld.start ((fld_at v11).symm.trans (null_v c30))
  have S12 := Sta.start v12 (Or.inr ⟨(hw _ (List.mem_of_getElem? (i := 6) rfl)), (hw _ (List.mem_of_getElem? (i := 40) rfl))⟩)
  have E12 := Exa.start v12 c34
  have d12 := (fld_at v12).symm.trans (eqv_i (Term.int_eval (12)) c35)
  have b12 : Fld s s.heap (A 12) "com/example/quire/quire/xdm/AtomicType" "base" "Lcom/example/quire/quire/xdm/AtomicType;" (own_bv A 12) := Fld.start ((fld_at v12).symm.trans (null_v c36))
  have S13 := Sta.start v13 (Or.inr ⟨(hw _ (List.mem_of_getElem? (i := 6) rfl)), (hw _ (List.mem_of_getElem? (i := 36) rfl))⟩)
  have E13 := Exa.start v13 c27
  have d13 := (fld_at v13).symm.trans (eqv_i (Term.int_eval (13)) c29)
  have b13 : Fld s s.heap (A 13) "com/example/quire/quire/xdm/AtomicType" "base" "Lcom/example/quire/quire/xdm/AtomicType;" (own_bv A 13) := Fld.start ((fld_at v13).symm.trans (null_v c39))
  have HB : ∀ i, i < 14 → Fld s s.heap (A i) "com/example/quire/quire/xdm/AtomicType" "base" "Lcom/example/quire/quire/xdm/AtomicType;" (own_bv A i) := fun i hi => by
    match i, hi with
    | 0, _ => exact b0
    | 1, _ => exact b1
    | 2, _ => exact b2
    | 3, _ => exact b3
    | 4, _ => exact b4
    | 5, _ => exact b5
    | 6, _ => exact b6
    | 7, _ => exact b7
    | 8, _ => exact b8
    | 9, _ => exact b9
    | 10, _ => exact b10
    | 11, _ => exact b11
    | 12, _ => exact b12
    | 13, _ => exact b13
    | n + 14, hi => exact absurd hi (by omega)
  have HE : ∀ i, i < 14 → Exa s s.heap (A i) "com/example/quire/quire/xdm/AtomicType" := fun i hi => by
    match i, hi with
    | 0, _ => exact E0
    | 1, _ => exact E1
    | 2, _ => exact E2
    | 3, _ => exact E3
    | 4, _ => exact E4
    | 5, _ => exact E5
    | 6, _ => exact E6
    | 7, _ => exact E7
    | 8, _ => exact E8
    | 9, _ => exact E9
    | 10, _ => exact E10
    | 11, _ => exact E11
    | 12, _ => exact E12
    | 13, _ => exact E13
    | n + 14, hi => exact absurd hi (by omega)
  have HD : ∀ i, i < 14 → s.fieldOf? (A i) "java/lang/Enum" "ordinal" "I" = some (.int (Int32.ofNat i)) := fun i hi => by
    match i, hi with
    | 0, _ => exact d0
    | 1, _ => exact d1
    | 2, _ => exact d2
    | 3, _ => exact d3
    | 4, _ => exact d4
    | 5, _ => exact d5
    | 6, _ => exact d6
    | 7, _ => exact d7
    | 8, _ => exact d8
    | 9, _ => exact d9
    | 10, _ => exact d10
    | 11, _ => exact d11
    | 12, _ => exact d12
    | 13, _ => exact d13
    | n + 14, hi => exact absurd hi (by omega)
  have inj : ∀ i j, i < 14 → j < 14 → (A i = A j ↔ i = j) := fun i j hi hj => ⟨fun q => own_ofNat hi hj (Value.int.inj (Option.some.inj ((HD i hi).symm.trans ((by rw [q] : s.fieldOf? (A i) _ _ _ = s.fieldOf? (A j) _ _ _).trans (HD j hj))))), fun q => by rw [q]⟩
  obtain ⟨i, hi, gi⟩ := own_rem i0
  obtain ⟨j, hj, gj⟩ := own_rem i1
  obtain ⟨n, o, h1, h2, h3, _, L, rfl, ⟨_, rfl, rfl, N⟩, hq⟩ := own_law_M l s _ hw s.heap.size s.heap (Nat.le_refl _) S0 S1 S2 S3 S4 S5 S6 S7 S8 S9 S10 S11 S12 S13 HB HE i j hi hj inj i0 i1 gi gj p e ha hc hk s m _ below hf ((Spec.applies_iff_loose hf).mp happ).1 ⟨rfl, State.Warmed39.refl s, rfl⟩ trivial
  refine ⟨n, _, h1, h2, h3, hpost _ _ _ _ _ _ ⟨Cond.after_iff.mpr rfl, Cond.after_iff.mpr (eq_i res_at (Term.int_eval (1)) rfl), trivial⟩ ⟨hq.1, hq.2.1, (hq.2.2.sift fun y hy => Or.inr (N y hy)).mono (by decide) (by decide)⟩⟩
theorem main_1_1 : Claimed_1_1 := own_comes fun _ _ _ _ _ _ h hF => ⟨h.1, hF⟩
theorem main_1_2 : Claimed_1_2 := own_comes fun _ _ _ _ _ _ h hF => ⟨h.2.1, hF⟩
end Jvm.Pilot.@@N@@
namespace Jvm.Pilot.@@N@@
open Jvm Jvm.ClassFile Sem Op Lib Jvm.Free Jvm.Stand Jvm.Pilot.@@N@@.Jvm.D
/-! MADE BY PROGRAM (witnessworld.py) out of the Statement's table words and the real class files: 12 classes; the members and pool entries that the words name. The judged class is class 1, her method 1. -/
namespace start1
open Jvm.ClassFile
def u (s : String) : CpInfo := .utf8 (stringToUtf16 s)
/-- a pool by its gaps: so many unusable entries, then the entry; so many at the end -/
def gap : Nat → List CpInfo → List CpInfo
  | 0, r => r
  | n + 1, r => .unusable :: gap n r
def poolList (es : List (Nat × CpInfo)) (last : Nat) : List CpInfo := es.foldr (fun e r => gap e.1 (e.2 :: r)) (gap last [])
def pool (es : List (Nat × CpInfo)) (last : Nat) : Array CpInfo := ⟨poolList es last⟩
def fileOf (pool : Array CpInfo) (this : Nat) (attrs : Array Attribute := #[]) (ms : Array MethodInfo := #[]) (fl : Nat := 33) (sup : Nat := 0) (ifs : Array Nat := #[]) (fds : Array FieldInfo := #[]) : ClassFile where
  minorVersion := 0
  majorVersion := 65
  constantPool := pool
  accessFlags := fl
  thisClass := this
  superClass := sup
  interfaces := ifs
  fields := fds
  methods := ms
  attributes := attrs
def plain (name : String) (sup : Option ClassId) : Class where
  name := name
  kind := .ordinary
  loader := none
  accessFlags := 33
  super := sup
  interfaces := #[]
  cf := none
  fields := #[]
  methods := #[]
  instanceTypes := #[]
  staticTypes := #[]
  resolved := #[]
  callSites := []
  init := .initialized
  statics := none
  mirror := none

def pool0 : Array CpInfo := pool [(5, u "<init>"), (0, u "()V"), (1, .class_ 10), (1, u "java/lang/Object")] 113

def k0m0 : Method := { name := "<init>", desc := "()V", sig := { parameters := [], returnType := none }, accessFlags := 1, code := none }
/-- java/lang/Object -/
def k0 : Class := { plain "java/lang/Object" none with
  accessFlags := 33
  interfaces := #[]
  cf := some (fileOf pool0 8 #[] #[{ accessFlags := 1, nameIndex := 5, descriptorIndex := 6, attributes := #[] }] 33 0 #[] #[])
  fields := #[]
  methods := #[k0m0]
  instanceTypes := #[]
  staticTypes := #[]
  resolved := Array.replicate 124 none
  statics := none }

def pool1 : Array CpInfo := pool [(2, .class_ 4), (1, u "java/lang/Object"), (0, u "<init>"), (0, u "()V"), (0, .integer 2147483647), (0, .methodref 9 10), (0, .class_ 11), (0, .nameAndType 12 13), (0, u "com/example/quire/quire/xdm/AtomicTypeDerivesFromPinLaw"), (0, u "pick"), (0, u "(I)Lcom/example/quire/quire/xdm/AtomicType;"), (0, .fieldref 15 16), (0, .class_ 17), (0, .nameAndType 18 19), (0, u "com/example/quire/quire/xdm/AtomicType"), (0, u "INTEGER"), (0, u "Lcom/example/quire/quire/xdm/AtomicType;"), (0, .fieldref 15 21), (0, .nameAndType 22 19), (0, u "DECIMAL"), (0, .fieldref 15 24), (0, .nameAndType 25 19), (0, u "YEAR_MONTH_DURATION"), (0, .fieldref 15 27), (0, .nameAndType 28 19), (0, u "DAY_TIME_DURATION"), (0, .fieldref 15 30), (0, .nameAndType 31 19), (0, u "DURATION"), (0, .methodref 15 33), (0, .nameAndType 34 35), (0, u "derivesFrom"), (0, u "(Lcom/example/quire/quire/xdm/AtomicType;)Z"), (0, .fieldref 15 37), (0, .nameAndType 38 19), (0, u "UNTYPED_ATOMIC"), (0, .fieldref 15 40), (0, .nameAndType 41 19), (0, u "STRING"), (0, .fieldref 15 43), (0, .nameAndType 44 19), (0, u "BOOLEAN"), (0, .fieldref 15 46), (0, .nameAndType 47 19), (0, u "FLOAT"), (0, .fieldref 15 49), (0, .nameAndType 50 19), (0, u "DOUBLE"), (0, .fieldref 15 52), (0, .nameAndType 53 19), (0, u "DATE_TIME"), (0, .fieldref 15 55), (0, .nameAndType 56 19), (0, u "DATE"), (0, .fieldref 15 58), (0, .nameAndType 59 19), (0, u "TIME"), (0, .fieldref 15 61), (0, .nameAndType 62 19), (0, u "QNAME"), (2, u "law"), (0, u "(II)Z")] 3

def k1m0 : Method := { name := "<init>", desc := "()V", sig := { parameters := [], returnType := none }, accessFlags := 1, code := none }
def k1c1 : Code := { maxStack := 2, maxLocals := 5, code := code, exceptionTable := #[], attributes := #[] }
def k1m1 : Method := { name := "law", desc := "(II)Z", sig := { parameters := [.int, .int], returnType := some .boolean }, accessFlags := 9, code := some k1c1 }
def k1c2 : Code := { maxStack := 1, maxLocals := 1, code := method_3_code, exceptionTable := #[], attributes := #[] }
def k1m2 : Method := { name := "pick", desc := "(I)Lcom/example/quire/quire/xdm/AtomicType;", sig := { parameters := [.int], returnType := some (.object "com/example/quire/quire/xdm/AtomicType") }, accessFlags := 10, code := some k1c2 }
/-- com/example/quire/quire/xdm/AtomicTypeDerivesFromPinLaw -/
def k1 : Class := { plain "com/example/quire/quire/xdm/AtomicTypeDerivesFromPinLaw" (some 0) with
  accessFlags := 49
  interfaces := #[]
  cf := some (fileOf pool1 9 #[] #[{ accessFlags := 1, nameIndex := 5, descriptorIndex := 6, attributes := #[] }, { accessFlags := 9, nameIndex := 65, descriptorIndex := 66, attributes := #[] }, { accessFlags := 10, nameIndex := 12, descriptorIndex := 13, attributes := #[] }] 49 2 #[] #[])
  fields := #[]
  methods := #[k1m0, k1m1, k1m2]
  instanceTypes := #[]
  staticTypes := #[]
  resolved := Array.replicate 70 none
  statics := none }

def pool2 : Array CpInfo := pool [(1, .class_ 2), (0, u "java/lang/constant/Constable"), (0, .class_ 4), (0, u "java/lang/Object")] 6

/-- java/lang/constant/Constable -/
def k2 : Class := { plain "java/lang/constant/Constable" (some 0) with
  accessFlags := 1537
  interfaces := #[]
  cf := some (fileOf pool2 1 #[] #[] 1537 3 #[] #[])
  fields := #[]
  methods := #[]
  instanceTypes := #[]
  staticTypes := #[]
  resolved := Array.replicate 11 none
  statics := none }

def pool3 : Array CpInfo := pool [(1, .class_ 2), (0, u "java/lang/Comparable"), (0, .class_ 4), (0, u "java/lang/Object")] 7

/-- java/lang/Comparable -/
def k3 : Class := { plain "java/lang/Comparable" (some 0) with
  accessFlags := 1537
  interfaces := #[]
  cf := some (fileOf pool3 1 #[] #[] 1537 3 #[] #[])
  fields := #[]
  methods := #[]
  instanceTypes := #[]
  staticTypes := #[]
  resolved := Array.replicate 12 none
  statics := none }

def pool4 : Array CpInfo := pool [(1, .class_ 2), (0, u "java/io/Serializable"), (0, .class_ 4), (0, u "java/lang/Object")] 2

/-- java/io/Serializable -/
def k4 : Class := { plain "java/io/Serializable" (some 0) with
  accessFlags := 1537
  interfaces := #[]
  cf := some (fileOf pool4 1 #[] #[] 1537 3 #[] #[])
  fields := #[]
  methods := #[]
  instanceTypes := #[]
  staticTypes := #[]
  resolved := Array.replicate 7 none
  statics := none }

def pool5 : Array CpInfo := pool [(2, .class_ 4), (1, u "java/lang/Enum"), (0, u "name"), (0, u "Ljava/lang/String;"), (2, u "ordinal"), (0, u "I"), (1, .class_ 14), (1, u "java/lang/Object"), (4, u "hash"), (86, .class_ 108), (1, u "java/lang/Enum$EnumDesc"), (2, .class_ 112), (0, u "java/lang/constant/Constable"), (0, .class_ 114), (0, u "java/lang/Comparable"), (0, .class_ 116), (0, u "java/io/Serializable")] 87

/-- java/lang/Enum -/
def k5 : Class := { plain "java/lang/Enum" (some 0) with
  accessFlags := 1057
  interfaces := #[2, 3, 4]
  cf := some (fileOf pool5 2 #[.nestMembers #[106]] #[] 1057 12 #[111, 113, 115] #[{ accessFlags := 18, nameIndex := 5, descriptorIndex := 6, attributes := #[] }, { accessFlags := 18, nameIndex := 9, descriptorIndex := 10, attributes := #[] }, { accessFlags := 2, nameIndex := 19, descriptorIndex := 10, attributes := #[] }])
  fields := #[{ name := "name", type := (.object "java/lang/String"), accessFlags := 18, slot := 0, constantValue := 0 }, { name := "ordinal", type := .int, accessFlags := 18, slot := 1, constantValue := 0 }, { name := "hash", type := .int, accessFlags := 2, slot := 2, constantValue := 0 }]
  methods := #[]
  instanceTypes := #[(.object "java/lang/String"), .int, .int]
  staticTypes := #[]
  resolved := Array.replicate 204 none
  statics := none }

def pool6 : Array CpInfo := pool [(1, .class_ 2), (0, u "com/example/quire/quire/xdm/AtomicType"), (2, u "UNTYPED_ATOMIC"), (0, u "Lcom/example/quire/quire/xdm/AtomicType;"), (2, u "STRING"), (2, u "BOOLEAN"), (2, u "DECIMAL"), (2, u "INTEGER"), (2, u "FLOAT"), (2, u "DOUBLE"), (2, u "DURATION"), (2, u "YEAR_MONTH_DURATION"), (2, u "DAY_TIME_DURATION"), (2, u "DATE_TIME"), (2, u "DATE"), (2, u "TIME"), (2, u "QNAME"), (2, u "$VALUES"), (0, u "[Lcom/example/quire/quire/xdm/AtomicType;"), (6, .class_ 58), (1, u "java/lang/Enum"), (8, u "localName"), (0, u "Ljava/lang/String;"), (0, .fieldref 1 70), (0, .nameAndType 71 6), (0, u "base"), (82, u "derivesFrom"), (0, u "(Lcom/example/quire/quire/xdm/AtomicType;)Z")] 26

def k6c0 : Code := { maxStack := 2, maxLocals := 3, code := prog_41_method_4_code, exceptionTable := #[], attributes := #[] }
def k6m0 : Method := { name := "derivesFrom", desc := "(Lcom/example/quire/quire/xdm/AtomicType;)Z", sig := { parameters := [(.object "com/example/quire/quire/xdm/AtomicType")], returnType := some .boolean }, accessFlags := 1, code := some k6c0 }
/-- com/example/quire/quire/xdm/AtomicType -/
def k6 : Class := { plain "com/example/quire/quire/xdm/AtomicType" (some 5) with
  accessFlags := 16433
  interfaces := #[]
  cf := some (fileOf pool6 1 #[] #[{ accessFlags := 1, nameIndex := 154, descriptorIndex := 155, attributes := #[] }] 16433 56 #[] #[{ accessFlags := 16409, nameIndex := 5, descriptorIndex := 6, attributes := #[] }, { accessFlags := 16409, nameIndex := 9, descriptorIndex := 6, attributes := #[] }, { accessFlags := 16409, nameIndex := 12, descriptorIndex := 6, attributes := #[] }, { accessFlags := 16409, nameIndex := 15, descriptorIndex := 6, attributes := #[] }, { accessFlags := 16409, nameIndex := 18, descriptorIndex := 6, attributes := #[] }, { accessFlags := 16409, nameIndex := 21, descriptorIndex := 6, attributes := #[] }, { accessFlags := 16409, nameIndex := 24, descriptorIndex := 6, attributes := #[] }, { accessFlags := 16409, nameIndex := 27, descriptorIndex := 6, attributes := #[] }, { accessFlags := 16409, nameIndex := 30, descriptorIndex := 6, attributes := #[] }, { accessFlags := 16409, nameIndex := 33, descriptorIndex := 6, attributes := #[] }, { accessFlags := 16409, nameIndex := 36, descriptorIndex := 6, attributes := #[] }, { accessFlags := 16409, nameIndex := 39, descriptorIndex := 6, attributes := #[] }, { accessFlags := 16409, nameIndex := 42, descriptorIndex := 6, attributes := #[] }, { accessFlags := 16409, nameIndex := 45, descriptorIndex := 6, attributes := #[] }, { accessFlags := 18, nameIndex := 67, descriptorIndex := 68, attributes := #[] }, { accessFlags := 18, nameIndex := 71, descriptorIndex := 6, attributes := #[] }, { accessFlags := 4122, nameIndex := 48, descriptorIndex := 49, attributes := #[] }])
  fields := #[{ name := "UNTYPED_ATOMIC", type := (.object "com/example/quire/quire/xdm/AtomicType"), accessFlags := 16409, slot := 0, constantValue := 0 }, { name := "STRING", type := (.object "com/example/quire/quire/xdm/AtomicType"), accessFlags := 16409, slot := 1, constantValue := 0 }, { name := "BOOLEAN", type := (.object "com/example/quire/quire/xdm/AtomicType"), accessFlags := 16409, slot := 2, constantValue := 0 }, { name := "DECIMAL", type := (.object "com/example/quire/quire/xdm/AtomicType"), accessFlags := 16409, slot := 3, constantValue := 0 }, { name := "INTEGER", type := (.object "com/example/quire/quire/xdm/AtomicType"), accessFlags := 16409, slot := 4, constantValue := 0 }, { name := "FLOAT", type := (.object "com/example/quire/quire/xdm/AtomicType"), accessFlags := 16409, slot := 5, constantValue := 0 }, { name := "DOUBLE", type := (.object "com/example/quire/quire/xdm/AtomicType"), accessFlags := 16409, slot := 6, constantValue := 0 }, { name := "DURATION", type := (.object "com/example/quire/quire/xdm/AtomicType"), accessFlags := 16409, slot := 7, constantValue := 0 }, { name := "YEAR_MONTH_DURATION", type := (.object "com/example/quire/quire/xdm/AtomicType"), accessFlags := 16409, slot := 8, constantValue := 0 }, { name := "DAY_TIME_DURATION", type := (.object "com/example/quire/quire/xdm/AtomicType"), accessFlags := 16409, slot := 9, constantValue := 0 }, { name := "DATE_TIME", type := (.object "com/example/quire/quire/xdm/AtomicType"), accessFlags := 16409, slot := 10, constantValue := 0 }, { name := "DATE", type := (.object "com/example/quire/quire/xdm/AtomicType"), accessFlags := 16409, slot := 11, constantValue := 0 }, { name := "TIME", type := (.object "com/example/quire/quire/xdm/AtomicType"), accessFlags := 16409, slot := 12, constantValue := 0 }, { name := "QNAME", type := (.object "com/example/quire/quire/xdm/AtomicType"), accessFlags := 16409, slot := 13, constantValue := 0 }, { name := "localName", type := (.object "java/lang/String"), accessFlags := 18, slot := 3, constantValue := 0 }, { name := "base", type := (.object "com/example/quire/quire/xdm/AtomicType"), accessFlags := 18, slot := 4, constantValue := 0 }, { name := "$VALUES", type := (.array (.object "com/example/quire/quire/xdm/AtomicType")), accessFlags := 4122, slot := 14, constantValue := 0 }]
  methods := #[k6m0]
  instanceTypes := #[(.object "java/lang/String"), .int, .int, (.object "java/lang/String"), (.object "com/example/quire/quire/xdm/AtomicType")]
  staticTypes := #[(.object "com/example/quire/quire/xdm/AtomicType"), (.object "com/example/quire/quire/xdm/AtomicType"), (.object "com/example/quire/quire/xdm/AtomicType"), (.object "com/example/quire/quire/xdm/AtomicType"), (.object "com/example/quire/quire/xdm/AtomicType"), (.object "com/example/quire/quire/xdm/AtomicType"), (.object "com/example/quire/quire/xdm/AtomicType"), (.object "com/example/quire/quire/xdm/AtomicType"), (.object "com/example/quire/quire/xdm/AtomicType"), (.object "com/example/quire/quire/xdm/AtomicType"), (.object "com/example/quire/quire/xdm/AtomicType"), (.object "com/example/quire/quire/xdm/AtomicType"), (.object "com/example/quire/quire/xdm/AtomicType"), (.object "com/example/quire/quire/xdm/AtomicType"), (.array (.object "com/example/quire/quire/xdm/AtomicType"))]
  resolved := Array.replicate 182 none
  statics := some 0 }

def pool7 : Array CpInfo := pool [(1, u "java/lang/Cloneable"), (0, .class_ 1), (0, u "java/lang/Object"), (0, .class_ 3)] 3

/-- java/lang/Cloneable -/
def k7 : Class := { plain "java/lang/Cloneable" (some 0) with
  accessFlags := 1537
  interfaces := #[]
  cf := some (fileOf pool7 2 #[] #[] 1537 4 #[] #[])
  fields := #[]
  methods := #[]
  instanceTypes := #[]
  staticTypes := #[]
  resolved := Array.replicate 8 none
  statics := none }

/-- the primitive byte -/
def k8 : Class := { plain "byte" none with kind := .primitive 'B', accessFlags := 0x411 }
/-- [B -/
def k9 : Class := { plain "[B" (some 0) with kind := .array 8 .byte, interfaces := #[7, 4], accessFlags := 1041 }

/-- the primitive int -/
def k10 : Class := { plain "int" none with kind := .primitive 'I', accessFlags := 0x411 }
/-- [I -/
def k11 : Class := { plain "[I" (some 0) with kind := .array 10 .int, interfaces := #[7, 4], accessFlags := 1041 }

def heap : Heap := #[{ cls := 6, slots := #[.ref 1, .ref 2, .ref 3, .ref 4, .ref 5, .ref 6, .ref 7, .ref 8, .ref 9, .ref 10, .ref 11, .ref 12, .ref 13, .ref 14, .null], vm := .statics 6 },
  { cls := 6, slots := #[.null, .int 0, .int 0, .null, .null], vm := .none },
  { cls := 6, slots := #[.null, .int 1, .int 0, .null, .null], vm := .none },
  { cls := 6, slots := #[.null, .int 2, .int 0, .null, .null], vm := .none },
  { cls := 6, slots := #[.null, .int 3, .int 0, .null, .null], vm := .none },
  { cls := 6, slots := #[.null, .int 4, .int 0, .null, .ref 4], vm := .none },
  { cls := 6, slots := #[.null, .int 5, .int 0, .null, .null], vm := .none },
  { cls := 6, slots := #[.null, .int 6, .int 0, .null, .null], vm := .none },
  { cls := 6, slots := #[.null, .int 7, .int 0, .null, .null], vm := .none },
  { cls := 6, slots := #[.null, .int 8, .int 0, .null, .ref 8], vm := .none },
  { cls := 6, slots := #[.null, .int 9, .int 0, .null, .ref 8], vm := .none },
  { cls := 6, slots := #[.null, .int 10, .int 0, .null, .null], vm := .none },
  { cls := 6, slots := #[.null, .int 11, .int 0, .null, .null], vm := .none },
  { cls := 6, slots := #[.null, .int 12, .int 0, .null, .null], vm := .none },
  { cls := 6, slots := #[.null, .int 13, .int 0, .null, .null], vm := .none }]
def classes : Array Class := #[k0, k1, k2, k3, k4, k5, k6, k7, k8, k9, k10, k11]
def interned : List (Array UInt16 × Addr) := []
def slotsUsed : Nat := 85
def theMethod : MethodId := ⟨1, 1⟩
def args0 : Array Value := #[.int 5, .int 3]
def aboutOver (below : List Frame) : State where
  vm := { classes := classes, interned := interned.toArray }
  heap := heap
  slotsUsed := slotsUsed
  threads := #[{ frames := .invoking theMethod args0 :: below }]
def below0 : List Frame := [.native { method := ⟨0, 0⟩, args := #[] }]
def about1 : State := aboutOver below0
def p0 : Program := .bare "" "" ""
def e0 : Env := launch0.env 0 0 0
theorem w_frames : about1.frames = Frame.invoking theMethod args0 :: below0 := rfl
set_option maxRecDepth 65536 in
theorem w_args : argsFit about1.vm theMethod args0 = true := by decide +kernel
set_option maxRecDepth 65536 in
theorem w_heap : heapFits about1 = true := by decide +kernel
set_option maxRecDepth 65536 in
theorem w_runnable : about1.curStatus? = some .runnable := by decide +kernel
set_option maxRecDepth 65536 in
theorem w_alone : about1.alone = true := by decide +kernel
set_option maxRecDepth 65536 in
theorem w_named : about1.methodNamed? x = some theMethod := by decide +kernel
set_option maxRecDepth 65536 in
theorem w_hears : about1.hears theMethod below0 = true := by decide +kernel
set_option maxRecDepth 65536 in
theorem w_ripe : about1.ripe theMethod args0 below0 = true := by decide +kernel
theorem w_running : about1.status = .running := rfl
set_option maxRecDepth 65536 in
theorem w_room : about1.hasRoom e0.platform room_1 = true :=
  launch0.hasRoom_least _ room_1 (by decide +kernel) (by decide +kernel) (by decide +kernel) (by decide +kernel) (by decide +kernel) (by decide +kernel)
theorem allAtoms_all (ts : List Jvm.Cond) (a : Array Jvm.Value) (st : Jvm.State) : (allAtoms ts).before a st = ts.all (fun c => c.before a st) := by
  induction ts with
  | nil => rfl
  | cons c t ih =>
    show (Jvm.Cond.and c (allAtoms t)).before a st = _
    rw [Jvm.Cond.before_and, ih, List.all_cons]
def words1 : List Jvm.Cond := Jvm.Cond.code x code maxLocals ret :: tables_1
/-- a 'code' word, met by the world's own term for the bytes: nothing is compared byte by byte -/
theorem code_word {y : MethodName} {bytes : ByteArray} {mx : Nat} {rt : Option FieldType} {a : Array Value} {s : State} {m : MethodId} {meth : Method} {c : Code} (h1 : s.methodNamed? y = some m) (h2 : s.vm.method? m = some meth) (h3 : meth.code = some c) (h4 : c.code = bytes)
    (h5 : (c.maxLocals == mx && c.exceptionTable.isEmpty && decide (c.maxStack ≤ mostOperands) && decide (meth.sig.returnType = rt) && !meth.locks && decide (parseMethodDescriptor y.desc = some meth.sig)) = true) : (Jvm.Cond.code y bytes mx rt).before a s = true := by
  simp only [Bool.and_eq_true, beq_iff_eq, Bool.not_eq_true', decide_eq_true_eq] at h5
  obtain ⟨⟨⟨⟨⟨g1, g2⟩, g3⟩, g4⟩, g5⟩, g6⟩ := h5
  simp [Cond.before, Cond.holds, Cond.value, h1, h2, h3, h4, g1, g2, g3, g4, g5, g6]
def isCode : Jvm.Cond → Bool
  | .code _ _ _ _ => true
  | _ => false
theorem all_split {L : List Jvm.Cond} {P : Jvm.Cond → Bool} (h1 : L.all (fun c => isCode c || P c) = true) (h2 : ∀ c ∈ L.filter isCode, P c = true) : L.all P = true := by
  refine List.all_eq_true.mpr fun c hc => ?_
  have h := List.all_eq_true.mp h1 c hc
  rcases Bool.eq_false_or_eq_true (isCode c) with hi | hi
  · exact h2 c (List.mem_filter.mpr ⟨hc, hi⟩)
  · simpa [hi] using h
set_option maxRecDepth 65536 in
theorem w_c0 : (Jvm.Cond.code x code maxLocals ret).before args0 about1 = true := code_word (m := ⟨1, 1⟩) (meth := k1m1) (c := k1c1) (by decide +kernel) rfl rfl rfl (by decide +kernel)
set_option maxRecDepth 65536 in
theorem w_c1 : (Jvm.Cond.code ({ cls := "com/example/quire/quire/xdm/AtomicTypeDerivesFromPinLaw", name := "pick", desc := "(I)Lcom/example/quire/quire/xdm/AtomicType;" } : Jvm.MethodName) method_3_code (1 : Nat) (Option.some (Jvm.ClassFile.FieldType.object "com/example/quire/quire/xdm/AtomicType"))).before args0 about1 = true := code_word (m := ⟨1, 2⟩) (meth := k1m2) (c := k1c2) (by decide +kernel) rfl rfl rfl (by decide +kernel)
set_option maxRecDepth 65536 in
theorem w_c2 : (Jvm.Cond.code ({ cls := "com/example/quire/quire/xdm/AtomicType", name := "derivesFrom", desc := "(Lcom/example/quire/quire/xdm/AtomicType;)Z" } : Jvm.MethodName) prog_41_method_4_code (3 : Nat) (Option.some Jvm.ClassFile.FieldType.boolean)).before args0 about1 = true := code_word (m := ⟨6, 0⟩) (meth := k6m0) (c := k6c0) (by decide +kernel) rfl rfl rfl (by decide +kernel)
def codes1 : List Jvm.Cond := [Jvm.Cond.code x code maxLocals ret, Jvm.Cond.code ({ cls := "com/example/quire/quire/xdm/AtomicTypeDerivesFromPinLaw", name := "pick", desc := "(I)Lcom/example/quire/quire/xdm/AtomicType;" } : Jvm.MethodName) method_3_code (1 : Nat) (Option.some (Jvm.ClassFile.FieldType.object "com/example/quire/quire/xdm/AtomicType")), Jvm.Cond.code ({ cls := "com/example/quire/quire/xdm/AtomicType", name := "derivesFrom", desc := "(Lcom/example/quire/quire/xdm/AtomicType;)Z" } : Jvm.MethodName) prog_41_method_4_code (3 : Nat) (Option.some Jvm.ClassFile.FieldType.boolean)]
set_option maxRecDepth 65536 in
theorem codes_eq : words1.filter isCode = codes1 := rfl
theorem w_codes : ∀ c ∈ words1.filter isCode, c.before args0 about1 = true := by
  rw [codes_eq]
  intro c hc
  simp only [codes1, List.mem_cons, List.not_mem_nil, or_false] at hc
  rcases hc with rfl | rfl | rfl
  · exact w_c0
  · exact w_c1
  · exact w_c2
set_option maxRecDepth 65536 in
theorem w_t1 : (words1.take 24).all (fun c => isCode c || c.before args0 about1) = true := by decide +kernel
set_option maxRecDepth 65536 in
theorem w_t2 : (words1.drop 24).all (fun c => isCode c || c.before args0 about1) = true := by decide +kernel
theorem w_tables : (allAtoms (Jvm.Cond.code x code maxLocals ret :: tables_1)).before args0 about1 = true := by
  rw [allAtoms_all]
  show words1.all (fun c => c.before args0 about1) = true
  refine all_split ?_ w_codes
  rw [← List.take_append_drop 24 words1, List.all_append, w_t1, w_t2]
  rfl
set_option maxRecDepth 65536 in
theorem w_case : (Jvm.Cond.and given_1 narrow_1).before args0 about1 = true := by decide +kernel
theorem w_applies : (headSpec (Jvm.Cond.code x code maxLocals ret :: tables_1) room_1).applies x e0.platform about1 = true :=
  (Spec.applies_iff w_frames).mpr ⟨w_running, w_runnable, w_alone, w_named, w_hears, w_ripe, w_room, w_tables⟩
theorem atStart : AtStart classFile x code maxLocals ret World_1 tables_1 room_1 Calls_1 rest_1 Pre_1 launch0 p0 e0 about1 theMethod args0 below0 :=
  ⟨lists_1, trivial, launch0.admits_env _ _ _, launch0.least_env, fairChoices_fair.cas, fairChoices_fair.clock, w_frames, w_args, w_heap, w_applies, trivial, trivial, w_case⟩
end start1
theorem witness_1 : WitnessClaimed_1 := ⟨start1.p0, start1.e0, start1.about1, start1.theMethod, start1.args0, start1.below0, start1.atStart⟩
end Jvm.Pilot.@@N@@
