import JvmDerived
import JvmDerived.Pilot.@@N@@Statement
import JvmDerived.Pilot.@@N@@Code
set_option linter.unusedVariables false
set_option linter.unusedSimpArgs false
namespace Jvm.RoadKit
open Sem ClassFile Op Lib Jvm.Stand Jvm.Free Jvm.LawKit
section New
variable {p : Program} {l : Launch} {e : Env} {R : Room} {s : State} {m : MethodId} {args : Array Value} {below : List Frame} {meth : Method} {c : Code} {T : State} {locs : List Loc} {cells slots : Nat}
theorem retI (X : Stand p l e R s m args below meth c T locs cells slots) (hx : p.tables.exec = Jvm.exec) {pc : Nat} {Ls : Array Slot} {z : Int32} {rest : List Value} (hret : meth.sig.returnType = some .int) (hd : decode c.code pc = .ok (.ireturn, 1)) {fs : List Frame}
    (hl : ∀ (f : JFrame) (acts : List Action), f.method = m → f.locked = none → f.entered = [] → (doReturn e (T.setTop f) acts (some (.int z))).1 = T.setFrames fs) : Steps p.tables e below (T.setTop (mkF m pc Ls (.int z :: rest))) (T.setFrames fs) := by
  have hm' : T.vm.method? m = some meth := X.method'
  have hn : narrow .int (.int z) = .int z := rfl
  show Steps p.tables e below (T.setTop { method := m, pc := pc, locals := Ls, stack := _ :: rest, locked := none }) _
  jvm_step X.here [X.here.top, hx, hd, hm', hret, hn]
  first | (intro acts; rw [hl _ acts rfl rfl rfl]) | rw [hl _ _ rfl rfl rfl]
  exact Steps.refl _
end New
end Jvm.RoadKit
namespace Jvm.Pilot.@@N@@
open Jvm Jvm.ClassFile Sem Op Lib Jvm.Free Jvm.Stand Jvm.LawKit Jvm.RoadKit Bundle Jvm.Pilot.@@N@@.Jvm.D
section OwnCommon
variable {p : Program} {l : Launch} {e : Env} {R : Room} {s : State} {m : MethodId} {args : Array Value} {below : List Frame} {meth : Method} {c : Code} {T : State} {locs : List Loc} {cells slots : Nat} {Z : State} {a0 : Array Value} {h h' : Heap} {a b : Addr} {ty : FieldType} {n : Nat} {f f' : Nat → Int32}
theorem own_nn {i : Nat} (hi : i < 2 ^ 31) : ¬ Int32.ofNat i < 0 := by
  rw [Int32.lt_iff_toInt_lt, Int32.toInt_ofNat_of_lt (by omega), show (0 : Int32).toInt = 0 from rfl]; omega
theorem own_n32 {i : Nat} (hi : i < 2 ^ 31) : (Int32.ofNat i).toNatClampNeg = i := by
  rw [Int32.toNatClampNeg, Int32.toInt_ofNat_of_lt (by omega)]; rfl
theorem own_ti {i : Nat} (hi : i < 2 ^ 31) : (Int32.ofNat i).toInt = (i : Int) := Int32.toInt_ofNat_of_lt (by omega)
theorem own_lt {i j : Nat} (hi : i < 2 ^ 31) (hj : j < 2 ^ 31) : Int32.ofNat i < Int32.ofNat j ↔ i < j := by
  rw [Int32.lt_iff_toInt_lt, own_ti hi, own_ti hj]; omega
theorem own_one (i : Nat) : Int32.ofNat i + (1 : Int32) = Int32.ofNat (i + 1) := (Int32.ofNat_add i 1).symm
theorem own_eq {i j : Nat} (hi : i < 2 ^ 31) (hj : j < 2 ^ 31) : Int32.ofNat i = Int32.ofNat j ↔ i = j := by
  rw [← Int32.toInt_inj, own_ti hi, own_ti hj]; omega
/-- an array of ints (bytes, chars): n places, place j holds f j -/
def Iar (Z : State) (h : Heap) (a : Addr) (ty : FieldType) (n : Nat) (f : Nat → Int32) : Prop :=
  n < 2 ^ 31 ∧ ∃ c : Cell, Arr Z h a c ty ∧ c.slots.size = n ∧ (∀ j, j < n → c.slots[j]? = some (.int (f j))) ∧ ∀ j, j < n → fits ty (.int (f j)) = true
theorem Iar.lt (F : Iar Z h a ty n f) : a < h.size := by obtain ⟨-, c, A, -⟩ := F; exact A.lt
theorem Iar.ext (F : Iar Z h a ty n f) (E : Ext h h') : Iar Z h' a ty n f := by obtain ⟨q, c, A, r⟩ := F; exact ⟨q, c, A.ext E, r⟩
theorem Iar.other {sl : Nat} {v : Value} (F : Iar Z h b ty n f) (W : Wr h h' a sl v) (q : b ≠ a) : Iar Z h' b ty n f := by obtain ⟨z, c, A, r⟩ := F; exact ⟨z, c, A.other W q, r⟩
theorem Iar.keep {ws : List Addr} (F : Iar Z h a ty n f) (K : Keep h h' ws) (q : a ∉ ws) : Iar Z h' a ty n f := by obtain ⟨z, c, A, r⟩ := F; exact ⟨z, c, ⟨K.2.1 a c A.1 q, A.2⟩, r⟩
theorem Iar.congr (F : Iar Z h a ty n f) (q : ∀ j, j < n → f j = f' j) : Iar Z h a ty n f' := by
  obtain ⟨z, c, A, S, H, G⟩ := F
  exact ⟨z, c, A, S, fun j hj => by rw [← q j hj]; exact H j hj, fun j hj => by rw [← q j hj]; exact G j hj⟩
theorem Iar.new {z : Int32} {k : ClassId} (A : Arr Z h a (newA k ty z) ty) (hz : z = Int32.ofNat n) (hn : n < 2 ^ 31) (hd : defaultValue ty = .int 0) (hf : fits ty (.int 0) = true) : Iar Z h a ty n (fun _ => 0) := by
  have e1 : z.toNatClampNeg = n := by rw [hz]; exact own_n32 hn
  refine ⟨hn, _, A, by rw [sz_new]; exact e1, fun j hj => ?_, fun j hj => hf⟩
  show (Array.replicate z.toNatClampNeg (defaultValue ty))[j]? = _
  rw [e1, hd, Array.getElem?_replicate, if_pos hj]
theorem Iar.set (F : Iar Z h a ty n f) {j : Int32} {i : Nat} {v : Int32} (W : Wr h h' a j.toNatClampNeg (.int v)) (hj : j.toNatClampNeg = i) (hv : fits ty (.int v) = true) : Iar Z h' a ty n (fun k => if k = i then v else f k) := by
  obtain ⟨z, c, A, S, H, G⟩ := F
  refine ⟨z, _, A.same W, by rw [sz_set]; exact S, fun k hk => ?_, fun k hk => ?_⟩
  · show (c.slots.setIfInBounds j.toNatClampNeg (.int v))[k]? = some (.int (if k = i then v else f k))
    rw [hj, Array.getElem?_setIfInBounds]
    by_cases q : k = i
    · subst q; rw [if_pos rfl, if_pos (by omega), if_pos rfl]
    · rw [if_neg (fun y => q y.symm), if_neg q]; exact H k hk
  · by_cases q : k = i
    · simp only [q, if_true]; exact hv
    · simp only [q, if_false]; exact G k hk
theorem Iar.inb {j : Int32} {i : Nat} {cl : Cell} (S : cl.slots.size = n) (hj : j.toNatClampNeg = i) (h0 : ¬ j < 0) (hi : i < n) : ¬ (j < 0 ∨ cl.slots.size ≤ j.toNatClampNeg) := by
  rw [S, hj]; exact fun q => q.elim h0 (fun q => by omega)
theorem own_ldB {g : JFrame} {rest : List Value} {j : Int32} {i : Nat} (X : Stand p l e R s m args below meth c T locs cells slots) (hx : p.tables.exec = Jvm.exec) (hZ : Z.Warmed39 s.vm) (eT : T.heap = h) (F : Iar Z h a .byte n f) (hj : j.toNatClampNeg = i) (h0 : ¬ j < 0) (hi : i < n)
    (hg : g.method = m) (hs : g.stack = .int j :: .ref a :: rest) (hd : decode c.code g.pc = .ok (.baload, 1)) (target : State) (k : Steps p.tables e below (T.setTop { g with pc := g.pc + 1, stack := .int (f i) :: rest }) target) : Steps p.tables e below (T.setTop g) target := by
  obtain ⟨z, cl, A, S, H, G⟩ := F
  exact X.baloadBytes hx (by rw [eT]; exact A.1) (State.isArrayOf_alike hZ.alike A.2.1) A.2.2 (Iar.inb S hj h0 hi) (by rw [hj]; exact H i hi) hg hs hd _ k
theorem own_ldC {g : JFrame} {rest : List Value} {j : Int32} {i : Nat} (X : Stand p l e R s m args below meth c T locs cells slots) (hx : p.tables.exec = Jvm.exec) (hZ : Z.Warmed39 s.vm) (eT : T.heap = h) (F : Iar Z h a .char n f) (hj : j.toNatClampNeg = i) (h0 : ¬ j < 0) (hi : i < n)
    (hg : g.method = m) (hs : g.stack = .int j :: .ref a :: rest) (hd : decode c.code g.pc = .ok (.caload, 1)) (target : State) (k : Steps p.tables e below (T.setTop { g with pc := g.pc + 1, stack := .int (f i) :: rest }) target) : Steps p.tables e below (T.setTop g) target := by
  obtain ⟨z, cl, A, S, H, G⟩ := F
  exact X.caload hx (by rw [eT]; exact A.1) (State.isArrayOf_alike hZ.alike A.2.1) A.2.2 (Iar.inb S hj h0 hi) (by rw [hj]; exact H i hi) hg hs hd _ k
theorem own_ldI {g : JFrame} {rest : List Value} {j : Int32} {i : Nat} (X : Stand p l e R s m args below meth c T locs cells slots) (hx : p.tables.exec = Jvm.exec) (hZ : Z.Warmed39 s.vm) (eT : T.heap = h) (F : Iar Z h a .int n f) (hj : j.toNatClampNeg = i) (h0 : ¬ j < 0) (hi : i < n)
    (hg : g.method = m) (hs : g.stack = .int j :: .ref a :: rest) (hd : decode c.code g.pc = .ok (.iaload, 1)) (target : State) (k : Steps p.tables e below (T.setTop { g with pc := g.pc + 1, stack := .int (f i) :: rest }) target) : Steps p.tables e below (T.setTop g) target := by
  obtain ⟨z, cl, A, S, H, G⟩ := F
  exact X.iaload hx (by rw [eT]; exact A.1) (State.isArrayOf_alike hZ.alike A.2.1) A.2.2 (Iar.inb S hj h0 hi) (by rw [hj]; exact H i hi) hg hs hd _ k
theorem own_len {g : JFrame} {rest : List Value} (X : Stand p l e R s m args below meth c T locs cells slots) (hx : p.tables.exec = Jvm.exec) (hZ : Z.Warmed39 s.vm) (eT : T.heap = h) (F : Iar Z h a ty n f)
    (hg : g.method = m) (hs : g.stack = .ref a :: rest) (hd : decode c.code g.pc = .ok (.arraylength, 1)) (target : State) (k : Steps p.tables e below (T.setTop { g with pc := g.pc + 1, stack := .int (Int32.ofNat n) :: rest }) target) : Steps p.tables e below (T.setTop g) target := by
  obtain ⟨z, cl, A, S, H, G⟩ := F
  refine X.arraylength hx (by rw [eT]; exact A.1) (State.isArrayOf_alike hZ.alike A.2.1) hg hs hd _ ?_
  rw [S]; exact k
theorem own_stB {g : JFrame} {rest : List Value} {j x : Int32} {i : Nat} (X : Stand p l e R s m args below meth c T locs cells slots) (hx : p.tables.exec = Jvm.exec) (hZ : Z.Warmed39 s.vm) (eT : T.heap = h) (F : Iar Z h a .byte n f) (hj : j.toNatClampNeg = i) (h0 : ¬ j < 0) (hi : i < n)
    (hg : g.method = m) (hs : g.stack = .int x :: .int j :: .ref a :: rest) (hd : decode c.code g.pc = .ok (.bastore, 1)) :
    ∃ T' h', Stand p l e R s m args below meth c T' (locs ++ [⟨a, j.toNatClampNeg⟩]) cells slots ∧ T'.heap = h' ∧ Wr h h' a j.toNatClampNeg (.int (nar .byte x)) ∧ Iar Z h' a .byte n (fun k => if k = i then nar .byte x else f k) ∧
      ∀ target, Steps p.tables e below (T'.setTop { g with pc := g.pc + 1, stack := rest }) target → Steps p.tables e below (T.setTop g) target := by
  have F' := F
  obtain ⟨z, cl, A, S, H, G⟩ := F
  obtain ⟨T1, h1, X1, e1, W1, st1⟩ := stB X hx hZ eT A (Iar.inb S hj h0 hi) hg hs hd
  exact ⟨T1, h1, X1, e1, W1, F'.set W1 hj (fits_nar_byte x), st1⟩
theorem own_stC {g : JFrame} {rest : List Value} {j x : Int32} {i : Nat} (X : Stand p l e R s m args below meth c T locs cells slots) (hx : p.tables.exec = Jvm.exec) (hZ : Z.Warmed39 s.vm) (eT : T.heap = h) (F : Iar Z h a .char n f) (hj : j.toNatClampNeg = i) (h0 : ¬ j < 0) (hi : i < n)
    (hg : g.method = m) (hs : g.stack = .int x :: .int j :: .ref a :: rest) (hd : decode c.code g.pc = .ok (.castore, 1)) :
    ∃ T' h', Stand p l e R s m args below meth c T' (locs ++ [⟨a, j.toNatClampNeg⟩]) cells slots ∧ T'.heap = h' ∧ Wr h h' a j.toNatClampNeg (.int (nar .char x)) ∧ Iar Z h' a .char n (fun k => if k = i then nar .char x else f k) ∧
      ∀ target, Steps p.tables e below (T'.setTop { g with pc := g.pc + 1, stack := rest }) target → Steps p.tables e below (T.setTop g) target := by
  have F' := F
  obtain ⟨z, cl, A, S, H, G⟩ := F
  obtain ⟨T1, h1, X1, e1, W1, st1⟩ := stC X hx hZ eT A (Iar.inb S hj h0 hi) hg hs hd
  exact ⟨T1, h1, X1, e1, W1, F'.set W1 hj (fits_nar_char x), st1⟩
theorem own_stI {g : JFrame} {rest : List Value} {j x : Int32} {i : Nat} (X : Stand p l e R s m args below meth c T locs cells slots) (hx : p.tables.exec = Jvm.exec) (hZ : Z.Warmed39 s.vm) (eT : T.heap = h) (F : Iar Z h a .int n f) (hj : j.toNatClampNeg = i) (h0 : ¬ j < 0) (hi : i < n)
    (hg : g.method = m) (hs : g.stack = .int x :: .int j :: .ref a :: rest) (hd : decode c.code g.pc = .ok (.iastore, 1)) :
    ∃ T' h', Stand p l e R s m args below meth c T' (locs ++ [⟨a, j.toNatClampNeg⟩]) cells slots ∧ T'.heap = h' ∧ Wr h h' a j.toNatClampNeg (.int x) ∧ Iar Z h' a .int n (fun k => if k = i then x else f k) ∧
      ∀ target, Steps p.tables e below (T'.setTop { g with pc := g.pc + 1, stack := rest }) target → Steps p.tables e below (T.setTop g) target := by
  have F' := F
  obtain ⟨z, cl, A, S, H, G⟩ := F
  obtain ⟨T1, h1, X1, e1, W1, st1⟩ := stI X hx hZ eT A (Iar.inb S hj h0 hi) hg hs hd
  exact ⟨T1, h1, X1, e1, W1, F'.set W1 hj rfl, st1⟩
/-- a callee that only reads: what it returns; it writes nothing; the heap is as it was -/
def QR (F : Value) (h0 : Heap) (v : Option Value) (h : Heap) (L : List Loc) : Prop := v = some F ∧ L = [] ∧ h = h0
/-- ONE STATIC CALL OF A METHOD THAT ONLY READS: the walk stands where it stood, with the answer on the stack -/
theorem own_callR {own : String} {index : Nat} {y : MethodName} {bytes : ByteArray} {maxL : Nat} {ret : Option FieldType} {rm : Room} {W : Nat} {as' : List Value} {F : Value} {g : JFrame} {rest : List Value}
    (X : Stand p l e R s m args below meth c T locs cells slots) (hx : p.tables.exec = Jvm.exec) (hZ : Z.Warmed39 s.vm) (hown : s.vm.findClass own = some m.cls)
    (w1 : (Cond.methodLink own index y).before a0 Z = true) (w2 : (Cond.static y).before a0 Z = true) (w3 : (Cond.initialized y.cls).before a0 Z = true) (w4 : (Cond.code y bytes maxL ret).before a0 Z = true) (hy : y.cls ≠ "java/lang/invoke/MethodHandle" ∧ y.cls ≠ "java/lang/invoke/VarHandle")
    (hM : MetFree l y (head1 [Cond.code y bytes maxL ret] rm) (fun a U => a = as'.toArray ∧ Z.Warmed39 U.vm ∧ U.heap = h) (fun _ _ _ _ _ => True) (fun _ U o U' => ∃ v L, o = .returned v ∧ QR F h v U'.heap L ∧ FrameEnd U o U' L rm.cells rm.slots))
    (hrc : rm.cells = 0) (hrs : rm.slots = 0) (hf : rm.frames + 1 ≤ R.frames) (hl : W + (maxL + 11) + rm.locals ≤ R.locals) (hcc : cells ≤ R.cells) (hss : slots ≤ R.slots) (eT : T.heap = h)
    (hg : g.method = m) (hsize : g.locals.size = c.maxLocals) (hlen : ∀ sig, parseMethodDescriptor y.desc = some sig → as'.length = sig.parameters.length) (hstack : g.stack = as'.reverse ++ rest)
    (hW : 2 * g.monitorRoom + (rest.map fun v => v.category).sum ≤ W) (hdg : decode c.code g.pc = .ok (.invokestatic index, 3)) :
    ∃ T', Stand p l e R s m args below meth c T' locs cells slots ∧ T'.heap = h ∧
      ∀ target, Steps p.tables e below (T'.setTop { g with pc := g.pc + 3, stack := F :: rest }) target → Steps p.tables e below (T.setTop g) target := by
  obtain ⟨v, _, ⟨T4, L4, k4, n4⟩, -, X4, ⟨Lc4, hQ4, l4, y4, z4⟩, st4⟩ := Jvm.LawKit.callS X hx (y := y) hown (mvT hZ w1) (mvT hZ w2) (mvT hZ w3) (mvT hZ w4) hy (backOf (W := W) hM hZ w4 w3 hf hl) (g := g) hg hsize (argsL := as') (rest := rest) hlen hstack hW hdg
    (fun _ _ => ⟨rfl, eT, by rw [hrc]; exact hcc, by rw [hrs]; exact hss⟩)
  dsimp only [Pt.U, Pt.locs, Pt.cells, Pt.slots] at X4 l4 y4 z4 st4 hQ4
  obtain ⟨rfl, rfl, e4⟩ := hQ4
  rw [hrc, Nat.add_zero] at y4
  rw [hrs, Nat.add_zero] at z4
  rw [List.append_nil] at l4
  subst l4 y4 z4
  exact ⟨T4, X4, e4, st4⟩
end OwnCommon
theorem d1_0 : decode method_3_code 0 = .ok (.iload_n 0, 1) := by decide +kernel
theorem d1_1 : decode method_3_code 1 = .ok (.ifCond .ne 7, 3) := by decide +kernel
theorem d1_4 : decode method_3_code 4 = .ok (.iconst 0, 1) := by decide +kernel
theorem d1_5 : decode method_3_code 5 = .ok (.newarray .char, 2) := by decide +kernel
theorem d1_7 : decode method_3_code 7 = .ok (.areturn, 1) := by decide +kernel
theorem d1_8 : decode method_3_code 8 = .ok (.iload_n 0, 1) := by decide +kernel
theorem d1_9 : decode method_3_code 9 = .ok (.iconst 1, 1) := by decide +kernel
theorem d1_10 : decode method_3_code 10 = .ok (.if_icmp .ne 12, 3) := by decide +kernel
theorem d1_13 : decode method_3_code 13 = .ok (.iconst 1, 1) := by decide +kernel
theorem d1_14 : decode method_3_code 14 = .ok (.newarray .char, 2) := by decide +kernel
theorem d1_16 : decode method_3_code 16 = .ok (.dup, 1) := by decide +kernel
theorem d1_17 : decode method_3_code 17 = .ok (.iconst 0, 1) := by decide +kernel
theorem d1_18 : decode method_3_code 18 = .ok (.iload_n 1, 1) := by decide +kernel
theorem d1_19 : decode method_3_code 19 = .ok (.i2c, 1) := by decide +kernel
theorem d1_20 : decode method_3_code 20 = .ok (.castore, 1) := by decide +kernel
theorem d1_21 : decode method_3_code 21 = .ok (.areturn, 1) := by decide +kernel
theorem d1_22 : decode method_3_code 22 = .ok (.iload_n 0, 1) := by decide +kernel
theorem d1_23 : decode method_3_code 23 = .ok (.iconst 2, 1) := by decide +kernel
theorem d1_24 : decode method_3_code 24 = .ok (.if_icmp .ne 17, 3) := by decide +kernel
theorem d1_27 : decode method_3_code 27 = .ok (.iconst 2, 1) := by decide +kernel
theorem d1_28 : decode method_3_code 28 = .ok (.newarray .char, 2) := by decide +kernel
theorem d1_30 : decode method_3_code 30 = .ok (.dup, 1) := by decide +kernel
theorem d1_31 : decode method_3_code 31 = .ok (.iconst 0, 1) := by decide +kernel
theorem d1_32 : decode method_3_code 32 = .ok (.iload_n 1, 1) := by decide +kernel
theorem d1_33 : decode method_3_code 33 = .ok (.i2c, 1) := by decide +kernel
theorem d1_34 : decode method_3_code 34 = .ok (.castore, 1) := by decide +kernel
theorem d1_35 : decode method_3_code 35 = .ok (.dup, 1) := by decide +kernel
theorem d1_36 : decode method_3_code 36 = .ok (.iconst 1, 1) := by decide +kernel
theorem d1_37 : decode method_3_code 37 = .ok (.iload_n 2, 1) := by decide +kernel
theorem d1_38 : decode method_3_code 38 = .ok (.i2c, 1) := by decide +kernel
theorem d1_39 : decode method_3_code 39 = .ok (.castore, 1) := by decide +kernel
theorem d1_40 : decode method_3_code 40 = .ok (.areturn, 1) := by decide +kernel
theorem d1_41 : decode method_3_code 41 = .ok (.iload_n 0, 1) := by decide +kernel
theorem d1_42 : decode method_3_code 42 = .ok (.iconst 3, 1) := by decide +kernel
theorem d1_43 : decode method_3_code 43 = .ok (.if_icmp .ne 22, 3) := by decide +kernel
theorem d1_46 : decode method_3_code 46 = .ok (.iconst 3, 1) := by decide +kernel
theorem d1_47 : decode method_3_code 47 = .ok (.newarray .char, 2) := by decide +kernel
theorem d1_49 : decode method_3_code 49 = .ok (.dup, 1) := by decide +kernel
theorem d1_50 : decode method_3_code 50 = .ok (.iconst 0, 1) := by decide +kernel
theorem d1_51 : decode method_3_code 51 = .ok (.iload_n 1, 1) := by decide +kernel
theorem d1_52 : decode method_3_code 52 = .ok (.i2c, 1) := by decide +kernel
theorem d1_53 : decode method_3_code 53 = .ok (.castore, 1) := by decide +kernel
theorem d1_54 : decode method_3_code 54 = .ok (.dup, 1) := by decide +kernel
theorem d1_55 : decode method_3_code 55 = .ok (.iconst 1, 1) := by decide +kernel
theorem d1_56 : decode method_3_code 56 = .ok (.iload_n 2, 1) := by decide +kernel
theorem d1_57 : decode method_3_code 57 = .ok (.i2c, 1) := by decide +kernel
theorem d1_58 : decode method_3_code 58 = .ok (.castore, 1) := by decide +kernel
theorem d1_59 : decode method_3_code 59 = .ok (.dup, 1) := by decide +kernel
theorem d1_60 : decode method_3_code 60 = .ok (.iconst 2, 1) := by decide +kernel
theorem d1_61 : decode method_3_code 61 = .ok (.iload_n 3, 1) := by decide +kernel
theorem d1_62 : decode method_3_code 62 = .ok (.i2c, 1) := by decide +kernel
theorem d1_63 : decode method_3_code 63 = .ok (.castore, 1) := by decide +kernel
theorem d1_64 : decode method_3_code 64 = .ok (.areturn, 1) := by decide +kernel
theorem d1_65 : decode method_3_code 65 = .ok (.iconst 4, 1) := by decide +kernel
theorem d1_66 : decode method_3_code 66 = .ok (.newarray .char, 2) := by decide +kernel
theorem d1_68 : decode method_3_code 68 = .ok (.dup, 1) := by decide +kernel
theorem d1_69 : decode method_3_code 69 = .ok (.iconst 0, 1) := by decide +kernel
theorem d1_70 : decode method_3_code 70 = .ok (.iload_n 1, 1) := by decide +kernel
theorem d1_71 : decode method_3_code 71 = .ok (.i2c, 1) := by decide +kernel
theorem d1_72 : decode method_3_code 72 = .ok (.castore, 1) := by decide +kernel
theorem d1_73 : decode method_3_code 73 = .ok (.dup, 1) := by decide +kernel
theorem d1_74 : decode method_3_code 74 = .ok (.iconst 1, 1) := by decide +kernel
theorem d1_75 : decode method_3_code 75 = .ok (.iload_n 2, 1) := by decide +kernel
theorem d1_76 : decode method_3_code 76 = .ok (.i2c, 1) := by decide +kernel
theorem d1_77 : decode method_3_code 77 = .ok (.castore, 1) := by decide +kernel
theorem d1_78 : decode method_3_code 78 = .ok (.dup, 1) := by decide +kernel
theorem d1_79 : decode method_3_code 79 = .ok (.iconst 2, 1) := by decide +kernel
theorem d1_80 : decode method_3_code 80 = .ok (.iload_n 3, 1) := by decide +kernel
theorem d1_81 : decode method_3_code 81 = .ok (.i2c, 1) := by decide +kernel
theorem d1_82 : decode method_3_code 82 = .ok (.castore, 1) := by decide +kernel
theorem d1_83 : decode method_3_code 83 = .ok (.dup, 1) := by decide +kernel
theorem d1_84 : decode method_3_code 84 = .ok (.iconst 3, 1) := by decide +kernel
theorem d1_85 : decode method_3_code 85 = .ok (.iload 4, 2) := by decide +kernel
theorem d1_87 : decode method_3_code 87 = .ok (.i2c, 1) := by decide +kernel
theorem d1_88 : decode method_3_code 88 = .ok (.castore, 1) := by decide +kernel
theorem d1_89 : decode method_3_code 89 = .ok (.areturn, 1) := by decide +kernel
theorem pd_1 : parseMethodDescriptor "(IIIII)[C" = some ⟨[.int, .int, .int, .int, .int], some (.array .char)⟩ := by decide +kernel
theorem pn_1 : plainName "com/example/onward/onward/eval/ExcerptPlacesBelowPinLaw" = true := by first | (simp [plainName, overriddenIn]; done) | decide +kernel
theorem d2_0 : decode method_4_code 0 = .ok (.iconst 0, 1) := by decide +kernel
theorem d2_1 : decode method_4_code 1 = .ok (.istore 6, 2) := by decide +kernel
theorem d2_3 : decode method_4_code 3 = .ok (.iload_n 0, 1) := by decide +kernel
theorem d2_4 : decode method_4_code 4 = .ok (.ifCond .le 11, 3) := by decide +kernel
theorem d2_7 : decode method_4_code 7 = .ok (.iload_n 2, 1) := by decide +kernel
theorem d2_8 : decode method_4_code 8 = .ok (.iload_n 1, 1) := by decide +kernel
theorem d2_9 : decode method_4_code 9 = .ok (.if_icmp .ge 6, 3) := by decide +kernel
theorem d2_12 : decode method_4_code 12 = .ok (.iinc 6 1, 3) := by decide +kernel
theorem d2_15 : decode method_4_code 15 = .ok (.iload_n 0, 1) := by decide +kernel
theorem d2_16 : decode method_4_code 16 = .ok (.iconst 1, 1) := by decide +kernel
theorem d2_17 : decode method_4_code 17 = .ok (.if_icmp .le 11, 3) := by decide +kernel
theorem d2_20 : decode method_4_code 20 = .ok (.iload_n 3, 1) := by decide +kernel
theorem d2_21 : decode method_4_code 21 = .ok (.iload_n 1, 1) := by decide +kernel
theorem d2_22 : decode method_4_code 22 = .ok (.if_icmp .ge 6, 3) := by decide +kernel
theorem d2_25 : decode method_4_code 25 = .ok (.iinc 6 1, 3) := by decide +kernel
theorem d2_28 : decode method_4_code 28 = .ok (.iload_n 0, 1) := by decide +kernel
theorem d2_29 : decode method_4_code 29 = .ok (.iconst 2, 1) := by decide +kernel
theorem d2_30 : decode method_4_code 30 = .ok (.if_icmp .le 12, 3) := by decide +kernel
theorem d2_33 : decode method_4_code 33 = .ok (.iload 4, 2) := by decide +kernel
theorem d2_35 : decode method_4_code 35 = .ok (.iload_n 1, 1) := by decide +kernel
theorem d2_36 : decode method_4_code 36 = .ok (.if_icmp .ge 6, 3) := by decide +kernel
theorem d2_39 : decode method_4_code 39 = .ok (.iinc 6 1, 3) := by decide +kernel
theorem d2_42 : decode method_4_code 42 = .ok (.iload_n 0, 1) := by decide +kernel
theorem d2_43 : decode method_4_code 43 = .ok (.iconst 3, 1) := by decide +kernel
theorem d2_44 : decode method_4_code 44 = .ok (.if_icmp .le 12, 3) := by decide +kernel
theorem d2_47 : decode method_4_code 47 = .ok (.iload 5, 2) := by decide +kernel
theorem d2_49 : decode method_4_code 49 = .ok (.iload_n 1, 1) := by decide +kernel
theorem d2_50 : decode method_4_code 50 = .ok (.if_icmp .ge 6, 3) := by decide +kernel
theorem d2_53 : decode method_4_code 53 = .ok (.iinc 6 1, 3) := by decide +kernel
theorem d2_56 : decode method_4_code 56 = .ok (.iload 6, 2) := by decide +kernel
theorem d2_58 : decode method_4_code 58 = .ok (.ireturn, 1) := by decide +kernel
theorem pd_2 : parseMethodDescriptor "(IIIIII)I" = some ⟨[.int, .int, .int, .int, .int, .int], some .int⟩ := by decide +kernel
theorem pn_2 : plainName "com/example/onward/onward/eval/ExcerptPlacesBelowPinLaw" = true := by first | (simp [plainName, overriddenIn]; done) | decide +kernel
theorem d3_0 : decode prog_54_method_5_code 0 = .ok (.aload_n 0, 1) := by decide +kernel
theorem d3_1 : decode prog_54_method_5_code 1 = .ok (.ifnonnull 5, 3) := by decide +kernel
theorem d3_4 : decode prog_54_method_5_code 4 = .ok (.iconst 0, 1) := by decide +kernel
theorem d3_5 : decode prog_54_method_5_code 5 = .ok (.ireturn, 1) := by decide +kernel
theorem d3_6 : decode prog_54_method_5_code 6 = .ok (.iconst 0, 1) := by decide +kernel
theorem d3_7 : decode prog_54_method_5_code 7 = .ok (.istore_n 2, 1) := by decide +kernel
theorem d3_8 : decode prog_54_method_5_code 8 = .ok (.aload_n 0, 1) := by decide +kernel
theorem d3_9 : decode prog_54_method_5_code 9 = .ok (.arraylength, 1) := by decide +kernel
theorem d3_10 : decode prog_54_method_5_code 10 = .ok (.istore_n 3, 1) := by decide +kernel
theorem d3_11 : decode prog_54_method_5_code 11 = .ok (.iload_n 2, 1) := by decide +kernel
theorem d3_12 : decode prog_54_method_5_code 12 = .ok (.iload_n 3, 1) := by decide +kernel
theorem d3_13 : decode prog_54_method_5_code 13 = .ok (.if_icmp .ge 32, 3) := by decide +kernel
theorem d3_16 : decode prog_54_method_5_code 16 = .ok (.iload_n 2, 1) := by decide +kernel
theorem d3_17 : decode prog_54_method_5_code 17 = .ok (.iload_n 3, 1) := by decide +kernel
theorem d3_18 : decode prog_54_method_5_code 18 = .ok (.iadd, 1) := by decide +kernel
theorem d3_19 : decode prog_54_method_5_code 19 = .ok (.iconst 1, 1) := by decide +kernel
theorem d3_20 : decode prog_54_method_5_code 20 = .ok (.iushr, 1) := by decide +kernel
theorem d3_21 : decode prog_54_method_5_code 21 = .ok (.istore 4, 2) := by decide +kernel
theorem d3_23 : decode prog_54_method_5_code 23 = .ok (.aload_n 0, 1) := by decide +kernel
theorem d3_24 : decode prog_54_method_5_code 24 = .ok (.iload 4, 2) := by decide +kernel
theorem d3_26 : decode prog_54_method_5_code 26 = .ok (.caload, 1) := by decide +kernel
theorem d3_27 : decode prog_54_method_5_code 27 = .ok (.iload_n 1, 1) := by decide +kernel
theorem d3_28 : decode prog_54_method_5_code 28 = .ok (.if_icmp .ge 11, 3) := by decide +kernel
theorem d3_31 : decode prog_54_method_5_code 31 = .ok (.iload 4, 2) := by decide +kernel
theorem d3_33 : decode prog_54_method_5_code 33 = .ok (.iconst 1, 1) := by decide +kernel
theorem d3_34 : decode prog_54_method_5_code 34 = .ok (.iadd, 1) := by decide +kernel
theorem d3_35 : decode prog_54_method_5_code 35 = .ok (.istore_n 2, 1) := by decide +kernel
theorem d3_36 : decode prog_54_method_5_code 36 = .ok (.goto 6, 3) := by decide +kernel
theorem d3_39 : decode prog_54_method_5_code 39 = .ok (.iload 4, 2) := by decide +kernel
theorem d3_41 : decode prog_54_method_5_code 41 = .ok (.istore_n 3, 1) := by decide +kernel
theorem d3_42 : decode prog_54_method_5_code 42 = .ok (.goto (-31), 3) := by decide +kernel
theorem d3_45 : decode prog_54_method_5_code 45 = .ok (.iload_n 2, 1) := by decide +kernel
theorem d3_46 : decode prog_54_method_5_code 46 = .ok (.ireturn, 1) := by decide +kernel
theorem pd_3 : parseMethodDescriptor "([CI)I" = some ⟨[(.array .char), .int], some .int⟩ := by decide +kernel
theorem pn_3 : plainName "com/example/onward/onward/eval/Excerpt" = true := by first | (simp [plainName, overriddenIn]; done) | decide +kernel
theorem d4_0 : decode jdk_29_method_69_code 0 = .ok (.iload_n 0, 1) := by decide +kernel
theorem d4_1 : decode jdk_29_method_69_code 1 = .ok (.iload_n 1, 1) := by decide +kernel
theorem d4_2 : decode jdk_29_method_69_code 2 = .ok (.if_icmp .gt 7, 3) := by decide +kernel
theorem d4_5 : decode jdk_29_method_69_code 5 = .ok (.iload_n 0, 1) := by decide +kernel
theorem d4_6 : decode jdk_29_method_69_code 6 = .ok (.goto 4, 3) := by decide +kernel
theorem d4_9 : decode jdk_29_method_69_code 9 = .ok (.iload_n 1, 1) := by decide +kernel
theorem d4_10 : decode jdk_29_method_69_code 10 = .ok (.ireturn, 1) := by decide +kernel
theorem pd_4 : parseMethodDescriptor "(II)I" = some ⟨[.int, .int], some .int⟩ := by decide +kernel
theorem d5_0 : decode jdk_29_method_65_code 0 = .ok (.iload_n 0, 1) := by decide +kernel
theorem d5_1 : decode jdk_29_method_65_code 1 = .ok (.iload_n 1, 1) := by decide +kernel
theorem d5_2 : decode jdk_29_method_65_code 2 = .ok (.if_icmp .lt 7, 3) := by decide +kernel
theorem d5_5 : decode jdk_29_method_65_code 5 = .ok (.iload_n 0, 1) := by decide +kernel
theorem d5_6 : decode jdk_29_method_65_code 6 = .ok (.goto 4, 3) := by decide +kernel
theorem d5_9 : decode jdk_29_method_65_code 9 = .ok (.iload_n 1, 1) := by decide +kernel
theorem d5_10 : decode jdk_29_method_65_code 10 = .ok (.ireturn, 1) := by decide +kernel
theorem pd_5 : parseMethodDescriptor "(II)I" = some ⟨[.int, .int], some .int⟩ := by decide +kernel
theorem pn_0 : plainName "com/example/onward/onward/eval/ExcerptPlacesBelowPinLaw" = true := by first | (simp [plainName, overriddenIn]; done) | decide +kernel
def own_min (u v : Int32) : Int32 := if v < u then v else u
theorem ef_4 (m : MethodId) (u : Int32) (v : Int32) : entryFrame m #[(.int u), (.int v)] 2 = mkF m 0 #[.val (.int u), .val (.int v)] [] := by first | (simp [entryFrame, mkF, argsToLocals, Value.category]; done) | rfl
set_option maxRecDepth 65536 in
set_option maxHeartbeats 40000000 in
theorem rm_min (l : Launch) (Z : State) (a0 : Array Value) (hw : ∀ d ∈ tables_1, d.before a0 Z = true) (ws : List Jvm.Cond) (u v : Int32) (h0 : Heap) :
    MetFree l (⟨"java/lang/Math", "min", "(II)I"⟩ : MethodName) (head1 (Jvm.Cond.code (⟨"java/lang/Math", "min", "(II)I"⟩ : MethodName) jdk_29_method_69_code 2 (some .int) :: ws) ({ frames := 0, cells := 0, slots := 0, locals := 0 } : Room)) (fun ar_ U => ar_ = #[(.int u), (.int v)] ∧ Z.Warmed39 U.vm ∧ U.heap = h0) (fun _ _ _ _ _ => True) (fun _ U o U' => ∃ v_ L, o = .returned v_ ∧ QR (.int (own_min u v)) h0 v_ U'.heap L ∧ FrameEnd U o U' L ({ frames := 0, cells := 0, slots := 0, locals := 0 } : Room).cells ({ frames := 0, cells := 0, slots := 0, locals := 0 } : Room).slots) := by
  refine MetFree.of_bodySF (Jvm.Free.JP.mathPlain rfl (by decide +kernel)) hisR ?_
  intro p e s m args below meth c s₁ Bd hml0 hP hK
  obtain ⟨rfl, hZ, hh⟩ := hP
  have hx := Bd.exec
  have hby := Bd.bytes
  have hml : c.maxLocals = 2 := hml0
  have hown : s.vm.findClass "java/lang/Math" = some m.cls := findClass_of_methodNamed Bd.named
  have hnm := (name_of_methodNamed Bd.named Bd.method).1
  have X0 : Stand p l e ({ frames := 0, cells := 0, slots := 0, locals := 0 } : Room) s m #[(.int u), (.int v)] below meth c s₁ [] 0 0 := Stand.of_body Bd
  have e0 : s₁.heap = h0 := by rw [← hh, Bd.state]; rfl
  have pre0 : ∀ t, Steps p.tables e below (s₁.setTop (mkF m 0 #[.val (.int u), .val (.int v)] [])) t → Steps p.tables e below (s₁.setTop (entryFrame m #[(.int u), (.int v)] 2)) t := fun t_ k_ => castTop (ef_4 m u v) k_
  obtain ⟨fs, hr, hrun, hended, hW, hsame⟩ := X0.leave (v := some (.int (own_min u v))) (fun h => by rw [Bd.returns] at h; cases h)
  refine ⟨_, _, pre0 _ ?_, hrun, hended, _, _, rfl, ?_, ⟨_, rfl⟩, hW, hsame.mono (by decide) (by decide)⟩
  · show Steps p.tables e below (s₁.setTop (mkF m 0 #[.val (.int u), .val (.int v)] [])) _
    refine XS.iloadN X0.here hx rfl (hb hby d4_0) rfl ?_
    show Steps p.tables e below (s₁.setTop (mkF m 1 #[.val (.int u), .val (.int v)] [(.int u)])) _
    refine XS.iloadN X0.here hx rfl (hb hby d4_1) rfl ?_
    by_cases hc2 : v < u
    · show Steps p.tables e below (s₁.setTop (mkF m 2 #[.val (.int u), .val (.int v)] [(.int v), (.int u)])) _
      refine XS.icmpYes X0.here hx rfl (pc0 := 2) (pc' := 9) rfl (hb hby d4_2) rfl (tlt hc2).2.2.1 (by decide) (by decide) ?_
      show Steps p.tables e below (s₁.setTop (mkF m 9 #[.val (.int u), .val (.int v)] [])) _
      refine XS.iloadN X0.here hx rfl (hb hby d4_9) rfl ?_
      show Steps p.tables e below (s₁.setTop (mkF m 10 #[.val (.int u), .val (.int v)] [(.int v)])) _
      have hF : own_min u v = v := by rw [own_min, if_pos hc2]
      rw [hF] at hr
      exact retI X0 hx Bd.returns (hb hby d4_10) hr
    · show Steps p.tables e below (s₁.setTop (mkF m 2 #[.val (.int u), .val (.int v)] [(.int v), (.int u)])) _
      refine XS.icmpNo X0.here hx rfl (hb hby d4_2) rfl (flt hc2).2.2.1 ?_
      show Steps p.tables e below (s₁.setTop (mkF m 5 #[.val (.int u), .val (.int v)] [])) _
      refine XS.iloadN X0.here hx rfl (hb hby d4_5) rfl ?_
      show Steps p.tables e below (s₁.setTop (mkF m 6 #[.val (.int u), .val (.int v)] [(.int u)])) _
      refine XS.goto X0.here hx rfl (pc0 := 6) (pc' := 10) rfl (hb hby d4_6) (by decide) (by decide) ?_
      show Steps p.tables e below (s₁.setTop (mkF m 10 #[.val (.int u), .val (.int v)] [(.int u)])) _
      have hF : own_min u v = u := by rw [own_min, if_neg hc2]
      rw [hF] at hr
      exact retI X0 hx Bd.returns (hb hby d4_10) hr
  · exact ⟨rfl, rfl, e0⟩
def own_max (u v : Int32) : Int32 := if u < v then v else u
theorem ef_5 (m : MethodId) (u : Int32) (v : Int32) : entryFrame m #[(.int u), (.int v)] 2 = mkF m 0 #[.val (.int u), .val (.int v)] [] := by first | (simp [entryFrame, mkF, argsToLocals, Value.category]; done) | rfl
set_option maxRecDepth 65536 in
set_option maxHeartbeats 40000000 in
theorem rm_max (l : Launch) (Z : State) (a0 : Array Value) (hw : ∀ d ∈ tables_1, d.before a0 Z = true) (ws : List Jvm.Cond) (u v : Int32) (h0 : Heap) :
    MetFree l (⟨"java/lang/Math", "max", "(II)I"⟩ : MethodName) (head1 (Jvm.Cond.code (⟨"java/lang/Math", "max", "(II)I"⟩ : MethodName) jdk_29_method_65_code 2 (some .int) :: ws) ({ frames := 0, cells := 0, slots := 0, locals := 0 } : Room)) (fun ar_ U => ar_ = #[(.int u), (.int v)] ∧ Z.Warmed39 U.vm ∧ U.heap = h0) (fun _ _ _ _ _ => True) (fun _ U o U' => ∃ v_ L, o = .returned v_ ∧ QR (.int (own_max u v)) h0 v_ U'.heap L ∧ FrameEnd U o U' L ({ frames := 0, cells := 0, slots := 0, locals := 0 } : Room).cells ({ frames := 0, cells := 0, slots := 0, locals := 0 } : Room).slots) := by
  refine MetFree.of_bodySF (Jvm.Free.JP.mathPlain rfl (by decide +kernel)) hisR ?_
  intro p e s m args below meth c s₁ Bd hml0 hP hK
  obtain ⟨rfl, hZ, hh⟩ := hP
  have hx := Bd.exec
  have hby := Bd.bytes
  have hml : c.maxLocals = 2 := hml0
  have hown : s.vm.findClass "java/lang/Math" = some m.cls := findClass_of_methodNamed Bd.named
  have hnm := (name_of_methodNamed Bd.named Bd.method).1
  have X0 : Stand p l e ({ frames := 0, cells := 0, slots := 0, locals := 0 } : Room) s m #[(.int u), (.int v)] below meth c s₁ [] 0 0 := Stand.of_body Bd
  have e0 : s₁.heap = h0 := by rw [← hh, Bd.state]; rfl
  have pre0 : ∀ t, Steps p.tables e below (s₁.setTop (mkF m 0 #[.val (.int u), .val (.int v)] [])) t → Steps p.tables e below (s₁.setTop (entryFrame m #[(.int u), (.int v)] 2)) t := fun t_ k_ => castTop (ef_5 m u v) k_
  obtain ⟨fs, hr, hrun, hended, hW, hsame⟩ := X0.leave (v := some (.int (own_max u v))) (fun h => by rw [Bd.returns] at h; cases h)
  refine ⟨_, _, pre0 _ ?_, hrun, hended, _, _, rfl, ?_, ⟨_, rfl⟩, hW, hsame.mono (by decide) (by decide)⟩
  · show Steps p.tables e below (s₁.setTop (mkF m 0 #[.val (.int u), .val (.int v)] [])) _
    refine XS.iloadN X0.here hx rfl (hb hby d5_0) rfl ?_
    show Steps p.tables e below (s₁.setTop (mkF m 1 #[.val (.int u), .val (.int v)] [(.int u)])) _
    refine XS.iloadN X0.here hx rfl (hb hby d5_1) rfl ?_
    by_cases hc2 : u < v
    · show Steps p.tables e below (s₁.setTop (mkF m 2 #[.val (.int u), .val (.int v)] [(.int v), (.int u)])) _
      refine XS.icmpYes X0.here hx rfl (pc0 := 2) (pc' := 9) rfl (hb hby d5_2) rfl (tlt hc2).1 (by decide) (by decide) ?_
      show Steps p.tables e below (s₁.setTop (mkF m 9 #[.val (.int u), .val (.int v)] [])) _
      refine XS.iloadN X0.here hx rfl (hb hby d5_9) rfl ?_
      show Steps p.tables e below (s₁.setTop (mkF m 10 #[.val (.int u), .val (.int v)] [(.int v)])) _
      have hF : own_max u v = v := by rw [own_max, if_pos hc2]
      rw [hF] at hr
      exact retI X0 hx Bd.returns (hb hby d5_10) hr
    · show Steps p.tables e below (s₁.setTop (mkF m 2 #[.val (.int u), .val (.int v)] [(.int v), (.int u)])) _
      refine XS.icmpNo X0.here hx rfl (hb hby d5_2) rfl (flt hc2).1 ?_
      show Steps p.tables e below (s₁.setTop (mkF m 5 #[.val (.int u), .val (.int v)] [])) _
      refine XS.iloadN X0.here hx rfl (hb hby d5_5) rfl ?_
      show Steps p.tables e below (s₁.setTop (mkF m 6 #[.val (.int u), .val (.int v)] [(.int u)])) _
      refine XS.goto X0.here hx rfl (pc0 := 6) (pc' := 10) rfl (hb hby d5_6) (by decide) (by decide) ?_
      show Steps p.tables e below (s₁.setTop (mkF m 10 #[.val (.int u), .val (.int v)] [(.int u)])) _
      have hF : own_max u v = u := by rw [own_max, if_neg hc2]
      rw [hF] at hr
      exact retI X0 hx Bd.returns (hb hby d5_10) hr
  · exact ⟨rfl, rfl, e0⟩
def own_b (n k c x place : Int32) : Int32 := if c < k then (if x < place then n + (1 : Int32) else n) else n
set_option maxRecDepth 65536 in
set_option maxHeartbeats 40000000 in
theorem bl0 {p : Program} {l : Launch} {e : Env} {R : Room} {s : State} {m : MethodId} {args : Array Value} {below : List Frame} {meth : Method} {c : Code} {T0 : State} {locs : List Loc} {cells slots : Nat} {Z : State} {a0 : Array Value} {h0 : Heap} (k place x0 x1 x2 x3 n : Int32) (X0 : Stand p l e R s m args below meth c T0 locs cells slots) (hx : p.tables.exec = Jvm.exec) (hZ : Z.Warmed39 s.vm) (hw : ∀ d ∈ tables_1, d.before a0 Z = true) (hby : c.code = method_4_code) (hml : c.maxLocals = 7) (hown : s.vm.findClass "com/example/onward/onward/eval/ExcerptPlacesBelowPinLaw" = some m.cls) (e0 : T0.heap = h0) : ∀ target, Steps p.tables e below (T0.setTop (mkF m 15 #[.val (.int k), .val (.int place), .val (.int x0), .val (.int x1), .val (.int x2), .val (.int x3), .val (.int (own_b n k 0 x0 place))] [])) target → Steps p.tables e below (T0.setTop (mkF m 3 #[.val (.int k), .val (.int place), .val (.int x0), .val (.int x1), .val (.int x2), .val (.int x3), .val (.int n)] [])) target := by
  intro target kt
  show Steps p.tables e below (T0.setTop (mkF m 3 #[.val (.int k), .val (.int place), .val (.int x0), .val (.int x1), .val (.int x2), .val (.int x3), .val (.int n)] [])) _
  refine XS.iloadN X0.here hx rfl (hb hby d2_3) rfl ?_
  by_cases hc4 : (0 : Int32) < k
  · show Steps p.tables e below (T0.setTop (mkF m 4 #[.val (.int k), .val (.int place), .val (.int x0), .val (.int x1), .val (.int x2), .val (.int x3), .val (.int n)] [(.int k)])) _
    refine XS.ifNo X0.here hx rfl (hb hby d2_4) rfl ((if0 _ _).trans (tlt hc4).2.2.2) ?_
    show Steps p.tables e below (T0.setTop (mkF m 7 #[.val (.int k), .val (.int place), .val (.int x0), .val (.int x1), .val (.int x2), .val (.int x3), .val (.int n)] [])) _
    refine XS.iloadN X0.here hx rfl (hb hby d2_7) rfl ?_
    show Steps p.tables e below (T0.setTop (mkF m 8 #[.val (.int k), .val (.int place), .val (.int x0), .val (.int x1), .val (.int x2), .val (.int x3), .val (.int n)] [(.int x0)])) _
    refine XS.iloadN X0.here hx rfl (hb hby d2_8) rfl ?_
    by_cases hc9 : x0 < place
    · show Steps p.tables e below (T0.setTop (mkF m 9 #[.val (.int k), .val (.int place), .val (.int x0), .val (.int x1), .val (.int x2), .val (.int x3), .val (.int n)] [(.int place), (.int x0)])) _
      refine XS.icmpNo X0.here hx rfl (hb hby d2_9) rfl (tlt hc9).2.1 ?_
      show Steps p.tables e below (T0.setTop (mkF m 12 #[.val (.int k), .val (.int place), .val (.int x0), .val (.int x1), .val (.int x2), .val (.int x3), .val (.int n)] [])) _
      refine XS.iinc X0.here hx rfl (hb hby d2_12) rfl (l' := #[.val (.int k), .val (.int place), .val (.int x0), .val (.int x1), .val (.int x2), .val (.int x3), .val (.int (n + (1 : Int32)))]) rfl ?_
      rw [own_b, if_pos hc4, if_pos hc9] at kt
      exact kt
    · show Steps p.tables e below (T0.setTop (mkF m 9 #[.val (.int k), .val (.int place), .val (.int x0), .val (.int x1), .val (.int x2), .val (.int x3), .val (.int n)] [(.int place), (.int x0)])) _
      refine XS.icmpYes X0.here hx rfl (pc0 := 9) (pc' := 15) rfl (hb hby d2_9) rfl (flt hc9).2.1 (by decide) (by decide) ?_
      rw [own_b, if_pos hc4, if_neg hc9] at kt
      exact kt
  · show Steps p.tables e below (T0.setTop (mkF m 4 #[.val (.int k), .val (.int place), .val (.int x0), .val (.int x1), .val (.int x2), .val (.int x3), .val (.int n)] [(.int k)])) _
    refine XS.ifYes X0.here hx rfl (pc0 := 4) (pc' := 15) rfl (hb hby d2_4) rfl ((if0 _ _).trans (flt hc4).2.2.2) (by decide) (by decide) ?_
    rw [own_b, if_neg hc4] at kt
    exact kt
set_option maxRecDepth 65536 in
set_option maxHeartbeats 40000000 in
theorem bl1 {p : Program} {l : Launch} {e : Env} {R : Room} {s : State} {m : MethodId} {args : Array Value} {below : List Frame} {meth : Method} {c : Code} {T0 : State} {locs : List Loc} {cells slots : Nat} {Z : State} {a0 : Array Value} {h0 : Heap} (k place x0 x1 x2 x3 n : Int32) (X0 : Stand p l e R s m args below meth c T0 locs cells slots) (hx : p.tables.exec = Jvm.exec) (hZ : Z.Warmed39 s.vm) (hw : ∀ d ∈ tables_1, d.before a0 Z = true) (hby : c.code = method_4_code) (hml : c.maxLocals = 7) (hown : s.vm.findClass "com/example/onward/onward/eval/ExcerptPlacesBelowPinLaw" = some m.cls) (e0 : T0.heap = h0) : ∀ target, Steps p.tables e below (T0.setTop (mkF m 28 #[.val (.int k), .val (.int place), .val (.int x0), .val (.int x1), .val (.int x2), .val (.int x3), .val (.int (own_b n k 1 x1 place))] [])) target → Steps p.tables e below (T0.setTop (mkF m 15 #[.val (.int k), .val (.int place), .val (.int x0), .val (.int x1), .val (.int x2), .val (.int x3), .val (.int n)] [])) target := by
  intro target kt
  show Steps p.tables e below (T0.setTop (mkF m 15 #[.val (.int k), .val (.int place), .val (.int x0), .val (.int x1), .val (.int x2), .val (.int x3), .val (.int n)] [])) _
  refine XS.iloadN X0.here hx rfl (hb hby d2_15) rfl ?_
  show Steps p.tables e below (T0.setTop (mkF m 16 #[.val (.int k), .val (.int place), .val (.int x0), .val (.int x1), .val (.int x2), .val (.int x3), .val (.int n)] [(.int k)])) _
  refine XS.iconst X0.here hx rfl (hb hby d2_16) ?_
  by_cases hc17 : (1 : Int32) < k
  · show Steps p.tables e below (T0.setTop (mkF m 17 #[.val (.int k), .val (.int place), .val (.int x0), .val (.int x1), .val (.int x2), .val (.int x3), .val (.int n)] [(.int (1 : Int32)), (.int k)])) _
    refine XS.icmpNo X0.here hx rfl (hb hby d2_17) rfl (tlt hc17).2.2.2 ?_
    show Steps p.tables e below (T0.setTop (mkF m 20 #[.val (.int k), .val (.int place), .val (.int x0), .val (.int x1), .val (.int x2), .val (.int x3), .val (.int n)] [])) _
    refine XS.iloadN X0.here hx rfl (hb hby d2_20) rfl ?_
    show Steps p.tables e below (T0.setTop (mkF m 21 #[.val (.int k), .val (.int place), .val (.int x0), .val (.int x1), .val (.int x2), .val (.int x3), .val (.int n)] [(.int x1)])) _
    refine XS.iloadN X0.here hx rfl (hb hby d2_21) rfl ?_
    by_cases hc22 : x1 < place
    · show Steps p.tables e below (T0.setTop (mkF m 22 #[.val (.int k), .val (.int place), .val (.int x0), .val (.int x1), .val (.int x2), .val (.int x3), .val (.int n)] [(.int place), (.int x1)])) _
      refine XS.icmpNo X0.here hx rfl (hb hby d2_22) rfl (tlt hc22).2.1 ?_
      show Steps p.tables e below (T0.setTop (mkF m 25 #[.val (.int k), .val (.int place), .val (.int x0), .val (.int x1), .val (.int x2), .val (.int x3), .val (.int n)] [])) _
      refine XS.iinc X0.here hx rfl (hb hby d2_25) rfl (l' := #[.val (.int k), .val (.int place), .val (.int x0), .val (.int x1), .val (.int x2), .val (.int x3), .val (.int (n + (1 : Int32)))]) rfl ?_
      rw [own_b, if_pos hc17, if_pos hc22] at kt
      exact kt
    · show Steps p.tables e below (T0.setTop (mkF m 22 #[.val (.int k), .val (.int place), .val (.int x0), .val (.int x1), .val (.int x2), .val (.int x3), .val (.int n)] [(.int place), (.int x1)])) _
      refine XS.icmpYes X0.here hx rfl (pc0 := 22) (pc' := 28) rfl (hb hby d2_22) rfl (flt hc22).2.1 (by decide) (by decide) ?_
      rw [own_b, if_pos hc17, if_neg hc22] at kt
      exact kt
  · show Steps p.tables e below (T0.setTop (mkF m 17 #[.val (.int k), .val (.int place), .val (.int x0), .val (.int x1), .val (.int x2), .val (.int x3), .val (.int n)] [(.int (1 : Int32)), (.int k)])) _
    refine XS.icmpYes X0.here hx rfl (pc0 := 17) (pc' := 28) rfl (hb hby d2_17) rfl (flt hc17).2.2.2 (by decide) (by decide) ?_
    rw [own_b, if_neg hc17] at kt
    exact kt
set_option maxRecDepth 65536 in
set_option maxHeartbeats 40000000 in
theorem bl2 {p : Program} {l : Launch} {e : Env} {R : Room} {s : State} {m : MethodId} {args : Array Value} {below : List Frame} {meth : Method} {c : Code} {T0 : State} {locs : List Loc} {cells slots : Nat} {Z : State} {a0 : Array Value} {h0 : Heap} (k place x0 x1 x2 x3 n : Int32) (X0 : Stand p l e R s m args below meth c T0 locs cells slots) (hx : p.tables.exec = Jvm.exec) (hZ : Z.Warmed39 s.vm) (hw : ∀ d ∈ tables_1, d.before a0 Z = true) (hby : c.code = method_4_code) (hml : c.maxLocals = 7) (hown : s.vm.findClass "com/example/onward/onward/eval/ExcerptPlacesBelowPinLaw" = some m.cls) (e0 : T0.heap = h0) : ∀ target, Steps p.tables e below (T0.setTop (mkF m 42 #[.val (.int k), .val (.int place), .val (.int x0), .val (.int x1), .val (.int x2), .val (.int x3), .val (.int (own_b n k 2 x2 place))] [])) target → Steps p.tables e below (T0.setTop (mkF m 28 #[.val (.int k), .val (.int place), .val (.int x0), .val (.int x1), .val (.int x2), .val (.int x3), .val (.int n)] [])) target := by
  intro target kt
  show Steps p.tables e below (T0.setTop (mkF m 28 #[.val (.int k), .val (.int place), .val (.int x0), .val (.int x1), .val (.int x2), .val (.int x3), .val (.int n)] [])) _
  refine XS.iloadN X0.here hx rfl (hb hby d2_28) rfl ?_
  show Steps p.tables e below (T0.setTop (mkF m 29 #[.val (.int k), .val (.int place), .val (.int x0), .val (.int x1), .val (.int x2), .val (.int x3), .val (.int n)] [(.int k)])) _
  refine XS.iconst X0.here hx rfl (hb hby d2_29) ?_
  by_cases hc30 : (2 : Int32) < k
  · show Steps p.tables e below (T0.setTop (mkF m 30 #[.val (.int k), .val (.int place), .val (.int x0), .val (.int x1), .val (.int x2), .val (.int x3), .val (.int n)] [(.int (2 : Int32)), (.int k)])) _
    refine XS.icmpNo X0.here hx rfl (hb hby d2_30) rfl (tlt hc30).2.2.2 ?_
    show Steps p.tables e below (T0.setTop (mkF m 33 #[.val (.int k), .val (.int place), .val (.int x0), .val (.int x1), .val (.int x2), .val (.int x3), .val (.int n)] [])) _
    refine XS.iload X0.here hx rfl (hb hby d2_33) rfl ?_
    show Steps p.tables e below (T0.setTop (mkF m 35 #[.val (.int k), .val (.int place), .val (.int x0), .val (.int x1), .val (.int x2), .val (.int x3), .val (.int n)] [(.int x2)])) _
    refine XS.iloadN X0.here hx rfl (hb hby d2_35) rfl ?_
    by_cases hc36 : x2 < place
    · show Steps p.tables e below (T0.setTop (mkF m 36 #[.val (.int k), .val (.int place), .val (.int x0), .val (.int x1), .val (.int x2), .val (.int x3), .val (.int n)] [(.int place), (.int x2)])) _
      refine XS.icmpNo X0.here hx rfl (hb hby d2_36) rfl (tlt hc36).2.1 ?_
      show Steps p.tables e below (T0.setTop (mkF m 39 #[.val (.int k), .val (.int place), .val (.int x0), .val (.int x1), .val (.int x2), .val (.int x3), .val (.int n)] [])) _
      refine XS.iinc X0.here hx rfl (hb hby d2_39) rfl (l' := #[.val (.int k), .val (.int place), .val (.int x0), .val (.int x1), .val (.int x2), .val (.int x3), .val (.int (n + (1 : Int32)))]) rfl ?_
      rw [own_b, if_pos hc30, if_pos hc36] at kt
      exact kt
    · show Steps p.tables e below (T0.setTop (mkF m 36 #[.val (.int k), .val (.int place), .val (.int x0), .val (.int x1), .val (.int x2), .val (.int x3), .val (.int n)] [(.int place), (.int x2)])) _
      refine XS.icmpYes X0.here hx rfl (pc0 := 36) (pc' := 42) rfl (hb hby d2_36) rfl (flt hc36).2.1 (by decide) (by decide) ?_
      rw [own_b, if_pos hc30, if_neg hc36] at kt
      exact kt
  · show Steps p.tables e below (T0.setTop (mkF m 30 #[.val (.int k), .val (.int place), .val (.int x0), .val (.int x1), .val (.int x2), .val (.int x3), .val (.int n)] [(.int (2 : Int32)), (.int k)])) _
    refine XS.icmpYes X0.here hx rfl (pc0 := 30) (pc' := 42) rfl (hb hby d2_30) rfl (flt hc30).2.2.2 (by decide) (by decide) ?_
    rw [own_b, if_neg hc30] at kt
    exact kt
set_option maxRecDepth 65536 in
set_option maxHeartbeats 40000000 in
theorem bl3 {p : Program} {l : Launch} {e : Env} {R : Room} {s : State} {m : MethodId} {args : Array Value} {below : List Frame} {meth : Method} {c : Code} {T0 : State} {locs : List Loc} {cells slots : Nat} {Z : State} {a0 : Array Value} {h0 : Heap} (k place x0 x1 x2 x3 n : Int32) (X0 : Stand p l e R s m args below meth c T0 locs cells slots) (hx : p.tables.exec = Jvm.exec) (hZ : Z.Warmed39 s.vm) (hw : ∀ d ∈ tables_1, d.before a0 Z = true) (hby : c.code = method_4_code) (hml : c.maxLocals = 7) (hown : s.vm.findClass "com/example/onward/onward/eval/ExcerptPlacesBelowPinLaw" = some m.cls) (e0 : T0.heap = h0) : ∀ target, Steps p.tables e below (T0.setTop (mkF m 56 #[.val (.int k), .val (.int place), .val (.int x0), .val (.int x1), .val (.int x2), .val (.int x3), .val (.int (own_b n k 3 x3 place))] [])) target → Steps p.tables e below (T0.setTop (mkF m 42 #[.val (.int k), .val (.int place), .val (.int x0), .val (.int x1), .val (.int x2), .val (.int x3), .val (.int n)] [])) target := by
  intro target kt
  show Steps p.tables e below (T0.setTop (mkF m 42 #[.val (.int k), .val (.int place), .val (.int x0), .val (.int x1), .val (.int x2), .val (.int x3), .val (.int n)] [])) _
  refine XS.iloadN X0.here hx rfl (hb hby d2_42) rfl ?_
  show Steps p.tables e below (T0.setTop (mkF m 43 #[.val (.int k), .val (.int place), .val (.int x0), .val (.int x1), .val (.int x2), .val (.int x3), .val (.int n)] [(.int k)])) _
  refine XS.iconst X0.here hx rfl (hb hby d2_43) ?_
  by_cases hc44 : (3 : Int32) < k
  · show Steps p.tables e below (T0.setTop (mkF m 44 #[.val (.int k), .val (.int place), .val (.int x0), .val (.int x1), .val (.int x2), .val (.int x3), .val (.int n)] [(.int (3 : Int32)), (.int k)])) _
    refine XS.icmpNo X0.here hx rfl (hb hby d2_44) rfl (tlt hc44).2.2.2 ?_
    show Steps p.tables e below (T0.setTop (mkF m 47 #[.val (.int k), .val (.int place), .val (.int x0), .val (.int x1), .val (.int x2), .val (.int x3), .val (.int n)] [])) _
    refine XS.iload X0.here hx rfl (hb hby d2_47) rfl ?_
    show Steps p.tables e below (T0.setTop (mkF m 49 #[.val (.int k), .val (.int place), .val (.int x0), .val (.int x1), .val (.int x2), .val (.int x3), .val (.int n)] [(.int x3)])) _
    refine XS.iloadN X0.here hx rfl (hb hby d2_49) rfl ?_
    by_cases hc50 : x3 < place
    · show Steps p.tables e below (T0.setTop (mkF m 50 #[.val (.int k), .val (.int place), .val (.int x0), .val (.int x1), .val (.int x2), .val (.int x3), .val (.int n)] [(.int place), (.int x3)])) _
      refine XS.icmpNo X0.here hx rfl (hb hby d2_50) rfl (tlt hc50).2.1 ?_
      show Steps p.tables e below (T0.setTop (mkF m 53 #[.val (.int k), .val (.int place), .val (.int x0), .val (.int x1), .val (.int x2), .val (.int x3), .val (.int n)] [])) _
      refine XS.iinc X0.here hx rfl (hb hby d2_53) rfl (l' := #[.val (.int k), .val (.int place), .val (.int x0), .val (.int x1), .val (.int x2), .val (.int x3), .val (.int (n + (1 : Int32)))]) rfl ?_
      rw [own_b, if_pos hc44, if_pos hc50] at kt
      exact kt
    · show Steps p.tables e below (T0.setTop (mkF m 50 #[.val (.int k), .val (.int place), .val (.int x0), .val (.int x1), .val (.int x2), .val (.int x3), .val (.int n)] [(.int place), (.int x3)])) _
      refine XS.icmpYes X0.here hx rfl (pc0 := 50) (pc' := 56) rfl (hb hby d2_50) rfl (flt hc50).2.1 (by decide) (by decide) ?_
      rw [own_b, if_pos hc44, if_neg hc50] at kt
      exact kt
  · show Steps p.tables e below (T0.setTop (mkF m 44 #[.val (.int k), .val (.int place), .val (.int x0), .val (.int x1), .val (.int x2), .val (.int x3), .val (.int n)] [(.int (3 : Int32)), (.int k)])) _
    refine XS.icmpYes X0.here hx rfl (pc0 := 44) (pc' := 56) rfl (hb hby d2_44) rfl (flt hc44).2.2.2 (by decide) (by decide) ?_
    rw [own_b, if_neg hc44] at kt
    exact kt
def own_below (k place x0 x1 x2 x3 : Int32) : Int32 := (own_b (own_b (own_b (own_b 0 k 0 x0 place) k 1 x1 place) k 2 x2 place) k 3 x3 place)
theorem ef_2 (m : MethodId) (k : Int32) (place : Int32) (x0 : Int32) (x1 : Int32) (x2 : Int32) (x3 : Int32) : entryFrame m #[(.int k), (.int place), (.int x0), (.int x1), (.int x2), (.int x3)] 7 = mkF m 0 #[.val (.int k), .val (.int place), .val (.int x0), .val (.int x1), .val (.int x2), .val (.int x3), .unset] [] := by first | (simp [entryFrame, mkF, argsToLocals, Value.category]; done) | rfl
set_option maxRecDepth 65536 in
set_option maxHeartbeats 40000000 in
theorem rm_below (l : Launch) (Z : State) (a0 : Array Value) (hw : ∀ d ∈ tables_1, d.before a0 Z = true) (ws : List Jvm.Cond) (k place x0 x1 x2 x3 : Int32) (h0 : Heap) :
    MetFree l (⟨"com/example/onward/onward/eval/ExcerptPlacesBelowPinLaw", "below", "(IIIIII)I"⟩ : MethodName) (head1 (Jvm.Cond.code (⟨"com/example/onward/onward/eval/ExcerptPlacesBelowPinLaw", "below", "(IIIIII)I"⟩ : MethodName) method_4_code 7 (some .int) :: ws) ({ frames := 0, cells := 0, slots := 0, locals := 0 } : Room)) (fun ar_ U => ar_ = #[(.int k), (.int place), (.int x0), (.int x1), (.int x2), (.int x3)] ∧ Z.Warmed39 U.vm ∧ U.heap = h0) (fun _ _ _ _ _ => True) (fun _ U o U' => ∃ v L, o = .returned v ∧ QR (.int (own_below k place x0 x1 x2 x3)) h0 v U'.heap L ∧ FrameEnd U o U' L ({ frames := 0, cells := 0, slots := 0, locals := 0 } : Room).cells ({ frames := 0, cells := 0, slots := 0, locals := 0 } : Room).slots) := by
  refine MetFree.of_bodySF (plainFor_of_name pn_2) hisR ?_
  intro p e s m args below meth c s₁ Bd hml0 hP hK
  obtain ⟨rfl, hZ, hh⟩ := hP
  have hx := Bd.exec
  have hby := Bd.bytes
  have hml : c.maxLocals = 7 := hml0
  have hown : s.vm.findClass "com/example/onward/onward/eval/ExcerptPlacesBelowPinLaw" = some m.cls := findClass_of_methodNamed Bd.named
  have hnm := (name_of_methodNamed Bd.named Bd.method).1
  have X0 : Stand p l e ({ frames := 0, cells := 0, slots := 0, locals := 0 } : Room) s m #[(.int k), (.int place), (.int x0), (.int x1), (.int x2), (.int x3)] below meth c s₁ [] 0 0 := Stand.of_body Bd
  have e0 : s₁.heap = h0 := by rw [← hh, Bd.state]; rfl
  have pre0 : ∀ t, Steps p.tables e below (s₁.setTop (mkF m 0 #[.val (.int k), .val (.int place), .val (.int x0), .val (.int x1), .val (.int x2), .val (.int x3), .unset] [])) t → Steps p.tables e below (s₁.setTop (entryFrame m #[(.int k), (.int place), (.int x0), (.int x1), (.int x2), (.int x3)] 7)) t := fun t_ k_ => castTop (ef_2 m k place x0 x1 x2 x3) k_
  obtain ⟨fs, hr, hrun, hended, hW, hsame⟩ := X0.leave (v := some (.int (own_below k place x0 x1 x2 x3))) (fun h => by rw [Bd.returns] at h; cases h)
  refine ⟨_, _, pre0 _ ?_, hrun, hended, _, _, rfl, ?_, ⟨_, rfl⟩, hW, hsame.mono (by decide) (by decide)⟩
  · show Steps p.tables e below (s₁.setTop (mkF m 0 #[.val (.int k), .val (.int place), .val (.int x0), .val (.int x1), .val (.int x2), .val (.int x3), .unset] [])) _
    refine XS.iconst X0.here hx rfl (hb hby d2_0) ?_
    show Steps p.tables e below (s₁.setTop (mkF m 1 #[.val (.int k), .val (.int place), .val (.int x0), .val (.int x1), .val (.int x2), .val (.int x3), .unset] [(.int (0 : Int32))])) _
    refine XS.istore X0.here hx rfl (hb hby d2_1) rfl (l' := #[.val (.int k), .val (.int place), .val (.int x0), .val (.int x1), .val (.int x2), .val (.int x3), .val (.int (0 : Int32))]) rfl ?_
    show Steps p.tables e below (s₁.setTop (mkF m 3 #[.val (.int k), .val (.int place), .val (.int x0), .val (.int x1), .val (.int x2), .val (.int x3), .val (.int (0 : Int32))] [])) _
    refine bl0 k place x0 x1 x2 x3 (0 : Int32) X0 hx hZ hw hby hml hown e0 _ ?_
    show Steps p.tables e below (s₁.setTop (mkF m 15 #[.val (.int k), .val (.int place), .val (.int x0), .val (.int x1), .val (.int x2), .val (.int x3), .val (.int (own_b (0 : Int32) k 0 x0 place))] [])) _
    refine bl1 k place x0 x1 x2 x3 (own_b (0 : Int32) k 0 x0 place) X0 hx hZ hw hby hml hown e0 _ ?_
    show Steps p.tables e below (s₁.setTop (mkF m 28 #[.val (.int k), .val (.int place), .val (.int x0), .val (.int x1), .val (.int x2), .val (.int x3), .val (.int (own_b (own_b (0 : Int32) k 0 x0 place) k 1 x1 place))] [])) _
    refine bl2 k place x0 x1 x2 x3 (own_b (own_b (0 : Int32) k 0 x0 place) k 1 x1 place) X0 hx hZ hw hby hml hown e0 _ ?_
    show Steps p.tables e below (s₁.setTop (mkF m 42 #[.val (.int k), .val (.int place), .val (.int x0), .val (.int x1), .val (.int x2), .val (.int x3), .val (.int (own_b (own_b (own_b (0 : Int32) k 0 x0 place) k 1 x1 place) k 2 x2 place))] [])) _
    refine bl3 k place x0 x1 x2 x3 (own_b (own_b (own_b (0 : Int32) k 0 x0 place) k 1 x1 place) k 2 x2 place) X0 hx hZ hw hby hml hown e0 _ ?_
    show Steps p.tables e below (s₁.setTop (mkF m 56 #[.val (.int k), .val (.int place), .val (.int x0), .val (.int x1), .val (.int x2), .val (.int x3), .val (.int (own_b (own_b (own_b (own_b (0 : Int32) k 0 x0 place) k 1 x1 place) k 2 x2 place) k 3 x3 place))] [])) _
    refine XS.iload X0.here hx rfl (hb hby d2_56) rfl ?_
    show Steps p.tables e below (s₁.setTop (mkF m 58 #[.val (.int k), .val (.int place), .val (.int x0), .val (.int x1), .val (.int x2), .val (.int x3), .val (.int (own_b (own_b (own_b (own_b (0 : Int32) k 0 x0 place) k 1 x1 place) k 2 x2 place) k 3 x3 place))] [(.int (own_b (own_b (own_b (own_b (0 : Int32) k 0 x0 place) k 1 x1 place) k 2 x2 place) k 3 x3 place))])) _
    exact retI X0 hx Bd.returns (hb hby d2_58) hr
  · exact ⟨rfl, rfl, e0⟩
def own_x (x0 x1 x2 x3 : Int32) (j : Nat) : Int32 := if j = 0 then x0 else if j = 1 then x1 else if j = 2 then x2 else x3
def B16 (x : Int32) : Prop := 0 ≤ x.toInt ∧ x.toInt < 65536
theorem own_c16 {x : Int32} (h : B16 x) : x.toUInt32.toUInt16.toUInt32.toInt32 = x := by
  have q := c_i2c x
  obtain ⟨h1, h2⟩ := h
  rw [← Int32.toInt_inj]; omega
theorem own_narc {x : Int32} (h : B16 x) : nar .char (x.toUInt32.toUInt16.toUInt32.toInt32) = x := by
  show (x.toUInt32.toUInt16.toUInt32.toInt32).toUInt32.toUInt16.toUInt32.toInt32 = x
  rw [own_c16 h, own_c16 h]
def QM (Z : State) (n0 : Nat) (n : Nat) (f : Nat → Int32) (v : Option Value) (h : Heap) (L : List Loc) : Prop := ∃ b : Addr, v = some (.ref b) ∧ Fr n0 L ∧ Iar Z h b .char n f
theorem ef_1 (m : MethodId) (k : Int32) (x0 : Int32) (x1 : Int32) (x2 : Int32) (x3 : Int32) : entryFrame m #[(.int k), (.int x0), (.int x1), (.int x2), (.int x3)] 5 = mkF m 0 #[.val (.int k), .val (.int x0), .val (.int x1), .val (.int x2), .val (.int x3)] [] := by first | (simp [entryFrame, mkF, argsToLocals, Value.category]; done) | rfl
set_option maxRecDepth 65536 in
set_option maxHeartbeats 40000000 in
theorem rm_make0 (l : Launch) (Z : State) (a0 : Array Value) (hw : ∀ d ∈ tables_1, d.before a0 Z = true) (ws : List Jvm.Cond) (x0 x1 x2 x3 : Int32) (b0 : B16 x0) (b1 : B16 x1) (b2 : B16 x2) (b3 : B16 x3) (h0 : Heap) (n0 : Nat) (Z0 : n0 ≤ h0.size) :
    MetFree l (⟨"com/example/onward/onward/eval/ExcerptPlacesBelowPinLaw", "make", "(IIIII)[C"⟩ : MethodName) (head1 (Jvm.Cond.code (⟨"com/example/onward/onward/eval/ExcerptPlacesBelowPinLaw", "make", "(IIIII)[C"⟩ : MethodName) method_3_code 5 (some (.array .char)) :: ws) ({ frames := 0, cells := 1, slots := 4, locals := 0 } : Room)) (fun ar_ U => ar_ = #[(.int (0 : Int32)), (.int x0), (.int x1), (.int x2), (.int x3)] ∧ Z.Warmed39 U.vm ∧ U.heap = h0) (fun _ _ _ _ _ => True) (fun _ U o U' => ∃ v L, o = .returned v ∧ QM Z n0 0 (own_x x0 x1 x2 x3) v U'.heap L ∧ FrameEnd U o U' L ({ frames := 0, cells := 1, slots := 4, locals := 0 } : Room).cells ({ frames := 0, cells := 1, slots := 4, locals := 0 } : Room).slots) := by
  refine MetFree.of_bodySF (plainFor_of_name pn_1) hisR ?_
  intro p e s m args below meth c s₁ Bd hml0 hP hK
  obtain ⟨rfl, hZ, hh⟩ := hP
  have hx := Bd.exec
  have hby := Bd.bytes
  have hml : c.maxLocals = 5 := hml0
  have hown : s.vm.findClass "com/example/onward/onward/eval/ExcerptPlacesBelowPinLaw" = some m.cls := findClass_of_methodNamed Bd.named
  have hnm := (name_of_methodNamed Bd.named Bd.method).1
  have X0 : Stand p l e ({ frames := 0, cells := 1, slots := 4, locals := 0 } : Room) s m #[(.int (0 : Int32)), (.int x0), (.int x1), (.int x2), (.int x3)] below meth c s₁ [] 0 0 := Stand.of_body Bd
  have e0 : s₁.heap = h0 := by rw [← hh, Bd.state]; rfl
  have pre0 : ∀ t, Steps p.tables e below (s₁.setTop (mkF m 0 #[.val (.int (0 : Int32)), .val (.int x0), .val (.int x1), .val (.int x2), .val (.int x3)] [])) t → Steps p.tables e below (s₁.setTop (entryFrame m #[(.int (0 : Int32)), (.int x0), (.int x1), (.int x2), (.int x3)] 5)) t := fun t_ k_ => castTop (ef_1 m (0 : Int32) x0 x1 x2 x3) k_
  have N0 := Fr.nil n0
  obtain ⟨T1, h1, k1, X1, e1, E1, A1, st1⟩ := newP X0 hx hZ (hw _ (List.mem_of_getElem? (i := 6) rfl)) e0 (g := (mkF m 5 #[.val (.int (0 : Int32)), .val (.int x0), .val (.int x1), .val (.int x2), .val (.int x3)] [(.int (0 : Int32))])) rfl (hb hby d1_5) rfl (by decide) (cap := 4) (by decide) (by decide) (by decide) (by decide)
  obtain ⟨b, gb⟩ : ∃ z, z = h0.size := ⟨_, rfl⟩
  rw [← gb] at A1 st1
  have g : n0 ≤ b := Nat.le_trans Z0 (Nat.le_of_eq gb.symm)
  have V1 : Iar Z h1 b .char 0 (fun _ => 0) := Iar.new A1 rfl (by omega) rfl rfl
  obtain ⟨fs, hr, hrun, hended, hW, hsame⟩ := X1.leave (v := some (.ref b)) (fun h => by rw [Bd.returns] at h; cases h)
  refine ⟨_, _, pre0 _ ?_, hrun, hended, _, _, rfl, ?_, ⟨_, rfl⟩, hW, hsame.mono (by decide) (by decide)⟩
  · show Steps p.tables e below (s₁.setTop (mkF m 0 #[.val (.int (0 : Int32)), .val (.int x0), .val (.int x1), .val (.int x2), .val (.int x3)] [])) _
    refine XS.iloadN X0.here hx rfl (hb hby d1_0) rfl ?_
    show Steps p.tables e below (s₁.setTop (mkF m 1 #[.val (.int (0 : Int32)), .val (.int x0), .val (.int x1), .val (.int x2), .val (.int x3)] [(.int (0 : Int32))])) _
    refine XS.ifNo X0.here hx rfl (hb hby d1_1) rfl ((if0 _ _).trans (teq (by decide : (0 : Int32) = (0 : Int32))).2) ?_
    show Steps p.tables e below (s₁.setTop (mkF m 4 #[.val (.int (0 : Int32)), .val (.int x0), .val (.int x1), .val (.int x2), .val (.int x3)] [])) _
    refine XS.iconst X0.here hx rfl (hb hby d1_4) ?_
    show Steps p.tables e below (s₁.setTop (mkF m 5 #[.val (.int (0 : Int32)), .val (.int x0), .val (.int x1), .val (.int x2), .val (.int x3)] [(.int (0 : Int32))])) _
    refine st1 _ ?_
    show Steps p.tables e below (T1.setTop (mkF m 7 #[.val (.int (0 : Int32)), .val (.int x0), .val (.int x1), .val (.int x2), .val (.int x3)] [(.ref b)])) _
    exact retOut X1 hx Bd.returns rfl (Or.inr (Or.inr (Or.inr (Or.inr ⟨rfl, rfl, rfl⟩)))) (hb hby d1_7) hr
  · refine ⟨b, rfl, N0, ?_⟩
    show Iar Z T1.heap b .char 0 _
    rw [e1]
    refine V1.congr fun j hj => ?_
    omega
set_option maxRecDepth 65536 in
set_option maxHeartbeats 40000000 in
theorem rm_make1 (l : Launch) (Z : State) (a0 : Array Value) (hw : ∀ d ∈ tables_1, d.before a0 Z = true) (ws : List Jvm.Cond) (x0 x1 x2 x3 : Int32) (b0 : B16 x0) (b1 : B16 x1) (b2 : B16 x2) (b3 : B16 x3) (h0 : Heap) (n0 : Nat) (Z0 : n0 ≤ h0.size) :
    MetFree l (⟨"com/example/onward/onward/eval/ExcerptPlacesBelowPinLaw", "make", "(IIIII)[C"⟩ : MethodName) (head1 (Jvm.Cond.code (⟨"com/example/onward/onward/eval/ExcerptPlacesBelowPinLaw", "make", "(IIIII)[C"⟩ : MethodName) method_3_code 5 (some (.array .char)) :: ws) ({ frames := 0, cells := 1, slots := 4, locals := 0 } : Room)) (fun ar_ U => ar_ = #[(.int (1 : Int32)), (.int x0), (.int x1), (.int x2), (.int x3)] ∧ Z.Warmed39 U.vm ∧ U.heap = h0) (fun _ _ _ _ _ => True) (fun _ U o U' => ∃ v L, o = .returned v ∧ QM Z n0 1 (own_x x0 x1 x2 x3) v U'.heap L ∧ FrameEnd U o U' L ({ frames := 0, cells := 1, slots := 4, locals := 0 } : Room).cells ({ frames := 0, cells := 1, slots := 4, locals := 0 } : Room).slots) := by
  refine MetFree.of_bodySF (plainFor_of_name pn_1) hisR ?_
  intro p e s m args below meth c s₁ Bd hml0 hP hK
  obtain ⟨rfl, hZ, hh⟩ := hP
  have hx := Bd.exec
  have hby := Bd.bytes
  have hml : c.maxLocals = 5 := hml0
  have hown : s.vm.findClass "com/example/onward/onward/eval/ExcerptPlacesBelowPinLaw" = some m.cls := findClass_of_methodNamed Bd.named
  have hnm := (name_of_methodNamed Bd.named Bd.method).1
  have X0 : Stand p l e ({ frames := 0, cells := 1, slots := 4, locals := 0 } : Room) s m #[(.int (1 : Int32)), (.int x0), (.int x1), (.int x2), (.int x3)] below meth c s₁ [] 0 0 := Stand.of_body Bd
  have e0 : s₁.heap = h0 := by rw [← hh, Bd.state]; rfl
  have pre0 : ∀ t, Steps p.tables e below (s₁.setTop (mkF m 0 #[.val (.int (1 : Int32)), .val (.int x0), .val (.int x1), .val (.int x2), .val (.int x3)] [])) t → Steps p.tables e below (s₁.setTop (entryFrame m #[(.int (1 : Int32)), (.int x0), (.int x1), (.int x2), (.int x3)] 5)) t := fun t_ k_ => castTop (ef_1 m (1 : Int32) x0 x1 x2 x3) k_
  have N0 := Fr.nil n0
  obtain ⟨T1, h1, k1, X1, e1, E1, A1, st1⟩ := newP X0 hx hZ (hw _ (List.mem_of_getElem? (i := 6) rfl)) e0 (g := (mkF m 14 #[.val (.int (1 : Int32)), .val (.int x0), .val (.int x1), .val (.int x2), .val (.int x3)] [(.int (1 : Int32))])) rfl (hb hby d1_14) rfl (by decide) (cap := 4) (by decide) (by decide) (by decide) (by decide)
  obtain ⟨b, gb⟩ : ∃ z, z = h0.size := ⟨_, rfl⟩
  rw [← gb] at A1 st1
  have g : n0 ≤ b := Nat.le_trans Z0 (Nat.le_of_eq gb.symm)
  have V1 : Iar Z h1 b .char 1 (fun _ => 0) := Iar.new A1 rfl (by omega) rfl rfl
  obtain ⟨T2, h2, X2, e2, W2, V2, st2⟩ := own_stC X1 hx hZ e1 V1 (j := (0 : Int32)) (i := 0) (by decide) (by decide) (by omega) (g := (mkF m 20 #[.val (.int (1 : Int32)), .val (.int x0), .val (.int x1), .val (.int x2), .val (.int x3)] [(.int (x0.toUInt32.toUInt16.toUInt32.toInt32)), (.int (0 : Int32)), (.ref b), (.ref b)])) rfl rfl (hb hby d1_20)
  have N2 := Fr.snoc X2 N0 g
  obtain ⟨fs, hr, hrun, hended, hW, hsame⟩ := X2.leave (v := some (.ref b)) (fun h => by rw [Bd.returns] at h; cases h)
  refine ⟨_, _, pre0 _ ?_, hrun, hended, _, _, rfl, ?_, ⟨_, rfl⟩, hW, hsame.mono (by decide) (by decide)⟩
  · show Steps p.tables e below (s₁.setTop (mkF m 0 #[.val (.int (1 : Int32)), .val (.int x0), .val (.int x1), .val (.int x2), .val (.int x3)] [])) _
    refine XS.iloadN X0.here hx rfl (hb hby d1_0) rfl ?_
    show Steps p.tables e below (s₁.setTop (mkF m 1 #[.val (.int (1 : Int32)), .val (.int x0), .val (.int x1), .val (.int x2), .val (.int x3)] [(.int (1 : Int32))])) _
    refine XS.ifYes X0.here hx rfl (pc0 := 1) (pc' := 8) rfl (hb hby d1_1) rfl ((if0 _ _).trans (feq (by decide : ¬ ((1 : Int32) = (0 : Int32)))).2) (by decide) (by decide) ?_
    show Steps p.tables e below (s₁.setTop (mkF m 8 #[.val (.int (1 : Int32)), .val (.int x0), .val (.int x1), .val (.int x2), .val (.int x3)] [])) _
    refine XS.iloadN X0.here hx rfl (hb hby d1_8) rfl ?_
    show Steps p.tables e below (s₁.setTop (mkF m 9 #[.val (.int (1 : Int32)), .val (.int x0), .val (.int x1), .val (.int x2), .val (.int x3)] [(.int (1 : Int32))])) _
    refine XS.iconst X0.here hx rfl (hb hby d1_9) ?_
    show Steps p.tables e below (s₁.setTop (mkF m 10 #[.val (.int (1 : Int32)), .val (.int x0), .val (.int x1), .val (.int x2), .val (.int x3)] [(.int (1 : Int32)), (.int (1 : Int32))])) _
    refine XS.icmpNo X0.here hx rfl (hb hby d1_10) rfl (teq (by decide : (1 : Int32) = (1 : Int32))).2 ?_
    show Steps p.tables e below (s₁.setTop (mkF m 13 #[.val (.int (1 : Int32)), .val (.int x0), .val (.int x1), .val (.int x2), .val (.int x3)] [])) _
    refine XS.iconst X0.here hx rfl (hb hby d1_13) ?_
    show Steps p.tables e below (s₁.setTop (mkF m 14 #[.val (.int (1 : Int32)), .val (.int x0), .val (.int x1), .val (.int x2), .val (.int x3)] [(.int (1 : Int32))])) _
    refine st1 _ ?_
    show Steps p.tables e below (T1.setTop (mkF m 16 #[.val (.int (1 : Int32)), .val (.int x0), .val (.int x1), .val (.int x2), .val (.int x3)] [(.ref b)])) _
    refine XS.dup X1.here hx rfl (hb hby d1_16) rfl rfl ?_
    show Steps p.tables e below (T1.setTop (mkF m 17 #[.val (.int (1 : Int32)), .val (.int x0), .val (.int x1), .val (.int x2), .val (.int x3)] [(.ref b), (.ref b)])) _
    refine XS.iconst X1.here hx rfl (hb hby d1_17) ?_
    show Steps p.tables e below (T1.setTop (mkF m 18 #[.val (.int (1 : Int32)), .val (.int x0), .val (.int x1), .val (.int x2), .val (.int x3)] [(.int (0 : Int32)), (.ref b), (.ref b)])) _
    refine XS.iloadN X1.here hx rfl (hb hby d1_18) rfl ?_
    show Steps p.tables e below (T1.setTop (mkF m 19 #[.val (.int (1 : Int32)), .val (.int x0), .val (.int x1), .val (.int x2), .val (.int x3)] [(.int x0), (.int (0 : Int32)), (.ref b), (.ref b)])) _
    refine XS.i2c X1.here hx rfl (hb hby d1_19) rfl ?_
    show Steps p.tables e below (T1.setTop (mkF m 20 #[.val (.int (1 : Int32)), .val (.int x0), .val (.int x1), .val (.int x2), .val (.int x3)] [(.int (x0.toUInt32.toUInt16.toUInt32.toInt32)), (.int (0 : Int32)), (.ref b), (.ref b)])) _
    refine st2 _ ?_
    show Steps p.tables e below (T2.setTop (mkF m 21 #[.val (.int (1 : Int32)), .val (.int x0), .val (.int x1), .val (.int x2), .val (.int x3)] [(.ref b)])) _
    exact retOut X2 hx Bd.returns rfl (Or.inr (Or.inr (Or.inr (Or.inr ⟨rfl, rfl, rfl⟩)))) (hb hby d1_21) hr
  · refine ⟨b, rfl, N2, ?_⟩
    show Iar Z T2.heap b .char 1 _
    rw [e2]
    refine V2.congr fun j hj => ?_
    rw [own_narc b0]
    by_cases q0 : j = 0
    · subst q0; simp [own_x]
    omega
set_option maxRecDepth 65536 in
set_option maxHeartbeats 40000000 in
theorem rm_make2 (l : Launch) (Z : State) (a0 : Array Value) (hw : ∀ d ∈ tables_1, d.before a0 Z = true) (ws : List Jvm.Cond) (x0 x1 x2 x3 : Int32) (b0 : B16 x0) (b1 : B16 x1) (b2 : B16 x2) (b3 : B16 x3) (h0 : Heap) (n0 : Nat) (Z0 : n0 ≤ h0.size) :
    MetFree l (⟨"com/example/onward/onward/eval/ExcerptPlacesBelowPinLaw", "make", "(IIIII)[C"⟩ : MethodName) (head1 (Jvm.Cond.code (⟨"com/example/onward/onward/eval/ExcerptPlacesBelowPinLaw", "make", "(IIIII)[C"⟩ : MethodName) method_3_code 5 (some (.array .char)) :: ws) ({ frames := 0, cells := 1, slots := 4, locals := 0 } : Room)) (fun ar_ U => ar_ = #[(.int (2 : Int32)), (.int x0), (.int x1), (.int x2), (.int x3)] ∧ Z.Warmed39 U.vm ∧ U.heap = h0) (fun _ _ _ _ _ => True) (fun _ U o U' => ∃ v L, o = .returned v ∧ QM Z n0 2 (own_x x0 x1 x2 x3) v U'.heap L ∧ FrameEnd U o U' L ({ frames := 0, cells := 1, slots := 4, locals := 0 } : Room).cells ({ frames := 0, cells := 1, slots := 4, locals := 0 } : Room).slots) := by
  refine MetFree.of_bodySF (plainFor_of_name pn_1) hisR ?_
  intro p e s m args below meth c s₁ Bd hml0 hP hK
  obtain ⟨rfl, hZ, hh⟩ := hP
  have hx := Bd.exec
  have hby := Bd.bytes
  have hml : c.maxLocals = 5 := hml0
  have hown : s.vm.findClass "com/example/onward/onward/eval/ExcerptPlacesBelowPinLaw" = some m.cls := findClass_of_methodNamed Bd.named
  have hnm := (name_of_methodNamed Bd.named Bd.method).1
  have X0 : Stand p l e ({ frames := 0, cells := 1, slots := 4, locals := 0 } : Room) s m #[(.int (2 : Int32)), (.int x0), (.int x1), (.int x2), (.int x3)] below meth c s₁ [] 0 0 := Stand.of_body Bd
  have e0 : s₁.heap = h0 := by rw [← hh, Bd.state]; rfl
  have pre0 : ∀ t, Steps p.tables e below (s₁.setTop (mkF m 0 #[.val (.int (2 : Int32)), .val (.int x0), .val (.int x1), .val (.int x2), .val (.int x3)] [])) t → Steps p.tables e below (s₁.setTop (entryFrame m #[(.int (2 : Int32)), (.int x0), (.int x1), (.int x2), (.int x3)] 5)) t := fun t_ k_ => castTop (ef_1 m (2 : Int32) x0 x1 x2 x3) k_
  have N0 := Fr.nil n0
  obtain ⟨T1, h1, k1, X1, e1, E1, A1, st1⟩ := newP X0 hx hZ (hw _ (List.mem_of_getElem? (i := 6) rfl)) e0 (g := (mkF m 28 #[.val (.int (2 : Int32)), .val (.int x0), .val (.int x1), .val (.int x2), .val (.int x3)] [(.int (2 : Int32))])) rfl (hb hby d1_28) rfl (by decide) (cap := 4) (by decide) (by decide) (by decide) (by decide)
  obtain ⟨b, gb⟩ : ∃ z, z = h0.size := ⟨_, rfl⟩
  rw [← gb] at A1 st1
  have g : n0 ≤ b := Nat.le_trans Z0 (Nat.le_of_eq gb.symm)
  have V1 : Iar Z h1 b .char 2 (fun _ => 0) := Iar.new A1 rfl (by omega) rfl rfl
  obtain ⟨T2, h2, X2, e2, W2, V2, st2⟩ := own_stC X1 hx hZ e1 V1 (j := (0 : Int32)) (i := 0) (by decide) (by decide) (by omega) (g := (mkF m 34 #[.val (.int (2 : Int32)), .val (.int x0), .val (.int x1), .val (.int x2), .val (.int x3)] [(.int (x0.toUInt32.toUInt16.toUInt32.toInt32)), (.int (0 : Int32)), (.ref b), (.ref b)])) rfl rfl (hb hby d1_34)
  have N2 := Fr.snoc X2 N0 g
  obtain ⟨T3, h3, X3, e3, W3, V3, st3⟩ := own_stC X2 hx hZ e2 V2 (j := (1 : Int32)) (i := 1) (by decide) (by decide) (by omega) (g := (mkF m 39 #[.val (.int (2 : Int32)), .val (.int x0), .val (.int x1), .val (.int x2), .val (.int x3)] [(.int (x1.toUInt32.toUInt16.toUInt32.toInt32)), (.int (1 : Int32)), (.ref b), (.ref b)])) rfl rfl (hb hby d1_39)
  have N3 := Fr.snoc X3 N2 g
  obtain ⟨fs, hr, hrun, hended, hW, hsame⟩ := X3.leave (v := some (.ref b)) (fun h => by rw [Bd.returns] at h; cases h)
  refine ⟨_, _, pre0 _ ?_, hrun, hended, _, _, rfl, ?_, ⟨_, rfl⟩, hW, hsame.mono (by decide) (by decide)⟩
  · show Steps p.tables e below (s₁.setTop (mkF m 0 #[.val (.int (2 : Int32)), .val (.int x0), .val (.int x1), .val (.int x2), .val (.int x3)] [])) _
    refine XS.iloadN X0.here hx rfl (hb hby d1_0) rfl ?_
    show Steps p.tables e below (s₁.setTop (mkF m 1 #[.val (.int (2 : Int32)), .val (.int x0), .val (.int x1), .val (.int x2), .val (.int x3)] [(.int (2 : Int32))])) _
    refine XS.ifYes X0.here hx rfl (pc0 := 1) (pc' := 8) rfl (hb hby d1_1) rfl ((if0 _ _).trans (feq (by decide : ¬ ((2 : Int32) = (0 : Int32)))).2) (by decide) (by decide) ?_
    show Steps p.tables e below (s₁.setTop (mkF m 8 #[.val (.int (2 : Int32)), .val (.int x0), .val (.int x1), .val (.int x2), .val (.int x3)] [])) _
    refine XS.iloadN X0.here hx rfl (hb hby d1_8) rfl ?_
    show Steps p.tables e below (s₁.setTop (mkF m 9 #[.val (.int (2 : Int32)), .val (.int x0), .val (.int x1), .val (.int x2), .val (.int x3)] [(.int (2 : Int32))])) _
    refine XS.iconst X0.here hx rfl (hb hby d1_9) ?_
    show Steps p.tables e below (s₁.setTop (mkF m 10 #[.val (.int (2 : Int32)), .val (.int x0), .val (.int x1), .val (.int x2), .val (.int x3)] [(.int (1 : Int32)), (.int (2 : Int32))])) _
    refine XS.icmpYes X0.here hx rfl (pc0 := 10) (pc' := 22) rfl (hb hby d1_10) rfl (feq (by decide : ¬ ((2 : Int32) = (1 : Int32)))).2 (by decide) (by decide) ?_
    show Steps p.tables e below (s₁.setTop (mkF m 22 #[.val (.int (2 : Int32)), .val (.int x0), .val (.int x1), .val (.int x2), .val (.int x3)] [])) _
    refine XS.iloadN X0.here hx rfl (hb hby d1_22) rfl ?_
    show Steps p.tables e below (s₁.setTop (mkF m 23 #[.val (.int (2 : Int32)), .val (.int x0), .val (.int x1), .val (.int x2), .val (.int x3)] [(.int (2 : Int32))])) _
    refine XS.iconst X0.here hx rfl (hb hby d1_23) ?_
    show Steps p.tables e below (s₁.setTop (mkF m 24 #[.val (.int (2 : Int32)), .val (.int x0), .val (.int x1), .val (.int x2), .val (.int x3)] [(.int (2 : Int32)), (.int (2 : Int32))])) _
    refine XS.icmpNo X0.here hx rfl (hb hby d1_24) rfl (teq (by decide : (2 : Int32) = (2 : Int32))).2 ?_
    show Steps p.tables e below (s₁.setTop (mkF m 27 #[.val (.int (2 : Int32)), .val (.int x0), .val (.int x1), .val (.int x2), .val (.int x3)] [])) _
    refine XS.iconst X0.here hx rfl (hb hby d1_27) ?_
    show Steps p.tables e below (s₁.setTop (mkF m 28 #[.val (.int (2 : Int32)), .val (.int x0), .val (.int x1), .val (.int x2), .val (.int x3)] [(.int (2 : Int32))])) _
    refine st1 _ ?_
    show Steps p.tables e below (T1.setTop (mkF m 30 #[.val (.int (2 : Int32)), .val (.int x0), .val (.int x1), .val (.int x2), .val (.int x3)] [(.ref b)])) _
    refine XS.dup X1.here hx rfl (hb hby d1_30) rfl rfl ?_
    show Steps p.tables e below (T1.setTop (mkF m 31 #[.val (.int (2 : Int32)), .val (.int x0), .val (.int x1), .val (.int x2), .val (.int x3)] [(.ref b), (.ref b)])) _
    refine XS.iconst X1.here hx rfl (hb hby d1_31) ?_
    show Steps p.tables e below (T1.setTop (mkF m 32 #[.val (.int (2 : Int32)), .val (.int x0), .val (.int x1), .val (.int x2), .val (.int x3)] [(.int (0 : Int32)), (.ref b), (.ref b)])) _
    refine XS.iloadN X1.here hx rfl (hb hby d1_32) rfl ?_
    show Steps p.tables e below (T1.setTop (mkF m 33 #[.val (.int (2 : Int32)), .val (.int x0), .val (.int x1), .val (.int x2), .val (.int x3)] [(.int x0), (.int (0 : Int32)), (.ref b), (.ref b)])) _
    refine XS.i2c X1.here hx rfl (hb hby d1_33) rfl ?_
    show Steps p.tables e below (T1.setTop (mkF m 34 #[.val (.int (2 : Int32)), .val (.int x0), .val (.int x1), .val (.int x2), .val (.int x3)] [(.int (x0.toUInt32.toUInt16.toUInt32.toInt32)), (.int (0 : Int32)), (.ref b), (.ref b)])) _
    refine st2 _ ?_
    show Steps p.tables e below (T2.setTop (mkF m 35 #[.val (.int (2 : Int32)), .val (.int x0), .val (.int x1), .val (.int x2), .val (.int x3)] [(.ref b)])) _
    refine XS.dup X2.here hx rfl (hb hby d1_35) rfl rfl ?_
    show Steps p.tables e below (T2.setTop (mkF m 36 #[.val (.int (2 : Int32)), .val (.int x0), .val (.int x1), .val (.int x2), .val (.int x3)] [(.ref b), (.ref b)])) _
    refine XS.iconst X2.here hx rfl (hb hby d1_36) ?_
    show Steps p.tables e below (T2.setTop (mkF m 37 #[.val (.int (2 : Int32)), .val (.int x0), .val (.int x1), .val (.int x2), .val (.int x3)] [(.int (1 : Int32)), (.ref b), (.ref b)])) _
    refine XS.iloadN X2.here hx rfl (hb hby d1_37) rfl ?_
    show Steps p.tables e below (T2.setTop (mkF m 38 #[.val (.int (2 : Int32)), .val (.int x0), .val (.int x1), .val (.int x2), .val (.int x3)] [(.int x1), (.int (1 : Int32)), (.ref b), (.ref b)])) _
    refine XS.i2c X2.here hx rfl (hb hby d1_38) rfl ?_
    show Steps p.tables e below (T2.setTop (mkF m 39 #[.val (.int (2 : Int32)), .val (.int x0), .val (.int x1), .val (.int x2), .val (.int x3)] [(.int (x1.toUInt32.toUInt16.toUInt32.toInt32)), (.int (1 : Int32)), (.ref b), (.ref b)])) _
    refine st3 _ ?_
    show Steps p.tables e below (T3.setTop (mkF m 40 #[.val (.int (2 : Int32)), .val (.int x0), .val (.int x1), .val (.int x2), .val (.int x3)] [(.ref b)])) _
    exact retOut X3 hx Bd.returns rfl (Or.inr (Or.inr (Or.inr (Or.inr ⟨rfl, rfl, rfl⟩)))) (hb hby d1_40) hr
  · refine ⟨b, rfl, N3, ?_⟩
    show Iar Z T3.heap b .char 2 _
    rw [e3]
    refine V3.congr fun j hj => ?_
    rw [own_narc b0, own_narc b1]
    by_cases q0 : j = 0
    · subst q0; simp [own_x]
    by_cases q1 : j = 1
    · subst q1; simp [own_x]
    omega
set_option maxRecDepth 65536 in
set_option maxHeartbeats 40000000 in
theorem rm_make3 (l : Launch) (Z : State) (a0 : Array Value) (hw : ∀ d ∈ tables_1, d.before a0 Z = true) (ws : List Jvm.Cond) (x0 x1 x2 x3 : Int32) (b0 : B16 x0) (b1 : B16 x1) (b2 : B16 x2) (b3 : B16 x3) (h0 : Heap) (n0 : Nat) (Z0 : n0 ≤ h0.size) :
    MetFree l (⟨"com/example/onward/onward/eval/ExcerptPlacesBelowPinLaw", "make", "(IIIII)[C"⟩ : MethodName) (head1 (Jvm.Cond.code (⟨"com/example/onward/onward/eval/ExcerptPlacesBelowPinLaw", "make", "(IIIII)[C"⟩ : MethodName) method_3_code 5 (some (.array .char)) :: ws) ({ frames := 0, cells := 1, slots := 4, locals := 0 } : Room)) (fun ar_ U => ar_ = #[(.int (3 : Int32)), (.int x0), (.int x1), (.int x2), (.int x3)] ∧ Z.Warmed39 U.vm ∧ U.heap = h0) (fun _ _ _ _ _ => True) (fun _ U o U' => ∃ v L, o = .returned v ∧ QM Z n0 3 (own_x x0 x1 x2 x3) v U'.heap L ∧ FrameEnd U o U' L ({ frames := 0, cells := 1, slots := 4, locals := 0 } : Room).cells ({ frames := 0, cells := 1, slots := 4, locals := 0 } : Room).slots) := by
  refine MetFree.of_bodySF (plainFor_of_name pn_1) hisR ?_
  intro p e s m args below meth c s₁ Bd hml0 hP hK
  obtain ⟨rfl, hZ, hh⟩ := hP
  have hx := Bd.exec
  have hby := Bd.bytes
  have hml : c.maxLocals = 5 := hml0
  have hown : s.vm.findClass "com/example/onward/onward/eval/ExcerptPlacesBelowPinLaw" = some m.cls := findClass_of_methodNamed Bd.named
  have hnm := (name_of_methodNamed Bd.named Bd.method).1
  have X0 : Stand p l e ({ frames := 0, cells := 1, slots := 4, locals := 0 } : Room) s m #[(.int (3 : Int32)), (.int x0), (.int x1), (.int x2), (.int x3)] below meth c s₁ [] 0 0 := Stand.of_body Bd
  have e0 : s₁.heap = h0 := by rw [← hh, Bd.state]; rfl
  have pre0 : ∀ t, Steps p.tables e below (s₁.setTop (mkF m 0 #[.val (.int (3 : Int32)), .val (.int x0), .val (.int x1), .val (.int x2), .val (.int x3)] [])) t → Steps p.tables e below (s₁.setTop (entryFrame m #[(.int (3 : Int32)), (.int x0), (.int x1), (.int x2), (.int x3)] 5)) t := fun t_ k_ => castTop (ef_1 m (3 : Int32) x0 x1 x2 x3) k_
  have N0 := Fr.nil n0
  obtain ⟨T1, h1, k1, X1, e1, E1, A1, st1⟩ := newP X0 hx hZ (hw _ (List.mem_of_getElem? (i := 6) rfl)) e0 (g := (mkF m 47 #[.val (.int (3 : Int32)), .val (.int x0), .val (.int x1), .val (.int x2), .val (.int x3)] [(.int (3 : Int32))])) rfl (hb hby d1_47) rfl (by decide) (cap := 4) (by decide) (by decide) (by decide) (by decide)
  obtain ⟨b, gb⟩ : ∃ z, z = h0.size := ⟨_, rfl⟩
  rw [← gb] at A1 st1
  have g : n0 ≤ b := Nat.le_trans Z0 (Nat.le_of_eq gb.symm)
  have V1 : Iar Z h1 b .char 3 (fun _ => 0) := Iar.new A1 rfl (by omega) rfl rfl
  obtain ⟨T2, h2, X2, e2, W2, V2, st2⟩ := own_stC X1 hx hZ e1 V1 (j := (0 : Int32)) (i := 0) (by decide) (by decide) (by omega) (g := (mkF m 53 #[.val (.int (3 : Int32)), .val (.int x0), .val (.int x1), .val (.int x2), .val (.int x3)] [(.int (x0.toUInt32.toUInt16.toUInt32.toInt32)), (.int (0 : Int32)), (.ref b), (.ref b)])) rfl rfl (hb hby d1_53)
  have N2 := Fr.snoc X2 N0 g
  obtain ⟨T3, h3, X3, e3, W3, V3, st3⟩ := own_stC X2 hx hZ e2 V2 (j := (1 : Int32)) (i := 1) (by decide) (by decide) (by omega) (g := (mkF m 58 #[.val (.int (3 : Int32)), .val (.int x0), .val (.int x1), .val (.int x2), .val (.int x3)] [(.int (x1.toUInt32.toUInt16.toUInt32.toInt32)), (.int (1 : Int32)), (.ref b), (.ref b)])) rfl rfl (hb hby d1_58)
  have N3 := Fr.snoc X3 N2 g
  obtain ⟨T4, h4, X4, e4, W4, V4, st4⟩ := own_stC X3 hx hZ e3 V3 (j := (2 : Int32)) (i := 2) (by decide) (by decide) (by omega) (g := (mkF m 63 #[.val (.int (3 : Int32)), .val (.int x0), .val (.int x1), .val (.int x2), .val (.int x3)] [(.int (x2.toUInt32.toUInt16.toUInt32.toInt32)), (.int (2 : Int32)), (.ref b), (.ref b)])) rfl rfl (hb hby d1_63)
  have N4 := Fr.snoc X4 N3 g
  obtain ⟨fs, hr, hrun, hended, hW, hsame⟩ := X4.leave (v := some (.ref b)) (fun h => by rw [Bd.returns] at h; cases h)
  refine ⟨_, _, pre0 _ ?_, hrun, hended, _, _, rfl, ?_, ⟨_, rfl⟩, hW, hsame.mono (by decide) (by decide)⟩
  · show Steps p.tables e below (s₁.setTop (mkF m 0 #[.val (.int (3 : Int32)), .val (.int x0), .val (.int x1), .val (.int x2), .val (.int x3)] [])) _
    refine XS.iloadN X0.here hx rfl (hb hby d1_0) rfl ?_
    show Steps p.tables e below (s₁.setTop (mkF m 1 #[.val (.int (3 : Int32)), .val (.int x0), .val (.int x1), .val (.int x2), .val (.int x3)] [(.int (3 : Int32))])) _
    refine XS.ifYes X0.here hx rfl (pc0 := 1) (pc' := 8) rfl (hb hby d1_1) rfl ((if0 _ _).trans (feq (by decide : ¬ ((3 : Int32) = (0 : Int32)))).2) (by decide) (by decide) ?_
    show Steps p.tables e below (s₁.setTop (mkF m 8 #[.val (.int (3 : Int32)), .val (.int x0), .val (.int x1), .val (.int x2), .val (.int x3)] [])) _
    refine XS.iloadN X0.here hx rfl (hb hby d1_8) rfl ?_
    show Steps p.tables e below (s₁.setTop (mkF m 9 #[.val (.int (3 : Int32)), .val (.int x0), .val (.int x1), .val (.int x2), .val (.int x3)] [(.int (3 : Int32))])) _
    refine XS.iconst X0.here hx rfl (hb hby d1_9) ?_
    show Steps p.tables e below (s₁.setTop (mkF m 10 #[.val (.int (3 : Int32)), .val (.int x0), .val (.int x1), .val (.int x2), .val (.int x3)] [(.int (1 : Int32)), (.int (3 : Int32))])) _
    refine XS.icmpYes X0.here hx rfl (pc0 := 10) (pc' := 22) rfl (hb hby d1_10) rfl (feq (by decide : ¬ ((3 : Int32) = (1 : Int32)))).2 (by decide) (by decide) ?_
    show Steps p.tables e below (s₁.setTop (mkF m 22 #[.val (.int (3 : Int32)), .val (.int x0), .val (.int x1), .val (.int x2), .val (.int x3)] [])) _
    refine XS.iloadN X0.here hx rfl (hb hby d1_22) rfl ?_
    show Steps p.tables e below (s₁.setTop (mkF m 23 #[.val (.int (3 : Int32)), .val (.int x0), .val (.int x1), .val (.int x2), .val (.int x3)] [(.int (3 : Int32))])) _
    refine XS.iconst X0.here hx rfl (hb hby d1_23) ?_
    show Steps p.tables e below (s₁.setTop (mkF m 24 #[.val (.int (3 : Int32)), .val (.int x0), .val (.int x1), .val (.int x2), .val (.int x3)] [(.int (2 : Int32)), (.int (3 : Int32))])) _
    refine XS.icmpYes X0.here hx rfl (pc0 := 24) (pc' := 41) rfl (hb hby d1_24) rfl (feq (by decide : ¬ ((3 : Int32) = (2 : Int32)))).2 (by decide) (by decide) ?_
    show Steps p.tables e below (s₁.setTop (mkF m 41 #[.val (.int (3 : Int32)), .val (.int x0), .val (.int x1), .val (.int x2), .val (.int x3)] [])) _
    refine XS.iloadN X0.here hx rfl (hb hby d1_41) rfl ?_
    show Steps p.tables e below (s₁.setTop (mkF m 42 #[.val (.int (3 : Int32)), .val (.int x0), .val (.int x1), .val (.int x2), .val (.int x3)] [(.int (3 : Int32))])) _
    refine XS.iconst X0.here hx rfl (hb hby d1_42) ?_
    show Steps p.tables e below (s₁.setTop (mkF m 43 #[.val (.int (3 : Int32)), .val (.int x0), .val (.int x1), .val (.int x2), .val (.int x3)] [(.int (3 : Int32)), (.int (3 : Int32))])) _
    refine XS.icmpNo X0.here hx rfl (hb hby d1_43) rfl (teq (by decide : (3 : Int32) = (3 : Int32))).2 ?_
    show Steps p.tables e below (s₁.setTop (mkF m 46 #[.val (.int (3 : Int32)), .val (.int x0), .val (.int x1), .val (.int x2), .val (.int x3)] [])) _
    refine XS.iconst X0.here hx rfl (hb hby d1_46) ?_
    show Steps p.tables e below (s₁.setTop (mkF m 47 #[.val (.int (3 : Int32)), .val (.int x0), .val (.int x1), .val (.int x2), .val (.int x3)] [(.int (3 : Int32))])) _
    refine st1 _ ?_
    show Steps p.tables e below (T1.setTop (mkF m 49 #[.val (.int (3 : Int32)), .val (.int x0), .val (.int x1), .val (.int x2), .val (.int x3)] [(.ref b)])) _
    refine XS.dup X1.here hx rfl (hb hby d1_49) rfl rfl ?_
    show Steps p.tables e below (T1.setTop (mkF m 50 #[.val (.int (3 : Int32)), .val (.int x0), .val (.int x1), .val (.int x2), .val (.int x3)] [(.ref b), (.ref b)])) _
    refine XS.iconst X1.here hx rfl (hb hby d1_50) ?_
    show Steps p.tables e below (T1.setTop (mkF m 51 #[.val (.int (3 : Int32)), .val (.int x0), .val (.int x1), .val (.int x2), .val (.int x3)] [(.int (0 : Int32)), (.ref b), (.ref b)])) _
    refine XS.iloadN X1.here hx rfl (hb hby d1_51) rfl ?_
    show Steps p.tables e below (T1.setTop (mkF m 52 #[.val (.int (3 : Int32)), .val (.int x0), .val (.int x1), .val (.int x2), .val (.int x3)] [(.int x0), (.int (0 : Int32)), (.ref b), (.ref b)])) _
    refine XS.i2c X1.here hx rfl (hb hby d1_52) rfl ?_
    show Steps p.tables e below (T1.setTop (mkF m 53 #[.val (.int (3 : Int32)), .val (.int x0), .val (.int x1), .val (.int x2), .val (.int x3)] [(.int (x0.toUInt32.toUInt16.toUInt32.toInt32)), (.int (0 : Int32)), (.ref b), (.ref b)])) _
    refine st2 _ ?_
    show Steps p.tables e below (T2.setTop (mkF m 54 #[.val (.int (3 : Int32)), .val (.int x0), .val (.int x1), .val (.int x2), .val (.int x3)] [(.ref b)])) _
    refine XS.dup X2.here hx rfl (hb hby d1_54) rfl rfl ?_
    show Steps p.tables e below (T2.setTop (mkF m 55 #[.val (.int (3 : Int32)), .val (.int x0), .val (.int x1), .val (.int x2), .val (.int x3)] [(.ref b), (.ref b)])) _
    refine XS.iconst X2.here hx rfl (hb hby d1_55) ?_
    show Steps p.tables e below (T2.setTop (mkF m 56 #[.val (.int (3 : Int32)), .val (.int x0), .val (.int x1), .val (.int x2), .val (.int x3)] [(.int (1 : Int32)), (.ref b), (.ref b)])) _
    refine XS.iloadN X2.here hx rfl (hb hby d1_56) rfl ?_
    show Steps p.tables e below (T2.setTop (mkF m 57 #[.val (.int (3 : Int32)), .val (.int x0), .val (.int x1), .val (.int x2), .val (.int x3)] [(.int x1), (.int (1 : Int32)), (.ref b), (.ref b)])) _
    refine XS.i2c X2.here hx rfl (hb hby d1_57) rfl ?_
    show Steps p.tables e below (T2.setTop (mkF m 58 #[.val (.int (3 : Int32)), .val (.int x0), .val (.int x1), .val (.int x2), .val (.int x3)] [(.int (x1.toUInt32.toUInt16.toUInt32.toInt32)), (.int (1 : Int32)), (.ref b), (.ref b)])) _
    refine st3 _ ?_
    show Steps p.tables e below (T3.setTop (mkF m 59 #[.val (.int (3 : Int32)), .val (.int x0), .val (.int x1), .val (.int x2), .val (.int x3)] [(.ref b)])) _
    refine XS.dup X3.here hx rfl (hb hby d1_59) rfl rfl ?_
    show Steps p.tables e below (T3.setTop (mkF m 60 #[.val (.int (3 : Int32)), .val (.int x0), .val (.int x1), .val (.int x2), .val (.int x3)] [(.ref b), (.ref b)])) _
    refine XS.iconst X3.here hx rfl (hb hby d1_60) ?_
    show Steps p.tables e below (T3.setTop (mkF m 61 #[.val (.int (3 : Int32)), .val (.int x0), .val (.int x1), .val (.int x2), .val (.int x3)] [(.int (2 : Int32)), (.ref b), (.ref b)])) _
    refine XS.iloadN X3.here hx rfl (hb hby d1_61) rfl ?_
    show Steps p.tables e below (T3.setTop (mkF m 62 #[.val (.int (3 : Int32)), .val (.int x0), .val (.int x1), .val (.int x2), .val (.int x3)] [(.int x2), (.int (2 : Int32)), (.ref b), (.ref b)])) _
    refine XS.i2c X3.here hx rfl (hb hby d1_62) rfl ?_
    show Steps p.tables e below (T3.setTop (mkF m 63 #[.val (.int (3 : Int32)), .val (.int x0), .val (.int x1), .val (.int x2), .val (.int x3)] [(.int (x2.toUInt32.toUInt16.toUInt32.toInt32)), (.int (2 : Int32)), (.ref b), (.ref b)])) _
    refine st4 _ ?_
    show Steps p.tables e below (T4.setTop (mkF m 64 #[.val (.int (3 : Int32)), .val (.int x0), .val (.int x1), .val (.int x2), .val (.int x3)] [(.ref b)])) _
    exact retOut X4 hx Bd.returns rfl (Or.inr (Or.inr (Or.inr (Or.inr ⟨rfl, rfl, rfl⟩)))) (hb hby d1_64) hr
  · refine ⟨b, rfl, N4, ?_⟩
    show Iar Z T4.heap b .char 3 _
    rw [e4]
    refine V4.congr fun j hj => ?_
    rw [own_narc b0, own_narc b1, own_narc b2]
    by_cases q0 : j = 0
    · subst q0; simp [own_x]
    by_cases q1 : j = 1
    · subst q1; simp [own_x]
    by_cases q2 : j = 2
    · subst q2; simp [own_x]
    omega
set_option maxRecDepth 65536 in
set_option maxHeartbeats 40000000 in
theorem rm_make4 (l : Launch) (Z : State) (a0 : Array Value) (hw : ∀ d ∈ tables_1, d.before a0 Z = true) (ws : List Jvm.Cond) (x0 x1 x2 x3 : Int32) (b0 : B16 x0) (b1 : B16 x1) (b2 : B16 x2) (b3 : B16 x3) (h0 : Heap) (n0 : Nat) (Z0 : n0 ≤ h0.size) :
    MetFree l (⟨"com/example/onward/onward/eval/ExcerptPlacesBelowPinLaw", "make", "(IIIII)[C"⟩ : MethodName) (head1 (Jvm.Cond.code (⟨"com/example/onward/onward/eval/ExcerptPlacesBelowPinLaw", "make", "(IIIII)[C"⟩ : MethodName) method_3_code 5 (some (.array .char)) :: ws) ({ frames := 0, cells := 1, slots := 4, locals := 0 } : Room)) (fun ar_ U => ar_ = #[(.int (4 : Int32)), (.int x0), (.int x1), (.int x2), (.int x3)] ∧ Z.Warmed39 U.vm ∧ U.heap = h0) (fun _ _ _ _ _ => True) (fun _ U o U' => ∃ v L, o = .returned v ∧ QM Z n0 4 (own_x x0 x1 x2 x3) v U'.heap L ∧ FrameEnd U o U' L ({ frames := 0, cells := 1, slots := 4, locals := 0 } : Room).cells ({ frames := 0, cells := 1, slots := 4, locals := 0 } : Room).slots) := by
  refine MetFree.of_bodySF (plainFor_of_name pn_1) hisR ?_
  intro p e s m args below meth c s₁ Bd hml0 hP hK
  obtain ⟨rfl, hZ, hh⟩ := hP
  have hx := Bd.exec
  have hby := Bd.bytes
  have hml : c.maxLocals = 5 := hml0
  have hown : s.vm.findClass "com/example/onward/onward/eval/ExcerptPlacesBelowPinLaw" = some m.cls := findClass_of_methodNamed Bd.named
  have hnm := (name_of_methodNamed Bd.named Bd.method).1
  have X0 : Stand p l e ({ frames := 0, cells := 1, slots := 4, locals := 0 } : Room) s m #[(.int (4 : Int32)), (.int x0), (.int x1), (.int x2), (.int x3)] below meth c s₁ [] 0 0 := Stand.of_body Bd
  have e0 : s₁.heap = h0 := by rw [← hh, Bd.state]; rfl
  have pre0 : ∀ t, Steps p.tables e below (s₁.setTop (mkF m 0 #[.val (.int (4 : Int32)), .val (.int x0), .val (.int x1), .val (.int x2), .val (.int x3)] [])) t → Steps p.tables e below (s₁.setTop (entryFrame m #[(.int (4 : Int32)), (.int x0), (.int x1), (.int x2), (.int x3)] 5)) t := fun t_ k_ => castTop (ef_1 m (4 : Int32) x0 x1 x2 x3) k_
  have N0 := Fr.nil n0
  obtain ⟨T1, h1, k1, X1, e1, E1, A1, st1⟩ := newP X0 hx hZ (hw _ (List.mem_of_getElem? (i := 6) rfl)) e0 (g := (mkF m 66 #[.val (.int (4 : Int32)), .val (.int x0), .val (.int x1), .val (.int x2), .val (.int x3)] [(.int (4 : Int32))])) rfl (hb hby d1_66) rfl (by decide) (cap := 4) (by decide) (by decide) (by decide) (by decide)
  obtain ⟨b, gb⟩ : ∃ z, z = h0.size := ⟨_, rfl⟩
  rw [← gb] at A1 st1
  have g : n0 ≤ b := Nat.le_trans Z0 (Nat.le_of_eq gb.symm)
  have V1 : Iar Z h1 b .char 4 (fun _ => 0) := Iar.new A1 rfl (by omega) rfl rfl
  obtain ⟨T2, h2, X2, e2, W2, V2, st2⟩ := own_stC X1 hx hZ e1 V1 (j := (0 : Int32)) (i := 0) (by decide) (by decide) (by omega) (g := (mkF m 72 #[.val (.int (4 : Int32)), .val (.int x0), .val (.int x1), .val (.int x2), .val (.int x3)] [(.int (x0.toUInt32.toUInt16.toUInt32.toInt32)), (.int (0 : Int32)), (.ref b), (.ref b)])) rfl rfl (hb hby d1_72)
  have N2 := Fr.snoc X2 N0 g
  obtain ⟨T3, h3, X3, e3, W3, V3, st3⟩ := own_stC X2 hx hZ e2 V2 (j := (1 : Int32)) (i := 1) (by decide) (by decide) (by omega) (g := (mkF m 77 #[.val (.int (4 : Int32)), .val (.int x0), .val (.int x1), .val (.int x2), .val (.int x3)] [(.int (x1.toUInt32.toUInt16.toUInt32.toInt32)), (.int (1 : Int32)), (.ref b), (.ref b)])) rfl rfl (hb hby d1_77)
  have N3 := Fr.snoc X3 N2 g
  obtain ⟨T4, h4, X4, e4, W4, V4, st4⟩ := own_stC X3 hx hZ e3 V3 (j := (2 : Int32)) (i := 2) (by decide) (by decide) (by omega) (g := (mkF m 82 #[.val (.int (4 : Int32)), .val (.int x0), .val (.int x1), .val (.int x2), .val (.int x3)] [(.int (x2.toUInt32.toUInt16.toUInt32.toInt32)), (.int (2 : Int32)), (.ref b), (.ref b)])) rfl rfl (hb hby d1_82)
  have N4 := Fr.snoc X4 N3 g
  obtain ⟨T5, h5, X5, e5, W5, V5, st5⟩ := own_stC X4 hx hZ e4 V4 (j := (3 : Int32)) (i := 3) (by decide) (by decide) (by omega) (g := (mkF m 88 #[.val (.int (4 : Int32)), .val (.int x0), .val (.int x1), .val (.int x2), .val (.int x3)] [(.int (x3.toUInt32.toUInt16.toUInt32.toInt32)), (.int (3 : Int32)), (.ref b), (.ref b)])) rfl rfl (hb hby d1_88)
  have N5 := Fr.snoc X5 N4 g
  obtain ⟨fs, hr, hrun, hended, hW, hsame⟩ := X5.leave (v := some (.ref b)) (fun h => by rw [Bd.returns] at h; cases h)
  refine ⟨_, _, pre0 _ ?_, hrun, hended, _, _, rfl, ?_, ⟨_, rfl⟩, hW, hsame.mono (by decide) (by decide)⟩
  · show Steps p.tables e below (s₁.setTop (mkF m 0 #[.val (.int (4 : Int32)), .val (.int x0), .val (.int x1), .val (.int x2), .val (.int x3)] [])) _
    refine XS.iloadN X0.here hx rfl (hb hby d1_0) rfl ?_
    show Steps p.tables e below (s₁.setTop (mkF m 1 #[.val (.int (4 : Int32)), .val (.int x0), .val (.int x1), .val (.int x2), .val (.int x3)] [(.int (4 : Int32))])) _
    refine XS.ifYes X0.here hx rfl (pc0 := 1) (pc' := 8) rfl (hb hby d1_1) rfl ((if0 _ _).trans (feq (by decide : ¬ ((4 : Int32) = (0 : Int32)))).2) (by decide) (by decide) ?_
    show Steps p.tables e below (s₁.setTop (mkF m 8 #[.val (.int (4 : Int32)), .val (.int x0), .val (.int x1), .val (.int x2), .val (.int x3)] [])) _
    refine XS.iloadN X0.here hx rfl (hb hby d1_8) rfl ?_
    show Steps p.tables e below (s₁.setTop (mkF m 9 #[.val (.int (4 : Int32)), .val (.int x0), .val (.int x1), .val (.int x2), .val (.int x3)] [(.int (4 : Int32))])) _
    refine XS.iconst X0.here hx rfl (hb hby d1_9) ?_
    show Steps p.tables e below (s₁.setTop (mkF m 10 #[.val (.int (4 : Int32)), .val (.int x0), .val (.int x1), .val (.int x2), .val (.int x3)] [(.int (1 : Int32)), (.int (4 : Int32))])) _
    refine XS.icmpYes X0.here hx rfl (pc0 := 10) (pc' := 22) rfl (hb hby d1_10) rfl (feq (by decide : ¬ ((4 : Int32) = (1 : Int32)))).2 (by decide) (by decide) ?_
    show Steps p.tables e below (s₁.setTop (mkF m 22 #[.val (.int (4 : Int32)), .val (.int x0), .val (.int x1), .val (.int x2), .val (.int x3)] [])) _
    refine XS.iloadN X0.here hx rfl (hb hby d1_22) rfl ?_
    show Steps p.tables e below (s₁.setTop (mkF m 23 #[.val (.int (4 : Int32)), .val (.int x0), .val (.int x1), .val (.int x2), .val (.int x3)] [(.int (4 : Int32))])) _
    refine XS.iconst X0.here hx rfl (hb hby d1_23) ?_
    show Steps p.tables e below (s₁.setTop (mkF m 24 #[.val (.int (4 : Int32)), .val (.int x0), .val (.int x1), .val (.int x2), .val (.int x3)] [(.int (2 : Int32)), (.int (4 : Int32))])) _
    refine XS.icmpYes X0.here hx rfl (pc0 := 24) (pc' := 41) rfl (hb hby d1_24) rfl (feq (by decide : ¬ ((4 : Int32) = (2 : Int32)))).2 (by decide) (by decide) ?_
    show Steps p.tables e below (s₁.setTop (mkF m 41 #[.val (.int (4 : Int32)), .val (.int x0), .val (.int x1), .val (.int x2), .val (.int x3)] [])) _
    refine XS.iloadN X0.here hx rfl (hb hby d1_41) rfl ?_
    show Steps p.tables e below (s₁.setTop (mkF m 42 #[.val (.int (4 : Int32)), .val (.int x0), .val (.int x1), .val (.int x2), .val (.int x3)] [(.int (4 : Int32))])) _
    refine XS.iconst X0.here hx rfl (hb hby d1_42) ?_
    show Steps p.tables e below (s₁.setTop (mkF m 43 #[.val (.int (4 : Int32)), .val (.int x0), .val (.int x1), .val (.int x2), .val (.int x3)] [(.int (3 : Int32)), (.int (4 : Int32))])) _
    refine XS.icmpYes X0.here hx rfl (pc0 := 43) (pc' := 65) rfl (hb hby d1_43) rfl (feq (by decide : ¬ ((4 : Int32) = (3 : Int32)))).2 (by decide) (by decide) ?_
    show Steps p.tables e below (s₁.setTop (mkF m 65 #[.val (.int (4 : Int32)), .val (.int x0), .val (.int x1), .val (.int x2), .val (.int x3)] [])) _
    refine XS.iconst X0.here hx rfl (hb hby d1_65) ?_
    show Steps p.tables e below (s₁.setTop (mkF m 66 #[.val (.int (4 : Int32)), .val (.int x0), .val (.int x1), .val (.int x2), .val (.int x3)] [(.int (4 : Int32))])) _
    refine st1 _ ?_
    show Steps p.tables e below (T1.setTop (mkF m 68 #[.val (.int (4 : Int32)), .val (.int x0), .val (.int x1), .val (.int x2), .val (.int x3)] [(.ref b)])) _
    refine XS.dup X1.here hx rfl (hb hby d1_68) rfl rfl ?_
    show Steps p.tables e below (T1.setTop (mkF m 69 #[.val (.int (4 : Int32)), .val (.int x0), .val (.int x1), .val (.int x2), .val (.int x3)] [(.ref b), (.ref b)])) _
    refine XS.iconst X1.here hx rfl (hb hby d1_69) ?_
    show Steps p.tables e below (T1.setTop (mkF m 70 #[.val (.int (4 : Int32)), .val (.int x0), .val (.int x1), .val (.int x2), .val (.int x3)] [(.int (0 : Int32)), (.ref b), (.ref b)])) _
    refine XS.iloadN X1.here hx rfl (hb hby d1_70) rfl ?_
    show Steps p.tables e below (T1.setTop (mkF m 71 #[.val (.int (4 : Int32)), .val (.int x0), .val (.int x1), .val (.int x2), .val (.int x3)] [(.int x0), (.int (0 : Int32)), (.ref b), (.ref b)])) _
    refine XS.i2c X1.here hx rfl (hb hby d1_71) rfl ?_
    show Steps p.tables e below (T1.setTop (mkF m 72 #[.val (.int (4 : Int32)), .val (.int x0), .val (.int x1), .val (.int x2), .val (.int x3)] [(.int (x0.toUInt32.toUInt16.toUInt32.toInt32)), (.int (0 : Int32)), (.ref b), (.ref b)])) _
    refine st2 _ ?_
    show Steps p.tables e below (T2.setTop (mkF m 73 #[.val (.int (4 : Int32)), .val (.int x0), .val (.int x1), .val (.int x2), .val (.int x3)] [(.ref b)])) _
    refine XS.dup X2.here hx rfl (hb hby d1_73) rfl rfl ?_
    show Steps p.tables e below (T2.setTop (mkF m 74 #[.val (.int (4 : Int32)), .val (.int x0), .val (.int x1), .val (.int x2), .val (.int x3)] [(.ref b), (.ref b)])) _
    refine XS.iconst X2.here hx rfl (hb hby d1_74) ?_
    show Steps p.tables e below (T2.setTop (mkF m 75 #[.val (.int (4 : Int32)), .val (.int x0), .val (.int x1), .val (.int x2), .val (.int x3)] [(.int (1 : Int32)), (.ref b), (.ref b)])) _
    refine XS.iloadN X2.here hx rfl (hb hby d1_75) rfl ?_
    show Steps p.tables e below (T2.setTop (mkF m 76 #[.val (.int (4 : Int32)), .val (.int x0), .val (.int x1), .val (.int x2), .val (.int x3)] [(.int x1), (.int (1 : Int32)), (.ref b), (.ref b)])) _
    refine XS.i2c X2.here hx rfl (hb hby d1_76) rfl ?_
    show Steps p.tables e below (T2.setTop (mkF m 77 #[.val (.int (4 : Int32)), .val (.int x0), .val (.int x1), .val (.int x2), .val (.int x3)] [(.int (x1.toUInt32.toUInt16.toUInt32.toInt32)), (.int (1 : Int32)), (.ref b), (.ref b)])) _
    refine st3 _ ?_
    show Steps p.tables e below (T3.setTop (mkF m 78 #[.val (.int (4 : Int32)), .val (.int x0), .val (.int x1), .val (.int x2), .val (.int x3)] [(.ref b)])) _
    refine XS.dup X3.here hx rfl (hb hby d1_78) rfl rfl ?_
    show Steps p.tables e below (T3.setTop (mkF m 79 #[.val (.int (4 : Int32)), .val (.int x0), .val (.int x1), .val (.int x2), .val (.int x3)] [(.ref b), (.ref b)])) _
    refine XS.iconst X3.here hx rfl (hb hby d1_79) ?_
    show Steps p.tables e below (T3.setTop (mkF m 80 #[.val (.int (4 : Int32)), .val (.int x0), .val (.int x1), .val (.int x2), .val (.int x3)] [(.int (2 : Int32)), (.ref b), (.ref b)])) _
    refine XS.iloadN X3.here hx rfl (hb hby d1_80) rfl ?_
    show Steps p.tables e below (T3.setTop (mkF m 81 #[.val (.int (4 : Int32)), .val (.int x0), .val (.int x1), .val (.int x2), .val (.int x3)] [(.int x2), (.int (2 : Int32)), (.ref b), (.ref b)])) _
    refine XS.i2c X3.here hx rfl (hb hby d1_81) rfl ?_
    show Steps p.tables e below (T3.setTop (mkF m 82 #[.val (.int (4 : Int32)), .val (.int x0), .val (.int x1), .val (.int x2), .val (.int x3)] [(.int (x2.toUInt32.toUInt16.toUInt32.toInt32)), (.int (2 : Int32)), (.ref b), (.ref b)])) _
    refine st4 _ ?_
    show Steps p.tables e below (T4.setTop (mkF m 83 #[.val (.int (4 : Int32)), .val (.int x0), .val (.int x1), .val (.int x2), .val (.int x3)] [(.ref b)])) _
    refine XS.dup X4.here hx rfl (hb hby d1_83) rfl rfl ?_
    show Steps p.tables e below (T4.setTop (mkF m 84 #[.val (.int (4 : Int32)), .val (.int x0), .val (.int x1), .val (.int x2), .val (.int x3)] [(.ref b), (.ref b)])) _
    refine XS.iconst X4.here hx rfl (hb hby d1_84) ?_
    show Steps p.tables e below (T4.setTop (mkF m 85 #[.val (.int (4 : Int32)), .val (.int x0), .val (.int x1), .val (.int x2), .val (.int x3)] [(.int (3 : Int32)), (.ref b), (.ref b)])) _
    refine XS.iload X4.here hx rfl (hb hby d1_85) rfl ?_
    show Steps p.tables e below (T4.setTop (mkF m 87 #[.val (.int (4 : Int32)), .val (.int x0), .val (.int x1), .val (.int x2), .val (.int x3)] [(.int x3), (.int (3 : Int32)), (.ref b), (.ref b)])) _
    refine XS.i2c X4.here hx rfl (hb hby d1_87) rfl ?_
    show Steps p.tables e below (T4.setTop (mkF m 88 #[.val (.int (4 : Int32)), .val (.int x0), .val (.int x1), .val (.int x2), .val (.int x3)] [(.int (x3.toUInt32.toUInt16.toUInt32.toInt32)), (.int (3 : Int32)), (.ref b), (.ref b)])) _
    refine st5 _ ?_
    show Steps p.tables e below (T5.setTop (mkF m 89 #[.val (.int (4 : Int32)), .val (.int x0), .val (.int x1), .val (.int x2), .val (.int x3)] [(.ref b)])) _
    exact retOut X5 hx Bd.returns rfl (Or.inr (Or.inr (Or.inr (Or.inr ⟨rfl, rfl, rfl⟩)))) (hb hby d1_89) hr
  · refine ⟨b, rfl, N5, ?_⟩
    show Iar Z T5.heap b .char 4 _
    rw [e5]
    refine V5.congr fun j hj => ?_
    rw [own_narc b0, own_narc b1, own_narc b2, own_narc b3]
    by_cases q0 : j = 0
    · subst q0; simp [own_x]
    by_cases q1 : j = 1
    · subst q1; simp [own_x]
    by_cases q2 : j = 2
    · subst q2; simp [own_x]
    by_cases q3 : j = 3
    · subst q3; simp [own_x]
    omega
set_option maxRecDepth 65536 in
set_option maxHeartbeats 40000000 in
theorem rm_make (l : Launch) (Z : State) (a0 : Array Value) (hw : ∀ d ∈ tables_1, d.before a0 Z = true) (ws : List Jvm.Cond) (kk : Nat) (hkk : kk ≤ 4) (x0 x1 x2 x3 : Int32) (b0 : B16 x0) (b1 : B16 x1) (b2 : B16 x2) (b3 : B16 x3) (h0 : Heap) (n0 : Nat) (Z0 : n0 ≤ h0.size) :
    MetFree l (⟨"com/example/onward/onward/eval/ExcerptPlacesBelowPinLaw", "make", "(IIIII)[C"⟩ : MethodName) (head1 (Jvm.Cond.code (⟨"com/example/onward/onward/eval/ExcerptPlacesBelowPinLaw", "make", "(IIIII)[C"⟩ : MethodName) method_3_code 5 (some (.array .char)) :: ws) ({ frames := 0, cells := 1, slots := 4, locals := 0 } : Room)) (fun a U => a = #[(.int (Int32.ofNat kk)), (.int x0), (.int x1), (.int x2), (.int x3)] ∧ Z.Warmed39 U.vm ∧ U.heap = h0) (fun _ _ _ _ _ => True) (fun _ U o U' => ∃ v L, o = .returned v ∧ QM Z n0 kk (own_x x0 x1 x2 x3) v U'.heap L ∧ FrameEnd U o U' L ({ frames := 0, cells := 1, slots := 4, locals := 0 } : Room).cells ({ frames := 0, cells := 1, slots := 4, locals := 0 } : Room).slots) :=
  match kk, hkk with
  | 0, _ => rm_make0 l Z a0 hw ws x0 x1 x2 x3 b0 b1 b2 b3 h0 n0 Z0
  | 1, _ => rm_make1 l Z a0 hw ws x0 x1 x2 x3 b0 b1 b2 b3 h0 n0 Z0
  | 2, _ => rm_make2 l Z a0 hw ws x0 x1 x2 x3 b0 b1 b2 b3 h0 n0 Z0
  | 3, _ => rm_make3 l Z a0 hw ws x0 x1 x2 x3 b0 b1 b2 b3 h0 n0 Z0
  | 4, _ => rm_make4 l Z a0 hw ws x0 x1 x2 x3 b0 b1 b2 b3 h0 n0 Z0
def own_pc (f : Nat → Int32) (place : Int32) : Nat → Nat
  | 0 => 0
  | n + 1 => own_pc f place n + (if f n < place then 1 else 0)
theorem own_pc_le (f : Nat → Int32) (place : Int32) (r : Nat) : ∀ n, r ≤ n → (∀ j, j < r → f j < place) → (∀ j, r ≤ j → j < n → ¬ f j < place) → own_pc f place n = r := by
  intro n
  induction n with
  | zero => intro h _ _; rw [own_pc]; omega
  | succ n ih =>
    intro h h1 h2
    rw [own_pc]
    by_cases q : r ≤ n
    · rw [ih q h1 (fun j a b => h2 j a (by omega)), if_neg (h2 n q (by omega)), Nat.add_zero]
    · have e1 : r = n + 1 := by omega
      subst e1
      rw [if_pos (h1 n (by omega))]
      have : own_pc f place n = n := by
        clear ih h h2 q
        have h1' : ∀ j, j < n → f j < place := fun j hj => h1 j (by omega)
        clear h1
        induction n with
        | zero => rfl
        | succ n ih => rw [own_pc, if_pos (h1' n (by omega)), ih (fun j hj => h1' j (by omega))]
      omega
theorem own_mid {lo hi : Nat} (h : lo ≤ hi) (hh : hi < 2 ^ 30) : (((Int32.ofNat lo + Int32.ofNat hi).toUInt32 >>> ((1 : Int32) &&& 31).toUInt32).toInt32) = Int32.ofNat ((lo + hi) / 2) := by
  have q := c_iushr (Int32.ofNat lo + Int32.ofNat hi) 1 1 (by decide) (by decide)
  rw [← Int32.ofNat_add, own_ti (by omega)] at q
  rw [← Int32.ofNat_add, ← Int32.toInt_inj, q, own_ti (by omega)]
  omega
theorem os_pb {z0 z1 z2 z3 : Value} {s4 : Slot} {v : Int32} (h : One s4) : storeLocals #[.val z0, .val z1, .val z2, .val z3, s4] 4 (.int v) = some #[.val z0, .val z1, .val z2, .val z3, .val (.int v)] := by
  rcases h with rfl | ⟨w, rfl, hw⟩
  · rfl
  · cases w <;> first | rfl | (simp [Value.category] at hw)
set_option maxRecDepth 65536 in
set_option maxHeartbeats 40000000 in
theorem loop_pb {p : Program} {l : Launch} {e : Env} {R : Room} {s : State} {m : MethodId} {args : Array Value} {below : List Frame} {meth : Method} {c : Code} {T0 : State} {locs : List Loc} {cells slots : Nat} {Z : State} {a0 : Array Value} {h0 : Heap} (a : Addr) (place : Int32) (n : Nat) (f : Nat → Int32) (X0 : Stand p l e R s m args below meth c T0 locs cells slots) (hx : p.tables.exec = Jvm.exec) (hZ : Z.Warmed39 s.vm) (hw : ∀ d ∈ tables_1, d.before a0 Z = true) (hby : c.code = prog_54_method_5_code) (hml : c.maxLocals = 5) (hown : s.vm.findClass "com/example/onward/onward/eval/Excerpt" = some m.cls) (e0 : T0.heap = h0) (V : Iar Z h0 a .char n f) (hn : n < 2 ^ 30) (hs : ∀ i j, i ≤ j → j < n → ¬ f j < f i) : ∀ (d lo hi : Nat) (s4 : Slot), hi - lo ≤ d → lo ≤ hi → hi ≤ n → (∀ j, j < lo → f j < place) → (∀ j, hi ≤ j → j < n → ¬ f j < place) → One s4 →
    ∃ (s3' s4' : Slot), ∀ target, Steps p.tables e below (T0.setTop (mkF m 45 #[.val (.ref a), .val (.int place), .val (.int (Int32.ofNat (own_pc f place n))), s3', s4'] [])) target → Steps p.tables e below (T0.setTop (mkF m 11 #[.val (.ref a), .val (.int place), .val (.int (Int32.ofNat lo)), .val (.int (Int32.ofNat hi)), s4] [])) target := by
  intro d
  induction d with
  | zero =>
    intro lo hi s4 hd hle hhi i1 i2 hs4
    obtain rfl : lo = hi := by omega
    rw [own_pc_le f place lo n hhi i1 i2]
    refine ⟨.val (.int (Int32.ofNat lo)), s4, fun target kt => ?_⟩
    show Steps p.tables e below (T0.setTop (mkF m 11 #[.val (.ref a), .val (.int place), .val (.int (Int32.ofNat lo)), .val (.int (Int32.ofNat lo)), s4] [])) _
    refine XS.iloadN X0.here hx rfl (hb hby d3_11) rfl ?_
    show Steps p.tables e below (T0.setTop (mkF m 12 #[.val (.ref a), .val (.int place), .val (.int (Int32.ofNat lo)), .val (.int (Int32.ofNat lo)), s4] [(.int (Int32.ofNat lo))])) _
    refine XS.iloadN X0.here hx rfl (hb hby d3_12) rfl ?_
    show Steps p.tables e below (T0.setTop (mkF m 13 #[.val (.ref a), .val (.int place), .val (.int (Int32.ofNat lo)), .val (.int (Int32.ofNat lo)), s4] [(.int (Int32.ofNat lo)), (.int (Int32.ofNat lo))])) _
    refine XS.icmpYes X0.here hx rfl (pc0 := 13) (pc' := 45) rfl (hb hby d3_13) rfl (flt (Int32.lt_irrefl)).2.1 (by decide) (by decide) ?_
    exact kt
  | succ d ih =>
    intro lo hi s4 hd hle hhi i1 i2 hs4
    by_cases hlh : lo < hi
    · have hc13 : Int32.ofNat lo < Int32.ofNat hi := (own_lt (by omega) (by omega)).mpr hlh
      by_cases hm : f ((lo + hi) / 2) < place
      · obtain ⟨s3', s4', st⟩ := ih ((lo + hi) / 2 + 1) hi (.val (.int (Int32.ofNat ((lo + hi) / 2)))) (by omega) (by omega) hhi (fun j hj => by
          have q := hs j ((lo + hi) / 2) (by omega) (by omega)
          rw [Int32.lt_iff_toInt_lt] at q hm ⊢
          omega) i2 (One.val rfl)
        refine ⟨s3', s4', fun target kt => ?_⟩
        have kt2 := st target kt
        rw [← own_one] at kt2
        show Steps p.tables e below (T0.setTop (mkF m 11 #[.val (.ref a), .val (.int place), .val (.int (Int32.ofNat lo)), .val (.int (Int32.ofNat hi)), s4] [])) _
        refine XS.iloadN X0.here hx rfl (hb hby d3_11) rfl ?_
        show Steps p.tables e below (T0.setTop (mkF m 12 #[.val (.ref a), .val (.int place), .val (.int (Int32.ofNat lo)), .val (.int (Int32.ofNat hi)), s4] [(.int (Int32.ofNat lo))])) _
        refine XS.iloadN X0.here hx rfl (hb hby d3_12) rfl ?_
        show Steps p.tables e below (T0.setTop (mkF m 13 #[.val (.ref a), .val (.int place), .val (.int (Int32.ofNat lo)), .val (.int (Int32.ofNat hi)), s4] [(.int (Int32.ofNat hi)), (.int (Int32.ofNat lo))])) _
        refine XS.icmpNo X0.here hx rfl (hb hby d3_13) rfl (tlt hc13).2.1 ?_
        show Steps p.tables e below (T0.setTop (mkF m 16 #[.val (.ref a), .val (.int place), .val (.int (Int32.ofNat lo)), .val (.int (Int32.ofNat hi)), s4] [])) _
        refine XS.iloadN X0.here hx rfl (hb hby d3_16) rfl ?_
        show Steps p.tables e below (T0.setTop (mkF m 17 #[.val (.ref a), .val (.int place), .val (.int (Int32.ofNat lo)), .val (.int (Int32.ofNat hi)), s4] [(.int (Int32.ofNat lo))])) _
        refine XS.iloadN X0.here hx rfl (hb hby d3_17) rfl ?_
        show Steps p.tables e below (T0.setTop (mkF m 18 #[.val (.ref a), .val (.int place), .val (.int (Int32.ofNat lo)), .val (.int (Int32.ofNat hi)), s4] [(.int (Int32.ofNat hi)), (.int (Int32.ofNat lo))])) _
        refine XS.iadd X0.here hx rfl (hb hby d3_18) rfl ?_
        show Steps p.tables e below (T0.setTop (mkF m 19 #[.val (.ref a), .val (.int place), .val (.int (Int32.ofNat lo)), .val (.int (Int32.ofNat hi)), s4] [(.int ((Int32.ofNat lo) + (Int32.ofNat hi)))])) _
        refine XS.iconst X0.here hx rfl (hb hby d3_19) ?_
        show Steps p.tables e below (T0.setTop (mkF m 20 #[.val (.ref a), .val (.int place), .val (.int (Int32.ofNat lo)), .val (.int (Int32.ofNat hi)), s4] [(.int (1 : Int32)), (.int ((Int32.ofNat lo) + (Int32.ofNat hi)))])) _
        refine XS.iushr X0.here hx rfl (hb hby d3_20) rfl ?_
        show Steps p.tables e below (T0.setTop (mkF m 21 #[.val (.ref a), .val (.int place), .val (.int (Int32.ofNat lo)), .val (.int (Int32.ofNat hi)), s4] [(.int ((((Int32.ofNat lo) + (Int32.ofNat hi)).toUInt32 >>> ((1 : Int32) &&& 31).toUInt32).toInt32))])) _
        rw [own_mid (by omega) (by omega)]
        show Steps p.tables e below (T0.setTop (mkF m 21 #[.val (.ref a), .val (.int place), .val (.int (Int32.ofNat lo)), .val (.int (Int32.ofNat hi)), s4] [(.int (Int32.ofNat ((lo + hi) / 2)))])) _
        refine XS.istore X0.here hx rfl (hb hby d3_21) rfl (l' := #[.val (.ref a), .val (.int place), .val (.int (Int32.ofNat lo)), .val (.int (Int32.ofNat hi)), .val (.int (Int32.ofNat ((lo + hi) / 2)))]) (os_pb hs4) ?_
        show Steps p.tables e below (T0.setTop (mkF m 23 #[.val (.ref a), .val (.int place), .val (.int (Int32.ofNat lo)), .val (.int (Int32.ofNat hi)), .val (.int (Int32.ofNat ((lo + hi) / 2)))] [])) _
        refine XS.aloadN X0.here hx rfl (hb hby d3_23) rfl rfl ?_
        show Steps p.tables e below (T0.setTop (mkF m 24 #[.val (.ref a), .val (.int place), .val (.int (Int32.ofNat lo)), .val (.int (Int32.ofNat hi)), .val (.int (Int32.ofNat ((lo + hi) / 2)))] [(.ref a)])) _
        refine XS.iload X0.here hx rfl (hb hby d3_24) rfl ?_
        show Steps p.tables e below (T0.setTop (mkF m 26 #[.val (.ref a), .val (.int place), .val (.int (Int32.ofNat lo)), .val (.int (Int32.ofNat hi)), .val (.int (Int32.ofNat ((lo + hi) / 2)))] [(.int (Int32.ofNat ((lo + hi) / 2))), (.ref a)])) _
        refine own_ldC X0 hx hZ e0 V (j := (Int32.ofNat ((lo + hi) / 2))) (own_n32 (by omega)) (own_nn (by omega)) (by omega) (g := (mkF m 26 #[.val (.ref a), .val (.int place), .val (.int (Int32.ofNat lo)), .val (.int (Int32.ofNat hi)), .val (.int (Int32.ofNat ((lo + hi) / 2)))] [(.int (Int32.ofNat ((lo + hi) / 2))), (.ref a)])) rfl rfl (hb hby d3_26) _ ?_
        show Steps p.tables e below (T0.setTop (mkF m 27 #[.val (.ref a), .val (.int place), .val (.int (Int32.ofNat lo)), .val (.int (Int32.ofNat hi)), .val (.int (Int32.ofNat ((lo + hi) / 2)))] [(.int (f ((lo + hi) / 2)))])) _
        refine XS.iloadN X0.here hx rfl (hb hby d3_27) rfl ?_
        show Steps p.tables e below (T0.setTop (mkF m 28 #[.val (.ref a), .val (.int place), .val (.int (Int32.ofNat lo)), .val (.int (Int32.ofNat hi)), .val (.int (Int32.ofNat ((lo + hi) / 2)))] [(.int place), (.int (f ((lo + hi) / 2)))])) _
        refine XS.icmpNo X0.here hx rfl (hb hby d3_28) rfl (tlt hm).2.1 ?_
        show Steps p.tables e below (T0.setTop (mkF m 31 #[.val (.ref a), .val (.int place), .val (.int (Int32.ofNat lo)), .val (.int (Int32.ofNat hi)), .val (.int (Int32.ofNat ((lo + hi) / 2)))] [])) _
        refine XS.iload X0.here hx rfl (hb hby d3_31) rfl ?_
        show Steps p.tables e below (T0.setTop (mkF m 33 #[.val (.ref a), .val (.int place), .val (.int (Int32.ofNat lo)), .val (.int (Int32.ofNat hi)), .val (.int (Int32.ofNat ((lo + hi) / 2)))] [(.int (Int32.ofNat ((lo + hi) / 2)))])) _
        refine XS.iconst X0.here hx rfl (hb hby d3_33) ?_
        show Steps p.tables e below (T0.setTop (mkF m 34 #[.val (.ref a), .val (.int place), .val (.int (Int32.ofNat lo)), .val (.int (Int32.ofNat hi)), .val (.int (Int32.ofNat ((lo + hi) / 2)))] [(.int (1 : Int32)), (.int (Int32.ofNat ((lo + hi) / 2)))])) _
        refine XS.iadd X0.here hx rfl (hb hby d3_34) rfl ?_
        show Steps p.tables e below (T0.setTop (mkF m 35 #[.val (.ref a), .val (.int place), .val (.int (Int32.ofNat lo)), .val (.int (Int32.ofNat hi)), .val (.int (Int32.ofNat ((lo + hi) / 2)))] [(.int ((Int32.ofNat ((lo + hi) / 2)) + (1 : Int32)))])) _
        refine XS.istoreN X0.here hx rfl (hb hby d3_35) rfl (l' := #[.val (.ref a), .val (.int place), .val (.int ((Int32.ofNat ((lo + hi) / 2)) + (1 : Int32))), .val (.int (Int32.ofNat hi)), .val (.int (Int32.ofNat ((lo + hi) / 2)))]) rfl ?_
        show Steps p.tables e below (T0.setTop (mkF m 36 #[.val (.ref a), .val (.int place), .val (.int ((Int32.ofNat ((lo + hi) / 2)) + (1 : Int32))), .val (.int (Int32.ofNat hi)), .val (.int (Int32.ofNat ((lo + hi) / 2)))] [])) _
        refine XS.goto X0.here hx rfl (pc0 := 36) (pc' := 42) rfl (hb hby d3_36) (by decide) (by decide) ?_
        show Steps p.tables e below (T0.setTop (mkF m 42 #[.val (.ref a), .val (.int place), .val (.int ((Int32.ofNat ((lo + hi) / 2)) + (1 : Int32))), .val (.int (Int32.ofNat hi)), .val (.int (Int32.ofNat ((lo + hi) / 2)))] [])) _
        refine XS.goto X0.here hx rfl (pc0 := 42) (pc' := 11) rfl (hb hby d3_42) (by decide) (by decide) ?_
        exact kt2
      · obtain ⟨s3', s4', st⟩ := ih lo ((lo + hi) / 2) (.val (.int (Int32.ofNat ((lo + hi) / 2)))) (by omega) (by omega) (by omega) i1 (fun j hj hj2 => by
          have q := hs ((lo + hi) / 2) j (by omega) (by omega)
          rw [Int32.lt_iff_toInt_lt] at q hm ⊢
          omega) (One.val rfl)
        refine ⟨s3', s4', fun target kt => ?_⟩
        have kt2 := st target kt
        show Steps p.tables e below (T0.setTop (mkF m 11 #[.val (.ref a), .val (.int place), .val (.int (Int32.ofNat lo)), .val (.int (Int32.ofNat hi)), s4] [])) _
        refine XS.iloadN X0.here hx rfl (hb hby d3_11) rfl ?_
        show Steps p.tables e below (T0.setTop (mkF m 12 #[.val (.ref a), .val (.int place), .val (.int (Int32.ofNat lo)), .val (.int (Int32.ofNat hi)), s4] [(.int (Int32.ofNat lo))])) _
        refine XS.iloadN X0.here hx rfl (hb hby d3_12) rfl ?_
        show Steps p.tables e below (T0.setTop (mkF m 13 #[.val (.ref a), .val (.int place), .val (.int (Int32.ofNat lo)), .val (.int (Int32.ofNat hi)), s4] [(.int (Int32.ofNat hi)), (.int (Int32.ofNat lo))])) _
        refine XS.icmpNo X0.here hx rfl (hb hby d3_13) rfl (tlt hc13).2.1 ?_
        show Steps p.tables e below (T0.setTop (mkF m 16 #[.val (.ref a), .val (.int place), .val (.int (Int32.ofNat lo)), .val (.int (Int32.ofNat hi)), s4] [])) _
        refine XS.iloadN X0.here hx rfl (hb hby d3_16) rfl ?_
        show Steps p.tables e below (T0.setTop (mkF m 17 #[.val (.ref a), .val (.int place), .val (.int (Int32.ofNat lo)), .val (.int (Int32.ofNat hi)), s4] [(.int (Int32.ofNat lo))])) _
        refine XS.iloadN X0.here hx rfl (hb hby d3_17) rfl ?_
        show Steps p.tables e below (T0.setTop (mkF m 18 #[.val (.ref a), .val (.int place), .val (.int (Int32.ofNat lo)), .val (.int (Int32.ofNat hi)), s4] [(.int (Int32.ofNat hi)), (.int (Int32.ofNat lo))])) _
        refine XS.iadd X0.here hx rfl (hb hby d3_18) rfl ?_
        show Steps p.tables e below (T0.setTop (mkF m 19 #[.val (.ref a), .val (.int place), .val (.int (Int32.ofNat lo)), .val (.int (Int32.ofNat hi)), s4] [(.int ((Int32.ofNat lo) + (Int32.ofNat hi)))])) _
        refine XS.iconst X0.here hx rfl (hb hby d3_19) ?_
        show Steps p.tables e below (T0.setTop (mkF m 20 #[.val (.ref a), .val (.int place), .val (.int (Int32.ofNat lo)), .val (.int (Int32.ofNat hi)), s4] [(.int (1 : Int32)), (.int ((Int32.ofNat lo) + (Int32.ofNat hi)))])) _
        refine XS.iushr X0.here hx rfl (hb hby d3_20) rfl ?_
        show Steps p.tables e below (T0.setTop (mkF m 21 #[.val (.ref a), .val (.int place), .val (.int (Int32.ofNat lo)), .val (.int (Int32.ofNat hi)), s4] [(.int ((((Int32.ofNat lo) + (Int32.ofNat hi)).toUInt32 >>> ((1 : Int32) &&& 31).toUInt32).toInt32))])) _
        rw [own_mid (by omega) (by omega)]
        show Steps p.tables e below (T0.setTop (mkF m 21 #[.val (.ref a), .val (.int place), .val (.int (Int32.ofNat lo)), .val (.int (Int32.ofNat hi)), s4] [(.int (Int32.ofNat ((lo + hi) / 2)))])) _
        refine XS.istore X0.here hx rfl (hb hby d3_21) rfl (l' := #[.val (.ref a), .val (.int place), .val (.int (Int32.ofNat lo)), .val (.int (Int32.ofNat hi)), .val (.int (Int32.ofNat ((lo + hi) / 2)))]) (os_pb hs4) ?_
        show Steps p.tables e below (T0.setTop (mkF m 23 #[.val (.ref a), .val (.int place), .val (.int (Int32.ofNat lo)), .val (.int (Int32.ofNat hi)), .val (.int (Int32.ofNat ((lo + hi) / 2)))] [])) _
        refine XS.aloadN X0.here hx rfl (hb hby d3_23) rfl rfl ?_
        show Steps p.tables e below (T0.setTop (mkF m 24 #[.val (.ref a), .val (.int place), .val (.int (Int32.ofNat lo)), .val (.int (Int32.ofNat hi)), .val (.int (Int32.ofNat ((lo + hi) / 2)))] [(.ref a)])) _
        refine XS.iload X0.here hx rfl (hb hby d3_24) rfl ?_
        show Steps p.tables e below (T0.setTop (mkF m 26 #[.val (.ref a), .val (.int place), .val (.int (Int32.ofNat lo)), .val (.int (Int32.ofNat hi)), .val (.int (Int32.ofNat ((lo + hi) / 2)))] [(.int (Int32.ofNat ((lo + hi) / 2))), (.ref a)])) _
        refine own_ldC X0 hx hZ e0 V (j := (Int32.ofNat ((lo + hi) / 2))) (own_n32 (by omega)) (own_nn (by omega)) (by omega) (g := (mkF m 26 #[.val (.ref a), .val (.int place), .val (.int (Int32.ofNat lo)), .val (.int (Int32.ofNat hi)), .val (.int (Int32.ofNat ((lo + hi) / 2)))] [(.int (Int32.ofNat ((lo + hi) / 2))), (.ref a)])) rfl rfl (hb hby d3_26) _ ?_
        show Steps p.tables e below (T0.setTop (mkF m 27 #[.val (.ref a), .val (.int place), .val (.int (Int32.ofNat lo)), .val (.int (Int32.ofNat hi)), .val (.int (Int32.ofNat ((lo + hi) / 2)))] [(.int (f ((lo + hi) / 2)))])) _
        refine XS.iloadN X0.here hx rfl (hb hby d3_27) rfl ?_
        show Steps p.tables e below (T0.setTop (mkF m 28 #[.val (.ref a), .val (.int place), .val (.int (Int32.ofNat lo)), .val (.int (Int32.ofNat hi)), .val (.int (Int32.ofNat ((lo + hi) / 2)))] [(.int place), (.int (f ((lo + hi) / 2)))])) _
        refine XS.icmpYes X0.here hx rfl (pc0 := 28) (pc' := 39) rfl (hb hby d3_28) rfl (flt hm).2.1 (by decide) (by decide) ?_
        show Steps p.tables e below (T0.setTop (mkF m 39 #[.val (.ref a), .val (.int place), .val (.int (Int32.ofNat lo)), .val (.int (Int32.ofNat hi)), .val (.int (Int32.ofNat ((lo + hi) / 2)))] [])) _
        refine XS.iload X0.here hx rfl (hb hby d3_39) rfl ?_
        show Steps p.tables e below (T0.setTop (mkF m 41 #[.val (.ref a), .val (.int place), .val (.int (Int32.ofNat lo)), .val (.int (Int32.ofNat hi)), .val (.int (Int32.ofNat ((lo + hi) / 2)))] [(.int (Int32.ofNat ((lo + hi) / 2)))])) _
        refine XS.istoreN X0.here hx rfl (hb hby d3_41) rfl (l' := #[.val (.ref a), .val (.int place), .val (.int (Int32.ofNat lo)), .val (.int (Int32.ofNat ((lo + hi) / 2))), .val (.int (Int32.ofNat ((lo + hi) / 2)))]) rfl ?_
        show Steps p.tables e below (T0.setTop (mkF m 42 #[.val (.ref a), .val (.int place), .val (.int (Int32.ofNat lo)), .val (.int (Int32.ofNat ((lo + hi) / 2))), .val (.int (Int32.ofNat ((lo + hi) / 2)))] [])) _
        refine XS.goto X0.here hx rfl (pc0 := 42) (pc' := 11) rfl (hb hby d3_42) (by decide) (by decide) ?_
        exact kt2
    · obtain rfl : lo = hi := by omega
      rw [own_pc_le f place lo n hhi i1 i2]
      refine ⟨.val (.int (Int32.ofNat lo)), s4, fun target kt => ?_⟩
      show Steps p.tables e below (T0.setTop (mkF m 11 #[.val (.ref a), .val (.int place), .val (.int (Int32.ofNat lo)), .val (.int (Int32.ofNat lo)), s4] [])) _
      refine XS.iloadN X0.here hx rfl (hb hby d3_11) rfl ?_
      show Steps p.tables e below (T0.setTop (mkF m 12 #[.val (.ref a), .val (.int place), .val (.int (Int32.ofNat lo)), .val (.int (Int32.ofNat lo)), s4] [(.int (Int32.ofNat lo))])) _
      refine XS.iloadN X0.here hx rfl (hb hby d3_12) rfl ?_
      show Steps p.tables e below (T0.setTop (mkF m 13 #[.val (.ref a), .val (.int place), .val (.int (Int32.ofNat lo)), .val (.int (Int32.ofNat lo)), s4] [(.int (Int32.ofNat lo)), (.int (Int32.ofNat lo))])) _
      refine XS.icmpYes X0.here hx rfl (pc0 := 13) (pc' := 45) rfl (hb hby d3_13) rfl (flt (Int32.lt_irrefl)).2.1 (by decide) (by decide) ?_
      exact kt
theorem ef_3 (m : MethodId) (a : Addr) (place : Int32) : entryFrame m #[(.ref a), (.int place)] 5 = mkF m 0 #[.val (.ref a), .val (.int place), .unset, .unset, .unset] [] := by first | (simp [entryFrame, mkF, argsToLocals, Value.category]; done) | rfl
set_option maxRecDepth 65536 in
set_option maxHeartbeats 40000000 in
theorem rm_pb (l : Launch) (Z : State) (a0 : Array Value) (hw : ∀ d ∈ tables_1, d.before a0 Z = true) (ws : List Jvm.Cond) (a : Addr) (place : Int32) (n : Nat) (f : Nat → Int32) (h0 : Heap) (V : Iar Z h0 a .char n f) (hn : n < 2 ^ 30) (hs : ∀ i j, i ≤ j → j < n → ¬ f j < f i) :
    MetFree l (⟨"com/example/onward/onward/eval/Excerpt", "placesBelow", "([CI)I"⟩ : MethodName) (head1 (Jvm.Cond.code (⟨"com/example/onward/onward/eval/Excerpt", "placesBelow", "([CI)I"⟩ : MethodName) prog_54_method_5_code 5 (some .int) :: ws) ({ frames := 0, cells := 0, slots := 0, locals := 0 } : Room)) (fun ar_ U => ar_ = #[(.ref a), (.int place)] ∧ Z.Warmed39 U.vm ∧ U.heap = h0) (fun _ _ _ _ _ => True) (fun _ U o U' => ∃ v L, o = .returned v ∧ QR (.int (Int32.ofNat (own_pc f place n))) h0 v U'.heap L ∧ FrameEnd U o U' L ({ frames := 0, cells := 0, slots := 0, locals := 0 } : Room).cells ({ frames := 0, cells := 0, slots := 0, locals := 0 } : Room).slots) := by
  refine MetFree.of_bodySF (plainFor_of_name pn_3) hisR ?_
  intro p e s m args below meth c s₁ Bd hml0 hP hK
  obtain ⟨rfl, hZ, hh⟩ := hP
  have hx := Bd.exec
  have hby := Bd.bytes
  have hml : c.maxLocals = 5 := hml0
  have hown : s.vm.findClass "com/example/onward/onward/eval/Excerpt" = some m.cls := findClass_of_methodNamed Bd.named
  have hnm := (name_of_methodNamed Bd.named Bd.method).1
  have X0 : Stand p l e ({ frames := 0, cells := 0, slots := 0, locals := 0 } : Room) s m #[(.ref a), (.int place)] below meth c s₁ [] 0 0 := Stand.of_body Bd
  have e0 : s₁.heap = h0 := by rw [← hh, Bd.state]; rfl
  have pre0 : ∀ t, Steps p.tables e below (s₁.setTop (mkF m 0 #[.val (.ref a), .val (.int place), .unset, .unset, .unset] [])) t → Steps p.tables e below (s₁.setTop (entryFrame m #[(.ref a), (.int place)] 5)) t := fun t_ k_ => castTop (ef_3 m a place) k_
  obtain ⟨s3, s4, stL⟩ := loop_pb a place n f X0 hx hZ hw hby hml hown e0 V hn hs n 0 n .unset (by omega) (by omega) (Nat.le_refl _) (fun j hj => by omega) (fun j h1 h2 => by omega) One.u
  obtain ⟨fs, hr, hrun, hended, hW, hsame⟩ := X0.leave (v := some (.int (Int32.ofNat (own_pc f place n)))) (fun h => by rw [Bd.returns] at h; cases h)
  refine ⟨_, _, pre0 _ ?_, hrun, hended, _, _, rfl, ?_, ⟨_, rfl⟩, hW, hsame.mono (by decide) (by decide)⟩
  · show Steps p.tables e below (s₁.setTop (mkF m 0 #[.val (.ref a), .val (.int place), .unset, .unset, .unset] [])) _
    refine XS.aloadN X0.here hx rfl (hb hby d3_0) rfl rfl ?_
    show Steps p.tables e below (s₁.setTop (mkF m 1 #[.val (.ref a), .val (.int place), .unset, .unset, .unset] [(.ref a)])) _
    refine XS.ifnonnullYes X0.here hx rfl (pc0 := 1) (pc' := 6) rfl (hb hby d3_1) rfl (by decide) (by decide) ?_
    show Steps p.tables e below (s₁.setTop (mkF m 6 #[.val (.ref a), .val (.int place), .unset, .unset, .unset] [])) _
    refine XS.iconst X0.here hx rfl (hb hby d3_6) ?_
    show Steps p.tables e below (s₁.setTop (mkF m 7 #[.val (.ref a), .val (.int place), .unset, .unset, .unset] [(.int (0 : Int32))])) _
    refine XS.istoreN X0.here hx rfl (hb hby d3_7) rfl (l' := #[.val (.ref a), .val (.int place), .val (.int (0 : Int32)), .unset, .unset]) rfl ?_
    show Steps p.tables e below (s₁.setTop (mkF m 8 #[.val (.ref a), .val (.int place), .val (.int (0 : Int32)), .unset, .unset] [])) _
    refine XS.aloadN X0.here hx rfl (hb hby d3_8) rfl rfl ?_
    show Steps p.tables e below (s₁.setTop (mkF m 9 #[.val (.ref a), .val (.int place), .val (.int (0 : Int32)), .unset, .unset] [(.ref a)])) _
    refine own_len X0 hx hZ e0 V (g := (mkF m 9 #[.val (.ref a), .val (.int place), .val (.int (0 : Int32)), .unset, .unset] [(.ref a)])) rfl rfl (hb hby d3_9) _ ?_
    show Steps p.tables e below (s₁.setTop (mkF m 10 #[.val (.ref a), .val (.int place), .val (.int (0 : Int32)), .unset, .unset] [(.int (Int32.ofNat n))])) _
    refine XS.istoreN X0.here hx rfl (hb hby d3_10) rfl (l' := #[.val (.ref a), .val (.int place), .val (.int (0 : Int32)), .val (.int (Int32.ofNat n)), .unset]) rfl ?_
    show Steps p.tables e below (s₁.setTop (mkF m 11 #[.val (.ref a), .val (.int place), .val (.int (0 : Int32)), .val (.int (Int32.ofNat n)), .unset] [])) _
    refine stL _ ?_
    show Steps p.tables e below (s₁.setTop (mkF m 45 #[.val (.ref a), .val (.int place), .val (.int (Int32.ofNat (own_pc f place n))), s3, s4] [])) _
    refine XS.iloadN X0.here hx rfl (hb hby d3_45) rfl ?_
    show Steps p.tables e below (s₁.setTop (mkF m 46 #[.val (.ref a), .val (.int place), .val (.int (Int32.ofNat (own_pc f place n))), s3, s4] [(.int (Int32.ofNat (own_pc f place n)))])) _
    exact retI X0 hx Bd.returns (hb hby d3_46) hr
  · exact ⟨rfl, rfl, e0⟩
theorem ef_3N (m : MethodId) (place : Int32) : entryFrame m #[.null, (.int place)] 5 = mkF m 0 #[.val .null, .val (.int place), .unset, .unset, .unset] [] := by first | (simp [entryFrame, mkF, argsToLocals, Value.category]; done) | rfl
set_option maxRecDepth 65536 in
set_option maxHeartbeats 40000000 in
theorem rm_pbN (l : Launch) (Z : State) (a0 : Array Value) (hw : ∀ d ∈ tables_1, d.before a0 Z = true) (ws : List Jvm.Cond) (place : Int32) (h0 : Heap) :
    MetFree l (⟨"com/example/onward/onward/eval/Excerpt", "placesBelow", "([CI)I"⟩ : MethodName) (head1 (Jvm.Cond.code (⟨"com/example/onward/onward/eval/Excerpt", "placesBelow", "([CI)I"⟩ : MethodName) prog_54_method_5_code 5 (some .int) :: ws) ({ frames := 0, cells := 0, slots := 0, locals := 0 } : Room)) (fun ar_ U => ar_ = #[.null, (.int place)] ∧ Z.Warmed39 U.vm ∧ U.heap = h0) (fun _ _ _ _ _ => True) (fun _ U o U' => ∃ v L, o = .returned v ∧ QR (.int (0 : Int32)) h0 v U'.heap L ∧ FrameEnd U o U' L ({ frames := 0, cells := 0, slots := 0, locals := 0 } : Room).cells ({ frames := 0, cells := 0, slots := 0, locals := 0 } : Room).slots) := by
  refine MetFree.of_bodySF (plainFor_of_name pn_3) hisR ?_
  intro p e s m args below meth c s₁ Bd hml0 hP hK
  obtain ⟨rfl, hZ, hh⟩ := hP
  have hx := Bd.exec
  have hby := Bd.bytes
  have hml : c.maxLocals = 5 := hml0
  have hown : s.vm.findClass "com/example/onward/onward/eval/Excerpt" = some m.cls := findClass_of_methodNamed Bd.named
  have hnm := (name_of_methodNamed Bd.named Bd.method).1
  have X0 : Stand p l e ({ frames := 0, cells := 0, slots := 0, locals := 0 } : Room) s m #[.null, (.int place)] below meth c s₁ [] 0 0 := Stand.of_body Bd
  have e0 : s₁.heap = h0 := by rw [← hh, Bd.state]; rfl
  have pre0 : ∀ t, Steps p.tables e below (s₁.setTop (mkF m 0 #[.val .null, .val (.int place), .unset, .unset, .unset] [])) t → Steps p.tables e below (s₁.setTop (entryFrame m #[.null, (.int place)] 5)) t := fun t_ k_ => castTop (ef_3N m place) k_
  obtain ⟨fs, hr, hrun, hended, hW, hsame⟩ := X0.leave (v := some (.int (0 : Int32))) (fun h => by rw [Bd.returns] at h; cases h)
  refine ⟨_, _, pre0 _ ?_, hrun, hended, _, _, rfl, ?_, ⟨_, rfl⟩, hW, hsame.mono (by decide) (by decide)⟩
  · show Steps p.tables e below (s₁.setTop (mkF m 0 #[.val .null, .val (.int place), .unset, .unset, .unset] [])) _
    refine XS.aloadN X0.here hx rfl (hb hby d3_0) rfl rfl ?_
    show Steps p.tables e below (s₁.setTop (mkF m 1 #[.val .null, .val (.int place), .unset, .unset, .unset] [.null])) _
    refine XS.ifnonnullNo X0.here hx rfl (hb hby d3_1) rfl ?_
    show Steps p.tables e below (s₁.setTop (mkF m 4 #[.val .null, .val (.int place), .unset, .unset, .unset] [])) _
    refine XS.iconst X0.here hx rfl (hb hby d3_4) ?_
    show Steps p.tables e below (s₁.setTop (mkF m 5 #[.val .null, .val (.int place), .unset, .unset, .unset] [(.int (0 : Int32))])) _
    exact retI X0 hx Bd.returns (hb hby d3_5) hr
  · exact ⟨rfl, rfl, e0⟩
def Sw (u v u' v' : Int32) : Prop := (¬ v < u ∧ u' = u ∧ v' = v) ∨ (v < u ∧ u' = v ∧ v' = u)
theorem os_sw {ab cd sh q x0 x1 x2 x3 : Int32} {s8 : Slot} {v : Int32} (h : One s8) : storeLocals #[.val (.int ab), .val (.int cd), .val (.int sh), .val (.int q), .val (.int x0), .val (.int x1), .val (.int x2), .val (.int x3), s8, .unset, .unset, .unset, .unset, .unset, .unset] 8 (.int v) = some #[.val (.int ab), .val (.int cd), .val (.int sh), .val (.int q), .val (.int x0), .val (.int x1), .val (.int x2), .val (.int x3), .val (.int v), .unset, .unset, .unset, .unset, .unset, .unset] := by
  rcases h with rfl | ⟨w, rfl, hw⟩
  · rfl
  · cases w <;> first | rfl | (simp [Value.category] at hw)
set_option maxRecDepth 65536 in
set_option maxHeartbeats 40000000 in
theorem sw0 {p : Program} {l : Launch} {e : Env} {R : Room} {s : State} {m : MethodId} {args : Array Value} {below : List Frame} {meth : Method} {c : Code} {T0 : State} {locs : List Loc} {cells slots : Nat} {Z : State} {a0 : Array Value} {h0 : Heap} (ab cd sh q x0 x1 x2 x3 : Int32) (s8 : Slot) (hs8 : One s8) (X0 : Stand p l e R s m args below meth c T0 locs cells slots) (hx : p.tables.exec = Jvm.exec) (hZ : Z.Warmed39 s.vm) (hw : ∀ d ∈ tables_1, d.before a0 Z = true) (hby : c.code = code) (hml : c.maxLocals = 15) (hown : s.vm.findClass "com/example/onward/onward/eval/ExcerptPlacesBelowPinLaw" = some m.cls) (e0 : T0.heap = h0) : ∃ (u' v' : Int32) (s8' : Slot), Sw x0 x1 u' v' ∧ One s8' ∧ ∀ target, Steps p.tables e below (T0.setTop (mkF m 43 #[.val (.int ab), .val (.int cd), .val (.int sh), .val (.int q), .val (.int u'), .val (.int v'), .val (.int x2), .val (.int x3), s8', .unset, .unset, .unset, .unset, .unset, .unset] [])) target → Steps p.tables e below (T0.setTop (mkF m 24 #[.val (.int ab), .val (.int cd), .val (.int sh), .val (.int q), .val (.int x0), .val (.int x1), .val (.int x2), .val (.int x3), s8, .unset, .unset, .unset, .unset, .unset, .unset] [])) target := by
  by_cases hc : x1 < x0
  · refine ⟨x1, x0, .val (.int x0), Or.inr ⟨hc, rfl, rfl⟩, One.val rfl, fun target kt => ?_⟩
    show Steps p.tables e below (T0.setTop (mkF m 24 #[.val (.int ab), .val (.int cd), .val (.int sh), .val (.int q), .val (.int x0), .val (.int x1), .val (.int x2), .val (.int x3), s8, .unset, .unset, .unset, .unset, .unset, .unset] [])) _
    refine XS.iload X0.here hx rfl (hb hby at_24) rfl ?_
    show Steps p.tables e below (T0.setTop (mkF m 26 #[.val (.int ab), .val (.int cd), .val (.int sh), .val (.int q), .val (.int x0), .val (.int x1), .val (.int x2), .val (.int x3), s8, .unset, .unset, .unset, .unset, .unset, .unset] [(.int x0)])) _
    refine XS.iload X0.here hx rfl (hb hby at_26) rfl ?_
    show Steps p.tables e below (T0.setTop (mkF m 28 #[.val (.int ab), .val (.int cd), .val (.int sh), .val (.int q), .val (.int x0), .val (.int x1), .val (.int x2), .val (.int x3), s8, .unset, .unset, .unset, .unset, .unset, .unset] [(.int x1), (.int x0)])) _
    refine XS.icmpNo X0.here hx rfl (hb hby at_28) rfl (tlt hc).2.2.2 ?_
    show Steps p.tables e below (T0.setTop (mkF m 31 #[.val (.int ab), .val (.int cd), .val (.int sh), .val (.int q), .val (.int x0), .val (.int x1), .val (.int x2), .val (.int x3), s8, .unset, .unset, .unset, .unset, .unset, .unset] [])) _
    refine XS.iload X0.here hx rfl (hb hby at_31) rfl ?_
    show Steps p.tables e below (T0.setTop (mkF m 33 #[.val (.int ab), .val (.int cd), .val (.int sh), .val (.int q), .val (.int x0), .val (.int x1), .val (.int x2), .val (.int x3), s8, .unset, .unset, .unset, .unset, .unset, .unset] [(.int x0)])) _
    refine XS.istore X0.here hx rfl (hb hby at_33) rfl (l' := #[.val (.int ab), .val (.int cd), .val (.int sh), .val (.int q), .val (.int x0), .val (.int x1), .val (.int x2), .val (.int x3), .val (.int x0), .unset, .unset, .unset, .unset, .unset, .unset]) (os_sw hs8) ?_
    show Steps p.tables e below (T0.setTop (mkF m 35 #[.val (.int ab), .val (.int cd), .val (.int sh), .val (.int q), .val (.int x0), .val (.int x1), .val (.int x2), .val (.int x3), .val (.int x0), .unset, .unset, .unset, .unset, .unset, .unset] [])) _
    refine XS.iload X0.here hx rfl (hb hby at_35) rfl ?_
    show Steps p.tables e below (T0.setTop (mkF m 37 #[.val (.int ab), .val (.int cd), .val (.int sh), .val (.int q), .val (.int x0), .val (.int x1), .val (.int x2), .val (.int x3), .val (.int x0), .unset, .unset, .unset, .unset, .unset, .unset] [(.int x1)])) _
    refine XS.istore X0.here hx rfl (hb hby at_37) rfl (l' := #[.val (.int ab), .val (.int cd), .val (.int sh), .val (.int q), .val (.int x1), .val (.int x1), .val (.int x2), .val (.int x3), .val (.int x0), .unset, .unset, .unset, .unset, .unset, .unset]) rfl ?_
    show Steps p.tables e below (T0.setTop (mkF m 39 #[.val (.int ab), .val (.int cd), .val (.int sh), .val (.int q), .val (.int x1), .val (.int x1), .val (.int x2), .val (.int x3), .val (.int x0), .unset, .unset, .unset, .unset, .unset, .unset] [])) _
    refine XS.iload X0.here hx rfl (hb hby at_39) rfl ?_
    show Steps p.tables e below (T0.setTop (mkF m 41 #[.val (.int ab), .val (.int cd), .val (.int sh), .val (.int q), .val (.int x1), .val (.int x1), .val (.int x2), .val (.int x3), .val (.int x0), .unset, .unset, .unset, .unset, .unset, .unset] [(.int x0)])) _
    refine XS.istore X0.here hx rfl (hb hby at_41) rfl (l' := #[.val (.int ab), .val (.int cd), .val (.int sh), .val (.int q), .val (.int x1), .val (.int x0), .val (.int x2), .val (.int x3), .val (.int x0), .unset, .unset, .unset, .unset, .unset, .unset]) rfl ?_
    exact kt
  · refine ⟨x0, x1, s8, Or.inl ⟨hc, rfl, rfl⟩, hs8, fun target kt => ?_⟩
    show Steps p.tables e below (T0.setTop (mkF m 24 #[.val (.int ab), .val (.int cd), .val (.int sh), .val (.int q), .val (.int x0), .val (.int x1), .val (.int x2), .val (.int x3), s8, .unset, .unset, .unset, .unset, .unset, .unset] [])) _
    refine XS.iload X0.here hx rfl (hb hby at_24) rfl ?_
    show Steps p.tables e below (T0.setTop (mkF m 26 #[.val (.int ab), .val (.int cd), .val (.int sh), .val (.int q), .val (.int x0), .val (.int x1), .val (.int x2), .val (.int x3), s8, .unset, .unset, .unset, .unset, .unset, .unset] [(.int x0)])) _
    refine XS.iload X0.here hx rfl (hb hby at_26) rfl ?_
    show Steps p.tables e below (T0.setTop (mkF m 28 #[.val (.int ab), .val (.int cd), .val (.int sh), .val (.int q), .val (.int x0), .val (.int x1), .val (.int x2), .val (.int x3), s8, .unset, .unset, .unset, .unset, .unset, .unset] [(.int x1), (.int x0)])) _
    refine XS.icmpYes X0.here hx rfl (pc0 := 28) (pc' := 43) rfl (hb hby at_28) rfl (flt hc).2.2.2 (by decide) (by decide) ?_
    exact kt
set_option maxRecDepth 65536 in
set_option maxHeartbeats 40000000 in
theorem sw1 {p : Program} {l : Launch} {e : Env} {R : Room} {s : State} {m : MethodId} {args : Array Value} {below : List Frame} {meth : Method} {c : Code} {T0 : State} {locs : List Loc} {cells slots : Nat} {Z : State} {a0 : Array Value} {h0 : Heap} (ab cd sh q x0 x1 x2 x3 : Int32) (s8 : Slot) (hs8 : One s8) (X0 : Stand p l e R s m args below meth c T0 locs cells slots) (hx : p.tables.exec = Jvm.exec) (hZ : Z.Warmed39 s.vm) (hw : ∀ d ∈ tables_1, d.before a0 Z = true) (hby : c.code = code) (hml : c.maxLocals = 15) (hown : s.vm.findClass "com/example/onward/onward/eval/ExcerptPlacesBelowPinLaw" = some m.cls) (e0 : T0.heap = h0) : ∃ (u' v' : Int32) (s8' : Slot), Sw x2 x3 u' v' ∧ One s8' ∧ ∀ target, Steps p.tables e below (T0.setTop (mkF m 62 #[.val (.int ab), .val (.int cd), .val (.int sh), .val (.int q), .val (.int x0), .val (.int x1), .val (.int u'), .val (.int v'), s8', .unset, .unset, .unset, .unset, .unset, .unset] [])) target → Steps p.tables e below (T0.setTop (mkF m 43 #[.val (.int ab), .val (.int cd), .val (.int sh), .val (.int q), .val (.int x0), .val (.int x1), .val (.int x2), .val (.int x3), s8, .unset, .unset, .unset, .unset, .unset, .unset] [])) target := by
  by_cases hc : x3 < x2
  · refine ⟨x3, x2, .val (.int x2), Or.inr ⟨hc, rfl, rfl⟩, One.val rfl, fun target kt => ?_⟩
    show Steps p.tables e below (T0.setTop (mkF m 43 #[.val (.int ab), .val (.int cd), .val (.int sh), .val (.int q), .val (.int x0), .val (.int x1), .val (.int x2), .val (.int x3), s8, .unset, .unset, .unset, .unset, .unset, .unset] [])) _
    refine XS.iload X0.here hx rfl (hb hby at_43) rfl ?_
    show Steps p.tables e below (T0.setTop (mkF m 45 #[.val (.int ab), .val (.int cd), .val (.int sh), .val (.int q), .val (.int x0), .val (.int x1), .val (.int x2), .val (.int x3), s8, .unset, .unset, .unset, .unset, .unset, .unset] [(.int x2)])) _
    refine XS.iload X0.here hx rfl (hb hby at_45) rfl ?_
    show Steps p.tables e below (T0.setTop (mkF m 47 #[.val (.int ab), .val (.int cd), .val (.int sh), .val (.int q), .val (.int x0), .val (.int x1), .val (.int x2), .val (.int x3), s8, .unset, .unset, .unset, .unset, .unset, .unset] [(.int x3), (.int x2)])) _
    refine XS.icmpNo X0.here hx rfl (hb hby at_47) rfl (tlt hc).2.2.2 ?_
    show Steps p.tables e below (T0.setTop (mkF m 50 #[.val (.int ab), .val (.int cd), .val (.int sh), .val (.int q), .val (.int x0), .val (.int x1), .val (.int x2), .val (.int x3), s8, .unset, .unset, .unset, .unset, .unset, .unset] [])) _
    refine XS.iload X0.here hx rfl (hb hby at_50) rfl ?_
    show Steps p.tables e below (T0.setTop (mkF m 52 #[.val (.int ab), .val (.int cd), .val (.int sh), .val (.int q), .val (.int x0), .val (.int x1), .val (.int x2), .val (.int x3), s8, .unset, .unset, .unset, .unset, .unset, .unset] [(.int x2)])) _
    refine XS.istore X0.here hx rfl (hb hby at_52) rfl (l' := #[.val (.int ab), .val (.int cd), .val (.int sh), .val (.int q), .val (.int x0), .val (.int x1), .val (.int x2), .val (.int x3), .val (.int x2), .unset, .unset, .unset, .unset, .unset, .unset]) (os_sw hs8) ?_
    show Steps p.tables e below (T0.setTop (mkF m 54 #[.val (.int ab), .val (.int cd), .val (.int sh), .val (.int q), .val (.int x0), .val (.int x1), .val (.int x2), .val (.int x3), .val (.int x2), .unset, .unset, .unset, .unset, .unset, .unset] [])) _
    refine XS.iload X0.here hx rfl (hb hby at_54) rfl ?_
    show Steps p.tables e below (T0.setTop (mkF m 56 #[.val (.int ab), .val (.int cd), .val (.int sh), .val (.int q), .val (.int x0), .val (.int x1), .val (.int x2), .val (.int x3), .val (.int x2), .unset, .unset, .unset, .unset, .unset, .unset] [(.int x3)])) _
    refine XS.istore X0.here hx rfl (hb hby at_56) rfl (l' := #[.val (.int ab), .val (.int cd), .val (.int sh), .val (.int q), .val (.int x0), .val (.int x1), .val (.int x3), .val (.int x3), .val (.int x2), .unset, .unset, .unset, .unset, .unset, .unset]) rfl ?_
    show Steps p.tables e below (T0.setTop (mkF m 58 #[.val (.int ab), .val (.int cd), .val (.int sh), .val (.int q), .val (.int x0), .val (.int x1), .val (.int x3), .val (.int x3), .val (.int x2), .unset, .unset, .unset, .unset, .unset, .unset] [])) _
    refine XS.iload X0.here hx rfl (hb hby at_58) rfl ?_
    show Steps p.tables e below (T0.setTop (mkF m 60 #[.val (.int ab), .val (.int cd), .val (.int sh), .val (.int q), .val (.int x0), .val (.int x1), .val (.int x3), .val (.int x3), .val (.int x2), .unset, .unset, .unset, .unset, .unset, .unset] [(.int x2)])) _
    refine XS.istore X0.here hx rfl (hb hby at_60) rfl (l' := #[.val (.int ab), .val (.int cd), .val (.int sh), .val (.int q), .val (.int x0), .val (.int x1), .val (.int x3), .val (.int x2), .val (.int x2), .unset, .unset, .unset, .unset, .unset, .unset]) rfl ?_
    exact kt
  · refine ⟨x2, x3, s8, Or.inl ⟨hc, rfl, rfl⟩, hs8, fun target kt => ?_⟩
    show Steps p.tables e below (T0.setTop (mkF m 43 #[.val (.int ab), .val (.int cd), .val (.int sh), .val (.int q), .val (.int x0), .val (.int x1), .val (.int x2), .val (.int x3), s8, .unset, .unset, .unset, .unset, .unset, .unset] [])) _
    refine XS.iload X0.here hx rfl (hb hby at_43) rfl ?_
    show Steps p.tables e below (T0.setTop (mkF m 45 #[.val (.int ab), .val (.int cd), .val (.int sh), .val (.int q), .val (.int x0), .val (.int x1), .val (.int x2), .val (.int x3), s8, .unset, .unset, .unset, .unset, .unset, .unset] [(.int x2)])) _
    refine XS.iload X0.here hx rfl (hb hby at_45) rfl ?_
    show Steps p.tables e below (T0.setTop (mkF m 47 #[.val (.int ab), .val (.int cd), .val (.int sh), .val (.int q), .val (.int x0), .val (.int x1), .val (.int x2), .val (.int x3), s8, .unset, .unset, .unset, .unset, .unset, .unset] [(.int x3), (.int x2)])) _
    refine XS.icmpYes X0.here hx rfl (pc0 := 47) (pc' := 62) rfl (hb hby at_47) rfl (flt hc).2.2.2 (by decide) (by decide) ?_
    exact kt
set_option maxRecDepth 65536 in
set_option maxHeartbeats 40000000 in
theorem sw2 {p : Program} {l : Launch} {e : Env} {R : Room} {s : State} {m : MethodId} {args : Array Value} {below : List Frame} {meth : Method} {c : Code} {T0 : State} {locs : List Loc} {cells slots : Nat} {Z : State} {a0 : Array Value} {h0 : Heap} (ab cd sh q x0 x1 x2 x3 : Int32) (s8 : Slot) (hs8 : One s8) (X0 : Stand p l e R s m args below meth c T0 locs cells slots) (hx : p.tables.exec = Jvm.exec) (hZ : Z.Warmed39 s.vm) (hw : ∀ d ∈ tables_1, d.before a0 Z = true) (hby : c.code = code) (hml : c.maxLocals = 15) (hown : s.vm.findClass "com/example/onward/onward/eval/ExcerptPlacesBelowPinLaw" = some m.cls) (e0 : T0.heap = h0) : ∃ (u' v' : Int32) (s8' : Slot), Sw x0 x2 u' v' ∧ One s8' ∧ ∀ target, Steps p.tables e below (T0.setTop (mkF m 81 #[.val (.int ab), .val (.int cd), .val (.int sh), .val (.int q), .val (.int u'), .val (.int x1), .val (.int v'), .val (.int x3), s8', .unset, .unset, .unset, .unset, .unset, .unset] [])) target → Steps p.tables e below (T0.setTop (mkF m 62 #[.val (.int ab), .val (.int cd), .val (.int sh), .val (.int q), .val (.int x0), .val (.int x1), .val (.int x2), .val (.int x3), s8, .unset, .unset, .unset, .unset, .unset, .unset] [])) target := by
  by_cases hc : x2 < x0
  · refine ⟨x2, x0, .val (.int x0), Or.inr ⟨hc, rfl, rfl⟩, One.val rfl, fun target kt => ?_⟩
    show Steps p.tables e below (T0.setTop (mkF m 62 #[.val (.int ab), .val (.int cd), .val (.int sh), .val (.int q), .val (.int x0), .val (.int x1), .val (.int x2), .val (.int x3), s8, .unset, .unset, .unset, .unset, .unset, .unset] [])) _
    refine XS.iload X0.here hx rfl (hb hby at_62) rfl ?_
    show Steps p.tables e below (T0.setTop (mkF m 64 #[.val (.int ab), .val (.int cd), .val (.int sh), .val (.int q), .val (.int x0), .val (.int x1), .val (.int x2), .val (.int x3), s8, .unset, .unset, .unset, .unset, .unset, .unset] [(.int x0)])) _
    refine XS.iload X0.here hx rfl (hb hby at_64) rfl ?_
    show Steps p.tables e below (T0.setTop (mkF m 66 #[.val (.int ab), .val (.int cd), .val (.int sh), .val (.int q), .val (.int x0), .val (.int x1), .val (.int x2), .val (.int x3), s8, .unset, .unset, .unset, .unset, .unset, .unset] [(.int x2), (.int x0)])) _
    refine XS.icmpNo X0.here hx rfl (hb hby at_66) rfl (tlt hc).2.2.2 ?_
    show Steps p.tables e below (T0.setTop (mkF m 69 #[.val (.int ab), .val (.int cd), .val (.int sh), .val (.int q), .val (.int x0), .val (.int x1), .val (.int x2), .val (.int x3), s8, .unset, .unset, .unset, .unset, .unset, .unset] [])) _
    refine XS.iload X0.here hx rfl (hb hby at_69) rfl ?_
    show Steps p.tables e below (T0.setTop (mkF m 71 #[.val (.int ab), .val (.int cd), .val (.int sh), .val (.int q), .val (.int x0), .val (.int x1), .val (.int x2), .val (.int x3), s8, .unset, .unset, .unset, .unset, .unset, .unset] [(.int x0)])) _
    refine XS.istore X0.here hx rfl (hb hby at_71) rfl (l' := #[.val (.int ab), .val (.int cd), .val (.int sh), .val (.int q), .val (.int x0), .val (.int x1), .val (.int x2), .val (.int x3), .val (.int x0), .unset, .unset, .unset, .unset, .unset, .unset]) (os_sw hs8) ?_
    show Steps p.tables e below (T0.setTop (mkF m 73 #[.val (.int ab), .val (.int cd), .val (.int sh), .val (.int q), .val (.int x0), .val (.int x1), .val (.int x2), .val (.int x3), .val (.int x0), .unset, .unset, .unset, .unset, .unset, .unset] [])) _
    refine XS.iload X0.here hx rfl (hb hby at_73) rfl ?_
    show Steps p.tables e below (T0.setTop (mkF m 75 #[.val (.int ab), .val (.int cd), .val (.int sh), .val (.int q), .val (.int x0), .val (.int x1), .val (.int x2), .val (.int x3), .val (.int x0), .unset, .unset, .unset, .unset, .unset, .unset] [(.int x2)])) _
    refine XS.istore X0.here hx rfl (hb hby at_75) rfl (l' := #[.val (.int ab), .val (.int cd), .val (.int sh), .val (.int q), .val (.int x2), .val (.int x1), .val (.int x2), .val (.int x3), .val (.int x0), .unset, .unset, .unset, .unset, .unset, .unset]) rfl ?_
    show Steps p.tables e below (T0.setTop (mkF m 77 #[.val (.int ab), .val (.int cd), .val (.int sh), .val (.int q), .val (.int x2), .val (.int x1), .val (.int x2), .val (.int x3), .val (.int x0), .unset, .unset, .unset, .unset, .unset, .unset] [])) _
    refine XS.iload X0.here hx rfl (hb hby at_77) rfl ?_
    show Steps p.tables e below (T0.setTop (mkF m 79 #[.val (.int ab), .val (.int cd), .val (.int sh), .val (.int q), .val (.int x2), .val (.int x1), .val (.int x2), .val (.int x3), .val (.int x0), .unset, .unset, .unset, .unset, .unset, .unset] [(.int x0)])) _
    refine XS.istore X0.here hx rfl (hb hby at_79) rfl (l' := #[.val (.int ab), .val (.int cd), .val (.int sh), .val (.int q), .val (.int x2), .val (.int x1), .val (.int x0), .val (.int x3), .val (.int x0), .unset, .unset, .unset, .unset, .unset, .unset]) rfl ?_
    exact kt
  · refine ⟨x0, x2, s8, Or.inl ⟨hc, rfl, rfl⟩, hs8, fun target kt => ?_⟩
    show Steps p.tables e below (T0.setTop (mkF m 62 #[.val (.int ab), .val (.int cd), .val (.int sh), .val (.int q), .val (.int x0), .val (.int x1), .val (.int x2), .val (.int x3), s8, .unset, .unset, .unset, .unset, .unset, .unset] [])) _
    refine XS.iload X0.here hx rfl (hb hby at_62) rfl ?_
    show Steps p.tables e below (T0.setTop (mkF m 64 #[.val (.int ab), .val (.int cd), .val (.int sh), .val (.int q), .val (.int x0), .val (.int x1), .val (.int x2), .val (.int x3), s8, .unset, .unset, .unset, .unset, .unset, .unset] [(.int x0)])) _
    refine XS.iload X0.here hx rfl (hb hby at_64) rfl ?_
    show Steps p.tables e below (T0.setTop (mkF m 66 #[.val (.int ab), .val (.int cd), .val (.int sh), .val (.int q), .val (.int x0), .val (.int x1), .val (.int x2), .val (.int x3), s8, .unset, .unset, .unset, .unset, .unset, .unset] [(.int x2), (.int x0)])) _
    refine XS.icmpYes X0.here hx rfl (pc0 := 66) (pc' := 81) rfl (hb hby at_66) rfl (flt hc).2.2.2 (by decide) (by decide) ?_
    exact kt
set_option maxRecDepth 65536 in
set_option maxHeartbeats 40000000 in
theorem sw3 {p : Program} {l : Launch} {e : Env} {R : Room} {s : State} {m : MethodId} {args : Array Value} {below : List Frame} {meth : Method} {c : Code} {T0 : State} {locs : List Loc} {cells slots : Nat} {Z : State} {a0 : Array Value} {h0 : Heap} (ab cd sh q x0 x1 x2 x3 : Int32) (s8 : Slot) (hs8 : One s8) (X0 : Stand p l e R s m args below meth c T0 locs cells slots) (hx : p.tables.exec = Jvm.exec) (hZ : Z.Warmed39 s.vm) (hw : ∀ d ∈ tables_1, d.before a0 Z = true) (hby : c.code = code) (hml : c.maxLocals = 15) (hown : s.vm.findClass "com/example/onward/onward/eval/ExcerptPlacesBelowPinLaw" = some m.cls) (e0 : T0.heap = h0) : ∃ (u' v' : Int32) (s8' : Slot), Sw x1 x3 u' v' ∧ One s8' ∧ ∀ target, Steps p.tables e below (T0.setTop (mkF m 100 #[.val (.int ab), .val (.int cd), .val (.int sh), .val (.int q), .val (.int x0), .val (.int u'), .val (.int x2), .val (.int v'), s8', .unset, .unset, .unset, .unset, .unset, .unset] [])) target → Steps p.tables e below (T0.setTop (mkF m 81 #[.val (.int ab), .val (.int cd), .val (.int sh), .val (.int q), .val (.int x0), .val (.int x1), .val (.int x2), .val (.int x3), s8, .unset, .unset, .unset, .unset, .unset, .unset] [])) target := by
  by_cases hc : x3 < x1
  · refine ⟨x3, x1, .val (.int x1), Or.inr ⟨hc, rfl, rfl⟩, One.val rfl, fun target kt => ?_⟩
    show Steps p.tables e below (T0.setTop (mkF m 81 #[.val (.int ab), .val (.int cd), .val (.int sh), .val (.int q), .val (.int x0), .val (.int x1), .val (.int x2), .val (.int x3), s8, .unset, .unset, .unset, .unset, .unset, .unset] [])) _
    refine XS.iload X0.here hx rfl (hb hby at_81) rfl ?_
    show Steps p.tables e below (T0.setTop (mkF m 83 #[.val (.int ab), .val (.int cd), .val (.int sh), .val (.int q), .val (.int x0), .val (.int x1), .val (.int x2), .val (.int x3), s8, .unset, .unset, .unset, .unset, .unset, .unset] [(.int x1)])) _
    refine XS.iload X0.here hx rfl (hb hby at_83) rfl ?_
    show Steps p.tables e below (T0.setTop (mkF m 85 #[.val (.int ab), .val (.int cd), .val (.int sh), .val (.int q), .val (.int x0), .val (.int x1), .val (.int x2), .val (.int x3), s8, .unset, .unset, .unset, .unset, .unset, .unset] [(.int x3), (.int x1)])) _
    refine XS.icmpNo X0.here hx rfl (hb hby at_85) rfl (tlt hc).2.2.2 ?_
    show Steps p.tables e below (T0.setTop (mkF m 88 #[.val (.int ab), .val (.int cd), .val (.int sh), .val (.int q), .val (.int x0), .val (.int x1), .val (.int x2), .val (.int x3), s8, .unset, .unset, .unset, .unset, .unset, .unset] [])) _
    refine XS.iload X0.here hx rfl (hb hby at_88) rfl ?_
    show Steps p.tables e below (T0.setTop (mkF m 90 #[.val (.int ab), .val (.int cd), .val (.int sh), .val (.int q), .val (.int x0), .val (.int x1), .val (.int x2), .val (.int x3), s8, .unset, .unset, .unset, .unset, .unset, .unset] [(.int x1)])) _
    refine XS.istore X0.here hx rfl (hb hby at_90) rfl (l' := #[.val (.int ab), .val (.int cd), .val (.int sh), .val (.int q), .val (.int x0), .val (.int x1), .val (.int x2), .val (.int x3), .val (.int x1), .unset, .unset, .unset, .unset, .unset, .unset]) (os_sw hs8) ?_
    show Steps p.tables e below (T0.setTop (mkF m 92 #[.val (.int ab), .val (.int cd), .val (.int sh), .val (.int q), .val (.int x0), .val (.int x1), .val (.int x2), .val (.int x3), .val (.int x1), .unset, .unset, .unset, .unset, .unset, .unset] [])) _
    refine XS.iload X0.here hx rfl (hb hby at_92) rfl ?_
    show Steps p.tables e below (T0.setTop (mkF m 94 #[.val (.int ab), .val (.int cd), .val (.int sh), .val (.int q), .val (.int x0), .val (.int x1), .val (.int x2), .val (.int x3), .val (.int x1), .unset, .unset, .unset, .unset, .unset, .unset] [(.int x3)])) _
    refine XS.istore X0.here hx rfl (hb hby at_94) rfl (l' := #[.val (.int ab), .val (.int cd), .val (.int sh), .val (.int q), .val (.int x0), .val (.int x3), .val (.int x2), .val (.int x3), .val (.int x1), .unset, .unset, .unset, .unset, .unset, .unset]) rfl ?_
    show Steps p.tables e below (T0.setTop (mkF m 96 #[.val (.int ab), .val (.int cd), .val (.int sh), .val (.int q), .val (.int x0), .val (.int x3), .val (.int x2), .val (.int x3), .val (.int x1), .unset, .unset, .unset, .unset, .unset, .unset] [])) _
    refine XS.iload X0.here hx rfl (hb hby at_96) rfl ?_
    show Steps p.tables e below (T0.setTop (mkF m 98 #[.val (.int ab), .val (.int cd), .val (.int sh), .val (.int q), .val (.int x0), .val (.int x3), .val (.int x2), .val (.int x3), .val (.int x1), .unset, .unset, .unset, .unset, .unset, .unset] [(.int x1)])) _
    refine XS.istore X0.here hx rfl (hb hby at_98) rfl (l' := #[.val (.int ab), .val (.int cd), .val (.int sh), .val (.int q), .val (.int x0), .val (.int x3), .val (.int x2), .val (.int x1), .val (.int x1), .unset, .unset, .unset, .unset, .unset, .unset]) rfl ?_
    exact kt
  · refine ⟨x1, x3, s8, Or.inl ⟨hc, rfl, rfl⟩, hs8, fun target kt => ?_⟩
    show Steps p.tables e below (T0.setTop (mkF m 81 #[.val (.int ab), .val (.int cd), .val (.int sh), .val (.int q), .val (.int x0), .val (.int x1), .val (.int x2), .val (.int x3), s8, .unset, .unset, .unset, .unset, .unset, .unset] [])) _
    refine XS.iload X0.here hx rfl (hb hby at_81) rfl ?_
    show Steps p.tables e below (T0.setTop (mkF m 83 #[.val (.int ab), .val (.int cd), .val (.int sh), .val (.int q), .val (.int x0), .val (.int x1), .val (.int x2), .val (.int x3), s8, .unset, .unset, .unset, .unset, .unset, .unset] [(.int x1)])) _
    refine XS.iload X0.here hx rfl (hb hby at_83) rfl ?_
    show Steps p.tables e below (T0.setTop (mkF m 85 #[.val (.int ab), .val (.int cd), .val (.int sh), .val (.int q), .val (.int x0), .val (.int x1), .val (.int x2), .val (.int x3), s8, .unset, .unset, .unset, .unset, .unset, .unset] [(.int x3), (.int x1)])) _
    refine XS.icmpYes X0.here hx rfl (pc0 := 85) (pc' := 100) rfl (hb hby at_85) rfl (flt hc).2.2.2 (by decide) (by decide) ?_
    exact kt
set_option maxRecDepth 65536 in
set_option maxHeartbeats 40000000 in
theorem sw4 {p : Program} {l : Launch} {e : Env} {R : Room} {s : State} {m : MethodId} {args : Array Value} {below : List Frame} {meth : Method} {c : Code} {T0 : State} {locs : List Loc} {cells slots : Nat} {Z : State} {a0 : Array Value} {h0 : Heap} (ab cd sh q x0 x1 x2 x3 : Int32) (s8 : Slot) (hs8 : One s8) (X0 : Stand p l e R s m args below meth c T0 locs cells slots) (hx : p.tables.exec = Jvm.exec) (hZ : Z.Warmed39 s.vm) (hw : ∀ d ∈ tables_1, d.before a0 Z = true) (hby : c.code = code) (hml : c.maxLocals = 15) (hown : s.vm.findClass "com/example/onward/onward/eval/ExcerptPlacesBelowPinLaw" = some m.cls) (e0 : T0.heap = h0) : ∃ (u' v' : Int32) (s8' : Slot), Sw x1 x2 u' v' ∧ One s8' ∧ ∀ target, Steps p.tables e below (T0.setTop (mkF m 119 #[.val (.int ab), .val (.int cd), .val (.int sh), .val (.int q), .val (.int x0), .val (.int u'), .val (.int v'), .val (.int x3), s8', .unset, .unset, .unset, .unset, .unset, .unset] [])) target → Steps p.tables e below (T0.setTop (mkF m 100 #[.val (.int ab), .val (.int cd), .val (.int sh), .val (.int q), .val (.int x0), .val (.int x1), .val (.int x2), .val (.int x3), s8, .unset, .unset, .unset, .unset, .unset, .unset] [])) target := by
  by_cases hc : x2 < x1
  · refine ⟨x2, x1, .val (.int x1), Or.inr ⟨hc, rfl, rfl⟩, One.val rfl, fun target kt => ?_⟩
    show Steps p.tables e below (T0.setTop (mkF m 100 #[.val (.int ab), .val (.int cd), .val (.int sh), .val (.int q), .val (.int x0), .val (.int x1), .val (.int x2), .val (.int x3), s8, .unset, .unset, .unset, .unset, .unset, .unset] [])) _
    refine XS.iload X0.here hx rfl (hb hby at_100) rfl ?_
    show Steps p.tables e below (T0.setTop (mkF m 102 #[.val (.int ab), .val (.int cd), .val (.int sh), .val (.int q), .val (.int x0), .val (.int x1), .val (.int x2), .val (.int x3), s8, .unset, .unset, .unset, .unset, .unset, .unset] [(.int x1)])) _
    refine XS.iload X0.here hx rfl (hb hby at_102) rfl ?_
    show Steps p.tables e below (T0.setTop (mkF m 104 #[.val (.int ab), .val (.int cd), .val (.int sh), .val (.int q), .val (.int x0), .val (.int x1), .val (.int x2), .val (.int x3), s8, .unset, .unset, .unset, .unset, .unset, .unset] [(.int x2), (.int x1)])) _
    refine XS.icmpNo X0.here hx rfl (hb hby at_104) rfl (tlt hc).2.2.2 ?_
    show Steps p.tables e below (T0.setTop (mkF m 107 #[.val (.int ab), .val (.int cd), .val (.int sh), .val (.int q), .val (.int x0), .val (.int x1), .val (.int x2), .val (.int x3), s8, .unset, .unset, .unset, .unset, .unset, .unset] [])) _
    refine XS.iload X0.here hx rfl (hb hby at_107) rfl ?_
    show Steps p.tables e below (T0.setTop (mkF m 109 #[.val (.int ab), .val (.int cd), .val (.int sh), .val (.int q), .val (.int x0), .val (.int x1), .val (.int x2), .val (.int x3), s8, .unset, .unset, .unset, .unset, .unset, .unset] [(.int x1)])) _
    refine XS.istore X0.here hx rfl (hb hby at_109) rfl (l' := #[.val (.int ab), .val (.int cd), .val (.int sh), .val (.int q), .val (.int x0), .val (.int x1), .val (.int x2), .val (.int x3), .val (.int x1), .unset, .unset, .unset, .unset, .unset, .unset]) (os_sw hs8) ?_
    show Steps p.tables e below (T0.setTop (mkF m 111 #[.val (.int ab), .val (.int cd), .val (.int sh), .val (.int q), .val (.int x0), .val (.int x1), .val (.int x2), .val (.int x3), .val (.int x1), .unset, .unset, .unset, .unset, .unset, .unset] [])) _
    refine XS.iload X0.here hx rfl (hb hby at_111) rfl ?_
    show Steps p.tables e below (T0.setTop (mkF m 113 #[.val (.int ab), .val (.int cd), .val (.int sh), .val (.int q), .val (.int x0), .val (.int x1), .val (.int x2), .val (.int x3), .val (.int x1), .unset, .unset, .unset, .unset, .unset, .unset] [(.int x2)])) _
    refine XS.istore X0.here hx rfl (hb hby at_113) rfl (l' := #[.val (.int ab), .val (.int cd), .val (.int sh), .val (.int q), .val (.int x0), .val (.int x2), .val (.int x2), .val (.int x3), .val (.int x1), .unset, .unset, .unset, .unset, .unset, .unset]) rfl ?_
    show Steps p.tables e below (T0.setTop (mkF m 115 #[.val (.int ab), .val (.int cd), .val (.int sh), .val (.int q), .val (.int x0), .val (.int x2), .val (.int x2), .val (.int x3), .val (.int x1), .unset, .unset, .unset, .unset, .unset, .unset] [])) _
    refine XS.iload X0.here hx rfl (hb hby at_115) rfl ?_
    show Steps p.tables e below (T0.setTop (mkF m 117 #[.val (.int ab), .val (.int cd), .val (.int sh), .val (.int q), .val (.int x0), .val (.int x2), .val (.int x2), .val (.int x3), .val (.int x1), .unset, .unset, .unset, .unset, .unset, .unset] [(.int x1)])) _
    refine XS.istore X0.here hx rfl (hb hby at_117) rfl (l' := #[.val (.int ab), .val (.int cd), .val (.int sh), .val (.int q), .val (.int x0), .val (.int x2), .val (.int x1), .val (.int x3), .val (.int x1), .unset, .unset, .unset, .unset, .unset, .unset]) rfl ?_
    exact kt
  · refine ⟨x1, x2, s8, Or.inl ⟨hc, rfl, rfl⟩, hs8, fun target kt => ?_⟩
    show Steps p.tables e below (T0.setTop (mkF m 100 #[.val (.int ab), .val (.int cd), .val (.int sh), .val (.int q), .val (.int x0), .val (.int x1), .val (.int x2), .val (.int x3), s8, .unset, .unset, .unset, .unset, .unset, .unset] [])) _
    refine XS.iload X0.here hx rfl (hb hby at_100) rfl ?_
    show Steps p.tables e below (T0.setTop (mkF m 102 #[.val (.int ab), .val (.int cd), .val (.int sh), .val (.int q), .val (.int x0), .val (.int x1), .val (.int x2), .val (.int x3), s8, .unset, .unset, .unset, .unset, .unset, .unset] [(.int x1)])) _
    refine XS.iload X0.here hx rfl (hb hby at_102) rfl ?_
    show Steps p.tables e below (T0.setTop (mkF m 104 #[.val (.int ab), .val (.int cd), .val (.int sh), .val (.int q), .val (.int x0), .val (.int x1), .val (.int x2), .val (.int x3), s8, .unset, .unset, .unset, .unset, .unset, .unset] [(.int x2), (.int x1)])) _
    refine XS.icmpYes X0.here hx rfl (pc0 := 104) (pc' := 119) rfl (hb hby at_104) rfl (flt hc).2.2.2 (by decide) (by decide) ?_
    exact kt
set_option maxRecDepth 65536 in
set_option maxHeartbeats 40000000 in
theorem near {p : Program} {l : Launch} {e : Env} {R : Room} {s : State} {m : MethodId} {args : Array Value} {below : List Frame} {meth : Method} {c : Code} {T0 : State} {locs : List Loc} {cells slots : Nat} {Z : State} {a0 : Array Value} {h0 : Heap} (ab cd sh q x0 x1 x2 x3 k pick : Int32) (s8 : Slot) (X0 : Stand p l e R s m args below meth c T0 locs cells slots) (hx : p.tables.exec = Jvm.exec) (hZ : Z.Warmed39 s.vm) (hw : ∀ d ∈ tables_1, d.before a0 Z = true) (hby : c.code = code) (hml : c.maxLocals = 15) (hown : s.vm.findClass "com/example/onward/onward/eval/ExcerptPlacesBelowPinLaw" = some m.cls) (e0 : T0.heap = h0) : ∃ nr : Int32, ∀ target, Steps p.tables e below (T0.setTop (mkF m 171 #[.val (.int ab), .val (.int cd), .val (.int sh), .val (.int q), .val (.int x0), .val (.int x1), .val (.int x2), .val (.int x3), s8, .val (.int k), .val (.int pick), .val (.int nr), .unset, .unset, .unset] [])) target → Steps p.tables e below (T0.setTop (mkF m 135 #[.val (.int ab), .val (.int cd), .val (.int sh), .val (.int q), .val (.int x0), .val (.int x1), .val (.int x2), .val (.int x3), s8, .val (.int k), .val (.int pick), .unset, .unset, .unset, .unset] [])) target := by
  by_cases hc137 : pick = (0 : Int32)
  · refine ⟨x0, fun target kt => ?_⟩
    show Steps p.tables e below (T0.setTop (mkF m 135 #[.val (.int ab), .val (.int cd), .val (.int sh), .val (.int q), .val (.int x0), .val (.int x1), .val (.int x2), .val (.int x3), s8, .val (.int k), .val (.int pick), .unset, .unset, .unset, .unset] [])) _
    refine XS.iload X0.here hx rfl (hb hby at_135) rfl ?_
    show Steps p.tables e below (T0.setTop (mkF m 137 #[.val (.int ab), .val (.int cd), .val (.int sh), .val (.int q), .val (.int x0), .val (.int x1), .val (.int x2), .val (.int x3), s8, .val (.int k), .val (.int pick), .unset, .unset, .unset, .unset] [(.int pick)])) _
    refine XS.ifNo X0.here hx rfl (hb hby at_137) rfl ((if0 _ _).trans (teq hc137).2) ?_
    show Steps p.tables e below (T0.setTop (mkF m 140 #[.val (.int ab), .val (.int cd), .val (.int sh), .val (.int q), .val (.int x0), .val (.int x1), .val (.int x2), .val (.int x3), s8, .val (.int k), .val (.int pick), .unset, .unset, .unset, .unset] [])) _
    refine XS.iload X0.here hx rfl (hb hby at_140) rfl ?_
    show Steps p.tables e below (T0.setTop (mkF m 142 #[.val (.int ab), .val (.int cd), .val (.int sh), .val (.int q), .val (.int x0), .val (.int x1), .val (.int x2), .val (.int x3), s8, .val (.int k), .val (.int pick), .unset, .unset, .unset, .unset] [(.int x0)])) _
    refine XS.goto X0.here hx rfl (pc0 := 142) (pc' := 169) rfl (hb hby at_142) (by decide) (by decide) ?_
    show Steps p.tables e below (T0.setTop (mkF m 169 #[.val (.int ab), .val (.int cd), .val (.int sh), .val (.int q), .val (.int x0), .val (.int x1), .val (.int x2), .val (.int x3), s8, .val (.int k), .val (.int pick), .unset, .unset, .unset, .unset] [(.int x0)])) _
    refine XS.istore X0.here hx rfl (hb hby at_169) rfl (l' := #[.val (.int ab), .val (.int cd), .val (.int sh), .val (.int q), .val (.int x0), .val (.int x1), .val (.int x2), .val (.int x3), s8, .val (.int k), .val (.int pick), .val (.int x0), .unset, .unset, .unset]) rfl ?_
    exact kt
  · by_cases hc148 : pick = (1 : Int32)
    · refine ⟨x1, fun target kt => ?_⟩
      show Steps p.tables e below (T0.setTop (mkF m 135 #[.val (.int ab), .val (.int cd), .val (.int sh), .val (.int q), .val (.int x0), .val (.int x1), .val (.int x2), .val (.int x3), s8, .val (.int k), .val (.int pick), .unset, .unset, .unset, .unset] [])) _
      refine XS.iload X0.here hx rfl (hb hby at_135) rfl ?_
      show Steps p.tables e below (T0.setTop (mkF m 137 #[.val (.int ab), .val (.int cd), .val (.int sh), .val (.int q), .val (.int x0), .val (.int x1), .val (.int x2), .val (.int x3), s8, .val (.int k), .val (.int pick), .unset, .unset, .unset, .unset] [(.int pick)])) _
      refine XS.ifYes X0.here hx rfl (pc0 := 137) (pc' := 145) rfl (hb hby at_137) rfl ((if0 _ _).trans (feq hc137).2) (by decide) (by decide) ?_
      show Steps p.tables e below (T0.setTop (mkF m 145 #[.val (.int ab), .val (.int cd), .val (.int sh), .val (.int q), .val (.int x0), .val (.int x1), .val (.int x2), .val (.int x3), s8, .val (.int k), .val (.int pick), .unset, .unset, .unset, .unset] [])) _
      refine XS.iload X0.here hx rfl (hb hby at_145) rfl ?_
      show Steps p.tables e below (T0.setTop (mkF m 147 #[.val (.int ab), .val (.int cd), .val (.int sh), .val (.int q), .val (.int x0), .val (.int x1), .val (.int x2), .val (.int x3), s8, .val (.int k), .val (.int pick), .unset, .unset, .unset, .unset] [(.int pick)])) _
      refine XS.iconst X0.here hx rfl (hb hby at_147) ?_
      show Steps p.tables e below (T0.setTop (mkF m 148 #[.val (.int ab), .val (.int cd), .val (.int sh), .val (.int q), .val (.int x0), .val (.int x1), .val (.int x2), .val (.int x3), s8, .val (.int k), .val (.int pick), .unset, .unset, .unset, .unset] [(.int (1 : Int32)), (.int pick)])) _
      refine XS.icmpNo X0.here hx rfl (hb hby at_148) rfl (teq hc148).2 ?_
      show Steps p.tables e below (T0.setTop (mkF m 151 #[.val (.int ab), .val (.int cd), .val (.int sh), .val (.int q), .val (.int x0), .val (.int x1), .val (.int x2), .val (.int x3), s8, .val (.int k), .val (.int pick), .unset, .unset, .unset, .unset] [])) _
      refine XS.iload X0.here hx rfl (hb hby at_151) rfl ?_
      show Steps p.tables e below (T0.setTop (mkF m 153 #[.val (.int ab), .val (.int cd), .val (.int sh), .val (.int q), .val (.int x0), .val (.int x1), .val (.int x2), .val (.int x3), s8, .val (.int k), .val (.int pick), .unset, .unset, .unset, .unset] [(.int x1)])) _
      refine XS.goto X0.here hx rfl (pc0 := 153) (pc' := 169) rfl (hb hby at_153) (by decide) (by decide) ?_
      show Steps p.tables e below (T0.setTop (mkF m 169 #[.val (.int ab), .val (.int cd), .val (.int sh), .val (.int q), .val (.int x0), .val (.int x1), .val (.int x2), .val (.int x3), s8, .val (.int k), .val (.int pick), .unset, .unset, .unset, .unset] [(.int x1)])) _
      refine XS.istore X0.here hx rfl (hb hby at_169) rfl (l' := #[.val (.int ab), .val (.int cd), .val (.int sh), .val (.int q), .val (.int x0), .val (.int x1), .val (.int x2), .val (.int x3), s8, .val (.int k), .val (.int pick), .val (.int x1), .unset, .unset, .unset]) rfl ?_
      exact kt
    · by_cases hc159 : pick = (2 : Int32)
      · refine ⟨x2, fun target kt => ?_⟩
        show Steps p.tables e below (T0.setTop (mkF m 135 #[.val (.int ab), .val (.int cd), .val (.int sh), .val (.int q), .val (.int x0), .val (.int x1), .val (.int x2), .val (.int x3), s8, .val (.int k), .val (.int pick), .unset, .unset, .unset, .unset] [])) _
        refine XS.iload X0.here hx rfl (hb hby at_135) rfl ?_
        show Steps p.tables e below (T0.setTop (mkF m 137 #[.val (.int ab), .val (.int cd), .val (.int sh), .val (.int q), .val (.int x0), .val (.int x1), .val (.int x2), .val (.int x3), s8, .val (.int k), .val (.int pick), .unset, .unset, .unset, .unset] [(.int pick)])) _
        refine XS.ifYes X0.here hx rfl (pc0 := 137) (pc' := 145) rfl (hb hby at_137) rfl ((if0 _ _).trans (feq hc137).2) (by decide) (by decide) ?_
        show Steps p.tables e below (T0.setTop (mkF m 145 #[.val (.int ab), .val (.int cd), .val (.int sh), .val (.int q), .val (.int x0), .val (.int x1), .val (.int x2), .val (.int x3), s8, .val (.int k), .val (.int pick), .unset, .unset, .unset, .unset] [])) _
        refine XS.iload X0.here hx rfl (hb hby at_145) rfl ?_
        show Steps p.tables e below (T0.setTop (mkF m 147 #[.val (.int ab), .val (.int cd), .val (.int sh), .val (.int q), .val (.int x0), .val (.int x1), .val (.int x2), .val (.int x3), s8, .val (.int k), .val (.int pick), .unset, .unset, .unset, .unset] [(.int pick)])) _
        refine XS.iconst X0.here hx rfl (hb hby at_147) ?_
        show Steps p.tables e below (T0.setTop (mkF m 148 #[.val (.int ab), .val (.int cd), .val (.int sh), .val (.int q), .val (.int x0), .val (.int x1), .val (.int x2), .val (.int x3), s8, .val (.int k), .val (.int pick), .unset, .unset, .unset, .unset] [(.int (1 : Int32)), (.int pick)])) _
        refine XS.icmpYes X0.here hx rfl (pc0 := 148) (pc' := 156) rfl (hb hby at_148) rfl (feq hc148).2 (by decide) (by decide) ?_
        show Steps p.tables e below (T0.setTop (mkF m 156 #[.val (.int ab), .val (.int cd), .val (.int sh), .val (.int q), .val (.int x0), .val (.int x1), .val (.int x2), .val (.int x3), s8, .val (.int k), .val (.int pick), .unset, .unset, .unset, .unset] [])) _
        refine XS.iload X0.here hx rfl (hb hby at_156) rfl ?_
        show Steps p.tables e below (T0.setTop (mkF m 158 #[.val (.int ab), .val (.int cd), .val (.int sh), .val (.int q), .val (.int x0), .val (.int x1), .val (.int x2), .val (.int x3), s8, .val (.int k), .val (.int pick), .unset, .unset, .unset, .unset] [(.int pick)])) _
        refine XS.iconst X0.here hx rfl (hb hby at_158) ?_
        show Steps p.tables e below (T0.setTop (mkF m 159 #[.val (.int ab), .val (.int cd), .val (.int sh), .val (.int q), .val (.int x0), .val (.int x1), .val (.int x2), .val (.int x3), s8, .val (.int k), .val (.int pick), .unset, .unset, .unset, .unset] [(.int (2 : Int32)), (.int pick)])) _
        refine XS.icmpNo X0.here hx rfl (hb hby at_159) rfl (teq hc159).2 ?_
        show Steps p.tables e below (T0.setTop (mkF m 162 #[.val (.int ab), .val (.int cd), .val (.int sh), .val (.int q), .val (.int x0), .val (.int x1), .val (.int x2), .val (.int x3), s8, .val (.int k), .val (.int pick), .unset, .unset, .unset, .unset] [])) _
        refine XS.iload X0.here hx rfl (hb hby at_162) rfl ?_
        show Steps p.tables e below (T0.setTop (mkF m 164 #[.val (.int ab), .val (.int cd), .val (.int sh), .val (.int q), .val (.int x0), .val (.int x1), .val (.int x2), .val (.int x3), s8, .val (.int k), .val (.int pick), .unset, .unset, .unset, .unset] [(.int x2)])) _
        refine XS.goto X0.here hx rfl (pc0 := 164) (pc' := 169) rfl (hb hby at_164) (by decide) (by decide) ?_
        show Steps p.tables e below (T0.setTop (mkF m 169 #[.val (.int ab), .val (.int cd), .val (.int sh), .val (.int q), .val (.int x0), .val (.int x1), .val (.int x2), .val (.int x3), s8, .val (.int k), .val (.int pick), .unset, .unset, .unset, .unset] [(.int x2)])) _
        refine XS.istore X0.here hx rfl (hb hby at_169) rfl (l' := #[.val (.int ab), .val (.int cd), .val (.int sh), .val (.int q), .val (.int x0), .val (.int x1), .val (.int x2), .val (.int x3), s8, .val (.int k), .val (.int pick), .val (.int x2), .unset, .unset, .unset]) rfl ?_
        exact kt
      · refine ⟨x3, fun target kt => ?_⟩
        show Steps p.tables e below (T0.setTop (mkF m 135 #[.val (.int ab), .val (.int cd), .val (.int sh), .val (.int q), .val (.int x0), .val (.int x1), .val (.int x2), .val (.int x3), s8, .val (.int k), .val (.int pick), .unset, .unset, .unset, .unset] [])) _
        refine XS.iload X0.here hx rfl (hb hby at_135) rfl ?_
        show Steps p.tables e below (T0.setTop (mkF m 137 #[.val (.int ab), .val (.int cd), .val (.int sh), .val (.int q), .val (.int x0), .val (.int x1), .val (.int x2), .val (.int x3), s8, .val (.int k), .val (.int pick), .unset, .unset, .unset, .unset] [(.int pick)])) _
        refine XS.ifYes X0.here hx rfl (pc0 := 137) (pc' := 145) rfl (hb hby at_137) rfl ((if0 _ _).trans (feq hc137).2) (by decide) (by decide) ?_
        show Steps p.tables e below (T0.setTop (mkF m 145 #[.val (.int ab), .val (.int cd), .val (.int sh), .val (.int q), .val (.int x0), .val (.int x1), .val (.int x2), .val (.int x3), s8, .val (.int k), .val (.int pick), .unset, .unset, .unset, .unset] [])) _
        refine XS.iload X0.here hx rfl (hb hby at_145) rfl ?_
        show Steps p.tables e below (T0.setTop (mkF m 147 #[.val (.int ab), .val (.int cd), .val (.int sh), .val (.int q), .val (.int x0), .val (.int x1), .val (.int x2), .val (.int x3), s8, .val (.int k), .val (.int pick), .unset, .unset, .unset, .unset] [(.int pick)])) _
        refine XS.iconst X0.here hx rfl (hb hby at_147) ?_
        show Steps p.tables e below (T0.setTop (mkF m 148 #[.val (.int ab), .val (.int cd), .val (.int sh), .val (.int q), .val (.int x0), .val (.int x1), .val (.int x2), .val (.int x3), s8, .val (.int k), .val (.int pick), .unset, .unset, .unset, .unset] [(.int (1 : Int32)), (.int pick)])) _
        refine XS.icmpYes X0.here hx rfl (pc0 := 148) (pc' := 156) rfl (hb hby at_148) rfl (feq hc148).2 (by decide) (by decide) ?_
        show Steps p.tables e below (T0.setTop (mkF m 156 #[.val (.int ab), .val (.int cd), .val (.int sh), .val (.int q), .val (.int x0), .val (.int x1), .val (.int x2), .val (.int x3), s8, .val (.int k), .val (.int pick), .unset, .unset, .unset, .unset] [])) _
        refine XS.iload X0.here hx rfl (hb hby at_156) rfl ?_
        show Steps p.tables e below (T0.setTop (mkF m 158 #[.val (.int ab), .val (.int cd), .val (.int sh), .val (.int q), .val (.int x0), .val (.int x1), .val (.int x2), .val (.int x3), s8, .val (.int k), .val (.int pick), .unset, .unset, .unset, .unset] [(.int pick)])) _
        refine XS.iconst X0.here hx rfl (hb hby at_158) ?_
        show Steps p.tables e below (T0.setTop (mkF m 159 #[.val (.int ab), .val (.int cd), .val (.int sh), .val (.int q), .val (.int x0), .val (.int x1), .val (.int x2), .val (.int x3), s8, .val (.int k), .val (.int pick), .unset, .unset, .unset, .unset] [(.int (2 : Int32)), (.int pick)])) _
        refine XS.icmpYes X0.here hx rfl (pc0 := 159) (pc' := 167) rfl (hb hby at_159) rfl (feq hc159).2 (by decide) (by decide) ?_
        show Steps p.tables e below (T0.setTop (mkF m 167 #[.val (.int ab), .val (.int cd), .val (.int sh), .val (.int q), .val (.int x0), .val (.int x1), .val (.int x2), .val (.int x3), s8, .val (.int k), .val (.int pick), .unset, .unset, .unset, .unset] [])) _
        refine XS.iload X0.here hx rfl (hb hby at_167) rfl ?_
        show Steps p.tables e below (T0.setTop (mkF m 169 #[.val (.int ab), .val (.int cd), .val (.int sh), .val (.int q), .val (.int x0), .val (.int x1), .val (.int x2), .val (.int x3), s8, .val (.int k), .val (.int pick), .unset, .unset, .unset, .unset] [(.int x3)])) _
        refine XS.istore X0.here hx rfl (hb hby at_169) rfl (l' := #[.val (.int ab), .val (.int cd), .val (.int sh), .val (.int q), .val (.int x0), .val (.int x1), .val (.int x2), .val (.int x3), s8, .val (.int k), .val (.int pick), .val (.int x3), .unset, .unset, .unset]) rfl ?_
        exact kt
set_option maxRecDepth 65536 in
set_option maxHeartbeats 40000000 in
theorem place {p : Program} {l : Launch} {e : Env} {s : State} {m : MethodId} {args : Array Value} {below : List Frame} {meth : Method} {c : Code} {T0 : State} {locs : List Loc} {Z : State} {a0 : Array Value} {h0 : Heap} (ab cd sh q x0 x1 x2 x3 k nr : Int32) (s8 s10 : Slot) (X0 : Stand p l e room_1 s m args below meth c T0 locs 0 0) (hx : p.tables.exec = Jvm.exec) (hZ : Z.Warmed39 s.vm) (hw : ∀ d ∈ tables_1, d.before a0 Z = true) (hby : c.code = code) (hml : c.maxLocals = 15) (hown : s.vm.findClass "com/example/onward/onward/eval/ExcerptPlacesBelowPinLaw" = some m.cls) (e0 : T0.heap = h0) : ∃ (T' : State) (pl : Int32), Stand p l e room_1 s m args below meth c T' locs 0 0 ∧ T'.heap = h0 ∧ ∀ target, Steps p.tables e below (T'.setTop (mkF m 209 #[.val (.int ab), .val (.int cd), .val (.int sh), .val (.int q), .val (.int x0), .val (.int x1), .val (.int x2), .val (.int x3), s8, .val (.int k), s10, .val (.int nr), .val (.int pl), .unset, .unset] [])) target → Steps p.tables e below (T0.setTop (mkF m 171 #[.val (.int ab), .val (.int cd), .val (.int sh), .val (.int q), .val (.int x0), .val (.int x1), .val (.int x2), .val (.int x3), s8, .val (.int k), s10, .val (.int nr), .unset, .unset, .unset] [])) target := by
  by_cases hc174 : (q &&& (1 : Int32)) = (0 : Int32)
  · obtain ⟨T1, X1, e1, st1⟩ := own_callR X0 hx hZ hown (hw _ (List.mem_of_getElem? (i := 14) rfl)) (hw _ (List.mem_of_getElem? (i := 15) rfl)) (hw _ (List.mem_of_getElem? (i := 16) rfl)) (hw _ (List.mem_of_getElem? (i := 17) rfl)) (by decide) (W := 1) (as' := [(.int (4096 : Int32)), (.int ((nr + (((q.toUInt32 >>> ((3 : Int32) &&& 31).toUInt32).toInt32) &&& (3 : Int32))) - (1 : Int32)))]) (F := (.int (own_min (4096 : Int32) ((nr + (((q.toUInt32 >>> ((3 : Int32) &&& 31).toUInt32).toInt32) &&& (3 : Int32))) - (1 : Int32))))) (rm_min l Z a0 hw [] (4096 : Int32) ((nr + (((q.toUInt32 >>> ((3 : Int32) &&& 31).toUInt32).toInt32) &&& (3 : Int32))) - (1 : Int32)) h0) rfl rfl (by decide) (by decide) (by decide) (by decide) e0 (g := (mkF m 201 #[.val (.int ab), .val (.int cd), .val (.int sh), .val (.int q), .val (.int x0), .val (.int x1), .val (.int x2), .val (.int x3), s8, .val (.int k), s10, .val (.int nr), .unset, .unset, .unset] [(.int ((nr + (((q.toUInt32 >>> ((3 : Int32) &&& 31).toUInt32).toInt32) &&& (3 : Int32))) - (1 : Int32))), (.int (4096 : Int32)), (.int (0 : Int32))])) rfl (by rw [hml]; rfl) (lenOf pd_4 rfl) (rest := [(.int (0 : Int32))]) rfl (Nat.le_of_eq rfl) (hb hby at_201)
    obtain ⟨T2, X2, e2, st2⟩ := own_callR X1 hx hZ hown (hw _ (List.mem_of_getElem? (i := 18) rfl)) (hw _ (List.mem_of_getElem? (i := 19) rfl)) (hw _ (List.mem_of_getElem? (i := 16) rfl)) (hw _ (List.mem_of_getElem? (i := 20) rfl)) (by decide) (W := 0) (as' := [(.int (0 : Int32)), (.int (own_min (4096 : Int32) ((nr + (((q.toUInt32 >>> ((3 : Int32) &&& 31).toUInt32).toInt32) &&& (3 : Int32))) - (1 : Int32))))]) (F := (.int (own_max (0 : Int32) (own_min (4096 : Int32) ((nr + (((q.toUInt32 >>> ((3 : Int32) &&& 31).toUInt32).toInt32) &&& (3 : Int32))) - (1 : Int32)))))) (rm_max l Z a0 hw [] (0 : Int32) (own_min (4096 : Int32) ((nr + (((q.toUInt32 >>> ((3 : Int32) &&& 31).toUInt32).toInt32) &&& (3 : Int32))) - (1 : Int32))) h0) rfl rfl (by decide) (by decide) (by decide) (by decide) e1 (g := (mkF m 204 #[.val (.int ab), .val (.int cd), .val (.int sh), .val (.int q), .val (.int x0), .val (.int x1), .val (.int x2), .val (.int x3), s8, .val (.int k), s10, .val (.int nr), .unset, .unset, .unset] [(.int (own_min (4096 : Int32) ((nr + (((q.toUInt32 >>> ((3 : Int32) &&& 31).toUInt32).toInt32) &&& (3 : Int32))) - (1 : Int32)))), (.int (0 : Int32))])) rfl (by rw [hml]; rfl) (lenOf pd_5 rfl) (rest := []) rfl (Nat.le_of_eq rfl) (hb hby at_204)
    refine ⟨T2, (own_max (0 : Int32) (own_min (4096 : Int32) ((nr + (((q.toUInt32 >>> ((3 : Int32) &&& 31).toUInt32).toInt32) &&& (3 : Int32))) - (1 : Int32)))), X2, e2, fun target kt => ?_⟩
    show Steps p.tables e below (T0.setTop (mkF m 171 #[.val (.int ab), .val (.int cd), .val (.int sh), .val (.int q), .val (.int x0), .val (.int x1), .val (.int x2), .val (.int x3), s8, .val (.int k), s10, .val (.int nr), .unset, .unset, .unset] [])) _
    refine XS.iloadN X0.here hx rfl (hb hby at_171) rfl ?_
    show Steps p.tables e below (T0.setTop (mkF m 172 #[.val (.int ab), .val (.int cd), .val (.int sh), .val (.int q), .val (.int x0), .val (.int x1), .val (.int x2), .val (.int x3), s8, .val (.int k), s10, .val (.int nr), .unset, .unset, .unset] [(.int q)])) _
    refine XS.iconst X0.here hx rfl (hb hby at_172) ?_
    show Steps p.tables e below (T0.setTop (mkF m 173 #[.val (.int ab), .val (.int cd), .val (.int sh), .val (.int q), .val (.int x0), .val (.int x1), .val (.int x2), .val (.int x3), s8, .val (.int k), s10, .val (.int nr), .unset, .unset, .unset] [(.int (1 : Int32)), (.int q)])) _
    refine XS.iand X0.here hx rfl (hb hby at_173) rfl ?_
    show Steps p.tables e below (T0.setTop (mkF m 174 #[.val (.int ab), .val (.int cd), .val (.int sh), .val (.int q), .val (.int x0), .val (.int x1), .val (.int x2), .val (.int x3), s8, .val (.int k), s10, .val (.int nr), .unset, .unset, .unset] [(.int (q &&& (1 : Int32)))])) _
    refine XS.ifYes X0.here hx rfl (pc0 := 174) (pc' := 187) rfl (hb hby at_174) rfl ((if0 _ _).trans (teq hc174).1) (by decide) (by decide) ?_
    show Steps p.tables e below (T0.setTop (mkF m 187 #[.val (.int ab), .val (.int cd), .val (.int sh), .val (.int q), .val (.int x0), .val (.int x1), .val (.int x2), .val (.int x3), s8, .val (.int k), s10, .val (.int nr), .unset, .unset, .unset] [])) _
    refine XS.iconst X0.here hx rfl (hb hby at_187) ?_
    show Steps p.tables e below (T0.setTop (mkF m 188 #[.val (.int ab), .val (.int cd), .val (.int sh), .val (.int q), .val (.int x0), .val (.int x1), .val (.int x2), .val (.int x3), s8, .val (.int k), s10, .val (.int nr), .unset, .unset, .unset] [(.int (0 : Int32))])) _
    refine XS.sipush X0.here hx rfl (hb hby at_188) ?_
    show Steps p.tables e below (T0.setTop (mkF m 191 #[.val (.int ab), .val (.int cd), .val (.int sh), .val (.int q), .val (.int x0), .val (.int x1), .val (.int x2), .val (.int x3), s8, .val (.int k), s10, .val (.int nr), .unset, .unset, .unset] [(.int (4096 : Int32)), (.int (0 : Int32))])) _
    refine XS.iload X0.here hx rfl (hb hby at_191) rfl ?_
    show Steps p.tables e below (T0.setTop (mkF m 193 #[.val (.int ab), .val (.int cd), .val (.int sh), .val (.int q), .val (.int x0), .val (.int x1), .val (.int x2), .val (.int x3), s8, .val (.int k), s10, .val (.int nr), .unset, .unset, .unset] [(.int nr), (.int (4096 : Int32)), (.int (0 : Int32))])) _
    refine XS.iloadN X0.here hx rfl (hb hby at_193) rfl ?_
    show Steps p.tables e below (T0.setTop (mkF m 194 #[.val (.int ab), .val (.int cd), .val (.int sh), .val (.int q), .val (.int x0), .val (.int x1), .val (.int x2), .val (.int x3), s8, .val (.int k), s10, .val (.int nr), .unset, .unset, .unset] [(.int q), (.int nr), (.int (4096 : Int32)), (.int (0 : Int32))])) _
    refine XS.iconst X0.here hx rfl (hb hby at_194) ?_
    show Steps p.tables e below (T0.setTop (mkF m 195 #[.val (.int ab), .val (.int cd), .val (.int sh), .val (.int q), .val (.int x0), .val (.int x1), .val (.int x2), .val (.int x3), s8, .val (.int k), s10, .val (.int nr), .unset, .unset, .unset] [(.int (3 : Int32)), (.int q), (.int nr), (.int (4096 : Int32)), (.int (0 : Int32))])) _
    refine XS.iushr X0.here hx rfl (hb hby at_195) rfl ?_
    show Steps p.tables e below (T0.setTop (mkF m 196 #[.val (.int ab), .val (.int cd), .val (.int sh), .val (.int q), .val (.int x0), .val (.int x1), .val (.int x2), .val (.int x3), s8, .val (.int k), s10, .val (.int nr), .unset, .unset, .unset] [(.int ((q.toUInt32 >>> ((3 : Int32) &&& 31).toUInt32).toInt32)), (.int nr), (.int (4096 : Int32)), (.int (0 : Int32))])) _
    refine XS.iconst X0.here hx rfl (hb hby at_196) ?_
    show Steps p.tables e below (T0.setTop (mkF m 197 #[.val (.int ab), .val (.int cd), .val (.int sh), .val (.int q), .val (.int x0), .val (.int x1), .val (.int x2), .val (.int x3), s8, .val (.int k), s10, .val (.int nr), .unset, .unset, .unset] [(.int (3 : Int32)), (.int ((q.toUInt32 >>> ((3 : Int32) &&& 31).toUInt32).toInt32)), (.int nr), (.int (4096 : Int32)), (.int (0 : Int32))])) _
    refine XS.iand X0.here hx rfl (hb hby at_197) rfl ?_
    show Steps p.tables e below (T0.setTop (mkF m 198 #[.val (.int ab), .val (.int cd), .val (.int sh), .val (.int q), .val (.int x0), .val (.int x1), .val (.int x2), .val (.int x3), s8, .val (.int k), s10, .val (.int nr), .unset, .unset, .unset] [(.int (((q.toUInt32 >>> ((3 : Int32) &&& 31).toUInt32).toInt32) &&& (3 : Int32))), (.int nr), (.int (4096 : Int32)), (.int (0 : Int32))])) _
    refine XS.iadd X0.here hx rfl (hb hby at_198) rfl ?_
    show Steps p.tables e below (T0.setTop (mkF m 199 #[.val (.int ab), .val (.int cd), .val (.int sh), .val (.int q), .val (.int x0), .val (.int x1), .val (.int x2), .val (.int x3), s8, .val (.int k), s10, .val (.int nr), .unset, .unset, .unset] [(.int (nr + (((q.toUInt32 >>> ((3 : Int32) &&& 31).toUInt32).toInt32) &&& (3 : Int32)))), (.int (4096 : Int32)), (.int (0 : Int32))])) _
    refine XS.iconst X0.here hx rfl (hb hby at_199) ?_
    show Steps p.tables e below (T0.setTop (mkF m 200 #[.val (.int ab), .val (.int cd), .val (.int sh), .val (.int q), .val (.int x0), .val (.int x1), .val (.int x2), .val (.int x3), s8, .val (.int k), s10, .val (.int nr), .unset, .unset, .unset] [(.int (1 : Int32)), (.int (nr + (((q.toUInt32 >>> ((3 : Int32) &&& 31).toUInt32).toInt32) &&& (3 : Int32)))), (.int (4096 : Int32)), (.int (0 : Int32))])) _
    refine XS.isub X0.here hx rfl (hb hby at_200) rfl ?_
    show Steps p.tables e below (T0.setTop (mkF m 201 #[.val (.int ab), .val (.int cd), .val (.int sh), .val (.int q), .val (.int x0), .val (.int x1), .val (.int x2), .val (.int x3), s8, .val (.int k), s10, .val (.int nr), .unset, .unset, .unset] [(.int ((nr + (((q.toUInt32 >>> ((3 : Int32) &&& 31).toUInt32).toInt32) &&& (3 : Int32))) - (1 : Int32))), (.int (4096 : Int32)), (.int (0 : Int32))])) _
    refine st1 _ ?_
    show Steps p.tables e below (T1.setTop (mkF m 204 #[.val (.int ab), .val (.int cd), .val (.int sh), .val (.int q), .val (.int x0), .val (.int x1), .val (.int x2), .val (.int x3), s8, .val (.int k), s10, .val (.int nr), .unset, .unset, .unset] [(.int (own_min (4096 : Int32) ((nr + (((q.toUInt32 >>> ((3 : Int32) &&& 31).toUInt32).toInt32) &&& (3 : Int32))) - (1 : Int32)))), (.int (0 : Int32))])) _
    refine st2 _ ?_
    show Steps p.tables e below (T2.setTop (mkF m 207 #[.val (.int ab), .val (.int cd), .val (.int sh), .val (.int q), .val (.int x0), .val (.int x1), .val (.int x2), .val (.int x3), s8, .val (.int k), s10, .val (.int nr), .unset, .unset, .unset] [(.int (own_max (0 : Int32) (own_min (4096 : Int32) ((nr + (((q.toUInt32 >>> ((3 : Int32) &&& 31).toUInt32).toInt32) &&& (3 : Int32))) - (1 : Int32)))))])) _
    refine XS.istore X2.here hx rfl (hb hby at_207) rfl (l' := #[.val (.int ab), .val (.int cd), .val (.int sh), .val (.int q), .val (.int x0), .val (.int x1), .val (.int x2), .val (.int x3), s8, .val (.int k), s10, .val (.int nr), .val (.int (own_max (0 : Int32) (own_min (4096 : Int32) ((nr + (((q.toUInt32 >>> ((3 : Int32) &&& 31).toUInt32).toInt32) &&& (3 : Int32))) - (1 : Int32))))), .unset, .unset]) rfl ?_
    exact kt
  · refine ⟨T0, (((q.toUInt32 >>> ((1 : Int32) &&& 31).toUInt32).toInt32) % (4097 : Int32)), X0, e0, fun target kt => ?_⟩
    show Steps p.tables e below (T0.setTop (mkF m 171 #[.val (.int ab), .val (.int cd), .val (.int sh), .val (.int q), .val (.int x0), .val (.int x1), .val (.int x2), .val (.int x3), s8, .val (.int k), s10, .val (.int nr), .unset, .unset, .unset] [])) _
    refine XS.iloadN X0.here hx rfl (hb hby at_171) rfl ?_
    show Steps p.tables e below (T0.setTop (mkF m 172 #[.val (.int ab), .val (.int cd), .val (.int sh), .val (.int q), .val (.int x0), .val (.int x1), .val (.int x2), .val (.int x3), s8, .val (.int k), s10, .val (.int nr), .unset, .unset, .unset] [(.int q)])) _
    refine XS.iconst X0.here hx rfl (hb hby at_172) ?_
    show Steps p.tables e below (T0.setTop (mkF m 173 #[.val (.int ab), .val (.int cd), .val (.int sh), .val (.int q), .val (.int x0), .val (.int x1), .val (.int x2), .val (.int x3), s8, .val (.int k), s10, .val (.int nr), .unset, .unset, .unset] [(.int (1 : Int32)), (.int q)])) _
    refine XS.iand X0.here hx rfl (hb hby at_173) rfl ?_
    show Steps p.tables e below (T0.setTop (mkF m 174 #[.val (.int ab), .val (.int cd), .val (.int sh), .val (.int q), .val (.int x0), .val (.int x1), .val (.int x2), .val (.int x3), s8, .val (.int k), s10, .val (.int nr), .unset, .unset, .unset] [(.int (q &&& (1 : Int32)))])) _
    refine XS.ifNo X0.here hx rfl (hb hby at_174) rfl ((if0 _ _).trans (feq hc174).1) ?_
    show Steps p.tables e below (T0.setTop (mkF m 177 #[.val (.int ab), .val (.int cd), .val (.int sh), .val (.int q), .val (.int x0), .val (.int x1), .val (.int x2), .val (.int x3), s8, .val (.int k), s10, .val (.int nr), .unset, .unset, .unset] [])) _
    refine XS.iloadN X0.here hx rfl (hb hby at_177) rfl ?_
    show Steps p.tables e below (T0.setTop (mkF m 178 #[.val (.int ab), .val (.int cd), .val (.int sh), .val (.int q), .val (.int x0), .val (.int x1), .val (.int x2), .val (.int x3), s8, .val (.int k), s10, .val (.int nr), .unset, .unset, .unset] [(.int q)])) _
    refine XS.iconst X0.here hx rfl (hb hby at_178) ?_
    show Steps p.tables e below (T0.setTop (mkF m 179 #[.val (.int ab), .val (.int cd), .val (.int sh), .val (.int q), .val (.int x0), .val (.int x1), .val (.int x2), .val (.int x3), s8, .val (.int k), s10, .val (.int nr), .unset, .unset, .unset] [(.int (1 : Int32)), (.int q)])) _
    refine XS.iushr X0.here hx rfl (hb hby at_179) rfl ?_
    show Steps p.tables e below (T0.setTop (mkF m 180 #[.val (.int ab), .val (.int cd), .val (.int sh), .val (.int q), .val (.int x0), .val (.int x1), .val (.int x2), .val (.int x3), s8, .val (.int k), s10, .val (.int nr), .unset, .unset, .unset] [(.int ((q.toUInt32 >>> ((1 : Int32) &&& 31).toUInt32).toInt32))])) _
    refine XS.sipush X0.here hx rfl (hb hby at_180) ?_
    show Steps p.tables e below (T0.setTop (mkF m 183 #[.val (.int ab), .val (.int cd), .val (.int sh), .val (.int q), .val (.int x0), .val (.int x1), .val (.int x2), .val (.int x3), s8, .val (.int k), s10, .val (.int nr), .unset, .unset, .unset] [(.int (4097 : Int32)), (.int ((q.toUInt32 >>> ((1 : Int32) &&& 31).toUInt32).toInt32))])) _
    refine iremM X0 hx rfl (hb hby at_183) rfl (by decide) ?_
    show Steps p.tables e below (T0.setTop (mkF m 184 #[.val (.int ab), .val (.int cd), .val (.int sh), .val (.int q), .val (.int x0), .val (.int x1), .val (.int x2), .val (.int x3), s8, .val (.int k), s10, .val (.int nr), .unset, .unset, .unset] [(.int (((q.toUInt32 >>> ((1 : Int32) &&& 31).toUInt32).toInt32) % (4097 : Int32)))])) _
    refine XS.goto X0.here hx rfl (pc0 := 184) (pc' := 207) rfl (hb hby at_184) (by decide) (by decide) ?_
    show Steps p.tables e below (T0.setTop (mkF m 207 #[.val (.int ab), .val (.int cd), .val (.int sh), .val (.int q), .val (.int x0), .val (.int x1), .val (.int x2), .val (.int x3), s8, .val (.int k), s10, .val (.int nr), .unset, .unset, .unset] [(.int (((q.toUInt32 >>> ((1 : Int32) &&& 31).toUInt32).toInt32) % (4097 : Int32)))])) _
    refine XS.istore X0.here hx rfl (hb hby at_207) rfl (l' := #[.val (.int ab), .val (.int cd), .val (.int sh), .val (.int q), .val (.int x0), .val (.int x1), .val (.int x2), .val (.int x3), s8, .val (.int k), s10, .val (.int nr), .val (.int (((q.toUInt32 >>> ((1 : Int32) &&& 31).toUInt32).toInt32) % (4097 : Int32))), .unset, .unset]) rfl ?_
    exact kt
theorem own_k6 (sh : Int32) : ∃ n : Nat, n ≤ 5 ∧ (sh &&& (2147483647 : Int32)) % (6 : Int32) = Int32.ofNat n := by
  have h1 := c_mask sh 2147483647 31 (by omega) (by decide)
  have h2 := (c_irem (sh &&& (2147483647 : Int32)) 6 6 rfl).1 (by omega)
  refine ⟨((sh &&& (2147483647 : Int32)) % (6 : Int32)).toInt.toNat, by omega, ?_⟩
  rw [← Int32.toInt_inj, own_ti (by omega)]
  omega
theorem own_lo (x : Int32) : B16 (x &&& (65535 : Int32)) := by
  have h1 := c_mask x 65535 16 (by omega) (by decide)
  constructor <;> omega
theorem own_hi (x : Int32) : B16 ((x.toUInt32 >>> ((16 : Int32) &&& 31).toUInt32).toInt32) := by
  have h1 := c_iushr x 16 16 (by decide) (by decide)
  constructor <;> omega
theorem own_net {x0 x1 x2 x3 a0 a1 b2 b3 c0 c2 d1 d3 e1 e2 : Int32} (h1 : Sw x0 x1 a0 a1) (h2 : Sw x2 x3 b2 b3) (h3 : Sw a0 b2 c0 c2) (h4 : Sw a1 b3 d1 d3) (h5 : Sw d1 c2 e1 e2) (q0 : B16 x0) (q1 : B16 x1) (q2 : B16 x2) (q3 : B16 x3) :
    B16 c0 ∧ B16 e1 ∧ B16 e2 ∧ B16 d3 ∧ c0.toInt ≤ e1.toInt ∧ e1.toInt ≤ e2.toInt ∧ e2.toInt ≤ d3.toInt := by
  have r : ∀ {u v u' v' : Int32}, Sw u v u' v' → B16 u → B16 v → B16 u' ∧ B16 v' ∧ u'.toInt ≤ v'.toInt ∧ ((u'.toInt = u.toInt ∧ v'.toInt = v.toInt) ∨ (u'.toInt = v.toInt ∧ v'.toInt = u.toInt)) := by
    intro u v u' v' h hu hv
    rcases h with ⟨h, rfl, rfl⟩ | ⟨h, rfl, rfl⟩
    · rw [Int32.lt_iff_toInt_lt] at h; exact ⟨hu, hv, by omega, Or.inl ⟨rfl, rfl⟩⟩
    · rw [Int32.lt_iff_toInt_lt] at h; exact ⟨hv, hu, by omega, Or.inr ⟨rfl, rfl⟩⟩
  obtain ⟨A0, A1, Al, Ae⟩ := r h1 q0 q1
  obtain ⟨B2, B3, Bl, Be⟩ := r h2 q2 q3
  obtain ⟨C0, C2, Cl, Ce⟩ := r h3 A0 B2
  obtain ⟨D1, D3, Dl, De⟩ := r h4 A1 B3
  obtain ⟨E1, E2, El, Ee⟩ := r h5 D1 C2
  refine ⟨C0, E1, E2, D3, ?_, El, ?_⟩
  · omega
  · omega
theorem own_sorted {x0 x1 x2 x3 : Int32} (h1 : x0.toInt ≤ x1.toInt) (h2 : x1.toInt ≤ x2.toInt) (h3 : x2.toInt ≤ x3.toInt) (n : Nat) : ∀ i j, i ≤ j → j < n → ¬ own_x x0 x1 x2 x3 j < own_x x0 x1 x2 x3 i := by
  intro i j hij _
  rw [Int32.lt_iff_toInt_lt]
  unfold own_x
  (repeat' split) <;> omega
theorem own_law (kk : Nat) (hk : kk ≤ 4) (place x0 x1 x2 x3 : Int32) : Int32.ofNat (own_pc (own_x x0 x1 x2 x3) place kk) = own_below (Int32.ofNat kk) place x0 x1 x2 x3 := by
  have s : ∀ (k : Nat) (P : Prop) [Decidable P], Int32.ofNat (k + if P then 1 else 0) = if P then Int32.ofNat k + 1 else Int32.ofNat k := by
    intro k P _; split
    · exact (own_one k).symm
    · rfl
  match kk, hk with
  | 0, _ => simp +decide [own_pc, own_below, own_b]
  | 1, _ => simp +decide [own_pc, own_below, own_b, own_x]; by_cases q0 : x0 < place <;> simp +decide [q0]
  | 2, _ => simp +decide [own_pc, own_below, own_b, own_x]; by_cases q0 : x0 < place <;> by_cases q1 : x1 < place <;> simp +decide [q0, q1]
  | 3, _ => simp +decide [own_pc, own_below, own_b, own_x]; by_cases q0 : x0 < place <;> by_cases q1 : x1 < place <;> by_cases q2 : x2 < place <;> simp +decide [q0, q1, q2]
  | 4, _ => simp +decide [own_pc, own_below, own_b, own_x]; by_cases q0 : x0 < place <;> by_cases q1 : x1 < place <;> by_cases q2 : x2 < place <;> by_cases q3 : x3 < place <;> simp +decide [q0, q1, q2, q3]
theorem ef_0 (m : MethodId) (ab : Int32) (cd : Int32) (sh : Int32) (q : Int32) : entryFrame m #[(.int ab), (.int cd), (.int sh), (.int q)] maxLocals = mkF m 0 #[.val (.int ab), .val (.int cd), .val (.int sh), .val (.int q), .unset, .unset, .unset, .unset, .unset, .unset, .unset, .unset, .unset, .unset, .unset] [] := by first | (simp [entryFrame, mkF, argsToLocals, Value.category, maxLocals]; done) | rfl
set_option maxRecDepth 65536 in
set_option maxHeartbeats 40000000 in
theorem rm0 (l : Launch) (Z : State) (a0 : Array Value) (hw : ∀ d ∈ tables_1, d.before a0 Z = true) (ws : List Jvm.Cond) (ab cd sh q : Int32) (h0 : Heap) (n0 : Nat) (Z0 : n0 ≤ h0.size) :
    MetFree l x (head1 (Jvm.Cond.code x code maxLocals ret :: ws) room_1) (fun ar_ U => ar_ = #[(.int ab), (.int cd), (.int sh), (.int q)] ∧ Z.Warmed39 U.vm ∧ U.heap = h0) (fun _ _ _ _ _ => True) (fun _ U o U' => ∃ v L, o = .returned v ∧ (v = some (.int (1 : Int32)) ∧ Fr n0 L) ∧ FrameEnd U o U' L room_1.cells room_1.slots) := by
  refine MetFree.of_bodySF (plainFor_of_name pn_0) hisR ?_
  intro p e s m args below meth c s₁ Bd hml0 hP hK
  obtain ⟨rfl, hZ, hh⟩ := hP
  have hx := Bd.exec
  have hby := Bd.bytes
  have hml : c.maxLocals = 15 := hml0
  have hown : s.vm.findClass "com/example/onward/onward/eval/ExcerptPlacesBelowPinLaw" = some m.cls := findClass_of_methodNamed Bd.named
  have hnm := (name_of_methodNamed Bd.named Bd.method).1
  have X0 : Stand p l e room_1 s m #[(.int ab), (.int cd), (.int sh), (.int q)] below meth c s₁ [] 0 0 := Stand.of_body Bd
  have e0 : s₁.heap = h0 := by rw [← hh, Bd.state]; rfl
  have pre0 : ∀ t, Steps p.tables e below (s₁.setTop (mkF m 0 #[.val (.int ab), .val (.int cd), .val (.int sh), .val (.int q), .unset, .unset, .unset, .unset, .unset, .unset, .unset, .unset, .unset, .unset, .unset] [])) t → Steps p.tables e below (s₁.setTop (entryFrame m #[(.int ab), (.int cd), (.int sh), (.int q)] maxLocals)) t := fun t_ k_ => castTop (ef_0 m ab cd sh q) k_
  have N0 := Fr.nil n0
  obtain ⟨kk, hk5, hm⟩ := own_k6 sh
  obtain ⟨u0, v0, s8_0, hsw0, os0, stw0⟩ := sw0 ab cd sh q (ab &&& (65535 : Int32)) ((ab.toUInt32 >>> ((16 : Int32) &&& 31).toUInt32).toInt32) (cd &&& (65535 : Int32)) ((cd.toUInt32 >>> ((16 : Int32) &&& 31).toUInt32).toInt32) .unset One.u X0 hx hZ hw hby hml hown e0
  obtain ⟨u1, v1, s8_1, hsw1, os1, stw1⟩ := sw1 ab cd sh q u0 v0 (cd &&& (65535 : Int32)) ((cd.toUInt32 >>> ((16 : Int32) &&& 31).toUInt32).toInt32) s8_0 os0 X0 hx hZ hw hby hml hown e0
  obtain ⟨u2, v2, s8_2, hsw2, os2, stw2⟩ := sw2 ab cd sh q u0 v0 u1 v1 s8_1 os1 X0 hx hZ hw hby hml hown e0
  obtain ⟨u3, v3, s8_3, hsw3, os3, stw3⟩ := sw3 ab cd sh q u2 v0 v2 v1 s8_2 os2 X0 hx hZ hw hby hml hown e0
  obtain ⟨u4, v4, s8_4, hsw4, os4, stw4⟩ := sw4 ab cd sh q u2 u3 v2 v3 s8_3 os3 X0 hx hZ hw hby hml hown e0
  obtain ⟨B0, B1, B2, B3, l1, l2, l3⟩ := own_net hsw0 hsw1 hsw2 hsw3 hsw4 (own_lo ab) (own_hi ab) (own_lo cd) (own_hi cd)
  obtain ⟨nr, stn⟩ := near ab cd sh q u2 u4 v4 v3 (Int32.ofNat kk) (((q.toUInt32 >>> ((1 : Int32) &&& 31).toUInt32).toInt32) &&& (3 : Int32)) s8_4 X0 hx hZ hw hby hml hown e0
  obtain ⟨TP, pl, XP, eP, stp⟩ := place ab cd sh q u2 u4 v4 v3 (Int32.ofNat kk) nr s8_4 (.val (.int (((q.toUInt32 >>> ((1 : Int32) &&& 31).toUInt32).toInt32) &&& (3 : Int32)))) X0 hx hZ hw hby hml hown e0
  by_cases h5 : kk = 5
  · obtain ⟨T1, X1, e1, st1⟩ := own_callR XP hx hZ hown (hw _ (List.mem_of_getElem? (i := 10) rfl)) (hw _ (List.mem_of_getElem? (i := 11) rfl)) (hw _ (List.mem_of_getElem? (i := 12) rfl)) (hw _ (List.mem_of_getElem? (i := 13) rfl)) (by decide) (W := 0) (as' := [.null, (.int pl)]) (F := (.int (0 : Int32))) (rm_pbN l Z a0 hw [] pl h0) rfl rfl (by decide) (by decide) (by decide) (by decide) eP (g := (mkF m 265 #[.val (.int ab), .val (.int cd), .val (.int sh), .val (.int q), .val (.int u2), .val (.int u4), .val (.int v4), .val (.int v3), s8_4, .val (.int (Int32.ofNat kk)), .val (.int (((q.toUInt32 >>> ((1 : Int32) &&& 31).toUInt32).toInt32) &&& (3 : Int32))), .val (.int nr), .val (.int pl), .val .null, .val (.int (0 : Int32))] [(.int pl), .null])) rfl (by rw [hml]; rfl) (lenOf pd_3 rfl) (rest := []) rfl (Nat.le_of_eq rfl) (hb hby at_265)
    obtain ⟨fs, hr, hrun, hended, hW, hsame⟩ := X1.leave (v := some (.int (1 : Int32))) (fun h => by rw [Bd.returns] at h; cases h)
    refine ⟨_, _, pre0 _ ?_, hrun, hended, _, _, rfl, ?_, ⟨_, rfl⟩, hW, hsame.mono (by decide) (by decide)⟩
    · show Steps p.tables e below (s₁.setTop (mkF m 0 #[.val (.int ab), .val (.int cd), .val (.int sh), .val (.int q), .unset, .unset, .unset, .unset, .unset, .unset, .unset, .unset, .unset, .unset, .unset] [])) _
      refine XS.iloadN X0.here hx rfl (hb hby at_0) rfl ?_
      show Steps p.tables e below (s₁.setTop (mkF m 1 #[.val (.int ab), .val (.int cd), .val (.int sh), .val (.int q), .unset, .unset, .unset, .unset, .unset, .unset, .unset, .unset, .unset, .unset, .unset] [(.int ab)])) _
      refine X0.ldcInt hx hown (mvT hZ (hw _ (List.mem_of_getElem? (i := 0) rfl))) (g := (mkF m 1 #[.val (.int ab), .val (.int cd), .val (.int sh), .val (.int q), .unset, .unset, .unset, .unset, .unset, .unset, .unset, .unset, .unset, .unset, .unset] [(.int ab)])) rfl (hb hby at_1) _ ?_
      show Steps p.tables e below (s₁.setTop (mkF m 3 #[.val (.int ab), .val (.int cd), .val (.int sh), .val (.int q), .unset, .unset, .unset, .unset, .unset, .unset, .unset, .unset, .unset, .unset, .unset] [(.int (65535 : Int32)), (.int ab)])) _
      refine XS.iand X0.here hx rfl (hb hby at_3) rfl ?_
      show Steps p.tables e below (s₁.setTop (mkF m 4 #[.val (.int ab), .val (.int cd), .val (.int sh), .val (.int q), .unset, .unset, .unset, .unset, .unset, .unset, .unset, .unset, .unset, .unset, .unset] [(.int (ab &&& (65535 : Int32)))])) _
      refine XS.istore X0.here hx rfl (hb hby at_4) rfl (l' := #[.val (.int ab), .val (.int cd), .val (.int sh), .val (.int q), .val (.int (ab &&& (65535 : Int32))), .unset, .unset, .unset, .unset, .unset, .unset, .unset, .unset, .unset, .unset]) rfl ?_
      show Steps p.tables e below (s₁.setTop (mkF m 6 #[.val (.int ab), .val (.int cd), .val (.int sh), .val (.int q), .val (.int (ab &&& (65535 : Int32))), .unset, .unset, .unset, .unset, .unset, .unset, .unset, .unset, .unset, .unset] [])) _
      refine XS.iloadN X0.here hx rfl (hb hby at_6) rfl ?_
      show Steps p.tables e below (s₁.setTop (mkF m 7 #[.val (.int ab), .val (.int cd), .val (.int sh), .val (.int q), .val (.int (ab &&& (65535 : Int32))), .unset, .unset, .unset, .unset, .unset, .unset, .unset, .unset, .unset, .unset] [(.int ab)])) _
      refine XS.bipush X0.here hx rfl (hb hby at_7) ?_
      show Steps p.tables e below (s₁.setTop (mkF m 9 #[.val (.int ab), .val (.int cd), .val (.int sh), .val (.int q), .val (.int (ab &&& (65535 : Int32))), .unset, .unset, .unset, .unset, .unset, .unset, .unset, .unset, .unset, .unset] [(.int (16 : Int32)), (.int ab)])) _
      refine XS.iushr X0.here hx rfl (hb hby at_9) rfl ?_
      show Steps p.tables e below (s₁.setTop (mkF m 10 #[.val (.int ab), .val (.int cd), .val (.int sh), .val (.int q), .val (.int (ab &&& (65535 : Int32))), .unset, .unset, .unset, .unset, .unset, .unset, .unset, .unset, .unset, .unset] [(.int ((ab.toUInt32 >>> ((16 : Int32) &&& 31).toUInt32).toInt32))])) _
      refine XS.istore X0.here hx rfl (hb hby at_10) rfl (l' := #[.val (.int ab), .val (.int cd), .val (.int sh), .val (.int q), .val (.int (ab &&& (65535 : Int32))), .val (.int ((ab.toUInt32 >>> ((16 : Int32) &&& 31).toUInt32).toInt32)), .unset, .unset, .unset, .unset, .unset, .unset, .unset, .unset, .unset]) rfl ?_
      show Steps p.tables e below (s₁.setTop (mkF m 12 #[.val (.int ab), .val (.int cd), .val (.int sh), .val (.int q), .val (.int (ab &&& (65535 : Int32))), .val (.int ((ab.toUInt32 >>> ((16 : Int32) &&& 31).toUInt32).toInt32)), .unset, .unset, .unset, .unset, .unset, .unset, .unset, .unset, .unset] [])) _
      refine XS.iloadN X0.here hx rfl (hb hby at_12) rfl ?_
      show Steps p.tables e below (s₁.setTop (mkF m 13 #[.val (.int ab), .val (.int cd), .val (.int sh), .val (.int q), .val (.int (ab &&& (65535 : Int32))), .val (.int ((ab.toUInt32 >>> ((16 : Int32) &&& 31).toUInt32).toInt32)), .unset, .unset, .unset, .unset, .unset, .unset, .unset, .unset, .unset] [(.int cd)])) _
      refine X0.ldcInt hx hown (mvT hZ (hw _ (List.mem_of_getElem? (i := 0) rfl))) (g := (mkF m 13 #[.val (.int ab), .val (.int cd), .val (.int sh), .val (.int q), .val (.int (ab &&& (65535 : Int32))), .val (.int ((ab.toUInt32 >>> ((16 : Int32) &&& 31).toUInt32).toInt32)), .unset, .unset, .unset, .unset, .unset, .unset, .unset, .unset, .unset] [(.int cd)])) rfl (hb hby at_13) _ ?_
      show Steps p.tables e below (s₁.setTop (mkF m 15 #[.val (.int ab), .val (.int cd), .val (.int sh), .val (.int q), .val (.int (ab &&& (65535 : Int32))), .val (.int ((ab.toUInt32 >>> ((16 : Int32) &&& 31).toUInt32).toInt32)), .unset, .unset, .unset, .unset, .unset, .unset, .unset, .unset, .unset] [(.int (65535 : Int32)), (.int cd)])) _
      refine XS.iand X0.here hx rfl (hb hby at_15) rfl ?_
      show Steps p.tables e below (s₁.setTop (mkF m 16 #[.val (.int ab), .val (.int cd), .val (.int sh), .val (.int q), .val (.int (ab &&& (65535 : Int32))), .val (.int ((ab.toUInt32 >>> ((16 : Int32) &&& 31).toUInt32).toInt32)), .unset, .unset, .unset, .unset, .unset, .unset, .unset, .unset, .unset] [(.int (cd &&& (65535 : Int32)))])) _
      refine XS.istore X0.here hx rfl (hb hby at_16) rfl (l' := #[.val (.int ab), .val (.int cd), .val (.int sh), .val (.int q), .val (.int (ab &&& (65535 : Int32))), .val (.int ((ab.toUInt32 >>> ((16 : Int32) &&& 31).toUInt32).toInt32)), .val (.int (cd &&& (65535 : Int32))), .unset, .unset, .unset, .unset, .unset, .unset, .unset, .unset]) rfl ?_
      show Steps p.tables e below (s₁.setTop (mkF m 18 #[.val (.int ab), .val (.int cd), .val (.int sh), .val (.int q), .val (.int (ab &&& (65535 : Int32))), .val (.int ((ab.toUInt32 >>> ((16 : Int32) &&& 31).toUInt32).toInt32)), .val (.int (cd &&& (65535 : Int32))), .unset, .unset, .unset, .unset, .unset, .unset, .unset, .unset] [])) _
      refine XS.iloadN X0.here hx rfl (hb hby at_18) rfl ?_
      show Steps p.tables e below (s₁.setTop (mkF m 19 #[.val (.int ab), .val (.int cd), .val (.int sh), .val (.int q), .val (.int (ab &&& (65535 : Int32))), .val (.int ((ab.toUInt32 >>> ((16 : Int32) &&& 31).toUInt32).toInt32)), .val (.int (cd &&& (65535 : Int32))), .unset, .unset, .unset, .unset, .unset, .unset, .unset, .unset] [(.int cd)])) _
      refine XS.bipush X0.here hx rfl (hb hby at_19) ?_
      show Steps p.tables e below (s₁.setTop (mkF m 21 #[.val (.int ab), .val (.int cd), .val (.int sh), .val (.int q), .val (.int (ab &&& (65535 : Int32))), .val (.int ((ab.toUInt32 >>> ((16 : Int32) &&& 31).toUInt32).toInt32)), .val (.int (cd &&& (65535 : Int32))), .unset, .unset, .unset, .unset, .unset, .unset, .unset, .unset] [(.int (16 : Int32)), (.int cd)])) _
      refine XS.iushr X0.here hx rfl (hb hby at_21) rfl ?_
      show Steps p.tables e below (s₁.setTop (mkF m 22 #[.val (.int ab), .val (.int cd), .val (.int sh), .val (.int q), .val (.int (ab &&& (65535 : Int32))), .val (.int ((ab.toUInt32 >>> ((16 : Int32) &&& 31).toUInt32).toInt32)), .val (.int (cd &&& (65535 : Int32))), .unset, .unset, .unset, .unset, .unset, .unset, .unset, .unset] [(.int ((cd.toUInt32 >>> ((16 : Int32) &&& 31).toUInt32).toInt32))])) _
      refine XS.istore X0.here hx rfl (hb hby at_22) rfl (l' := #[.val (.int ab), .val (.int cd), .val (.int sh), .val (.int q), .val (.int (ab &&& (65535 : Int32))), .val (.int ((ab.toUInt32 >>> ((16 : Int32) &&& 31).toUInt32).toInt32)), .val (.int (cd &&& (65535 : Int32))), .val (.int ((cd.toUInt32 >>> ((16 : Int32) &&& 31).toUInt32).toInt32)), .unset, .unset, .unset, .unset, .unset, .unset, .unset]) rfl ?_
      show Steps p.tables e below (s₁.setTop (mkF m 24 #[.val (.int ab), .val (.int cd), .val (.int sh), .val (.int q), .val (.int (ab &&& (65535 : Int32))), .val (.int ((ab.toUInt32 >>> ((16 : Int32) &&& 31).toUInt32).toInt32)), .val (.int (cd &&& (65535 : Int32))), .val (.int ((cd.toUInt32 >>> ((16 : Int32) &&& 31).toUInt32).toInt32)), .unset, .unset, .unset, .unset, .unset, .unset, .unset] [])) _
      refine stw0 _ ?_
      show Steps p.tables e below (s₁.setTop (mkF m 43 #[.val (.int ab), .val (.int cd), .val (.int sh), .val (.int q), .val (.int u0), .val (.int v0), .val (.int (cd &&& (65535 : Int32))), .val (.int ((cd.toUInt32 >>> ((16 : Int32) &&& 31).toUInt32).toInt32)), s8_0, .unset, .unset, .unset, .unset, .unset, .unset] [])) _
      refine stw1 _ ?_
      show Steps p.tables e below (s₁.setTop (mkF m 62 #[.val (.int ab), .val (.int cd), .val (.int sh), .val (.int q), .val (.int u0), .val (.int v0), .val (.int u1), .val (.int v1), s8_1, .unset, .unset, .unset, .unset, .unset, .unset] [])) _
      refine stw2 _ ?_
      show Steps p.tables e below (s₁.setTop (mkF m 81 #[.val (.int ab), .val (.int cd), .val (.int sh), .val (.int q), .val (.int u2), .val (.int v0), .val (.int v2), .val (.int v1), s8_2, .unset, .unset, .unset, .unset, .unset, .unset] [])) _
      refine stw3 _ ?_
      show Steps p.tables e below (s₁.setTop (mkF m 100 #[.val (.int ab), .val (.int cd), .val (.int sh), .val (.int q), .val (.int u2), .val (.int u3), .val (.int v2), .val (.int v3), s8_3, .unset, .unset, .unset, .unset, .unset, .unset] [])) _
      refine stw4 _ ?_
      show Steps p.tables e below (s₁.setTop (mkF m 119 #[.val (.int ab), .val (.int cd), .val (.int sh), .val (.int q), .val (.int u2), .val (.int u4), .val (.int v4), .val (.int v3), s8_4, .unset, .unset, .unset, .unset, .unset, .unset] [])) _
      refine XS.iloadN X0.here hx rfl (hb hby at_119) rfl ?_
      show Steps p.tables e below (s₁.setTop (mkF m 120 #[.val (.int ab), .val (.int cd), .val (.int sh), .val (.int q), .val (.int u2), .val (.int u4), .val (.int v4), .val (.int v3), s8_4, .unset, .unset, .unset, .unset, .unset, .unset] [(.int sh)])) _
      refine X0.ldcInt hx hown (mvT hZ (hw _ (List.mem_of_getElem? (i := 1) rfl))) (g := (mkF m 120 #[.val (.int ab), .val (.int cd), .val (.int sh), .val (.int q), .val (.int u2), .val (.int u4), .val (.int v4), .val (.int v3), s8_4, .unset, .unset, .unset, .unset, .unset, .unset] [(.int sh)])) rfl (hb hby at_120) _ ?_
      show Steps p.tables e below (s₁.setTop (mkF m 122 #[.val (.int ab), .val (.int cd), .val (.int sh), .val (.int q), .val (.int u2), .val (.int u4), .val (.int v4), .val (.int v3), s8_4, .unset, .unset, .unset, .unset, .unset, .unset] [(.int (2147483647 : Int32)), (.int sh)])) _
      refine XS.iand X0.here hx rfl (hb hby at_122) rfl ?_
      show Steps p.tables e below (s₁.setTop (mkF m 123 #[.val (.int ab), .val (.int cd), .val (.int sh), .val (.int q), .val (.int u2), .val (.int u4), .val (.int v4), .val (.int v3), s8_4, .unset, .unset, .unset, .unset, .unset, .unset] [(.int (sh &&& (2147483647 : Int32)))])) _
      refine XS.bipush X0.here hx rfl (hb hby at_123) ?_
      show Steps p.tables e below (s₁.setTop (mkF m 125 #[.val (.int ab), .val (.int cd), .val (.int sh), .val (.int q), .val (.int u2), .val (.int u4), .val (.int v4), .val (.int v3), s8_4, .unset, .unset, .unset, .unset, .unset, .unset] [(.int (6 : Int32)), (.int (sh &&& (2147483647 : Int32)))])) _
      refine iremM X0 hx rfl (hb hby at_125) rfl (by decide) ?_
      show Steps p.tables e below (s₁.setTop (mkF m 126 #[.val (.int ab), .val (.int cd), .val (.int sh), .val (.int q), .val (.int u2), .val (.int u4), .val (.int v4), .val (.int v3), s8_4, .unset, .unset, .unset, .unset, .unset, .unset] [(.int ((sh &&& (2147483647 : Int32)) % (6 : Int32)))])) _
      rw [hm]
      show Steps p.tables e below (s₁.setTop (mkF m 126 #[.val (.int ab), .val (.int cd), .val (.int sh), .val (.int q), .val (.int u2), .val (.int u4), .val (.int v4), .val (.int v3), s8_4, .unset, .unset, .unset, .unset, .unset, .unset] [(.int (Int32.ofNat kk))])) _
      refine XS.istore X0.here hx rfl (hb hby at_126) rfl (l' := #[.val (.int ab), .val (.int cd), .val (.int sh), .val (.int q), .val (.int u2), .val (.int u4), .val (.int v4), .val (.int v3), s8_4, .val (.int (Int32.ofNat kk)), .unset, .unset, .unset, .unset, .unset]) rfl ?_
      show Steps p.tables e below (s₁.setTop (mkF m 128 #[.val (.int ab), .val (.int cd), .val (.int sh), .val (.int q), .val (.int u2), .val (.int u4), .val (.int v4), .val (.int v3), s8_4, .val (.int (Int32.ofNat kk)), .unset, .unset, .unset, .unset, .unset] [])) _
      refine XS.iloadN X0.here hx rfl (hb hby at_128) rfl ?_
      show Steps p.tables e below (s₁.setTop (mkF m 129 #[.val (.int ab), .val (.int cd), .val (.int sh), .val (.int q), .val (.int u2), .val (.int u4), .val (.int v4), .val (.int v3), s8_4, .val (.int (Int32.ofNat kk)), .unset, .unset, .unset, .unset, .unset] [(.int q)])) _
      refine XS.iconst X0.here hx rfl (hb hby at_129) ?_
      show Steps p.tables e below (s₁.setTop (mkF m 130 #[.val (.int ab), .val (.int cd), .val (.int sh), .val (.int q), .val (.int u2), .val (.int u4), .val (.int v4), .val (.int v3), s8_4, .val (.int (Int32.ofNat kk)), .unset, .unset, .unset, .unset, .unset] [(.int (1 : Int32)), (.int q)])) _
      refine XS.iushr X0.here hx rfl (hb hby at_130) rfl ?_
      show Steps p.tables e below (s₁.setTop (mkF m 131 #[.val (.int ab), .val (.int cd), .val (.int sh), .val (.int q), .val (.int u2), .val (.int u4), .val (.int v4), .val (.int v3), s8_4, .val (.int (Int32.ofNat kk)), .unset, .unset, .unset, .unset, .unset] [(.int ((q.toUInt32 >>> ((1 : Int32) &&& 31).toUInt32).toInt32))])) _
      refine XS.iconst X0.here hx rfl (hb hby at_131) ?_
      show Steps p.tables e below (s₁.setTop (mkF m 132 #[.val (.int ab), .val (.int cd), .val (.int sh), .val (.int q), .val (.int u2), .val (.int u4), .val (.int v4), .val (.int v3), s8_4, .val (.int (Int32.ofNat kk)), .unset, .unset, .unset, .unset, .unset] [(.int (3 : Int32)), (.int ((q.toUInt32 >>> ((1 : Int32) &&& 31).toUInt32).toInt32))])) _
      refine XS.iand X0.here hx rfl (hb hby at_132) rfl ?_
      show Steps p.tables e below (s₁.setTop (mkF m 133 #[.val (.int ab), .val (.int cd), .val (.int sh), .val (.int q), .val (.int u2), .val (.int u4), .val (.int v4), .val (.int v3), s8_4, .val (.int (Int32.ofNat kk)), .unset, .unset, .unset, .unset, .unset] [(.int (((q.toUInt32 >>> ((1 : Int32) &&& 31).toUInt32).toInt32) &&& (3 : Int32)))])) _
      refine XS.istore X0.here hx rfl (hb hby at_133) rfl (l' := #[.val (.int ab), .val (.int cd), .val (.int sh), .val (.int q), .val (.int u2), .val (.int u4), .val (.int v4), .val (.int v3), s8_4, .val (.int (Int32.ofNat kk)), .val (.int (((q.toUInt32 >>> ((1 : Int32) &&& 31).toUInt32).toInt32) &&& (3 : Int32))), .unset, .unset, .unset, .unset]) rfl ?_
      show Steps p.tables e below (s₁.setTop (mkF m 135 #[.val (.int ab), .val (.int cd), .val (.int sh), .val (.int q), .val (.int u2), .val (.int u4), .val (.int v4), .val (.int v3), s8_4, .val (.int (Int32.ofNat kk)), .val (.int (((q.toUInt32 >>> ((1 : Int32) &&& 31).toUInt32).toInt32) &&& (3 : Int32))), .unset, .unset, .unset, .unset] [])) _
      refine stn _ ?_
      show Steps p.tables e below (s₁.setTop (mkF m 171 #[.val (.int ab), .val (.int cd), .val (.int sh), .val (.int q), .val (.int u2), .val (.int u4), .val (.int v4), .val (.int v3), s8_4, .val (.int (Int32.ofNat kk)), .val (.int (((q.toUInt32 >>> ((1 : Int32) &&& 31).toUInt32).toInt32) &&& (3 : Int32))), .val (.int nr), .unset, .unset, .unset] [])) _
      refine stp _ ?_
      show Steps p.tables e below (TP.setTop (mkF m 209 #[.val (.int ab), .val (.int cd), .val (.int sh), .val (.int q), .val (.int u2), .val (.int u4), .val (.int v4), .val (.int v3), s8_4, .val (.int (Int32.ofNat kk)), .val (.int (((q.toUInt32 >>> ((1 : Int32) &&& 31).toUInt32).toInt32) &&& (3 : Int32))), .val (.int nr), .val (.int pl), .unset, .unset] [])) _
      refine XS.iload XP.here hx rfl (hb hby at_209) rfl ?_
      show Steps p.tables e below (TP.setTop (mkF m 211 #[.val (.int ab), .val (.int cd), .val (.int sh), .val (.int q), .val (.int u2), .val (.int u4), .val (.int v4), .val (.int v3), s8_4, .val (.int (Int32.ofNat kk)), .val (.int (((q.toUInt32 >>> ((1 : Int32) &&& 31).toUInt32).toInt32) &&& (3 : Int32))), .val (.int nr), .val (.int pl), .unset, .unset] [(.int (Int32.ofNat kk))])) _
      refine XS.iconst XP.here hx rfl (hb hby at_211) ?_
      show Steps p.tables e below (TP.setTop (mkF m 212 #[.val (.int ab), .val (.int cd), .val (.int sh), .val (.int q), .val (.int u2), .val (.int u4), .val (.int v4), .val (.int v3), s8_4, .val (.int (Int32.ofNat kk)), .val (.int (((q.toUInt32 >>> ((1 : Int32) &&& 31).toUInt32).toInt32) &&& (3 : Int32))), .val (.int nr), .val (.int pl), .unset, .unset] [(.int (5 : Int32)), (.int (Int32.ofNat kk))])) _
      refine XS.icmpNo XP.here hx rfl (hb hby at_212) rfl (teq (by rw [h5]; rfl)).2 ?_
      show Steps p.tables e below (TP.setTop (mkF m 215 #[.val (.int ab), .val (.int cd), .val (.int sh), .val (.int q), .val (.int u2), .val (.int u4), .val (.int v4), .val (.int v3), s8_4, .val (.int (Int32.ofNat kk)), .val (.int (((q.toUInt32 >>> ((1 : Int32) &&& 31).toUInt32).toInt32) &&& (3 : Int32))), .val (.int nr), .val (.int pl), .unset, .unset] [])) _
      refine XS.aconstNull XP.here hx rfl (hb hby at_215) ?_
      show Steps p.tables e below (TP.setTop (mkF m 216 #[.val (.int ab), .val (.int cd), .val (.int sh), .val (.int q), .val (.int u2), .val (.int u4), .val (.int v4), .val (.int v3), s8_4, .val (.int (Int32.ofNat kk)), .val (.int (((q.toUInt32 >>> ((1 : Int32) &&& 31).toUInt32).toInt32) &&& (3 : Int32))), .val (.int nr), .val (.int pl), .unset, .unset] [.null])) _
      refine XS.goto XP.here hx rfl (pc0 := 216) (pc' := 232) rfl (hb hby at_216) (by decide) (by decide) ?_
      show Steps p.tables e below (TP.setTop (mkF m 232 #[.val (.int ab), .val (.int cd), .val (.int sh), .val (.int q), .val (.int u2), .val (.int u4), .val (.int v4), .val (.int v3), s8_4, .val (.int (Int32.ofNat kk)), .val (.int (((q.toUInt32 >>> ((1 : Int32) &&& 31).toUInt32).toInt32) &&& (3 : Int32))), .val (.int nr), .val (.int pl), .unset, .unset] [.null])) _
      refine XS.astore XP.here hx rfl (hb hby at_232) rfl rfl (l' := #[.val (.int ab), .val (.int cd), .val (.int sh), .val (.int q), .val (.int u2), .val (.int u4), .val (.int v4), .val (.int v3), s8_4, .val (.int (Int32.ofNat kk)), .val (.int (((q.toUInt32 >>> ((1 : Int32) &&& 31).toUInt32).toInt32) &&& (3 : Int32))), .val (.int nr), .val (.int pl), .val .null, .unset]) rfl ?_
      show Steps p.tables e below (TP.setTop (mkF m 234 #[.val (.int ab), .val (.int cd), .val (.int sh), .val (.int q), .val (.int u2), .val (.int u4), .val (.int v4), .val (.int v3), s8_4, .val (.int (Int32.ofNat kk)), .val (.int (((q.toUInt32 >>> ((1 : Int32) &&& 31).toUInt32).toInt32) &&& (3 : Int32))), .val (.int nr), .val (.int pl), .val .null, .unset] [])) _
      refine XS.iload XP.here hx rfl (hb hby at_234) rfl ?_
      show Steps p.tables e below (TP.setTop (mkF m 236 #[.val (.int ab), .val (.int cd), .val (.int sh), .val (.int q), .val (.int u2), .val (.int u4), .val (.int v4), .val (.int v3), s8_4, .val (.int (Int32.ofNat kk)), .val (.int (((q.toUInt32 >>> ((1 : Int32) &&& 31).toUInt32).toInt32) &&& (3 : Int32))), .val (.int nr), .val (.int pl), .val .null, .unset] [(.int (Int32.ofNat kk))])) _
      refine XS.iconst XP.here hx rfl (hb hby at_236) ?_
      show Steps p.tables e below (TP.setTop (mkF m 237 #[.val (.int ab), .val (.int cd), .val (.int sh), .val (.int q), .val (.int u2), .val (.int u4), .val (.int v4), .val (.int v3), s8_4, .val (.int (Int32.ofNat kk)), .val (.int (((q.toUInt32 >>> ((1 : Int32) &&& 31).toUInt32).toInt32) &&& (3 : Int32))), .val (.int nr), .val (.int pl), .val .null, .unset] [(.int (5 : Int32)), (.int (Int32.ofNat kk))])) _
      refine XS.icmpNo XP.here hx rfl (hb hby at_237) rfl (teq (by rw [h5]; rfl)).2 ?_
      show Steps p.tables e below (TP.setTop (mkF m 240 #[.val (.int ab), .val (.int cd), .val (.int sh), .val (.int q), .val (.int u2), .val (.int u4), .val (.int v4), .val (.int v3), s8_4, .val (.int (Int32.ofNat kk)), .val (.int (((q.toUInt32 >>> ((1 : Int32) &&& 31).toUInt32).toInt32) &&& (3 : Int32))), .val (.int nr), .val (.int pl), .val .null, .unset] [])) _
      refine XS.iconst XP.here hx rfl (hb hby at_240) ?_
      show Steps p.tables e below (TP.setTop (mkF m 241 #[.val (.int ab), .val (.int cd), .val (.int sh), .val (.int q), .val (.int u2), .val (.int u4), .val (.int v4), .val (.int v3), s8_4, .val (.int (Int32.ofNat kk)), .val (.int (((q.toUInt32 >>> ((1 : Int32) &&& 31).toUInt32).toInt32) &&& (3 : Int32))), .val (.int nr), .val (.int pl), .val .null, .unset] [(.int (0 : Int32))])) _
      refine XS.goto XP.here hx rfl (pc0 := 241) (pc' := 259) rfl (hb hby at_241) (by decide) (by decide) ?_
      show Steps p.tables e below (TP.setTop (mkF m 259 #[.val (.int ab), .val (.int cd), .val (.int sh), .val (.int q), .val (.int u2), .val (.int u4), .val (.int v4), .val (.int v3), s8_4, .val (.int (Int32.ofNat kk)), .val (.int (((q.toUInt32 >>> ((1 : Int32) &&& 31).toUInt32).toInt32) &&& (3 : Int32))), .val (.int nr), .val (.int pl), .val .null, .unset] [(.int (0 : Int32))])) _
      refine XS.istore XP.here hx rfl (hb hby at_259) rfl (l' := #[.val (.int ab), .val (.int cd), .val (.int sh), .val (.int q), .val (.int u2), .val (.int u4), .val (.int v4), .val (.int v3), s8_4, .val (.int (Int32.ofNat kk)), .val (.int (((q.toUInt32 >>> ((1 : Int32) &&& 31).toUInt32).toInt32) &&& (3 : Int32))), .val (.int nr), .val (.int pl), .val .null, .val (.int (0 : Int32))]) rfl ?_
      show Steps p.tables e below (TP.setTop (mkF m 261 #[.val (.int ab), .val (.int cd), .val (.int sh), .val (.int q), .val (.int u2), .val (.int u4), .val (.int v4), .val (.int v3), s8_4, .val (.int (Int32.ofNat kk)), .val (.int (((q.toUInt32 >>> ((1 : Int32) &&& 31).toUInt32).toInt32) &&& (3 : Int32))), .val (.int nr), .val (.int pl), .val .null, .val (.int (0 : Int32))] [])) _
      refine XS.aload XP.here hx rfl (hb hby at_261) rfl rfl ?_
      show Steps p.tables e below (TP.setTop (mkF m 263 #[.val (.int ab), .val (.int cd), .val (.int sh), .val (.int q), .val (.int u2), .val (.int u4), .val (.int v4), .val (.int v3), s8_4, .val (.int (Int32.ofNat kk)), .val (.int (((q.toUInt32 >>> ((1 : Int32) &&& 31).toUInt32).toInt32) &&& (3 : Int32))), .val (.int nr), .val (.int pl), .val .null, .val (.int (0 : Int32))] [.null])) _
      refine XS.iload XP.here hx rfl (hb hby at_263) rfl ?_
      show Steps p.tables e below (TP.setTop (mkF m 265 #[.val (.int ab), .val (.int cd), .val (.int sh), .val (.int q), .val (.int u2), .val (.int u4), .val (.int v4), .val (.int v3), s8_4, .val (.int (Int32.ofNat kk)), .val (.int (((q.toUInt32 >>> ((1 : Int32) &&& 31).toUInt32).toInt32) &&& (3 : Int32))), .val (.int nr), .val (.int pl), .val .null, .val (.int (0 : Int32))] [(.int pl), .null])) _
      refine st1 _ ?_
      show Steps p.tables e below (T1.setTop (mkF m 268 #[.val (.int ab), .val (.int cd), .val (.int sh), .val (.int q), .val (.int u2), .val (.int u4), .val (.int v4), .val (.int v3), s8_4, .val (.int (Int32.ofNat kk)), .val (.int (((q.toUInt32 >>> ((1 : Int32) &&& 31).toUInt32).toInt32) &&& (3 : Int32))), .val (.int nr), .val (.int pl), .val .null, .val (.int (0 : Int32))] [(.int (0 : Int32))])) _
      refine XS.iload X1.here hx rfl (hb hby at_268) rfl ?_
      show Steps p.tables e below (T1.setTop (mkF m 270 #[.val (.int ab), .val (.int cd), .val (.int sh), .val (.int q), .val (.int u2), .val (.int u4), .val (.int v4), .val (.int v3), s8_4, .val (.int (Int32.ofNat kk)), .val (.int (((q.toUInt32 >>> ((1 : Int32) &&& 31).toUInt32).toInt32) &&& (3 : Int32))), .val (.int nr), .val (.int pl), .val .null, .val (.int (0 : Int32))] [(.int (0 : Int32)), (.int (0 : Int32))])) _
      refine XS.icmpNo X1.here hx rfl (hb hby at_270) rfl (teq rfl).2 ?_
      show Steps p.tables e below (T1.setTop (mkF m 273 #[.val (.int ab), .val (.int cd), .val (.int sh), .val (.int q), .val (.int u2), .val (.int u4), .val (.int v4), .val (.int v3), s8_4, .val (.int (Int32.ofNat kk)), .val (.int (((q.toUInt32 >>> ((1 : Int32) &&& 31).toUInt32).toInt32) &&& (3 : Int32))), .val (.int nr), .val (.int pl), .val .null, .val (.int (0 : Int32))] [])) _
      refine XS.iconst X1.here hx rfl (hb hby at_273) ?_
      show Steps p.tables e below (T1.setTop (mkF m 274 #[.val (.int ab), .val (.int cd), .val (.int sh), .val (.int q), .val (.int u2), .val (.int u4), .val (.int v4), .val (.int v3), s8_4, .val (.int (Int32.ofNat kk)), .val (.int (((q.toUInt32 >>> ((1 : Int32) &&& 31).toUInt32).toInt32) &&& (3 : Int32))), .val (.int nr), .val (.int pl), .val .null, .val (.int (0 : Int32))] [(.int (1 : Int32))])) _
      refine XS.goto X1.here hx rfl (pc0 := 274) (pc' := 278) rfl (hb hby at_274) (by decide) (by decide) ?_
      show Steps p.tables e below (T1.setTop (mkF m 278 #[.val (.int ab), .val (.int cd), .val (.int sh), .val (.int q), .val (.int u2), .val (.int u4), .val (.int v4), .val (.int v3), s8_4, .val (.int (Int32.ofNat kk)), .val (.int (((q.toUInt32 >>> ((1 : Int32) &&& 31).toUInt32).toInt32) &&& (3 : Int32))), .val (.int nr), .val (.int pl), .val .null, .val (.int (0 : Int32))] [(.int (1 : Int32))])) _
      exact retN X1 hx (t := .boolean) Bd.returns (by simp) (hb hby at_278) hr
    · exact ⟨rfl, N0⟩
  · have h4 : kk ≤ 4 := by omega
    have hk5n : ¬ ((Int32.ofNat kk) = (5 : Int32)) := fun q => h5 ((own_eq (j := 5) (by omega) (by omega)).mp q)
    obtain ⟨_, _, ⟨TM, LM, kM, nM⟩, -, XM, ⟨LcM, hQM, lM, yM, zM⟩, stM⟩ := Jvm.LawKit.callS XP hx (y := (⟨"com/example/onward/onward/eval/ExcerptPlacesBelowPinLaw", "make", "(IIIII)[C"⟩ : MethodName)) hown (mvT hZ (hw _ (List.mem_of_getElem? (i := 2) rfl))) (mvT hZ (hw _ (List.mem_of_getElem? (i := 3) rfl))) (mvT hZ (hw _ (List.mem_of_getElem? (i := 4) rfl))) (mvT hZ (hw _ (List.mem_of_getElem? (i := 5) rfl))) (by decide) (backOf (W := 0) (rm_make l Z a0 hw [] kk h4 u2 u4 v4 v3 B0 B1 B2 B3 h0 n0 Z0) hZ (hw _ (List.mem_of_getElem? (i := 5) rfl)) (hw _ (List.mem_of_getElem? (i := 4) rfl)) (by decide) (by decide)) (g := (mkF m 229 #[.val (.int ab), .val (.int cd), .val (.int sh), .val (.int q), .val (.int u2), .val (.int u4), .val (.int v4), .val (.int v3), s8_4, .val (.int (Int32.ofNat kk)), .val (.int (((q.toUInt32 >>> ((1 : Int32) &&& 31).toUInt32).toInt32) &&& (3 : Int32))), .val (.int nr), .val (.int pl), .unset, .unset] [(.int v3), (.int v4), (.int u4), (.int u2), (.int (Int32.ofNat kk))])) rfl (by rw [hml]; rfl) (argsL := [(.int (Int32.ofNat kk)), (.int u2), (.int u4), (.int v4), (.int v3)]) (rest := []) (lenOf pd_1 rfl) rfl (by show 2 * 0 + _ ≤ _; exact Nat.le_of_eq rfl) (hb hby at_229) (fun _ _ => ⟨rfl, eP, (by decide : 0 + 1 ≤ _), (by decide : 0 + 4 ≤ _)⟩)
    dsimp only [Pt.U, Pt.locs, Pt.cells, Pt.slots] at XM lM yM zM stM hQM
    subst lM yM zM
    obtain ⟨b, rfl, NM, VM⟩ := hQM
    obtain ⟨T1, X1, e1, st1⟩ := own_callR XM hx hZ hown (hw _ (List.mem_of_getElem? (i := 7) rfl)) (hw _ (List.mem_of_getElem? (i := 8) rfl)) (hw _ (List.mem_of_getElem? (i := 4) rfl)) (hw _ (List.mem_of_getElem? (i := 9) rfl)) (by decide) (W := 0) (as' := [(.int (Int32.ofNat kk)), (.int pl), (.int u2), (.int u4), (.int v4), (.int v3)]) (F := (.int (own_below (Int32.ofNat kk) pl u2 u4 v4 v3))) (rm_below l Z a0 hw [] (Int32.ofNat kk) pl u2 u4 v4 v3 TM.heap) rfl rfl (by decide) (by decide) (by decide) (by decide) rfl (g := (mkF m 256 #[.val (.int ab), .val (.int cd), .val (.int sh), .val (.int q), .val (.int u2), .val (.int u4), .val (.int v4), .val (.int v3), s8_4, .val (.int (Int32.ofNat kk)), .val (.int (((q.toUInt32 >>> ((1 : Int32) &&& 31).toUInt32).toInt32) &&& (3 : Int32))), .val (.int nr), .val (.int pl), .val (.ref b), .unset] [(.int v3), (.int v4), (.int u4), (.int u2), (.int pl), (.int (Int32.ofNat kk))])) rfl (by rw [hml]; rfl) (lenOf pd_2 rfl) (rest := []) rfl (Nat.le_of_eq rfl) (hb hby at_256)
    obtain ⟨T2, X2, e2, st2⟩ := own_callR X1 hx hZ hown (hw _ (List.mem_of_getElem? (i := 10) rfl)) (hw _ (List.mem_of_getElem? (i := 11) rfl)) (hw _ (List.mem_of_getElem? (i := 12) rfl)) (hw _ (List.mem_of_getElem? (i := 13) rfl)) (by decide) (W := 0) (as' := [(.ref b), (.int pl)]) (F := (.int (Int32.ofNat (own_pc (own_x u2 u4 v4 v3) pl kk)))) (rm_pb l Z a0 hw [] b pl kk (own_x u2 u4 v4 v3) TM.heap VM (by omega) (own_sorted l1 l2 l3 kk)) rfl rfl (by decide) (by decide) (by decide) (by decide) e1 (g := (mkF m 265 #[.val (.int ab), .val (.int cd), .val (.int sh), .val (.int q), .val (.int u2), .val (.int u4), .val (.int v4), .val (.int v3), s8_4, .val (.int (Int32.ofNat kk)), .val (.int (((q.toUInt32 >>> ((1 : Int32) &&& 31).toUInt32).toInt32) &&& (3 : Int32))), .val (.int nr), .val (.int pl), .val (.ref b), .val (.int (own_below (Int32.ofNat kk) pl u2 u4 v4 v3))] [(.int pl), (.ref b)])) rfl (by rw [hml]; rfl) (lenOf pd_3 rfl) (rest := []) rfl (Nat.le_of_eq rfl) (hb hby at_265)
    obtain ⟨fs, hr, hrun, hended, hW, hsame⟩ := X2.leave (v := some (.int (1 : Int32))) (fun h => by rw [Bd.returns] at h; cases h)
    refine ⟨_, _, pre0 _ ?_, hrun, hended, _, _, rfl, ?_, ⟨_, rfl⟩, hW, hsame.mono (by decide) (by decide)⟩
    · show Steps p.tables e below (s₁.setTop (mkF m 0 #[.val (.int ab), .val (.int cd), .val (.int sh), .val (.int q), .unset, .unset, .unset, .unset, .unset, .unset, .unset, .unset, .unset, .unset, .unset] [])) _
      refine XS.iloadN X0.here hx rfl (hb hby at_0) rfl ?_
      show Steps p.tables e below (s₁.setTop (mkF m 1 #[.val (.int ab), .val (.int cd), .val (.int sh), .val (.int q), .unset, .unset, .unset, .unset, .unset, .unset, .unset, .unset, .unset, .unset, .unset] [(.int ab)])) _
      refine X0.ldcInt hx hown (mvT hZ (hw _ (List.mem_of_getElem? (i := 0) rfl))) (g := (mkF m 1 #[.val (.int ab), .val (.int cd), .val (.int sh), .val (.int q), .unset, .unset, .unset, .unset, .unset, .unset, .unset, .unset, .unset, .unset, .unset] [(.int ab)])) rfl (hb hby at_1) _ ?_
      show Steps p.tables e below (s₁.setTop (mkF m 3 #[.val (.int ab), .val (.int cd), .val (.int sh), .val (.int q), .unset, .unset, .unset, .unset, .unset, .unset, .unset, .unset, .unset, .unset, .unset] [(.int (65535 : Int32)), (.int ab)])) _
      refine XS.iand X0.here hx rfl (hb hby at_3) rfl ?_
      show Steps p.tables e below (s₁.setTop (mkF m 4 #[.val (.int ab), .val (.int cd), .val (.int sh), .val (.int q), .unset, .unset, .unset, .unset, .unset, .unset, .unset, .unset, .unset, .unset, .unset] [(.int (ab &&& (65535 : Int32)))])) _
      refine XS.istore X0.here hx rfl (hb hby at_4) rfl (l' := #[.val (.int ab), .val (.int cd), .val (.int sh), .val (.int q), .val (.int (ab &&& (65535 : Int32))), .unset, .unset, .unset, .unset, .unset, .unset, .unset, .unset, .unset, .unset]) rfl ?_
      show Steps p.tables e below (s₁.setTop (mkF m 6 #[.val (.int ab), .val (.int cd), .val (.int sh), .val (.int q), .val (.int (ab &&& (65535 : Int32))), .unset, .unset, .unset, .unset, .unset, .unset, .unset, .unset, .unset, .unset] [])) _
      refine XS.iloadN X0.here hx rfl (hb hby at_6) rfl ?_
      show Steps p.tables e below (s₁.setTop (mkF m 7 #[.val (.int ab), .val (.int cd), .val (.int sh), .val (.int q), .val (.int (ab &&& (65535 : Int32))), .unset, .unset, .unset, .unset, .unset, .unset, .unset, .unset, .unset, .unset] [(.int ab)])) _
      refine XS.bipush X0.here hx rfl (hb hby at_7) ?_
      show Steps p.tables e below (s₁.setTop (mkF m 9 #[.val (.int ab), .val (.int cd), .val (.int sh), .val (.int q), .val (.int (ab &&& (65535 : Int32))), .unset, .unset, .unset, .unset, .unset, .unset, .unset, .unset, .unset, .unset] [(.int (16 : Int32)), (.int ab)])) _
      refine XS.iushr X0.here hx rfl (hb hby at_9) rfl ?_
      show Steps p.tables e below (s₁.setTop (mkF m 10 #[.val (.int ab), .val (.int cd), .val (.int sh), .val (.int q), .val (.int (ab &&& (65535 : Int32))), .unset, .unset, .unset, .unset, .unset, .unset, .unset, .unset, .unset, .unset] [(.int ((ab.toUInt32 >>> ((16 : Int32) &&& 31).toUInt32).toInt32))])) _
      refine XS.istore X0.here hx rfl (hb hby at_10) rfl (l' := #[.val (.int ab), .val (.int cd), .val (.int sh), .val (.int q), .val (.int (ab &&& (65535 : Int32))), .val (.int ((ab.toUInt32 >>> ((16 : Int32) &&& 31).toUInt32).toInt32)), .unset, .unset, .unset, .unset, .unset, .unset, .unset, .unset, .unset]) rfl ?_
      show Steps p.tables e below (s₁.setTop (mkF m 12 #[.val (.int ab), .val (.int cd), .val (.int sh), .val (.int q), .val (.int (ab &&& (65535 : Int32))), .val (.int ((ab.toUInt32 >>> ((16 : Int32) &&& 31).toUInt32).toInt32)), .unset, .unset, .unset, .unset, .unset, .unset, .unset, .unset, .unset] [])) _
      refine XS.iloadN X0.here hx rfl (hb hby at_12) rfl ?_
      show Steps p.tables e below (s₁.setTop (mkF m 13 #[.val (.int ab), .val (.int cd), .val (.int sh), .val (.int q), .val (.int (ab &&& (65535 : Int32))), .val (.int ((ab.toUInt32 >>> ((16 : Int32) &&& 31).toUInt32).toInt32)), .unset, .unset, .unset, .unset, .unset, .unset, .unset, .unset, .unset] [(.int cd)])) _
      refine X0.ldcInt hx hown (mvT hZ (hw _ (List.mem_of_getElem? (i := 0) rfl))) (g := (mkF m 13 #[.val (.int ab), .val (.int cd), .val (.int sh), .val (.int q), .val (.int (ab &&& (65535 : Int32))), .val (.int ((ab.toUInt32 >>> ((16 : Int32) &&& 31).toUInt32).toInt32)), .unset, .unset, .unset, .unset, .unset, .unset, .unset, .unset, .unset] [(.int cd)])) rfl (hb hby at_13) _ ?_
      show Steps p.tables e below (s₁.setTop (mkF m 15 #[.val (.int ab), .val (.int cd), .val (.int sh), .val (.int q), .val (.int (ab &&& (65535 : Int32))), .val (.int ((ab.toUInt32 >>> ((16 : Int32) &&& 31).toUInt32).toInt32)), .unset, .unset, .unset, .unset, .unset, .unset, .unset, .unset, .unset] [(.int (65535 : Int32)), (.int cd)])) _
      refine XS.iand X0.here hx rfl (hb hby at_15) rfl ?_
      show Steps p.tables e below (s₁.setTop (mkF m 16 #[.val (.int ab), .val (.int cd), .val (.int sh), .val (.int q), .val (.int (ab &&& (65535 : Int32))), .val (.int ((ab.toUInt32 >>> ((16 : Int32) &&& 31).toUInt32).toInt32)), .unset, .unset, .unset, .unset, .unset, .unset, .unset, .unset, .unset] [(.int (cd &&& (65535 : Int32)))])) _
      refine XS.istore X0.here hx rfl (hb hby at_16) rfl (l' := #[.val (.int ab), .val (.int cd), .val (.int sh), .val (.int q), .val (.int (ab &&& (65535 : Int32))), .val (.int ((ab.toUInt32 >>> ((16 : Int32) &&& 31).toUInt32).toInt32)), .val (.int (cd &&& (65535 : Int32))), .unset, .unset, .unset, .unset, .unset, .unset, .unset, .unset]) rfl ?_
      show Steps p.tables e below (s₁.setTop (mkF m 18 #[.val (.int ab), .val (.int cd), .val (.int sh), .val (.int q), .val (.int (ab &&& (65535 : Int32))), .val (.int ((ab.toUInt32 >>> ((16 : Int32) &&& 31).toUInt32).toInt32)), .val (.int (cd &&& (65535 : Int32))), .unset, .unset, .unset, .unset, .unset, .unset, .unset, .unset] [])) _
      refine XS.iloadN X0.here hx rfl (hb hby at_18) rfl ?_
      show Steps p.tables e below (s₁.setTop (mkF m 19 #[.val (.int ab), .val (.int cd), .val (.int sh), .val (.int q), .val (.int (ab &&& (65535 : Int32))), .val (.int ((ab.toUInt32 >>> ((16 : Int32) &&& 31).toUInt32).toInt32)), .val (.int (cd &&& (65535 : Int32))), .unset, .unset, .unset, .unset, .unset, .unset, .unset, .unset] [(.int cd)])) _
      refine XS.bipush X0.here hx rfl (hb hby at_19) ?_
      show Steps p.tables e below (s₁.setTop (mkF m 21 #[.val (.int ab), .val (.int cd), .val (.int sh), .val (.int q), .val (.int (ab &&& (65535 : Int32))), .val (.int ((ab.toUInt32 >>> ((16 : Int32) &&& 31).toUInt32).toInt32)), .val (.int (cd &&& (65535 : Int32))), .unset, .unset, .unset, .unset, .unset, .unset, .unset, .unset] [(.int (16 : Int32)), (.int cd)])) _
      refine XS.iushr X0.here hx rfl (hb hby at_21) rfl ?_
      show Steps p.tables e below (s₁.setTop (mkF m 22 #[.val (.int ab), .val (.int cd), .val (.int sh), .val (.int q), .val (.int (ab &&& (65535 : Int32))), .val (.int ((ab.toUInt32 >>> ((16 : Int32) &&& 31).toUInt32).toInt32)), .val (.int (cd &&& (65535 : Int32))), .unset, .unset, .unset, .unset, .unset, .unset, .unset, .unset] [(.int ((cd.toUInt32 >>> ((16 : Int32) &&& 31).toUInt32).toInt32))])) _
      refine XS.istore X0.here hx rfl (hb hby at_22) rfl (l' := #[.val (.int ab), .val (.int cd), .val (.int sh), .val (.int q), .val (.int (ab &&& (65535 : Int32))), .val (.int ((ab.toUInt32 >>> ((16 : Int32) &&& 31).toUInt32).toInt32)), .val (.int (cd &&& (65535 : Int32))), .val (.int ((cd.toUInt32 >>> ((16 : Int32) &&& 31).toUInt32).toInt32)), .unset, .unset, .unset, .unset, .unset, .unset, .unset]) rfl ?_
      show Steps p.tables e below (s₁.setTop (mkF m 24 #[.val (.int ab), .val (.int cd), .val (.int sh), .val (.int q), .val (.int (ab &&& (65535 : Int32))), .val (.int ((ab.toUInt32 >>> ((16 : Int32) &&& 31).toUInt32).toInt32)), .val (.int (cd &&& (65535 : Int32))), .val (.int ((cd.toUInt32 >>> ((16 : Int32) &&& 31).toUInt32).toInt32)), .unset, .unset, .unset, .unset, .unset, .unset, .unset] [])) _
      refine stw0 _ ?_
      show Steps p.tables e below (s₁.setTop (mkF m 43 #[.val (.int ab), .val (.int cd), .val (.int sh), .val (.int q), .val (.int u0), .val (.int v0), .val (.int (cd &&& (65535 : Int32))), .val (.int ((cd.toUInt32 >>> ((16 : Int32) &&& 31).toUInt32).toInt32)), s8_0, .unset, .unset, .unset, .unset, .unset, .unset] [])) _
      refine stw1 _ ?_
      show Steps p.tables e below (s₁.setTop (mkF m 62 #[.val (.int ab), .val (.int cd), .val (.int sh), .val (.int q), .val (.int u0), .val (.int v0), .val (.int u1), .val (.int v1), s8_1, .unset, .unset, .unset, .unset, .unset, .unset] [])) _
      refine stw2 _ ?_
      show Steps p.tables e below (s₁.setTop (mkF m 81 #[.val (.int ab), .val (.int cd), .val (.int sh), .val (.int q), .val (.int u2), .val (.int v0), .val (.int v2), .val (.int v1), s8_2, .unset, .unset, .unset, .unset, .unset, .unset] [])) _
      refine stw3 _ ?_
      show Steps p.tables e below (s₁.setTop (mkF m 100 #[.val (.int ab), .val (.int cd), .val (.int sh), .val (.int q), .val (.int u2), .val (.int u3), .val (.int v2), .val (.int v3), s8_3, .unset, .unset, .unset, .unset, .unset, .unset] [])) _
      refine stw4 _ ?_
      show Steps p.tables e below (s₁.setTop (mkF m 119 #[.val (.int ab), .val (.int cd), .val (.int sh), .val (.int q), .val (.int u2), .val (.int u4), .val (.int v4), .val (.int v3), s8_4, .unset, .unset, .unset, .unset, .unset, .unset] [])) _
      refine XS.iloadN X0.here hx rfl (hb hby at_119) rfl ?_
      show Steps p.tables e below (s₁.setTop (mkF m 120 #[.val (.int ab), .val (.int cd), .val (.int sh), .val (.int q), .val (.int u2), .val (.int u4), .val (.int v4), .val (.int v3), s8_4, .unset, .unset, .unset, .unset, .unset, .unset] [(.int sh)])) _
      refine X0.ldcInt hx hown (mvT hZ (hw _ (List.mem_of_getElem? (i := 1) rfl))) (g := (mkF m 120 #[.val (.int ab), .val (.int cd), .val (.int sh), .val (.int q), .val (.int u2), .val (.int u4), .val (.int v4), .val (.int v3), s8_4, .unset, .unset, .unset, .unset, .unset, .unset] [(.int sh)])) rfl (hb hby at_120) _ ?_
      show Steps p.tables e below (s₁.setTop (mkF m 122 #[.val (.int ab), .val (.int cd), .val (.int sh), .val (.int q), .val (.int u2), .val (.int u4), .val (.int v4), .val (.int v3), s8_4, .unset, .unset, .unset, .unset, .unset, .unset] [(.int (2147483647 : Int32)), (.int sh)])) _
      refine XS.iand X0.here hx rfl (hb hby at_122) rfl ?_
      show Steps p.tables e below (s₁.setTop (mkF m 123 #[.val (.int ab), .val (.int cd), .val (.int sh), .val (.int q), .val (.int u2), .val (.int u4), .val (.int v4), .val (.int v3), s8_4, .unset, .unset, .unset, .unset, .unset, .unset] [(.int (sh &&& (2147483647 : Int32)))])) _
      refine XS.bipush X0.here hx rfl (hb hby at_123) ?_
      show Steps p.tables e below (s₁.setTop (mkF m 125 #[.val (.int ab), .val (.int cd), .val (.int sh), .val (.int q), .val (.int u2), .val (.int u4), .val (.int v4), .val (.int v3), s8_4, .unset, .unset, .unset, .unset, .unset, .unset] [(.int (6 : Int32)), (.int (sh &&& (2147483647 : Int32)))])) _
      refine iremM X0 hx rfl (hb hby at_125) rfl (by decide) ?_
      show Steps p.tables e below (s₁.setTop (mkF m 126 #[.val (.int ab), .val (.int cd), .val (.int sh), .val (.int q), .val (.int u2), .val (.int u4), .val (.int v4), .val (.int v3), s8_4, .unset, .unset, .unset, .unset, .unset, .unset] [(.int ((sh &&& (2147483647 : Int32)) % (6 : Int32)))])) _
      rw [hm]
      show Steps p.tables e below (s₁.setTop (mkF m 126 #[.val (.int ab), .val (.int cd), .val (.int sh), .val (.int q), .val (.int u2), .val (.int u4), .val (.int v4), .val (.int v3), s8_4, .unset, .unset, .unset, .unset, .unset, .unset] [(.int (Int32.ofNat kk))])) _
      refine XS.istore X0.here hx rfl (hb hby at_126) rfl (l' := #[.val (.int ab), .val (.int cd), .val (.int sh), .val (.int q), .val (.int u2), .val (.int u4), .val (.int v4), .val (.int v3), s8_4, .val (.int (Int32.ofNat kk)), .unset, .unset, .unset, .unset, .unset]) rfl ?_
      show Steps p.tables e below (s₁.setTop (mkF m 128 #[.val (.int ab), .val (.int cd), .val (.int sh), .val (.int q), .val (.int u2), .val (.int u4), .val (.int v4), .val (.int v3), s8_4, .val (.int (Int32.ofNat kk)), .unset, .unset, .unset, .unset, .unset] [])) _
      refine XS.iloadN X0.here hx rfl (hb hby at_128) rfl ?_
      show Steps p.tables e below (s₁.setTop (mkF m 129 #[.val (.int ab), .val (.int cd), .val (.int sh), .val (.int q), .val (.int u2), .val (.int u4), .val (.int v4), .val (.int v3), s8_4, .val (.int (Int32.ofNat kk)), .unset, .unset, .unset, .unset, .unset] [(.int q)])) _
      refine XS.iconst X0.here hx rfl (hb hby at_129) ?_
      show Steps p.tables e below (s₁.setTop (mkF m 130 #[.val (.int ab), .val (.int cd), .val (.int sh), .val (.int q), .val (.int u2), .val (.int u4), .val (.int v4), .val (.int v3), s8_4, .val (.int (Int32.ofNat kk)), .unset, .unset, .unset, .unset, .unset] [(.int (1 : Int32)), (.int q)])) _
      refine XS.iushr X0.here hx rfl (hb hby at_130) rfl ?_
      show Steps p.tables e below (s₁.setTop (mkF m 131 #[.val (.int ab), .val (.int cd), .val (.int sh), .val (.int q), .val (.int u2), .val (.int u4), .val (.int v4), .val (.int v3), s8_4, .val (.int (Int32.ofNat kk)), .unset, .unset, .unset, .unset, .unset] [(.int ((q.toUInt32 >>> ((1 : Int32) &&& 31).toUInt32).toInt32))])) _
      refine XS.iconst X0.here hx rfl (hb hby at_131) ?_
      show Steps p.tables e below (s₁.setTop (mkF m 132 #[.val (.int ab), .val (.int cd), .val (.int sh), .val (.int q), .val (.int u2), .val (.int u4), .val (.int v4), .val (.int v3), s8_4, .val (.int (Int32.ofNat kk)), .unset, .unset, .unset, .unset, .unset] [(.int (3 : Int32)), (.int ((q.toUInt32 >>> ((1 : Int32) &&& 31).toUInt32).toInt32))])) _
      refine XS.iand X0.here hx rfl (hb hby at_132) rfl ?_
      show Steps p.tables e below (s₁.setTop (mkF m 133 #[.val (.int ab), .val (.int cd), .val (.int sh), .val (.int q), .val (.int u2), .val (.int u4), .val (.int v4), .val (.int v3), s8_4, .val (.int (Int32.ofNat kk)), .unset, .unset, .unset, .unset, .unset] [(.int (((q.toUInt32 >>> ((1 : Int32) &&& 31).toUInt32).toInt32) &&& (3 : Int32)))])) _
      refine XS.istore X0.here hx rfl (hb hby at_133) rfl (l' := #[.val (.int ab), .val (.int cd), .val (.int sh), .val (.int q), .val (.int u2), .val (.int u4), .val (.int v4), .val (.int v3), s8_4, .val (.int (Int32.ofNat kk)), .val (.int (((q.toUInt32 >>> ((1 : Int32) &&& 31).toUInt32).toInt32) &&& (3 : Int32))), .unset, .unset, .unset, .unset]) rfl ?_
      show Steps p.tables e below (s₁.setTop (mkF m 135 #[.val (.int ab), .val (.int cd), .val (.int sh), .val (.int q), .val (.int u2), .val (.int u4), .val (.int v4), .val (.int v3), s8_4, .val (.int (Int32.ofNat kk)), .val (.int (((q.toUInt32 >>> ((1 : Int32) &&& 31).toUInt32).toInt32) &&& (3 : Int32))), .unset, .unset, .unset, .unset] [])) _
      refine stn _ ?_
      show Steps p.tables e below (s₁.setTop (mkF m 171 #[.val (.int ab), .val (.int cd), .val (.int sh), .val (.int q), .val (.int u2), .val (.int u4), .val (.int v4), .val (.int v3), s8_4, .val (.int (Int32.ofNat kk)), .val (.int (((q.toUInt32 >>> ((1 : Int32) &&& 31).toUInt32).toInt32) &&& (3 : Int32))), .val (.int nr), .unset, .unset, .unset] [])) _
      refine stp _ ?_
      show Steps p.tables e below (TP.setTop (mkF m 209 #[.val (.int ab), .val (.int cd), .val (.int sh), .val (.int q), .val (.int u2), .val (.int u4), .val (.int v4), .val (.int v3), s8_4, .val (.int (Int32.ofNat kk)), .val (.int (((q.toUInt32 >>> ((1 : Int32) &&& 31).toUInt32).toInt32) &&& (3 : Int32))), .val (.int nr), .val (.int pl), .unset, .unset] [])) _
      refine XS.iload XP.here hx rfl (hb hby at_209) rfl ?_
      show Steps p.tables e below (TP.setTop (mkF m 211 #[.val (.int ab), .val (.int cd), .val (.int sh), .val (.int q), .val (.int u2), .val (.int u4), .val (.int v4), .val (.int v3), s8_4, .val (.int (Int32.ofNat kk)), .val (.int (((q.toUInt32 >>> ((1 : Int32) &&& 31).toUInt32).toInt32) &&& (3 : Int32))), .val (.int nr), .val (.int pl), .unset, .unset] [(.int (Int32.ofNat kk))])) _
      refine XS.iconst XP.here hx rfl (hb hby at_211) ?_
      show Steps p.tables e below (TP.setTop (mkF m 212 #[.val (.int ab), .val (.int cd), .val (.int sh), .val (.int q), .val (.int u2), .val (.int u4), .val (.int v4), .val (.int v3), s8_4, .val (.int (Int32.ofNat kk)), .val (.int (((q.toUInt32 >>> ((1 : Int32) &&& 31).toUInt32).toInt32) &&& (3 : Int32))), .val (.int nr), .val (.int pl), .unset, .unset] [(.int (5 : Int32)), (.int (Int32.ofNat kk))])) _
      refine XS.icmpYes XP.here hx rfl (pc0 := 212) (pc' := 219) rfl (hb hby at_212) rfl (feq hk5n).2 (by decide) (by decide) ?_
      show Steps p.tables e below (TP.setTop (mkF m 219 #[.val (.int ab), .val (.int cd), .val (.int sh), .val (.int q), .val (.int u2), .val (.int u4), .val (.int v4), .val (.int v3), s8_4, .val (.int (Int32.ofNat kk)), .val (.int (((q.toUInt32 >>> ((1 : Int32) &&& 31).toUInt32).toInt32) &&& (3 : Int32))), .val (.int nr), .val (.int pl), .unset, .unset] [])) _
      refine XS.iload XP.here hx rfl (hb hby at_219) rfl ?_
      show Steps p.tables e below (TP.setTop (mkF m 221 #[.val (.int ab), .val (.int cd), .val (.int sh), .val (.int q), .val (.int u2), .val (.int u4), .val (.int v4), .val (.int v3), s8_4, .val (.int (Int32.ofNat kk)), .val (.int (((q.toUInt32 >>> ((1 : Int32) &&& 31).toUInt32).toInt32) &&& (3 : Int32))), .val (.int nr), .val (.int pl), .unset, .unset] [(.int (Int32.ofNat kk))])) _
      refine XS.iload XP.here hx rfl (hb hby at_221) rfl ?_
      show Steps p.tables e below (TP.setTop (mkF m 223 #[.val (.int ab), .val (.int cd), .val (.int sh), .val (.int q), .val (.int u2), .val (.int u4), .val (.int v4), .val (.int v3), s8_4, .val (.int (Int32.ofNat kk)), .val (.int (((q.toUInt32 >>> ((1 : Int32) &&& 31).toUInt32).toInt32) &&& (3 : Int32))), .val (.int nr), .val (.int pl), .unset, .unset] [(.int u2), (.int (Int32.ofNat kk))])) _
      refine XS.iload XP.here hx rfl (hb hby at_223) rfl ?_
      show Steps p.tables e below (TP.setTop (mkF m 225 #[.val (.int ab), .val (.int cd), .val (.int sh), .val (.int q), .val (.int u2), .val (.int u4), .val (.int v4), .val (.int v3), s8_4, .val (.int (Int32.ofNat kk)), .val (.int (((q.toUInt32 >>> ((1 : Int32) &&& 31).toUInt32).toInt32) &&& (3 : Int32))), .val (.int nr), .val (.int pl), .unset, .unset] [(.int u4), (.int u2), (.int (Int32.ofNat kk))])) _
      refine XS.iload XP.here hx rfl (hb hby at_225) rfl ?_
      show Steps p.tables e below (TP.setTop (mkF m 227 #[.val (.int ab), .val (.int cd), .val (.int sh), .val (.int q), .val (.int u2), .val (.int u4), .val (.int v4), .val (.int v3), s8_4, .val (.int (Int32.ofNat kk)), .val (.int (((q.toUInt32 >>> ((1 : Int32) &&& 31).toUInt32).toInt32) &&& (3 : Int32))), .val (.int nr), .val (.int pl), .unset, .unset] [(.int v4), (.int u4), (.int u2), (.int (Int32.ofNat kk))])) _
      refine XS.iload XP.here hx rfl (hb hby at_227) rfl ?_
      show Steps p.tables e below (TP.setTop (mkF m 229 #[.val (.int ab), .val (.int cd), .val (.int sh), .val (.int q), .val (.int u2), .val (.int u4), .val (.int v4), .val (.int v3), s8_4, .val (.int (Int32.ofNat kk)), .val (.int (((q.toUInt32 >>> ((1 : Int32) &&& 31).toUInt32).toInt32) &&& (3 : Int32))), .val (.int nr), .val (.int pl), .unset, .unset] [(.int v3), (.int v4), (.int u4), (.int u2), (.int (Int32.ofNat kk))])) _
      refine stM _ ?_
      show Steps p.tables e below (TM.setTop (mkF m 232 #[.val (.int ab), .val (.int cd), .val (.int sh), .val (.int q), .val (.int u2), .val (.int u4), .val (.int v4), .val (.int v3), s8_4, .val (.int (Int32.ofNat kk)), .val (.int (((q.toUInt32 >>> ((1 : Int32) &&& 31).toUInt32).toInt32) &&& (3 : Int32))), .val (.int nr), .val (.int pl), .unset, .unset] [(.ref b)])) _
      refine XS.astore XM.here hx rfl (hb hby at_232) rfl rfl (l' := #[.val (.int ab), .val (.int cd), .val (.int sh), .val (.int q), .val (.int u2), .val (.int u4), .val (.int v4), .val (.int v3), s8_4, .val (.int (Int32.ofNat kk)), .val (.int (((q.toUInt32 >>> ((1 : Int32) &&& 31).toUInt32).toInt32) &&& (3 : Int32))), .val (.int nr), .val (.int pl), .val (.ref b), .unset]) rfl ?_
      show Steps p.tables e below (TM.setTop (mkF m 234 #[.val (.int ab), .val (.int cd), .val (.int sh), .val (.int q), .val (.int u2), .val (.int u4), .val (.int v4), .val (.int v3), s8_4, .val (.int (Int32.ofNat kk)), .val (.int (((q.toUInt32 >>> ((1 : Int32) &&& 31).toUInt32).toInt32) &&& (3 : Int32))), .val (.int nr), .val (.int pl), .val (.ref b), .unset] [])) _
      refine XS.iload XM.here hx rfl (hb hby at_234) rfl ?_
      show Steps p.tables e below (TM.setTop (mkF m 236 #[.val (.int ab), .val (.int cd), .val (.int sh), .val (.int q), .val (.int u2), .val (.int u4), .val (.int v4), .val (.int v3), s8_4, .val (.int (Int32.ofNat kk)), .val (.int (((q.toUInt32 >>> ((1 : Int32) &&& 31).toUInt32).toInt32) &&& (3 : Int32))), .val (.int nr), .val (.int pl), .val (.ref b), .unset] [(.int (Int32.ofNat kk))])) _
      refine XS.iconst XM.here hx rfl (hb hby at_236) ?_
      show Steps p.tables e below (TM.setTop (mkF m 237 #[.val (.int ab), .val (.int cd), .val (.int sh), .val (.int q), .val (.int u2), .val (.int u4), .val (.int v4), .val (.int v3), s8_4, .val (.int (Int32.ofNat kk)), .val (.int (((q.toUInt32 >>> ((1 : Int32) &&& 31).toUInt32).toInt32) &&& (3 : Int32))), .val (.int nr), .val (.int pl), .val (.ref b), .unset] [(.int (5 : Int32)), (.int (Int32.ofNat kk))])) _
      refine XS.icmpYes XM.here hx rfl (pc0 := 237) (pc' := 244) rfl (hb hby at_237) rfl (feq hk5n).2 (by decide) (by decide) ?_
      show Steps p.tables e below (TM.setTop (mkF m 244 #[.val (.int ab), .val (.int cd), .val (.int sh), .val (.int q), .val (.int u2), .val (.int u4), .val (.int v4), .val (.int v3), s8_4, .val (.int (Int32.ofNat kk)), .val (.int (((q.toUInt32 >>> ((1 : Int32) &&& 31).toUInt32).toInt32) &&& (3 : Int32))), .val (.int nr), .val (.int pl), .val (.ref b), .unset] [])) _
      refine XS.iload XM.here hx rfl (hb hby at_244) rfl ?_
      show Steps p.tables e below (TM.setTop (mkF m 246 #[.val (.int ab), .val (.int cd), .val (.int sh), .val (.int q), .val (.int u2), .val (.int u4), .val (.int v4), .val (.int v3), s8_4, .val (.int (Int32.ofNat kk)), .val (.int (((q.toUInt32 >>> ((1 : Int32) &&& 31).toUInt32).toInt32) &&& (3 : Int32))), .val (.int nr), .val (.int pl), .val (.ref b), .unset] [(.int (Int32.ofNat kk))])) _
      refine XS.iload XM.here hx rfl (hb hby at_246) rfl ?_
      show Steps p.tables e below (TM.setTop (mkF m 248 #[.val (.int ab), .val (.int cd), .val (.int sh), .val (.int q), .val (.int u2), .val (.int u4), .val (.int v4), .val (.int v3), s8_4, .val (.int (Int32.ofNat kk)), .val (.int (((q.toUInt32 >>> ((1 : Int32) &&& 31).toUInt32).toInt32) &&& (3 : Int32))), .val (.int nr), .val (.int pl), .val (.ref b), .unset] [(.int pl), (.int (Int32.ofNat kk))])) _
      refine XS.iload XM.here hx rfl (hb hby at_248) rfl ?_
      show Steps p.tables e below (TM.setTop (mkF m 250 #[.val (.int ab), .val (.int cd), .val (.int sh), .val (.int q), .val (.int u2), .val (.int u4), .val (.int v4), .val (.int v3), s8_4, .val (.int (Int32.ofNat kk)), .val (.int (((q.toUInt32 >>> ((1 : Int32) &&& 31).toUInt32).toInt32) &&& (3 : Int32))), .val (.int nr), .val (.int pl), .val (.ref b), .unset] [(.int u2), (.int pl), (.int (Int32.ofNat kk))])) _
      refine XS.iload XM.here hx rfl (hb hby at_250) rfl ?_
      show Steps p.tables e below (TM.setTop (mkF m 252 #[.val (.int ab), .val (.int cd), .val (.int sh), .val (.int q), .val (.int u2), .val (.int u4), .val (.int v4), .val (.int v3), s8_4, .val (.int (Int32.ofNat kk)), .val (.int (((q.toUInt32 >>> ((1 : Int32) &&& 31).toUInt32).toInt32) &&& (3 : Int32))), .val (.int nr), .val (.int pl), .val (.ref b), .unset] [(.int u4), (.int u2), (.int pl), (.int (Int32.ofNat kk))])) _
      refine XS.iload XM.here hx rfl (hb hby at_252) rfl ?_
      show Steps p.tables e below (TM.setTop (mkF m 254 #[.val (.int ab), .val (.int cd), .val (.int sh), .val (.int q), .val (.int u2), .val (.int u4), .val (.int v4), .val (.int v3), s8_4, .val (.int (Int32.ofNat kk)), .val (.int (((q.toUInt32 >>> ((1 : Int32) &&& 31).toUInt32).toInt32) &&& (3 : Int32))), .val (.int nr), .val (.int pl), .val (.ref b), .unset] [(.int v4), (.int u4), (.int u2), (.int pl), (.int (Int32.ofNat kk))])) _
      refine XS.iload XM.here hx rfl (hb hby at_254) rfl ?_
      show Steps p.tables e below (TM.setTop (mkF m 256 #[.val (.int ab), .val (.int cd), .val (.int sh), .val (.int q), .val (.int u2), .val (.int u4), .val (.int v4), .val (.int v3), s8_4, .val (.int (Int32.ofNat kk)), .val (.int (((q.toUInt32 >>> ((1 : Int32) &&& 31).toUInt32).toInt32) &&& (3 : Int32))), .val (.int nr), .val (.int pl), .val (.ref b), .unset] [(.int v3), (.int v4), (.int u4), (.int u2), (.int pl), (.int (Int32.ofNat kk))])) _
      refine st1 _ ?_
      show Steps p.tables e below (T1.setTop (mkF m 259 #[.val (.int ab), .val (.int cd), .val (.int sh), .val (.int q), .val (.int u2), .val (.int u4), .val (.int v4), .val (.int v3), s8_4, .val (.int (Int32.ofNat kk)), .val (.int (((q.toUInt32 >>> ((1 : Int32) &&& 31).toUInt32).toInt32) &&& (3 : Int32))), .val (.int nr), .val (.int pl), .val (.ref b), .unset] [(.int (own_below (Int32.ofNat kk) pl u2 u4 v4 v3))])) _
      refine XS.istore X1.here hx rfl (hb hby at_259) rfl (l' := #[.val (.int ab), .val (.int cd), .val (.int sh), .val (.int q), .val (.int u2), .val (.int u4), .val (.int v4), .val (.int v3), s8_4, .val (.int (Int32.ofNat kk)), .val (.int (((q.toUInt32 >>> ((1 : Int32) &&& 31).toUInt32).toInt32) &&& (3 : Int32))), .val (.int nr), .val (.int pl), .val (.ref b), .val (.int (own_below (Int32.ofNat kk) pl u2 u4 v4 v3))]) rfl ?_
      show Steps p.tables e below (T1.setTop (mkF m 261 #[.val (.int ab), .val (.int cd), .val (.int sh), .val (.int q), .val (.int u2), .val (.int u4), .val (.int v4), .val (.int v3), s8_4, .val (.int (Int32.ofNat kk)), .val (.int (((q.toUInt32 >>> ((1 : Int32) &&& 31).toUInt32).toInt32) &&& (3 : Int32))), .val (.int nr), .val (.int pl), .val (.ref b), .val (.int (own_below (Int32.ofNat kk) pl u2 u4 v4 v3))] [])) _
      refine XS.aload X1.here hx rfl (hb hby at_261) rfl rfl ?_
      show Steps p.tables e below (T1.setTop (mkF m 263 #[.val (.int ab), .val (.int cd), .val (.int sh), .val (.int q), .val (.int u2), .val (.int u4), .val (.int v4), .val (.int v3), s8_4, .val (.int (Int32.ofNat kk)), .val (.int (((q.toUInt32 >>> ((1 : Int32) &&& 31).toUInt32).toInt32) &&& (3 : Int32))), .val (.int nr), .val (.int pl), .val (.ref b), .val (.int (own_below (Int32.ofNat kk) pl u2 u4 v4 v3))] [(.ref b)])) _
      refine XS.iload X1.here hx rfl (hb hby at_263) rfl ?_
      show Steps p.tables e below (T1.setTop (mkF m 265 #[.val (.int ab), .val (.int cd), .val (.int sh), .val (.int q), .val (.int u2), .val (.int u4), .val (.int v4), .val (.int v3), s8_4, .val (.int (Int32.ofNat kk)), .val (.int (((q.toUInt32 >>> ((1 : Int32) &&& 31).toUInt32).toInt32) &&& (3 : Int32))), .val (.int nr), .val (.int pl), .val (.ref b), .val (.int (own_below (Int32.ofNat kk) pl u2 u4 v4 v3))] [(.int pl), (.ref b)])) _
      refine st2 _ ?_
      show Steps p.tables e below (T2.setTop (mkF m 268 #[.val (.int ab), .val (.int cd), .val (.int sh), .val (.int q), .val (.int u2), .val (.int u4), .val (.int v4), .val (.int v3), s8_4, .val (.int (Int32.ofNat kk)), .val (.int (((q.toUInt32 >>> ((1 : Int32) &&& 31).toUInt32).toInt32) &&& (3 : Int32))), .val (.int nr), .val (.int pl), .val (.ref b), .val (.int (own_below (Int32.ofNat kk) pl u2 u4 v4 v3))] [(.int (Int32.ofNat (own_pc (own_x u2 u4 v4 v3) pl kk)))])) _
      refine XS.iload X2.here hx rfl (hb hby at_268) rfl ?_
      show Steps p.tables e below (T2.setTop (mkF m 270 #[.val (.int ab), .val (.int cd), .val (.int sh), .val (.int q), .val (.int u2), .val (.int u4), .val (.int v4), .val (.int v3), s8_4, .val (.int (Int32.ofNat kk)), .val (.int (((q.toUInt32 >>> ((1 : Int32) &&& 31).toUInt32).toInt32) &&& (3 : Int32))), .val (.int nr), .val (.int pl), .val (.ref b), .val (.int (own_below (Int32.ofNat kk) pl u2 u4 v4 v3))] [(.int (own_below (Int32.ofNat kk) pl u2 u4 v4 v3)), (.int (Int32.ofNat (own_pc (own_x u2 u4 v4 v3) pl kk)))])) _
      refine XS.icmpNo X2.here hx rfl (hb hby at_270) rfl (teq (own_law kk h4 pl u2 u4 v4 v3)).2 ?_
      show Steps p.tables e below (T2.setTop (mkF m 273 #[.val (.int ab), .val (.int cd), .val (.int sh), .val (.int q), .val (.int u2), .val (.int u4), .val (.int v4), .val (.int v3), s8_4, .val (.int (Int32.ofNat kk)), .val (.int (((q.toUInt32 >>> ((1 : Int32) &&& 31).toUInt32).toInt32) &&& (3 : Int32))), .val (.int nr), .val (.int pl), .val (.ref b), .val (.int (own_below (Int32.ofNat kk) pl u2 u4 v4 v3))] [])) _
      refine XS.iconst X2.here hx rfl (hb hby at_273) ?_
      show Steps p.tables e below (T2.setTop (mkF m 274 #[.val (.int ab), .val (.int cd), .val (.int sh), .val (.int q), .val (.int u2), .val (.int u4), .val (.int v4), .val (.int v3), s8_4, .val (.int (Int32.ofNat kk)), .val (.int (((q.toUInt32 >>> ((1 : Int32) &&& 31).toUInt32).toInt32) &&& (3 : Int32))), .val (.int nr), .val (.int pl), .val (.ref b), .val (.int (own_below (Int32.ofNat kk) pl u2 u4 v4 v3))] [(.int (1 : Int32))])) _
      refine XS.goto X2.here hx rfl (pc0 := 274) (pc' := 278) rfl (hb hby at_274) (by decide) (by decide) ?_
      show Steps p.tables e below (T2.setTop (mkF m 278 #[.val (.int ab), .val (.int cd), .val (.int sh), .val (.int q), .val (.int u2), .val (.int u4), .val (.int v4), .val (.int v3), s8_4, .val (.int (Int32.ofNat kk)), .val (.int (((q.toUInt32 >>> ((1 : Int32) &&& 31).toUInt32).toInt32) &&& (3 : Int32))), .val (.int nr), .val (.int pl), .val (.ref b), .val (.int (own_below (Int32.ofNat kk) pl u2 u4 v4 v3))] [(.int (1 : Int32))])) _
      exact retN X2 hx (t := .boolean) Bd.returns (by simp) (hb hby at_278) hr
    · exact ⟨rfl, Fr.app N0 NM⟩
set_option maxRecDepth 65536 in
set_option maxHeartbeats 40000000 in
theorem comes_1 {Post : Tables → Env → Array Value → State → Outcome → State → Prop} (hpost : ∀ tb e args s v u, (limb_1_1.after args s (.returned v) u = true ∧ limb_1_2.after args s (.returned v) u = true ∧ True) → FrameEnd s (.returned v) u (Jvm.fieldLocs frame_1_writes args s ++ Jvm.arrayLocs frame_1_arrays args s ++ Jvm.staticLocs frame_1_statics s) 16 128 → Post tb e args s (.returned v) u) :
    ArmFor flags0 classFile x code maxLocals ret World_1 tables_1 room_1 Calls_1 rest_1 Pre_1 Post := by
  intro l hfl _ _ p e ha hc hk s m args below hf hA hF happ hP
  obtain ⟨hcalls, hrest, hpre⟩ := hP
  obtain ⟨-, -, -, hnamed, -, -, -, hat⟩ := (Spec.applies_iff hf).mp happ
  obtain ⟨hg, hn⟩ := and_e (Cond.before_iff.mp (show (Jvm.Cond.and given_1 narrow_1).before args s = true from hpre))
  obtain ⟨hcnt, k0⟩ := and_e hg
  obtain ⟨v0, k1⟩ := and_e k0
  obtain ⟨v1, k2⟩ := and_e k1
  obtain ⟨v2, k3⟩ := and_e k2
  obtain ⟨w0, w1, w2, w3, rfl⟩ : ∃ w0 w1 w2 w3 : Value, args = #[w0, w1, w2, w3] := by
    have hs : args.size = 4 := by simpa [Cond.value, given_1] using hcnt
    obtain ⟨L⟩ := args
    match L, hs with
    | [w0, w1, w2, w3], _ => exact ⟨w0, w1, w2, w3, rfl⟩
  have hw := fun d (hd : d ∈ tables_1) => atoms_spec (ws := Jvm.Cond.code x code maxLocals ret :: tables_1) hat d (List.mem_cons_of_mem _ hd)
  have hfit : Fit s := fun {y c} hc i hi => by
    obtain ⟨ha, rfl⟩ := Array.getElem?_eq_some_iff.mp hc
    have q := List.all_eq_true.mp ((Array.all_eq_true_iff_forall_mem.mp hF) _ (Array.getElem_mem ha)) i (List.mem_range.mpr hi)
    simpa [Array.getElem?_eq_getElem hi] using q
  obtain ⟨i0, ei0⟩ := is_v v0
  obtain rfl : w0 = (.int i0) := Option.some.inj ei0
  obtain ⟨i1, ei1⟩ := is_v v1
  obtain rfl : w1 = (.int i1) := Option.some.inj ei1
  obtain ⟨i2, ei2⟩ := is_v v2
  obtain rfl : w2 = (.int i2) := Option.some.inj ei2
  obtain ⟨i3, ei3⟩ := is_v k3
  obtain rfl : w3 = (.int i3) := Option.some.inj ei3
  obtain ⟨n, o, h1, h2, h3, _, L, rfl, ⟨rfl, N⟩, hq⟩ := rm0 l s _ hw tables_1 i0 i1 i2 i3 s.heap s.heap.size (Nat.le_refl _) p e ha hc hk s m _ below hf ((Spec.applies_iff_loose hf).mp happ).1 ⟨rfl, State.Warmed39.refl s, rfl⟩ trivial
  refine ⟨n, _, h1, h2, h3, hpost _ _ _ _ _ _ ⟨Cond.after_iff.mpr rfl, Cond.after_iff.mpr (eq_i res_at (Term.int_eval (1)) rfl), trivial⟩ ⟨hq.1, hq.2.1, (hq.2.2.sift fun y hy => Or.inr (N y hy)).mono (by decide) (by decide)⟩⟩
theorem main_1_1 : Claimed_1_1 := comes_1 fun _ _ _ _ _ _ h hF => ⟨h.1, hF⟩
theorem main_1_2 : Claimed_1_2 := comes_1 fun _ _ _ _ _ _ h hF => ⟨h.2.1, hF⟩
end Jvm.Pilot.@@N@@
namespace Jvm.Pilot.@@N@@
open Jvm Jvm.ClassFile Sem Op Lib Jvm.Free Jvm.Stand Jvm.Pilot.@@N@@.Jvm.D
/-! MADE BY PROGRAM (witnessworld.py) out of the Statement's table words and the real class files: 15 classes; the members and pool entries that the words name. The judged class is class 1, her method 1. -/
namespace start1
open Jvm.ClassFile
def u (s : String) : CpInfo := .utf8 (stringToUtf16 s)
/-- a pool by its gaps: so many unusable entries, then the entry; so many at the end -/
def gap : Nat → List CpInfo → List CpInfo
  | 0, r => r
  | n + 1, r => .unusable :: gap n r
def poolList (es : List (Nat × CpInfo)) (last : Nat) : List CpInfo := es.foldr (fun e r => gap e.1 (e.2 :: r)) (gap last [])
def pool (es : List (Nat × CpInfo)) (last : Nat) : Array CpInfo := ⟨poolList es last⟩
def fileOf (pool : Array CpInfo) (this : Nat) (attrs : Array Attribute := #[]) (ms : Array MethodInfo := #[]) (fl : Nat := 33) (sup : Nat := 0) (ifs : Array Nat := #[]) (fds : Array FieldInfo := #[]) : ClassFile where
  minorVersion := 0
  majorVersion := 65
  constantPool := pool
  accessFlags := fl
  thisClass := this
  superClass := sup
  interfaces := ifs
  fields := fds
  methods := ms
  attributes := attrs
def plain (name : String) (sup : Option ClassId) : Class where
  name := name
  kind := .ordinary
  loader := none
  accessFlags := 33
  super := sup
  interfaces := #[]
  cf := none
  fields := #[]
  methods := #[]
  instanceTypes := #[]
  staticTypes := #[]
  resolved := #[]
  callSites := []
  init := .initialized
  statics := none
  mirror := none

def pool0 : Array CpInfo := pool [(5, u "<init>"), (0, u "()V"), (1, .class_ 10), (1, u "java/lang/Object")] 113

def k0m0 : Method := { name := "<init>", desc := "()V", sig := { parameters := [], returnType := none }, accessFlags := 1, code := none }
/-- java/lang/Object -/
def k0 : Class := { plain "java/lang/Object" none with
  accessFlags := 33
  interfaces := #[]
  cf := some (fileOf pool0 8 #[] #[{ accessFlags := 1, nameIndex := 5, descriptorIndex := 6, attributes := #[] }] 33 0 #[] #[])
  fields := #[]
  methods := #[k0m0]
  instanceTypes := #[]
  staticTypes := #[]
  resolved := Array.replicate 124 none
  statics := none }

def pool1 : Array CpInfo := pool [(2, .class_ 4), (1, u "java/lang/Object"), (0, u "<init>"), (0, u "()V"), (0, .integer 65535), (0, .integer 2147483647), (0, .methodref 10 11), (0, .class_ 12), (0, .nameAndType 13 14), (0, u "java/lang/Math"), (0, u "min"), (0, u "(II)I"), (0, .methodref 10 16), (0, .nameAndType 17 14), (0, u "max"), (0, .methodref 19 20), (0, .class_ 21), (0, .nameAndType 22 23), (0, u "com/example/onward/onward/eval/ExcerptPlacesBelowPinLaw"), (0, u "make"), (0, u "(IIIII)[C"), (0, .methodref 19 25), (0, .nameAndType 26 27), (0, u "below"), (0, u "(IIIIII)I"), (0, .methodref 29 30), (0, .class_ 31), (0, .nameAndType 32 33), (0, u "com/example/onward/onward/eval/Excerpt"), (0, u "placesBelow"), (0, u "([CI)I"), (2, u "law"), (0, u "(IIII)Z")] 5

def k1m0 : Method := { name := "<init>", desc := "()V", sig := { parameters := [], returnType := none }, accessFlags := 1, code := none }
def k1c1 : Code := { maxStack := 6, maxLocals := 15, code := code, exceptionTable := #[], attributes := #[] }
def k1m1 : Method := { name := "law", desc := "(IIII)Z", sig := { parameters := [.int, .int, .int, .int], returnType := some .boolean }, accessFlags := 9, code := some k1c1 }
def k1c2 : Code := { maxStack := 4, maxLocals := 5, code := method_3_code, exceptionTable := #[], attributes := #[] }
def k1m2 : Method := { name := "make", desc := "(IIIII)[C", sig := { parameters := [.int, .int, .int, .int, .int], returnType := some (.array .char) }, accessFlags := 10, code := some k1c2 }
def k1c3 : Code := { maxStack := 2, maxLocals := 7, code := method_4_code, exceptionTable := #[], attributes := #[] }
def k1m3 : Method := { name := "below", desc := "(IIIIII)I", sig := { parameters := [.int, .int, .int, .int, .int, .int], returnType := some .int }, accessFlags := 10, code := some k1c3 }
/-- com/example/onward/onward/eval/ExcerptPlacesBelowPinLaw -/
def k1 : Class := { plain "com/example/onward/onward/eval/ExcerptPlacesBelowPinLaw" (some 0) with
  accessFlags := 49
  interfaces := #[]
  cf := some (fileOf pool1 19 #[] #[{ accessFlags := 1, nameIndex := 5, descriptorIndex := 6, attributes := #[] }, { accessFlags := 9, nameIndex := 36, descriptorIndex := 37, attributes := #[] }, { accessFlags := 10, nameIndex := 22, descriptorIndex := 23, attributes := #[] }, { accessFlags := 10, nameIndex := 26, descriptorIndex := 27, attributes := #[] }] 49 2 #[] #[])
  fields := #[]
  methods := #[k1m0, k1m1, k1m2, k1m3]
  instanceTypes := #[]
  staticTypes := #[]
  resolved := Array.replicate 43 none
  statics := none }

def pool2 : Array CpInfo := pool [(2, .class_ 4), (1, u "java/lang/CharSequence"), (42, .class_ 48), (0, u "java/lang/CharSequence$1CodePointIterator"), (10, .class_ 60), (0, u "java/lang/CharSequence$1CharIterator"), (5, .class_ 67), (0, u "java/lang/Object")] 63

/-- java/lang/CharSequence -/
def k2 : Class := { plain "java/lang/CharSequence" (some 0) with
  accessFlags := 1537
  interfaces := #[]
  cf := some (fileOf pool2 2 #[.nestMembers #[47, 59]] #[] 1537 66 #[] #[])
  fields := #[]
  methods := #[]
  instanceTypes := #[]
  staticTypes := #[]
  resolved := Array.replicate 131 none
  statics := none }

def pool3 : Array CpInfo := pool [(27, .class_ 28), (0, u "com/example/onward/onward/expr/Searchable"), (4, .class_ 34), (0, u "java/lang/CharSequence"), (4, .class_ 40), (0, u "java/lang/Object")] 29

/-- com/example/onward/onward/expr/Searchable -/
def k3 : Class := { plain "com/example/onward/onward/expr/Searchable" (some 0) with
  accessFlags := 1537
  interfaces := #[2]
  cf := some (fileOf pool3 27 #[] #[] 1537 39 #[33] #[])
  fields := #[]
  methods := #[]
  instanceTypes := #[]
  staticTypes := #[]
  resolved := Array.replicate 70 none
  statics := none }

def pool4 : Array CpInfo := pool [(2, .class_ 4), (1, u "java/lang/Object"), (0, u "<init>"), (0, u "()V"), (10, .class_ 19), (1, u "com/example/onward/onward/eval/LongString"), (9, u "hashed"), (0, u "Z"), (6, u "hash"), (0, u "I"), (14, .class_ 54), (0, u "com/example/onward/onward/expr/Searchable")] 12

def k4m0 : Method := { name := "<init>", desc := "()V", sig := { parameters := [], returnType := none }, accessFlags := 0, code := none }
/-- com/example/onward/onward/eval/LongString -/
def k4 : Class := { plain "com/example/onward/onward/eval/LongString" (some 0) with
  accessFlags := 1056
  interfaces := #[3]
  cf := some (fileOf pool4 17 #[] #[{ accessFlags := 0, nameIndex := 5, descriptorIndex := 6, attributes := #[] }] 1056 2 #[53] #[{ accessFlags := 2, nameIndex := 37, descriptorIndex := 38, attributes := #[] }, { accessFlags := 2, nameIndex := 29, descriptorIndex := 30, attributes := #[] }])
  fields := #[{ name := "hash", type := .int, accessFlags := 2, slot := 0, constantValue := 0 }, { name := "hashed", type := .boolean, accessFlags := 2, slot := 1, constantValue := 0 }]
  methods := #[k4m0]
  instanceTypes := #[.int, .boolean]
  staticTypes := #[]
  resolved := Array.replicate 67 none
  statics := none }

def pool5 : Array CpInfo := pool [(1, .class_ 2), (0, u "com/example/onward/onward/eval/Excerpt"), (3, .class_ 8), (1, u "com/example/onward/onward/eval/LongString"), (4, u "UNNOTED"), (0, u "[[C"), (2, u "pairEnds"), (2, u "blocks"), (2, u "offset"), (0, u "I"), (2, u "length"), (2, u "text"), (0, u "Lcom/example/onward/onward/eval/KeptText;"), (2, u "from"), (0, u "J"), (9, u "placesBelow"), (0, u "([CI)I"), (42, u "pairsBefore"), (0, u "[I"), (98, u "SHIFT"), (2, u "BLOCK"), (1, u "MASK"), (1, u "ROOM"), (0, u "C")] 20

def k5c0 : Code := { maxStack := 2, maxLocals := 5, code := prog_54_method_5_code, exceptionTable := #[], attributes := #[] }
def k5m0 : Method := { name := "placesBelow", desc := "([CI)I", sig := { parameters := [(.array .char), .int], returnType := some .int }, accessFlags := 8, code := some k5c0 }
/-- com/example/onward/onward/eval/Excerpt -/
def k5 : Class := { plain "com/example/onward/onward/eval/Excerpt" (some 4) with
  accessFlags := 48
  interfaces := #[]
  cf := some (fileOf pool5 1 #[] #[{ accessFlags := 8, nameIndex := 45, descriptorIndex := 46, attributes := #[] }] 48 6 #[] #[{ accessFlags := 24, nameIndex := 189, descriptorIndex := 24, attributes := #[] }, { accessFlags := 24, nameIndex := 192, descriptorIndex := 24, attributes := #[] }, { accessFlags := 24, nameIndex := 194, descriptorIndex := 24, attributes := #[] }, { accessFlags := 26, nameIndex := 196, descriptorIndex := 197, attributes := #[] }, { accessFlags := 26, nameIndex := 13, descriptorIndex := 14, attributes := #[] }, { accessFlags := 18, nameIndex := 20, descriptorIndex := 14, attributes := #[] }, { accessFlags := 18, nameIndex := 23, descriptorIndex := 24, attributes := #[] }, { accessFlags := 18, nameIndex := 27, descriptorIndex := 24, attributes := #[] }, { accessFlags := 2, nameIndex := 17, descriptorIndex := 14, attributes := #[] }, { accessFlags := 2, nameIndex := 89, descriptorIndex := 90, attributes := #[] }, { accessFlags := 18, nameIndex := 30, descriptorIndex := 31, attributes := #[] }, { accessFlags := 18, nameIndex := 34, descriptorIndex := 35, attributes := #[] }])
  fields := #[{ name := "SHIFT", type := .int, accessFlags := 24, slot := 0, constantValue := 0 }, { name := "BLOCK", type := .int, accessFlags := 24, slot := 1, constantValue := 0 }, { name := "MASK", type := .int, accessFlags := 24, slot := 2, constantValue := 0 }, { name := "ROOM", type := .char, accessFlags := 26, slot := 3, constantValue := 0 }, { name := "UNNOTED", type := (.array (.array .char)), accessFlags := 26, slot := 4, constantValue := 0 }, { name := "blocks", type := (.array (.array .char)), accessFlags := 18, slot := 2, constantValue := 0 }, { name := "offset", type := .int, accessFlags := 18, slot := 3, constantValue := 0 }, { name := "length", type := .int, accessFlags := 18, slot := 4, constantValue := 0 }, { name := "pairEnds", type := (.array (.array .char)), accessFlags := 2, slot := 5, constantValue := 0 }, { name := "pairsBefore", type := (.array .int), accessFlags := 2, slot := 6, constantValue := 0 }, { name := "text", type := (.object "com/example/onward/onward/eval/KeptText"), accessFlags := 18, slot := 7, constantValue := 0 }, { name := "from", type := .long, accessFlags := 18, slot := 8, constantValue := 0 }]
  methods := #[k5m0]
  instanceTypes := #[.int, .boolean, (.array (.array .char)), .int, .int, (.array (.array .char)), (.array .int), (.object "com/example/onward/onward/eval/KeptText"), .long]
  staticTypes := #[.int, .int, .int, .char, (.array (.array .char))]
  resolved := Array.replicate 218 none
  statics := none }

def pool6 : Array CpInfo := pool [(1, .class_ 2), (0, u "java/lang/Math"), (1, .class_ 6), (1, u "java/lang/Object"), (0, u "<init>"), (0, u "()V"), (89, .class_ 100), (1, u "java/lang/Math$RandomNumberGeneratorHolder"), (71, u "negativeZeroFloatBits"), (0, u "J"), (2, u "negativeZeroDoubleBits"), (21, u "max"), (2, u "min"), (43, u "$assertionsDisabled"), (0, u "Z"), (88, u "(II)I"), (2, u "twoToTheDoubleScaleDown"), (0, u "D"), (4, u "twoToTheDoubleScaleUp"), (9, u "E"), (3, u "PI"), (2, u "TAU"), (2, u "DEGREES_TO_RADIANS"), (0, u "RADIANS_TO_DEGREES")] 94

def k6m0 : Method := { name := "<init>", desc := "()V", sig := { parameters := [], returnType := none }, accessFlags := 2, code := none }
def k6c1 : Code := { maxStack := 2, maxLocals := 2, code := jdk_29_method_65_code, exceptionTable := #[], attributes := #[] }
def k6m1 : Method := { name := "max", desc := "(II)I", sig := { parameters := [.int, .int], returnType := some .int }, accessFlags := 9, code := some k6c1 }
def k6c2 : Code := { maxStack := 2, maxLocals := 2, code := jdk_29_method_69_code, exceptionTable := #[], attributes := #[] }
def k6m2 : Method := { name := "min", desc := "(II)I", sig := { parameters := [.int, .int], returnType := some .int }, accessFlags := 9, code := some k6c2 }
/-- java/lang/Math -/
def k6 : Class := { plain "java/lang/Math" (some 0) with
  accessFlags := 49
  interfaces := #[]
  cf := some (fileOf pool6 1 #[.nestMembers #[98]] #[{ accessFlags := 2, nameIndex := 7, descriptorIndex := 8, attributes := #[] }, { accessFlags := 9, nameIndex := 198, descriptorIndex := 335, attributes := #[] }, { accessFlags := 9, nameIndex := 201, descriptorIndex := 335, attributes := #[] }] 49 4 #[] #[{ accessFlags := 25, nameIndex := 354, descriptorIndex := 339, attributes := #[] }, { accessFlags := 25, nameIndex := 358, descriptorIndex := 339, attributes := #[] }, { accessFlags := 25, nameIndex := 361, descriptorIndex := 339, attributes := #[] }, { accessFlags := 26, nameIndex := 364, descriptorIndex := 339, attributes := #[] }, { accessFlags := 26, nameIndex := 365, descriptorIndex := 339, attributes := #[] }, { accessFlags := 26, nameIndex := 172, descriptorIndex := 173, attributes := #[] }, { accessFlags := 26, nameIndex := 176, descriptorIndex := 173, attributes := #[] }, { accessFlags := 8, nameIndex := 344, descriptorIndex := 339, attributes := #[] }, { accessFlags := 8, nameIndex := 338, descriptorIndex := 339, attributes := #[] }, { accessFlags := 4120, nameIndex := 245, descriptorIndex := 246, attributes := #[] }])
  fields := #[{ name := "E", type := .double, accessFlags := 25, slot := 0, constantValue := 0 }, { name := "PI", type := .double, accessFlags := 25, slot := 1, constantValue := 0 }, { name := "TAU", type := .double, accessFlags := 25, slot := 2, constantValue := 0 }, { name := "DEGREES_TO_RADIANS", type := .double, accessFlags := 26, slot := 3, constantValue := 0 }, { name := "RADIANS_TO_DEGREES", type := .double, accessFlags := 26, slot := 4, constantValue := 0 }, { name := "negativeZeroFloatBits", type := .long, accessFlags := 26, slot := 5, constantValue := 0 }, { name := "negativeZeroDoubleBits", type := .long, accessFlags := 26, slot := 6, constantValue := 0 }, { name := "twoToTheDoubleScaleUp", type := .double, accessFlags := 8, slot := 7, constantValue := 0 }, { name := "twoToTheDoubleScaleDown", type := .double, accessFlags := 8, slot := 8, constantValue := 0 }, { name := "$assertionsDisabled", type := .boolean, accessFlags := 4120, slot := 9, constantValue := 0 }]
  methods := #[k6m0, k6m1, k6m2]
  instanceTypes := #[]
  staticTypes := #[.double, .double, .double, .double, .double, .long, .long, .double, .double, .boolean]
  resolved := Array.replicate 460 none
  statics := none }

def pool7 : Array CpInfo := pool [(1, u "java/lang/Cloneable"), (0, .class_ 1), (0, u "java/lang/Object"), (0, .class_ 3)] 3

/-- java/lang/Cloneable -/
def k7 : Class := { plain "java/lang/Cloneable" (some 0) with
  accessFlags := 1537
  interfaces := #[]
  cf := some (fileOf pool7 2 #[] #[] 1537 4 #[] #[])
  fields := #[]
  methods := #[]
  instanceTypes := #[]
  staticTypes := #[]
  resolved := Array.replicate 8 none
  statics := none }

def pool8 : Array CpInfo := pool [(1, u "java/io/Serializable"), (0, .class_ 1), (0, u "java/lang/Object"), (0, .class_ 3)] 3

/-- java/io/Serializable -/
def k8 : Class := { plain "java/io/Serializable" (some 0) with
  accessFlags := 1537
  interfaces := #[]
  cf := some (fileOf pool8 2 #[] #[] 1537 4 #[] #[])
  fields := #[]
  methods := #[]
  instanceTypes := #[]
  staticTypes := #[]
  resolved := Array.replicate 8 none
  statics := none }

/-- the primitive byte -/
def k9 : Class := { plain "byte" none with kind := .primitive 'B', accessFlags := 0x411 }
/-- [B -/
def k10 : Class := { plain "[B" (some 0) with kind := .array 9 .byte, interfaces := #[7, 8], accessFlags := 1041 }

/-- the primitive char -/
def k11 : Class := { plain "char" none with kind := .primitive 'C', accessFlags := 0x411 }
/-- [C -/
def k12 : Class := { plain "[C" (some 0) with kind := .array 11 .char, interfaces := #[7, 8], accessFlags := 1041 }

/-- the primitive int -/
def k13 : Class := { plain "int" none with kind := .primitive 'I', accessFlags := 0x411 }
/-- [I -/
def k14 : Class := { plain "[I" (some 0) with kind := .array 13 .int, interfaces := #[7, 8], accessFlags := 1041 }

def heap : Heap := #[]
def classes : Array Class := #[k0, k1, k2, k3, k4, k5, k6, k7, k8, k9, k10, k11, k12, k13, k14]
def interned : List (Array UInt16 × Addr) := []
def slotsUsed : Nat := 0
def theMethod : MethodId := ⟨1, 1⟩
def args0 : Array Value := #[.int 65538, .int 262147, .int 3, .int 5]
def aboutOver (below : List Frame) : State where
  vm := { classes := classes, interned := interned.toArray }
  heap := heap
  slotsUsed := slotsUsed
  threads := #[{ frames := .invoking theMethod args0 :: below }]
def below0 : List Frame := [.native { method := ⟨0, 0⟩, args := #[] }]
def about1 : State := aboutOver below0
def p0 : Program := .bare "" "" ""
def e0 : Env := launch0.env 0 0 0
theorem w_frames : about1.frames = Frame.invoking theMethod args0 :: below0 := rfl
set_option maxRecDepth 65536 in
theorem w_args : argsFit about1.vm theMethod args0 = true := by decide +kernel
set_option maxRecDepth 65536 in
theorem w_heap : heapFits about1 = true := by decide +kernel
set_option maxRecDepth 65536 in
theorem w_runnable : about1.curStatus? = some .runnable := by decide +kernel
set_option maxRecDepth 65536 in
theorem w_alone : about1.alone = true := by decide +kernel
set_option maxRecDepth 65536 in
theorem w_named : about1.methodNamed? x = some theMethod := by decide +kernel
set_option maxRecDepth 65536 in
theorem w_hears : about1.hears theMethod below0 = true := by decide +kernel
set_option maxRecDepth 65536 in
theorem w_ripe : about1.ripe theMethod args0 below0 = true := by decide +kernel
theorem w_running : about1.status = .running := rfl
set_option maxRecDepth 65536 in
theorem w_room : about1.hasRoom e0.platform room_1 = true :=
  launch0.hasRoom_least _ room_1 (by decide +kernel) (by decide +kernel) (by decide +kernel) (by decide +kernel) (by decide +kernel) (by decide +kernel)
theorem allAtoms_all (ts : List Jvm.Cond) (a : Array Jvm.Value) (st : Jvm.State) : (allAtoms ts).before a st = ts.all (fun c => c.before a st) := by
  induction ts with
  | nil => rfl
  | cons c t ih =>
    show (Jvm.Cond.and c (allAtoms t)).before a st = _
    rw [Jvm.Cond.before_and, ih, List.all_cons]
def words1 : List Jvm.Cond := Jvm.Cond.code x code maxLocals ret :: tables_1
/-- a 'code' word, met by the world's own term for the bytes: nothing is compared byte by byte -/
theorem code_word {y : MethodName} {bytes : ByteArray} {mx : Nat} {rt : Option FieldType} {a : Array Value} {s : State} {m : MethodId} {meth : Method} {c : Code} (h1 : s.methodNamed? y = some m) (h2 : s.vm.method? m = some meth) (h3 : meth.code = some c) (h4 : c.code = bytes)
    (h5 : (c.maxLocals == mx && c.exceptionTable.isEmpty && decide (c.maxStack ≤ mostOperands) && decide (meth.sig.returnType = rt) && !meth.locks && decide (parseMethodDescriptor y.desc = some meth.sig)) = true) : (Jvm.Cond.code y bytes mx rt).before a s = true := by
  simp only [Bool.and_eq_true, beq_iff_eq, Bool.not_eq_true', decide_eq_true_eq] at h5
  obtain ⟨⟨⟨⟨⟨g1, g2⟩, g3⟩, g4⟩, g5⟩, g6⟩ := h5
  simp [Cond.before, Cond.holds, Cond.value, h1, h2, h3, h4, g1, g2, g3, g4, g5, g6]
def isCode : Jvm.Cond → Bool
  | .code _ _ _ _ => true
  | _ => false
theorem all_split {L : List Jvm.Cond} {P : Jvm.Cond → Bool} (h1 : L.all (fun c => isCode c || P c) = true) (h2 : ∀ c ∈ L.filter isCode, P c = true) : L.all P = true := by
  refine List.all_eq_true.mpr fun c hc => ?_
  have h := List.all_eq_true.mp h1 c hc
  rcases Bool.eq_false_or_eq_true (isCode c) with hi | hi
  · exact h2 c (List.mem_filter.mpr ⟨hc, hi⟩)
  · simpa [hi] using h
set_option maxRecDepth 65536 in
theorem w_c0 : (Jvm.Cond.code x code maxLocals ret).before args0 about1 = true := code_word (m := ⟨1, 1⟩) (meth := k1m1) (c := k1c1) (by decide +kernel) rfl rfl rfl (by decide +kernel)
set_option maxRecDepth 65536 in
theorem w_c1 : (Jvm.Cond.code ({ cls := "com/example/onward/onward/eval/ExcerptPlacesBelowPinLaw", name := "make", desc := "(IIIII)[C" } : Jvm.MethodName) method_3_code (5 : Nat) (Option.some (Jvm.ClassFile.FieldType.array Jvm.ClassFile.FieldType.char))).before args0 about1 = true := code_word (m := ⟨1, 2⟩) (meth := k1m2) (c := k1c2) (by decide +kernel) rfl rfl rfl (by decide +kernel)
set_option maxRecDepth 65536 in
theorem w_c2 : (Jvm.Cond.code ({ cls := "com/example/onward/onward/eval/ExcerptPlacesBelowPinLaw", name := "below", desc := "(IIIIII)I" } : Jvm.MethodName) method_4_code (7 : Nat) (Option.some Jvm.ClassFile.FieldType.int)).before args0 about1 = true := code_word (m := ⟨1, 3⟩) (meth := k1m3) (c := k1c3) (by decide +kernel) rfl rfl rfl (by decide +kernel)
set_option maxRecDepth 65536 in
theorem w_c3 : (Jvm.Cond.code ({ cls := "com/example/onward/onward/eval/Excerpt", name := "placesBelow", desc := "([CI)I" } : Jvm.MethodName) prog_54_method_5_code (5 : Nat) (Option.some Jvm.ClassFile.FieldType.int)).before args0 about1 = true := code_word (m := ⟨5, 0⟩) (meth := k5m0) (c := k5c0) (by decide +kernel) rfl rfl rfl (by decide +kernel)
set_option maxRecDepth 65536 in
theorem w_c4 : (Jvm.Cond.code ({ cls := "java/lang/Math", name := "min", desc := "(II)I" } : Jvm.MethodName) jdk_29_method_69_code (2 : Nat) (Option.some Jvm.ClassFile.FieldType.int)).before args0 about1 = true := code_word (m := ⟨6, 2⟩) (meth := k6m2) (c := k6c2) (by decide +kernel) rfl rfl rfl (by decide +kernel)
set_option maxRecDepth 65536 in
theorem w_c5 : (Jvm.Cond.code ({ cls := "java/lang/Math", name := "max", desc := "(II)I" } : Jvm.MethodName) jdk_29_method_65_code (2 : Nat) (Option.some Jvm.ClassFile.FieldType.int)).before args0 about1 = true := code_word (m := ⟨6, 1⟩) (meth := k6m1) (c := k6c1) (by decide +kernel) rfl rfl rfl (by decide +kernel)
def codes1 : List Jvm.Cond := [Jvm.Cond.code x code maxLocals ret, Jvm.Cond.code ({ cls := "com/example/onward/onward/eval/ExcerptPlacesBelowPinLaw", name := "make", desc := "(IIIII)[C" } : Jvm.MethodName) method_3_code (5 : Nat) (Option.some (Jvm.ClassFile.FieldType.array Jvm.ClassFile.FieldType.char)), Jvm.Cond.code ({ cls := "com/example/onward/onward/eval/ExcerptPlacesBelowPinLaw", name := "below", desc := "(IIIIII)I" } : Jvm.MethodName) method_4_code (7 : Nat) (Option.some Jvm.ClassFile.FieldType.int), Jvm.Cond.code ({ cls := "com/example/onward/onward/eval/Excerpt", name := "placesBelow", desc := "([CI)I" } : Jvm.MethodName) prog_54_method_5_code (5 : Nat) (Option.some Jvm.ClassFile.FieldType.int), Jvm.Cond.code ({ cls := "java/lang/Math", name := "min", desc := "(II)I" } : Jvm.MethodName) jdk_29_method_69_code (2 : Nat) (Option.some Jvm.ClassFile.FieldType.int), Jvm.Cond.code ({ cls := "java/lang/Math", name := "max", desc := "(II)I" } : Jvm.MethodName) jdk_29_method_65_code (2 : Nat) (Option.some Jvm.ClassFile.FieldType.int)]
set_option maxRecDepth 65536 in
theorem codes_eq : words1.filter isCode = codes1 := rfl
theorem w_codes : ∀ c ∈ words1.filter isCode, c.before args0 about1 = true := by
  rw [codes_eq]
  intro c hc
  simp only [codes1, List.mem_cons, List.not_mem_nil, or_false] at hc
  rcases hc with rfl | rfl | rfl | rfl | rfl | rfl
  · exact w_c0
  · exact w_c1
  · exact w_c2
  · exact w_c3
  · exact w_c4
  · exact w_c5
set_option maxRecDepth 65536 in
theorem w_t1 : words1.all (fun c => isCode c || c.before args0 about1) = true := by decide +kernel
theorem w_tables : (allAtoms (Jvm.Cond.code x code maxLocals ret :: tables_1)).before args0 about1 = true := by
  rw [allAtoms_all]
  show words1.all (fun c => c.before args0 about1) = true
  refine all_split ?_ w_codes
  rw [w_t1]
set_option maxRecDepth 65536 in
theorem w_case : (Jvm.Cond.and given_1 narrow_1).before args0 about1 = true := by decide +kernel
theorem w_applies : (headSpec (Jvm.Cond.code x code maxLocals ret :: tables_1) room_1).applies x e0.platform about1 = true :=
  (Spec.applies_iff w_frames).mpr ⟨w_running, w_runnable, w_alone, w_named, w_hears, w_ripe, w_room, w_tables⟩
theorem atStart : AtStart classFile x code maxLocals ret World_1 tables_1 room_1 Calls_1 rest_1 Pre_1 launch0 p0 e0 about1 theMethod args0 below0 :=
  ⟨lists_1, trivial, launch0.admits_env _ _ _, launch0.least_env, fairChoices_fair.cas, fairChoices_fair.clock, w_frames, w_args, w_heap, w_applies, trivial, trivial, w_case⟩
end start1
theorem witness_1 : WitnessClaimed_1 := ⟨start1.p0, start1.e0, start1.about1, start1.theMethod, start1.args0, start1.below0, start1.atStart⟩
end Jvm.Pilot.@@N@@
