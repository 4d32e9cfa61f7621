import JvmDerived
import JvmDerived.Pilot.@@N@@Statement
import JvmDerived.Pilot.@@N@@Code
set_option linter.unusedVariables false
set_option linter.unusedSimpArgs false
namespace Jvm.RoadKit
open Sem ClassFile Op Lib Jvm.Stand Jvm.Free Jvm.LawKit
section New
variable {p : Program} {l : Launch} {e : Env} {R : Room} {s : State} {m : MethodId} {args : Array Value} {below : List Frame} {meth : Method} {c : Code} {T : State} {locs : List Loc} {cells slots : Nat}
theorem retI (X : Stand p l e R s m args below meth c T locs cells slots) (hx : p.tables.exec = Jvm.exec) {pc : Nat} {Ls : Array Slot} {z : Int32} {rest : List Value} (hret : meth.sig.returnType = some .int) (hd : decode c.code pc = .ok (.ireturn, 1)) {fs : List Frame}
    (hl : ∀ (f : JFrame) (acts : List Action), f.method = m → f.locked = none → f.entered = [] → (doReturn e (T.setTop f) acts (some (.int z))).1 = T.setFrames fs) : Steps p.tables e below (T.setTop (mkF m pc Ls (.int z :: rest))) (T.setFrames fs) := by
  have hm' : T.vm.method? m = some meth := X.method'
  have hn : narrow .int (.int z) = .int z := rfl
  show Steps p.tables e below (T.setTop { method := m, pc := pc, locals := Ls, stack := _ :: rest, locked := none }) _
  jvm_step X.here [X.here.top, hx, hd, hm', hret, hn]
  first | (intro acts; rw [hl _ acts rfl rfl rfl]) | rw [hl _ _ rfl rfl rfl]
  exact Steps.refl _
end New
end Jvm.RoadKit
namespace Jvm.Pilot.@@N@@
open Jvm Jvm.ClassFile Sem Op Lib Jvm.Free Jvm.Stand Jvm.LawKit Jvm.RoadKit Bundle Jvm.Pilot.@@N@@.Jvm.D
section OwnCommon
variable {p : Program} {l : Launch} {e : Env} {R : Room} {s : State} {m : MethodId} {args : Array Value} {below : List Frame} {meth : Method} {c : Code} {T : State} {locs : List Loc} {cells slots : Nat} {Z : State} {a0 : Array Value} {h h' : Heap} {a b : Addr} {ty : FieldType} {n : Nat} {f f' : Nat → Int32}
theorem own_nn {i : Nat} (hi : i < 2 ^ 31) : ¬ Int32.ofNat i < 0 := by
  rw [Int32.lt_iff_toInt_lt, Int32.toInt_ofNat_of_lt (by omega), show (0 : Int32).toInt = 0 from rfl]; omega
theorem own_n32 {i : Nat} (hi : i < 2 ^ 31) : (Int32.ofNat i).toNatClampNeg = i := by
  rw [Int32.toNatClampNeg, Int32.toInt_ofNat_of_lt (by omega)]; rfl
theorem own_ti {i : Nat} (hi : i < 2 ^ 31) : (Int32.ofNat i).toInt = (i : Int) := Int32.toInt_ofNat_of_lt (by omega)
theorem own_lt {i j : Nat} (hi : i < 2 ^ 31) (hj : j < 2 ^ 31) : Int32.ofNat i < Int32.ofNat j ↔ i < j := by
  rw [Int32.lt_iff_toInt_lt, own_ti hi, own_ti hj]; omega
theorem own_one (i : Nat) : Int32.ofNat i + (1 : Int32) = Int32.ofNat (i + 1) := (Int32.ofNat_add i 1).symm
theorem own_eq {i j : Nat} (hi : i < 2 ^ 31) (hj : j < 2 ^ 31) : Int32.ofNat i = Int32.ofNat j ↔ i = j := by
  rw [← Int32.toInt_inj, own_ti hi, own_ti hj]; omega
/-- an array of ints (bytes, chars): n places, place j holds f j -/
def Iar (Z : State) (h : Heap) (a : Addr) (ty : FieldType) (n : Nat) (f : Nat → Int32) : Prop :=
  n < 2 ^ 31 ∧ ∃ c : Cell, Arr Z h a c ty ∧ c.slots.size = n ∧ (∀ j, j < n → c.slots[j]? = some (.int (f j))) ∧ ∀ j, j < n → fits ty (.int (f j)) = true
theorem Iar.lt (F : Iar Z h a ty n f) : a < h.size := by obtain ⟨-, c, A, -⟩ := F; exact A.lt
theorem Iar.ext (F : Iar Z h a ty n f) (E : Ext h h') : Iar Z h' a ty n f := by obtain ⟨q, c, A, r⟩ := F; exact ⟨q, c, A.ext E, r⟩
theorem Iar.other {sl : Nat} {v : Value} (F : Iar Z h b ty n f) (W : Wr h h' a sl v) (q : b ≠ a) : Iar Z h' b ty n f := by obtain ⟨z, c, A, r⟩ := F; exact ⟨z, c, A.other W q, r⟩
theorem Iar.keep {ws : List Addr} (F : Iar Z h a ty n f) (K : Keep h h' ws) (q : a ∉ ws) : Iar Z h' a ty n f := by obtain ⟨z, c, A, r⟩ := F; exact ⟨z, c, ⟨K.2.1 a c A.1 q, A.2⟩, r⟩
theorem Iar.congr (F : Iar Z h a ty n f) (q : ∀ j, j < n → f j = f' j) : Iar Z h a ty n f' := by
  obtain ⟨z, c, A, S, H, G⟩ := F
  exact ⟨z, c, A, S, fun j hj => by rw [← q j hj]; exact H j hj, fun j hj => by rw [← q j hj]; exact G j hj⟩
theorem Iar.new {z : Int32} {k : ClassId} (A : Arr Z h a (newA k ty z) ty) (hz : z = Int32.ofNat n) (hn : n < 2 ^ 31) (hd : defaultValue ty = .int 0) (hf : fits ty (.int 0) = true) : Iar Z h a ty n (fun _ => 0) := by
  have e1 : z.toNatClampNeg = n := by rw [hz]; exact own_n32 hn
  refine ⟨hn, _, A, by rw [sz_new]; exact e1, fun j hj => ?_, fun j hj => hf⟩
  show (Array.replicate z.toNatClampNeg (defaultValue ty))[j]? = _
  rw [e1, hd, Array.getElem?_replicate, if_pos hj]
theorem Iar.set (F : Iar Z h a ty n f) {j : Int32} {i : Nat} {v : Int32} (W : Wr h h' a j.toNatClampNeg (.int v)) (hj : j.toNatClampNeg = i) (hv : fits ty (.int v) = true) : Iar Z h' a ty n (fun k => if k = i then v else f k) := by
  obtain ⟨z, c, A, S, H, G⟩ := F
  refine ⟨z, _, A.same W, by rw [sz_set]; exact S, fun k hk => ?_, fun k hk => ?_⟩
  · show (c.slots.setIfInBounds j.toNatClampNeg (.int v))[k]? = some (.int (if k = i then v else f k))
    rw [hj, Array.getElem?_setIfInBounds]
    by_cases q : k = i
    · subst q; rw [if_pos rfl, if_pos (by omega), if_pos rfl]
    · rw [if_neg (fun y => q y.symm), if_neg q]; exact H k hk
  · by_cases q : k = i
    · simp only [q, if_true]; exact hv
    · simp only [q, if_false]; exact G k hk
theorem Iar.inb {j : Int32} {i : Nat} {cl : Cell} (S : cl.slots.size = n) (hj : j.toNatClampNeg = i) (h0 : ¬ j < 0) (hi : i < n) : ¬ (j < 0 ∨ cl.slots.size ≤ j.toNatClampNeg) := by
  rw [S, hj]; exact fun q => q.elim h0 (fun q => by omega)
theorem own_ldB {g : JFrame} {rest : List Value} {j : Int32} {i : Nat} (X : Stand p l e R s m args below meth c T locs cells slots) (hx : p.tables.exec = Jvm.exec) (hZ : Z.Warmed39 s.vm) (eT : T.heap = h) (F : Iar Z h a .byte n f) (hj : j.toNatClampNeg = i) (h0 : ¬ j < 0) (hi : i < n)
    (hg : g.method = m) (hs : g.stack = .int j :: .ref a :: rest) (hd : decode c.code g.pc = .ok (.baload, 1)) (target : State) (k : Steps p.tables e below (T.setTop { g with pc := g.pc + 1, stack := .int (f i) :: rest }) target) : Steps p.tables e below (T.setTop g) target := by
  obtain ⟨z, cl, A, S, H, G⟩ := F
  exact X.baloadBytes hx (by rw [eT]; exact A.1) (State.isArrayOf_alike hZ.alike A.2.1) A.2.2 (Iar.inb S hj h0 hi) (by rw [hj]; exact H i hi) hg hs hd _ k
theorem own_ldC {g : JFrame} {rest : List Value} {j : Int32} {i : Nat} (X : Stand p l e R s m args below meth c T locs cells slots) (hx : p.tables.exec = Jvm.exec) (hZ : Z.Warmed39 s.vm) (eT : T.heap = h) (F : Iar Z h a .char n f) (hj : j.toNatClampNeg = i) (h0 : ¬ j < 0) (hi : i < n)
    (hg : g.method = m) (hs : g.stack = .int j :: .ref a :: rest) (hd : decode c.code g.pc = .ok (.caload, 1)) (target : State) (k : Steps p.tables e below (T.setTop { g with pc := g.pc + 1, stack := .int (f i) :: rest }) target) : Steps p.tables e below (T.setTop g) target := by
  obtain ⟨z, cl, A, S, H, G⟩ := F
  exact X.caload hx (by rw [eT]; exact A.1) (State.isArrayOf_alike hZ.alike A.2.1) A.2.2 (Iar.inb S hj h0 hi) (by rw [hj]; exact H i hi) hg hs hd _ k
theorem own_ldI {g : JFrame} {rest : List Value} {j : Int32} {i : Nat} (X : Stand p l e R s m args below meth c T locs cells slots) (hx : p.tables.exec = Jvm.exec) (hZ : Z.Warmed39 s.vm) (eT : T.heap = h) (F : Iar Z h a .int n f) (hj : j.toNatClampNeg = i) (h0 : ¬ j < 0) (hi : i < n)
    (hg : g.method = m) (hs : g.stack = .int j :: .ref a :: rest) (hd : decode c.code g.pc = .ok (.iaload, 1)) (target : State) (k : Steps p.tables e below (T.setTop { g with pc := g.pc + 1, stack := .int (f i) :: rest }) target) : Steps p.tables e below (T.setTop g) target := by
  obtain ⟨z, cl, A, S, H, G⟩ := F
  exact X.iaload hx (by rw [eT]; exact A.1) (State.isArrayOf_alike hZ.alike A.2.1) A.2.2 (Iar.inb S hj h0 hi) (by rw [hj]; exact H i hi) hg hs hd _ k
theorem own_len {g : JFrame} {rest : List Value} (X : Stand p l e R s m args below meth c T locs cells slots) (hx : p.tables.exec = Jvm.exec) (hZ : Z.Warmed39 s.vm) (eT : T.heap = h) (F : Iar Z h a ty n f)
    (hg : g.method = m) (hs : g.stack = .ref a :: rest) (hd : decode c.code g.pc = .ok (.arraylength, 1)) (target : State) (k : Steps p.tables e below (T.setTop { g with pc := g.pc + 1, stack := .int (Int32.ofNat n) :: rest }) target) : Steps p.tables e below (T.setTop g) target := by
  obtain ⟨z, cl, A, S, H, G⟩ := F
  refine X.arraylength hx (by rw [eT]; exact A.1) (State.isArrayOf_alike hZ.alike A.2.1) hg hs hd _ ?_
  rw [S]; exact k
theorem own_stB {g : JFrame} {rest : List Value} {j x : Int32} {i : Nat} (X : Stand p l e R s m args below meth c T locs cells slots) (hx : p.tables.exec = Jvm.exec) (hZ : Z.Warmed39 s.vm) (eT : T.heap = h) (F : Iar Z h a .byte n f) (hj : j.toNatClampNeg = i) (h0 : ¬ j < 0) (hi : i < n)
    (hg : g.method = m) (hs : g.stack = .int x :: .int j :: .ref a :: rest) (hd : decode c.code g.pc = .ok (.bastore, 1)) :
    ∃ T' h', Stand p l e R s m args below meth c T' (locs ++ [⟨a, j.toNatClampNeg⟩]) cells slots ∧ T'.heap = h' ∧ Wr h h' a j.toNatClampNeg (.int (nar .byte x)) ∧ Iar Z h' a .byte n (fun k => if k = i then nar .byte x else f k) ∧
      ∀ target, Steps p.tables e below (T'.setTop { g with pc := g.pc + 1, stack := rest }) target → Steps p.tables e below (T.setTop g) target := by
  have F' := F
  obtain ⟨z, cl, A, S, H, G⟩ := F
  obtain ⟨T1, h1, X1, e1, W1, st1⟩ := stB X hx hZ eT A (Iar.inb S hj h0 hi) hg hs hd
  exact ⟨T1, h1, X1, e1, W1, F'.set W1 hj (fits_nar_byte x), st1⟩
theorem own_stC {g : JFrame} {rest : List Value} {j x : Int32} {i : Nat} (X : Stand p l e R s m args below meth c T locs cells slots) (hx : p.tables.exec = Jvm.exec) (hZ : Z.Warmed39 s.vm) (eT : T.heap = h) (F : Iar Z h a .char n f) (hj : j.toNatClampNeg = i) (h0 : ¬ j < 0) (hi : i < n)
    (hg : g.method = m) (hs : g.stack = .int x :: .int j :: .ref a :: rest) (hd : decode c.code g.pc = .ok (.castore, 1)) :
    ∃ T' h', Stand p l e R s m args below meth c T' (locs ++ [⟨a, j.toNatClampNeg⟩]) cells slots ∧ T'.heap = h' ∧ Wr h h' a j.toNatClampNeg (.int (nar .char x)) ∧ Iar Z h' a .char n (fun k => if k = i then nar .char x else f k) ∧
      ∀ target, Steps p.tables e below (T'.setTop { g with pc := g.pc + 1, stack := rest }) target → Steps p.tables e below (T.setTop g) target := by
  have F' := F
  obtain ⟨z, cl, A, S, H, G⟩ := F
  obtain ⟨T1, h1, X1, e1, W1, st1⟩ := stC X hx hZ eT A (Iar.inb S hj h0 hi) hg hs hd
  exact ⟨T1, h1, X1, e1, W1, F'.set W1 hj (fits_nar_char x), st1⟩
theorem own_stI {g : JFrame} {rest : List Value} {j x : Int32} {i : Nat} (X : Stand p l e R s m args below meth c T locs cells slots) (hx : p.tables.exec = Jvm.exec) (hZ : Z.Warmed39 s.vm) (eT : T.heap = h) (F : Iar Z h a .int n f) (hj : j.toNatClampNeg = i) (h0 : ¬ j < 0) (hi : i < n)
    (hg : g.method = m) (hs : g.stack = .int x :: .int j :: .ref a :: rest) (hd : decode c.code g.pc = .ok (.iastore, 1)) :
    ∃ T' h', Stand p l e R s m args below meth c T' (locs ++ [⟨a, j.toNatClampNeg⟩]) cells slots ∧ T'.heap = h' ∧ Wr h h' a j.toNatClampNeg (.int x) ∧ Iar Z h' a .int n (fun k => if k = i then x else f k) ∧
      ∀ target, Steps p.tables e below (T'.setTop { g with pc := g.pc + 1, stack := rest }) target → Steps p.tables e below (T.setTop g) target := by
  have F' := F
  obtain ⟨z, cl, A, S, H, G⟩ := F
  obtain ⟨T1, h1, X1, e1, W1, st1⟩ := stI X hx hZ eT A (Iar.inb S hj h0 hi) hg hs hd
  exact ⟨T1, h1, X1, e1, W1, F'.set W1 hj rfl, st1⟩
/-- a callee that only reads: what it returns; it writes nothing; the heap is as it was -/
def QR (F : Value) (h0 : Heap) (v : Option Value) (h : Heap) (L : List Loc) : Prop := v = some F ∧ L = [] ∧ h = h0
/-- ONE STATIC CALL OF A METHOD THAT ONLY READS: the walk stands where it stood, with the answer on the stack -/
theorem own_callR {own : String} {index : Nat} {y : MethodName} {bytes : ByteArray} {maxL : Nat} {ret : Option FieldType} {rm : Room} {W : Nat} {as' : List Value} {F : Value} {g : JFrame} {rest : List Value}
    (X : Stand p l e R s m args below meth c T locs cells slots) (hx : p.tables.exec = Jvm.exec) (hZ : Z.Warmed39 s.vm) (hown : s.vm.findClass own = some m.cls)
    (w1 : (Cond.methodLink own index y).before a0 Z = true) (w2 : (Cond.static y).before a0 Z = true) (w3 : (Cond.initialized y.cls).before a0 Z = true) (w4 : (Cond.code y bytes maxL ret).before a0 Z = true) (hy : y.cls ≠ "java/lang/invoke/MethodHandle" ∧ y.cls ≠ "java/lang/invoke/VarHandle")
    (hM : MetFree l y (head1 [Cond.code y bytes maxL ret] rm) (fun a U => a = as'.toArray ∧ Z.Warmed39 U.vm ∧ U.heap = h) (fun _ _ _ _ _ => True) (fun _ U o U' => ∃ v L, o = .returned v ∧ QR F h v U'.heap L ∧ FrameEnd U o U' L rm.cells rm.slots))
    (hrc : rm.cells = 0) (hrs : rm.slots = 0) (hf : rm.frames + 1 ≤ R.frames) (hl : W + (maxL + 11) + rm.locals ≤ R.locals) (hcc : cells ≤ R.cells) (hss : slots ≤ R.slots) (eT : T.heap = h)
    (hg : g.method = m) (hsize : g.locals.size = c.maxLocals) (hlen : ∀ sig, parseMethodDescriptor y.desc = some sig → as'.length = sig.parameters.length) (hstack : g.stack = as'.reverse ++ rest)
    (hW : 2 * g.monitorRoom + (rest.map fun v => v.category).sum ≤ W) (hdg : decode c.code g.pc = .ok (.invokestatic index, 3)) :
    ∃ T', Stand p l e R s m args below meth c T' locs cells slots ∧ T'.heap = h ∧
      ∀ target, Steps p.tables e below (T'.setTop { g with pc := g.pc + 3, stack := F :: rest }) target → Steps p.tables e below (T.setTop g) target := by
  obtain ⟨v, _, ⟨T4, L4, k4, n4⟩, -, X4, ⟨Lc4, hQ4, l4, y4, z4⟩, st4⟩ := Jvm.LawKit.callS X hx (y := y) hown (mvT hZ w1) (mvT hZ w2) (mvT hZ w3) (mvT hZ w4) hy (backOf (W := W) hM hZ w4 w3 hf hl) (g := g) hg hsize (argsL := as') (rest := rest) hlen hstack hW hdg
    (fun _ _ => ⟨rfl, eT, by rw [hrc]; exact hcc, by rw [hrs]; exact hss⟩)
  dsimp only [Pt.U, Pt.locs, Pt.cells, Pt.slots] at X4 l4 y4 z4 st4 hQ4
  obtain ⟨rfl, rfl, e4⟩ := hQ4
  rw [hrc, Nat.add_zero] at y4
  rw [hrs, Nat.add_zero] at z4
  rw [List.append_nil] at l4
  subst l4 y4 z4
  exact ⟨T4, X4, e4, st4⟩
end OwnCommon
theorem d1_0 : decode prog_240_method_6_code 0 = .ok (.iload_n 0, 1) := by decide +kernel
theorem d1_1 : decode prog_240_method_6_code 1 = .ok (.sipush 128, 3) := by decide +kernel
theorem d1_4 : decode prog_240_method_6_code 4 = .ok (.if_icmp .ge 19, 3) := by decide +kernel
theorem d1_7 : decode prog_240_method_6_code 7 = .ok (.getstatic 89, 3) := by decide +kernel
theorem d1_10 : decode prog_240_method_6_code 10 = .ok (.iload_n 0, 1) := by decide +kernel
theorem d1_11 : decode prog_240_method_6_code 11 = .ok (.baload, 1) := by decide +kernel
theorem d1_12 : decode prog_240_method_6_code 12 = .ok (.iconst 1, 1) := by decide +kernel
theorem d1_13 : decode prog_240_method_6_code 13 = .ok (.iand, 1) := by decide +kernel
theorem d1_14 : decode prog_240_method_6_code 14 = .ok (.ifCond .eq 7, 3) := by decide +kernel
theorem d1_17 : decode prog_240_method_6_code 17 = .ok (.iconst 1, 1) := by decide +kernel
theorem d1_18 : decode prog_240_method_6_code 18 = .ok (.goto 4, 3) := by decide +kernel
theorem d1_21 : decode prog_240_method_6_code 21 = .ok (.iconst 0, 1) := by decide +kernel
theorem d1_22 : decode prog_240_method_6_code 22 = .ok (.ireturn, 1) := by decide +kernel
theorem d1_23 : decode prog_240_method_6_code 23 = .ok (.iload_n 0, 1) := by decide +kernel
theorem d1_24 : decode prog_240_method_6_code 24 = .ok (.sipush 192, 3) := by decide +kernel
theorem d1_27 : decode prog_240_method_6_code 27 = .ok (.if_icmp .lt 10, 3) := by decide +kernel
theorem d1_30 : decode prog_240_method_6_code 30 = .ok (.iload_n 0, 1) := by decide +kernel
theorem d1_31 : decode prog_240_method_6_code 31 = .ok (.sipush 214, 3) := by decide +kernel
theorem d1_34 : decode prog_240_method_6_code 34 = .ok (.if_icmp .le 150, 3) := by decide +kernel
theorem d1_37 : decode prog_240_method_6_code 37 = .ok (.iload_n 0, 1) := by decide +kernel
theorem d1_38 : decode prog_240_method_6_code 38 = .ok (.sipush 216, 3) := by decide +kernel
theorem d1_41 : decode prog_240_method_6_code 41 = .ok (.if_icmp .lt 10, 3) := by decide +kernel
theorem d1_44 : decode prog_240_method_6_code 44 = .ok (.iload_n 0, 1) := by decide +kernel
theorem d1_45 : decode prog_240_method_6_code 45 = .ok (.sipush 246, 3) := by decide +kernel
theorem d1_48 : decode prog_240_method_6_code 48 = .ok (.if_icmp .le 136, 3) := by decide +kernel
theorem d1_51 : decode prog_240_method_6_code 51 = .ok (.iload_n 0, 1) := by decide +kernel
theorem d1_52 : decode prog_240_method_6_code 52 = .ok (.sipush 248, 3) := by decide +kernel
theorem d1_55 : decode prog_240_method_6_code 55 = .ok (.if_icmp .lt 10, 3) := by decide +kernel
theorem d1_58 : decode prog_240_method_6_code 58 = .ok (.iload_n 0, 1) := by decide +kernel
theorem d1_59 : decode prog_240_method_6_code 59 = .ok (.sipush 767, 3) := by decide +kernel
theorem d1_62 : decode prog_240_method_6_code 62 = .ok (.if_icmp .le 122, 3) := by decide +kernel
theorem d1_65 : decode prog_240_method_6_code 65 = .ok (.iload_n 0, 1) := by decide +kernel
theorem d1_66 : decode prog_240_method_6_code 66 = .ok (.sipush 880, 3) := by decide +kernel
theorem d1_69 : decode prog_240_method_6_code 69 = .ok (.if_icmp .lt 10, 3) := by decide +kernel
theorem d1_72 : decode prog_240_method_6_code 72 = .ok (.iload_n 0, 1) := by decide +kernel
theorem d1_73 : decode prog_240_method_6_code 73 = .ok (.sipush 893, 3) := by decide +kernel
theorem d1_76 : decode prog_240_method_6_code 76 = .ok (.if_icmp .le 108, 3) := by decide +kernel
theorem d1_79 : decode prog_240_method_6_code 79 = .ok (.iload_n 0, 1) := by decide +kernel
theorem d1_80 : decode prog_240_method_6_code 80 = .ok (.sipush 895, 3) := by decide +kernel
theorem d1_83 : decode prog_240_method_6_code 83 = .ok (.if_icmp .lt 10, 3) := by decide +kernel
theorem d1_86 : decode prog_240_method_6_code 86 = .ok (.iload_n 0, 1) := by decide +kernel
theorem d1_87 : decode prog_240_method_6_code 87 = .ok (.sipush 8191, 3) := by decide +kernel
theorem d1_90 : decode prog_240_method_6_code 90 = .ok (.if_icmp .le 94, 3) := by decide +kernel
theorem d1_93 : decode prog_240_method_6_code 93 = .ok (.iload_n 0, 1) := by decide +kernel
theorem d1_94 : decode prog_240_method_6_code 94 = .ok (.sipush 8204, 3) := by decide +kernel
theorem d1_97 : decode prog_240_method_6_code 97 = .ok (.if_icmp .lt 10, 3) := by decide +kernel
theorem d1_100 : decode prog_240_method_6_code 100 = .ok (.iload_n 0, 1) := by decide +kernel
theorem d1_101 : decode prog_240_method_6_code 101 = .ok (.sipush 8205, 3) := by decide +kernel
theorem d1_104 : decode prog_240_method_6_code 104 = .ok (.if_icmp .le 80, 3) := by decide +kernel
theorem d1_107 : decode prog_240_method_6_code 107 = .ok (.iload_n 0, 1) := by decide +kernel
theorem d1_108 : decode prog_240_method_6_code 108 = .ok (.sipush 8304, 3) := by decide +kernel
theorem d1_111 : decode prog_240_method_6_code 111 = .ok (.if_icmp .lt 10, 3) := by decide +kernel
theorem d1_114 : decode prog_240_method_6_code 114 = .ok (.iload_n 0, 1) := by decide +kernel
theorem d1_115 : decode prog_240_method_6_code 115 = .ok (.sipush 8591, 3) := by decide +kernel
theorem d1_118 : decode prog_240_method_6_code 118 = .ok (.if_icmp .le 66, 3) := by decide +kernel
theorem d1_121 : decode prog_240_method_6_code 121 = .ok (.iload_n 0, 1) := by decide +kernel
theorem d1_122 : decode prog_240_method_6_code 122 = .ok (.sipush 11264, 3) := by decide +kernel
theorem d1_125 : decode prog_240_method_6_code 125 = .ok (.if_icmp .lt 10, 3) := by decide +kernel
theorem d1_128 : decode prog_240_method_6_code 128 = .ok (.iload_n 0, 1) := by decide +kernel
theorem d1_129 : decode prog_240_method_6_code 129 = .ok (.sipush 12271, 3) := by decide +kernel
theorem d1_132 : decode prog_240_method_6_code 132 = .ok (.if_icmp .le 52, 3) := by decide +kernel
theorem d1_135 : decode prog_240_method_6_code 135 = .ok (.iload_n 0, 1) := by decide +kernel
theorem d1_136 : decode prog_240_method_6_code 136 = .ok (.sipush 12289, 3) := by decide +kernel
theorem d1_139 : decode prog_240_method_6_code 139 = .ok (.if_icmp .lt 9, 3) := by decide +kernel
theorem d1_142 : decode prog_240_method_6_code 142 = .ok (.iload_n 0, 1) := by decide +kernel
theorem d1_143 : decode prog_240_method_6_code 143 = .ok (.ldc 93, 2) := by decide +kernel
theorem d1_145 : decode prog_240_method_6_code 145 = .ok (.if_icmp .le 39, 3) := by decide +kernel
theorem d1_148 : decode prog_240_method_6_code 148 = .ok (.iload_n 0, 1) := by decide +kernel
theorem d1_149 : decode prog_240_method_6_code 149 = .ok (.ldc 94, 2) := by decide +kernel
theorem d1_151 : decode prog_240_method_6_code 151 = .ok (.if_icmp .lt 9, 3) := by decide +kernel
theorem d1_154 : decode prog_240_method_6_code 154 = .ok (.iload_n 0, 1) := by decide +kernel
theorem d1_155 : decode prog_240_method_6_code 155 = .ok (.ldc 95, 2) := by decide +kernel
theorem d1_157 : decode prog_240_method_6_code 157 = .ok (.if_icmp .le 27, 3) := by decide +kernel
theorem d1_160 : decode prog_240_method_6_code 160 = .ok (.iload_n 0, 1) := by decide +kernel
theorem d1_161 : decode prog_240_method_6_code 161 = .ok (.ldc 96, 2) := by decide +kernel
theorem d1_163 : decode prog_240_method_6_code 163 = .ok (.if_icmp .lt 9, 3) := by decide +kernel
theorem d1_166 : decode prog_240_method_6_code 166 = .ok (.iload_n 0, 1) := by decide +kernel
theorem d1_167 : decode prog_240_method_6_code 167 = .ok (.ldc 97, 2) := by decide +kernel
theorem d1_169 : decode prog_240_method_6_code 169 = .ok (.if_icmp .le 15, 3) := by decide +kernel
theorem d1_172 : decode prog_240_method_6_code 172 = .ok (.iload_n 0, 1) := by decide +kernel
theorem d1_173 : decode prog_240_method_6_code 173 = .ok (.ldc 74, 2) := by decide +kernel
theorem d1_175 : decode prog_240_method_6_code 175 = .ok (.if_icmp .lt 13, 3) := by decide +kernel
theorem d1_178 : decode prog_240_method_6_code 178 = .ok (.iload_n 0, 1) := by decide +kernel
theorem d1_179 : decode prog_240_method_6_code 179 = .ok (.ldc 98, 2) := by decide +kernel
theorem d1_181 : decode prog_240_method_6_code 181 = .ok (.if_icmp .gt 7, 3) := by decide +kernel
theorem d1_184 : decode prog_240_method_6_code 184 = .ok (.iconst 1, 1) := by decide +kernel
theorem d1_185 : decode prog_240_method_6_code 185 = .ok (.goto 4, 3) := by decide +kernel
theorem d1_188 : decode prog_240_method_6_code 188 = .ok (.iconst 0, 1) := by decide +kernel
theorem d1_189 : decode prog_240_method_6_code 189 = .ok (.ireturn, 1) := by decide +kernel
theorem pd_1 : parseMethodDescriptor "(I)Z" = some ⟨[.int], some .boolean⟩ := by decide +kernel
theorem pn_1 : plainName "com/example/onward/onward/xml/Names" = true := by first | (simp [plainName, overriddenIn]; done) | decide +kernel
theorem d2_0 : decode method_2_code 0 = .ok (.iload_n 0, 1) := by decide +kernel
theorem d2_1 : decode method_2_code 1 = .ok (.sipush 128, 3) := by decide +kernel
theorem d2_4 : decode method_2_code 4 = .ok (.if_icmp .ge 45, 3) := by decide +kernel
theorem d2_7 : decode method_2_code 7 = .ok (.iload_n 0, 1) := by decide +kernel
theorem d2_8 : decode method_2_code 8 = .ok (.bipush 65, 2) := by decide +kernel
theorem d2_10 : decode method_2_code 10 = .ok (.if_icmp .lt 9, 3) := by decide +kernel
theorem d2_13 : decode method_2_code 13 = .ok (.iload_n 0, 1) := by decide +kernel
theorem d2_14 : decode method_2_code 14 = .ok (.bipush 90, 2) := by decide +kernel
theorem d2_16 : decode method_2_code 16 = .ok (.if_icmp .le 27, 3) := by decide +kernel
theorem d2_19 : decode method_2_code 19 = .ok (.iload_n 0, 1) := by decide +kernel
theorem d2_20 : decode method_2_code 20 = .ok (.bipush 97, 2) := by decide +kernel
theorem d2_22 : decode method_2_code 22 = .ok (.if_icmp .lt 9, 3) := by decide +kernel
theorem d2_25 : decode method_2_code 25 = .ok (.iload_n 0, 1) := by decide +kernel
theorem d2_26 : decode method_2_code 26 = .ok (.bipush 122, 2) := by decide +kernel
theorem d2_28 : decode method_2_code 28 = .ok (.if_icmp .le 15, 3) := by decide +kernel
theorem d2_31 : decode method_2_code 31 = .ok (.iload_n 0, 1) := by decide +kernel
theorem d2_32 : decode method_2_code 32 = .ok (.bipush 95, 2) := by decide +kernel
theorem d2_34 : decode method_2_code 34 = .ok (.if_icmp .eq 9, 3) := by decide +kernel
theorem d2_37 : decode method_2_code 37 = .ok (.iload_n 0, 1) := by decide +kernel
theorem d2_38 : decode method_2_code 38 = .ok (.bipush 58, 2) := by decide +kernel
theorem d2_40 : decode method_2_code 40 = .ok (.if_icmp .ne 7, 3) := by decide +kernel
theorem d2_43 : decode method_2_code 43 = .ok (.iconst 1, 1) := by decide +kernel
theorem d2_44 : decode method_2_code 44 = .ok (.goto 4, 3) := by decide +kernel
theorem d2_47 : decode method_2_code 47 = .ok (.iconst 0, 1) := by decide +kernel
theorem d2_48 : decode method_2_code 48 = .ok (.ireturn, 1) := by decide +kernel
theorem d2_49 : decode method_2_code 49 = .ok (.iload_n 0, 1) := by decide +kernel
theorem d2_50 : decode method_2_code 50 = .ok (.sipush 191, 3) := by decide +kernel
theorem d2_53 : decode method_2_code 53 = .ok (.if_icmp .gt 5, 3) := by decide +kernel
theorem d2_56 : decode method_2_code 56 = .ok (.iconst 0, 1) := by decide +kernel
theorem d2_57 : decode method_2_code 57 = .ok (.ireturn, 1) := by decide +kernel
theorem d2_58 : decode method_2_code 58 = .ok (.iload_n 0, 1) := by decide +kernel
theorem d2_59 : decode method_2_code 59 = .ok (.sipush 215, 3) := by decide +kernel
theorem d2_62 : decode method_2_code 62 = .ok (.if_icmp .eq 10, 3) := by decide +kernel
theorem d2_65 : decode method_2_code 65 = .ok (.iload_n 0, 1) := by decide +kernel
theorem d2_66 : decode method_2_code 66 = .ok (.sipush 247, 3) := by decide +kernel
theorem d2_69 : decode method_2_code 69 = .ok (.if_icmp .ne 5, 3) := by decide +kernel
theorem d2_72 : decode method_2_code 72 = .ok (.iconst 0, 1) := by decide +kernel
theorem d2_73 : decode method_2_code 73 = .ok (.ireturn, 1) := by decide +kernel
theorem d2_74 : decode method_2_code 74 = .ok (.iload_n 0, 1) := by decide +kernel
theorem d2_75 : decode method_2_code 75 = .ok (.sipush 768, 3) := by decide +kernel
theorem d2_78 : decode method_2_code 78 = .ok (.if_icmp .lt 12, 3) := by decide +kernel
theorem d2_81 : decode method_2_code 81 = .ok (.iload_n 0, 1) := by decide +kernel
theorem d2_82 : decode method_2_code 82 = .ok (.sipush 879, 3) := by decide +kernel
theorem d2_85 : decode method_2_code 85 = .ok (.if_icmp .gt 5, 3) := by decide +kernel
theorem d2_88 : decode method_2_code 88 = .ok (.iconst 0, 1) := by decide +kernel
theorem d2_89 : decode method_2_code 89 = .ok (.ireturn, 1) := by decide +kernel
theorem d2_90 : decode method_2_code 90 = .ok (.iload_n 0, 1) := by decide +kernel
theorem d2_91 : decode method_2_code 91 = .ok (.sipush 894, 3) := by decide +kernel
theorem d2_94 : decode method_2_code 94 = .ok (.if_icmp .ne 5, 3) := by decide +kernel
theorem d2_97 : decode method_2_code 97 = .ok (.iconst 0, 1) := by decide +kernel
theorem d2_98 : decode method_2_code 98 = .ok (.ireturn, 1) := by decide +kernel
theorem d2_99 : decode method_2_code 99 = .ok (.iload_n 0, 1) := by decide +kernel
theorem d2_100 : decode method_2_code 100 = .ok (.sipush 8192, 3) := by decide +kernel
theorem d2_103 : decode method_2_code 103 = .ok (.if_icmp .lt 12, 3) := by decide +kernel
theorem d2_106 : decode method_2_code 106 = .ok (.iload_n 0, 1) := by decide +kernel
theorem d2_107 : decode method_2_code 107 = .ok (.sipush 8203, 3) := by decide +kernel
theorem d2_110 : decode method_2_code 110 = .ok (.if_icmp .gt 5, 3) := by decide +kernel
theorem d2_113 : decode method_2_code 113 = .ok (.iconst 0, 1) := by decide +kernel
theorem d2_114 : decode method_2_code 114 = .ok (.ireturn, 1) := by decide +kernel
theorem d2_115 : decode method_2_code 115 = .ok (.iload_n 0, 1) := by decide +kernel
theorem d2_116 : decode method_2_code 116 = .ok (.sipush 8206, 3) := by decide +kernel
theorem d2_119 : decode method_2_code 119 = .ok (.if_icmp .lt 12, 3) := by decide +kernel
theorem d2_122 : decode method_2_code 122 = .ok (.iload_n 0, 1) := by decide +kernel
theorem d2_123 : decode method_2_code 123 = .ok (.sipush 8303, 3) := by decide +kernel
theorem d2_126 : decode method_2_code 126 = .ok (.if_icmp .gt 5, 3) := by decide +kernel
theorem d2_129 : decode method_2_code 129 = .ok (.iconst 0, 1) := by decide +kernel
theorem d2_130 : decode method_2_code 130 = .ok (.ireturn, 1) := by decide +kernel
theorem d2_131 : decode method_2_code 131 = .ok (.iload_n 0, 1) := by decide +kernel
theorem d2_132 : decode method_2_code 132 = .ok (.sipush 8592, 3) := by decide +kernel
theorem d2_135 : decode method_2_code 135 = .ok (.if_icmp .lt 12, 3) := by decide +kernel
theorem d2_138 : decode method_2_code 138 = .ok (.iload_n 0, 1) := by decide +kernel
theorem d2_139 : decode method_2_code 139 = .ok (.sipush 11263, 3) := by decide +kernel
theorem d2_142 : decode method_2_code 142 = .ok (.if_icmp .gt 5, 3) := by decide +kernel
theorem d2_145 : decode method_2_code 145 = .ok (.iconst 0, 1) := by decide +kernel
theorem d2_146 : decode method_2_code 146 = .ok (.ireturn, 1) := by decide +kernel
theorem d2_147 : decode method_2_code 147 = .ok (.iload_n 0, 1) := by decide +kernel
theorem d2_148 : decode method_2_code 148 = .ok (.sipush 12272, 3) := by decide +kernel
theorem d2_151 : decode method_2_code 151 = .ok (.if_icmp .lt 12, 3) := by decide +kernel
theorem d2_154 : decode method_2_code 154 = .ok (.iload_n 0, 1) := by decide +kernel
theorem d2_155 : decode method_2_code 155 = .ok (.sipush 12288, 3) := by decide +kernel
theorem d2_158 : decode method_2_code 158 = .ok (.if_icmp .gt 5, 3) := by decide +kernel
theorem d2_161 : decode method_2_code 161 = .ok (.iconst 0, 1) := by decide +kernel
theorem d2_162 : decode method_2_code 162 = .ok (.ireturn, 1) := by decide +kernel
theorem d2_163 : decode method_2_code 163 = .ok (.iload_n 0, 1) := by decide +kernel
theorem d2_164 : decode method_2_code 164 = .ok (.ldc 7, 2) := by decide +kernel
theorem d2_166 : decode method_2_code 166 = .ok (.if_icmp .lt 11, 3) := by decide +kernel
theorem d2_169 : decode method_2_code 169 = .ok (.iload_n 0, 1) := by decide +kernel
theorem d2_170 : decode method_2_code 170 = .ok (.ldc 8, 2) := by decide +kernel
theorem d2_172 : decode method_2_code 172 = .ok (.if_icmp .gt 5, 3) := by decide +kernel
theorem d2_175 : decode method_2_code 175 = .ok (.iconst 0, 1) := by decide +kernel
theorem d2_176 : decode method_2_code 176 = .ok (.ireturn, 1) := by decide +kernel
theorem d2_177 : decode method_2_code 177 = .ok (.iload_n 0, 1) := by decide +kernel
theorem d2_178 : decode method_2_code 178 = .ok (.ldc 9, 2) := by decide +kernel
theorem d2_180 : decode method_2_code 180 = .ok (.if_icmp .lt 11, 3) := by decide +kernel
theorem d2_183 : decode method_2_code 183 = .ok (.iload_n 0, 1) := by decide +kernel
theorem d2_184 : decode method_2_code 184 = .ok (.ldc 10, 2) := by decide +kernel
theorem d2_186 : decode method_2_code 186 = .ok (.if_icmp .gt 5, 3) := by decide +kernel
theorem d2_189 : decode method_2_code 189 = .ok (.iconst 0, 1) := by decide +kernel
theorem d2_190 : decode method_2_code 190 = .ok (.ireturn, 1) := by decide +kernel
theorem d2_191 : decode method_2_code 191 = .ok (.iload_n 0, 1) := by decide +kernel
theorem d2_192 : decode method_2_code 192 = .ok (.ldc 11, 2) := by decide +kernel
theorem d2_194 : decode method_2_code 194 = .ok (.if_icmp .lt 11, 3) := by decide +kernel
theorem d2_197 : decode method_2_code 197 = .ok (.iload_n 0, 1) := by decide +kernel
theorem d2_198 : decode method_2_code 198 = .ok (.ldc 12, 2) := by decide +kernel
theorem d2_200 : decode method_2_code 200 = .ok (.if_icmp .gt 5, 3) := by decide +kernel
theorem d2_203 : decode method_2_code 203 = .ok (.iconst 0, 1) := by decide +kernel
theorem d2_204 : decode method_2_code 204 = .ok (.ireturn, 1) := by decide +kernel
theorem d2_205 : decode method_2_code 205 = .ok (.iload_n 0, 1) := by decide +kernel
theorem d2_206 : decode method_2_code 206 = .ok (.ldc 13, 2) := by decide +kernel
theorem d2_208 : decode method_2_code 208 = .ok (.if_icmp .lt 5, 3) := by decide +kernel
theorem d2_211 : decode method_2_code 211 = .ok (.iconst 0, 1) := by decide +kernel
theorem d2_212 : decode method_2_code 212 = .ok (.ireturn, 1) := by decide +kernel
theorem d2_213 : decode method_2_code 213 = .ok (.iconst 1, 1) := by decide +kernel
theorem d2_214 : decode method_2_code 214 = .ok (.ireturn, 1) := by decide +kernel
theorem pd_2 : parseMethodDescriptor "(I)Z" = some ⟨[.int], some .boolean⟩ := by decide +kernel
theorem pn_2 : plainName "com/example/onward/onward/xml/NamesStartsNamePinLaw" = true := by first | (simp [plainName, overriddenIn]; done) | decide +kernel
theorem d3_0 : decode jdk_29_method_69_code 0 = .ok (.iload_n 0, 1) := by decide +kernel
theorem d3_1 : decode jdk_29_method_69_code 1 = .ok (.iload_n 1, 1) := by decide +kernel
theorem d3_2 : decode jdk_29_method_69_code 2 = .ok (.if_icmp .gt 7, 3) := by decide +kernel
theorem d3_5 : decode jdk_29_method_69_code 5 = .ok (.iload_n 0, 1) := by decide +kernel
theorem d3_6 : decode jdk_29_method_69_code 6 = .ok (.goto 4, 3) := by decide +kernel
theorem d3_9 : decode jdk_29_method_69_code 9 = .ok (.iload_n 1, 1) := by decide +kernel
theorem d3_10 : decode jdk_29_method_69_code 10 = .ok (.ireturn, 1) := by decide +kernel
theorem pd_3 : parseMethodDescriptor "(II)I" = some ⟨[.int, .int], some .int⟩ := by decide +kernel
theorem d4_0 : decode jdk_29_method_65_code 0 = .ok (.iload_n 0, 1) := by decide +kernel
theorem d4_1 : decode jdk_29_method_65_code 1 = .ok (.iload_n 1, 1) := by decide +kernel
theorem d4_2 : decode jdk_29_method_65_code 2 = .ok (.if_icmp .lt 7, 3) := by decide +kernel
theorem d4_5 : decode jdk_29_method_65_code 5 = .ok (.iload_n 0, 1) := by decide +kernel
theorem d4_6 : decode jdk_29_method_65_code 6 = .ok (.goto 4, 3) := by decide +kernel
theorem d4_9 : decode jdk_29_method_65_code 9 = .ok (.iload_n 1, 1) := by decide +kernel
theorem d4_10 : decode jdk_29_method_65_code 10 = .ok (.ireturn, 1) := by decide +kernel
theorem pd_4 : parseMethodDescriptor "(II)I" = some ⟨[.int, .int], some .int⟩ := by decide +kernel
theorem pn_0 : plainName "com/example/onward/onward/xml/NamesStartsNamePinLaw" = true := by first | (simp [plainName, overriddenIn]; done) | decide +kernel
def own_min (u v : Int32) : Int32 := if v < u then v else u
theorem ef_3 (m : MethodId) (u : Int32) (v : Int32) : entryFrame m #[(.int u), (.int v)] 2 = mkF m 0 #[.val (.int u), .val (.int v)] [] := by first | (simp [entryFrame, mkF, argsToLocals, Value.category]; done) | rfl
set_option maxRecDepth 65536 in
set_option maxHeartbeats 40000000 in
theorem rm_min (l : Launch) (Z : State) (a0 : Array Value) (hw : ∀ d ∈ tables_1, d.before a0 Z = true) (ws : List Jvm.Cond) (u v : Int32) (h0 : Heap) :
    MetFree l (⟨"java/lang/Math", "min", "(II)I"⟩ : MethodName) (head1 (Jvm.Cond.code (⟨"java/lang/Math", "min", "(II)I"⟩ : MethodName) jdk_29_method_69_code 2 (some .int) :: ws) ({ frames := 0, cells := 0, slots := 0, locals := 0 } : Room)) (fun ar_ U => ar_ = #[(.int u), (.int v)] ∧ Z.Warmed39 U.vm ∧ U.heap = h0) (fun _ _ _ _ _ => True) (fun _ U o U' => ∃ v_ L, o = .returned v_ ∧ QR (.int (own_min u v)) h0 v_ U'.heap L ∧ FrameEnd U o U' L ({ frames := 0, cells := 0, slots := 0, locals := 0 } : Room).cells ({ frames := 0, cells := 0, slots := 0, locals := 0 } : Room).slots) := by
  refine MetFree.of_bodySF (Jvm.Free.JP.mathPlain rfl (by decide +kernel)) hisR ?_
  intro p e s m args below meth c s₁ Bd hml0 hP hK
  obtain ⟨rfl, hZ, hh⟩ := hP
  have hx := Bd.exec
  have hby := Bd.bytes
  have hml : c.maxLocals = 2 := hml0
  have hown : s.vm.findClass "java/lang/Math" = some m.cls := findClass_of_methodNamed Bd.named
  have hnm := (name_of_methodNamed Bd.named Bd.method).1
  have X0 : Stand p l e ({ frames := 0, cells := 0, slots := 0, locals := 0 } : Room) s m #[(.int u), (.int v)] below meth c s₁ [] 0 0 := Stand.of_body Bd
  have e0 : s₁.heap = h0 := by rw [← hh, Bd.state]; rfl
  have pre0 : ∀ t, Steps p.tables e below (s₁.setTop (mkF m 0 #[.val (.int u), .val (.int v)] [])) t → Steps p.tables e below (s₁.setTop (entryFrame m #[(.int u), (.int v)] 2)) t := fun t_ k_ => castTop (ef_3 m u v) k_
  obtain ⟨fs, hr, hrun, hended, hW, hsame⟩ := X0.leave (v := some (.int (own_min u v))) (fun h => by rw [Bd.returns] at h; cases h)
  refine ⟨_, _, pre0 _ ?_, hrun, hended, _, _, rfl, ?_, ⟨_, rfl⟩, hW, hsame.mono (by decide) (by decide)⟩
  · show Steps p.tables e below (s₁.setTop (mkF m 0 #[.val (.int u), .val (.int v)] [])) _
    refine XS.iloadN X0.here hx rfl (hb hby d3_0) rfl ?_
    show Steps p.tables e below (s₁.setTop (mkF m 1 #[.val (.int u), .val (.int v)] [(.int u)])) _
    refine XS.iloadN X0.here hx rfl (hb hby d3_1) rfl ?_
    by_cases hc2 : v < u
    · show Steps p.tables e below (s₁.setTop (mkF m 2 #[.val (.int u), .val (.int v)] [(.int v), (.int u)])) _
      refine XS.icmpYes X0.here hx rfl (pc0 := 2) (pc' := 9) rfl (hb hby d3_2) rfl (tlt hc2).2.2.1 (by decide) (by decide) ?_
      show Steps p.tables e below (s₁.setTop (mkF m 9 #[.val (.int u), .val (.int v)] [])) _
      refine XS.iloadN X0.here hx rfl (hb hby d3_9) rfl ?_
      show Steps p.tables e below (s₁.setTop (mkF m 10 #[.val (.int u), .val (.int v)] [(.int v)])) _
      have hF : own_min u v = v := by rw [own_min, if_pos hc2]
      rw [hF] at hr
      exact retI X0 hx Bd.returns (hb hby d3_10) hr
    · show Steps p.tables e below (s₁.setTop (mkF m 2 #[.val (.int u), .val (.int v)] [(.int v), (.int u)])) _
      refine XS.icmpNo X0.here hx rfl (hb hby d3_2) rfl (flt hc2).2.2.1 ?_
      show Steps p.tables e below (s₁.setTop (mkF m 5 #[.val (.int u), .val (.int v)] [])) _
      refine XS.iloadN X0.here hx rfl (hb hby d3_5) rfl ?_
      show Steps p.tables e below (s₁.setTop (mkF m 6 #[.val (.int u), .val (.int v)] [(.int u)])) _
      refine XS.goto X0.here hx rfl (pc0 := 6) (pc' := 10) rfl (hb hby d3_6) (by decide) (by decide) ?_
      show Steps p.tables e below (s₁.setTop (mkF m 10 #[.val (.int u), .val (.int v)] [(.int u)])) _
      have hF : own_min u v = u := by rw [own_min, if_neg hc2]
      rw [hF] at hr
      exact retI X0 hx Bd.returns (hb hby d3_10) hr
  · exact ⟨rfl, rfl, e0⟩
def own_max (u v : Int32) : Int32 := if u < v then v else u
theorem ef_4 (m : MethodId) (u : Int32) (v : Int32) : entryFrame m #[(.int u), (.int v)] 2 = mkF m 0 #[.val (.int u), .val (.int v)] [] := by first | (simp [entryFrame, mkF, argsToLocals, Value.category]; done) | rfl
set_option maxRecDepth 65536 in
set_option maxHeartbeats 40000000 in
theorem rm_max (l : Launch) (Z : State) (a0 : Array Value) (hw : ∀ d ∈ tables_1, d.before a0 Z = true) (ws : List Jvm.Cond) (u v : Int32) (h0 : Heap) :
    MetFree l (⟨"java/lang/Math", "max", "(II)I"⟩ : MethodName) (head1 (Jvm.Cond.code (⟨"java/lang/Math", "max", "(II)I"⟩ : MethodName) jdk_29_method_65_code 2 (some .int) :: ws) ({ frames := 0, cells := 0, slots := 0, locals := 0 } : Room)) (fun ar_ U => ar_ = #[(.int u), (.int v)] ∧ Z.Warmed39 U.vm ∧ U.heap = h0) (fun _ _ _ _ _ => True) (fun _ U o U' => ∃ v_ L, o = .returned v_ ∧ QR (.int (own_max u v)) h0 v_ U'.heap L ∧ FrameEnd U o U' L ({ frames := 0, cells := 0, slots := 0, locals := 0 } : Room).cells ({ frames := 0, cells := 0, slots := 0, locals := 0 } : Room).slots) := by
  refine MetFree.of_bodySF (Jvm.Free.JP.mathPlain rfl (by decide +kernel)) hisR ?_
  intro p e s m args below meth c s₁ Bd hml0 hP hK
  obtain ⟨rfl, hZ, hh⟩ := hP
  have hx := Bd.exec
  have hby := Bd.bytes
  have hml : c.maxLocals = 2 := hml0
  have hown : s.vm.findClass "java/lang/Math" = some m.cls := findClass_of_methodNamed Bd.named
  have hnm := (name_of_methodNamed Bd.named Bd.method).1
  have X0 : Stand p l e ({ frames := 0, cells := 0, slots := 0, locals := 0 } : Room) s m #[(.int u), (.int v)] below meth c s₁ [] 0 0 := Stand.of_body Bd
  have e0 : s₁.heap = h0 := by rw [← hh, Bd.state]; rfl
  have pre0 : ∀ t, Steps p.tables e below (s₁.setTop (mkF m 0 #[.val (.int u), .val (.int v)] [])) t → Steps p.tables e below (s₁.setTop (entryFrame m #[(.int u), (.int v)] 2)) t := fun t_ k_ => castTop (ef_4 m u v) k_
  obtain ⟨fs, hr, hrun, hended, hW, hsame⟩ := X0.leave (v := some (.int (own_max u v))) (fun h => by rw [Bd.returns] at h; cases h)
  refine ⟨_, _, pre0 _ ?_, hrun, hended, _, _, rfl, ?_, ⟨_, rfl⟩, hW, hsame.mono (by decide) (by decide)⟩
  · show Steps p.tables e below (s₁.setTop (mkF m 0 #[.val (.int u), .val (.int v)] [])) _
    refine XS.iloadN X0.here hx rfl (hb hby d4_0) rfl ?_
    show Steps p.tables e below (s₁.setTop (mkF m 1 #[.val (.int u), .val (.int v)] [(.int u)])) _
    refine XS.iloadN X0.here hx rfl (hb hby d4_1) rfl ?_
    by_cases hc2 : u < v
    · show Steps p.tables e below (s₁.setTop (mkF m 2 #[.val (.int u), .val (.int v)] [(.int v), (.int u)])) _
      refine XS.icmpYes X0.here hx rfl (pc0 := 2) (pc' := 9) rfl (hb hby d4_2) rfl (tlt hc2).1 (by decide) (by decide) ?_
      show Steps p.tables e below (s₁.setTop (mkF m 9 #[.val (.int u), .val (.int v)] [])) _
      refine XS.iloadN X0.here hx rfl (hb hby d4_9) rfl ?_
      show Steps p.tables e below (s₁.setTop (mkF m 10 #[.val (.int u), .val (.int v)] [(.int v)])) _
      have hF : own_max u v = v := by rw [own_max, if_pos hc2]
      rw [hF] at hr
      exact retI X0 hx Bd.returns (hb hby d4_10) hr
    · show Steps p.tables e below (s₁.setTop (mkF m 2 #[.val (.int u), .val (.int v)] [(.int v), (.int u)])) _
      refine XS.icmpNo X0.here hx rfl (hb hby d4_2) rfl (flt hc2).1 ?_
      show Steps p.tables e below (s₁.setTop (mkF m 5 #[.val (.int u), .val (.int v)] [])) _
      refine XS.iloadN X0.here hx rfl (hb hby d4_5) rfl ?_
      show Steps p.tables e below (s₁.setTop (mkF m 6 #[.val (.int u), .val (.int v)] [(.int u)])) _
      refine XS.goto X0.here hx rfl (pc0 := 6) (pc' := 10) rfl (hb hby d4_6) (by decide) (by decide) ?_
      show Steps p.tables e below (s₁.setTop (mkF m 10 #[.val (.int u), .val (.int v)] [(.int u)])) _
      have hF : own_max u v = u := by rw [own_max, if_neg hc2]
      rw [hF] at hr
      exact retI X0 hx Bd.returns (hb hby d4_10) hr
  · exact ⟨rfl, rfl, e0⟩
def own_rng (lo hi ch r : Int32) : Int32 := if ch < lo then r else if hi < ch then r else 1
def own_gap (lo hi ch r : Int32) : Int32 := if ch < lo then r else if hi < ch then r else 0
theorem own_staKeep {Z : State} {h h' : Heap} {C n d : String} {w : Value} (K : Keep h h' []) (F : Sta Z h C n d w) : Sta Z h' C n d w := by
  obtain ⟨cf, i, k, f, st, cell, h1, h2, h3, h4, h5, r⟩ := F
  exact ⟨cf, i, k, f, st, cell, h1, h2, h3, h4, K.2.1 st cell h5 nin0, r⟩
def own_s12 (ch : Int32) : Int32 := own_rng 65536 983039 ch 0
set_option maxRecDepth 65536 in
set_option maxHeartbeats 40000000 in
theorem sn_172 {p : Program} {l : Launch} {e : Env} {R : Room} {s : State} {m : MethodId} {args : Array Value} {below : List Frame} {meth : Method} {c : Code} {T0 : State} {locs : List Loc} {cells slots : Nat} {Z : State} {a0 : Array Value} {h0 : Heap} (ch : Int32) (X0 : Stand p l e R s m args below meth c T0 locs cells slots) (hx : p.tables.exec = Jvm.exec) (hZ : Z.Warmed39 s.vm) (hw : ∀ d ∈ tables_1, d.before a0 Z = true) (hby : c.code = prog_240_method_6_code) (hml : c.maxLocals = 1) (hown : s.vm.findClass "com/example/onward/onward/xml/Names" = some m.cls) (e0 : T0.heap = h0) (hret : meth.sig.returnType = some .boolean) (fs : List Frame) (hr : ∀ (f : JFrame) (acts : List Action), f.method = m → f.locked = none → f.entered = [] → (doReturn e (T0.setTop f) acts (some (.int (own_s12 ch)))).1 = T0.setFrames fs) : Steps p.tables e below (T0.setTop (mkF m 172 #[.val (.int ch)] [])) (T0.setFrames fs) := by
  show Steps p.tables e below (T0.setTop (mkF m 172 #[.val (.int ch)] [])) _
  refine XS.iloadN X0.here hx rfl (hb hby d1_172) rfl ?_
  show Steps p.tables e below (T0.setTop (mkF m 173 #[.val (.int ch)] [(.int ch)])) _
  refine X0.ldcInt hx hown (mvT hZ (hw _ (List.mem_of_getElem? (i := 37) rfl))) (g := (mkF m 173 #[.val (.int ch)] [(.int ch)])) rfl (hb hby d1_173) _ ?_
  by_cases hc175 : ch < (65536 : Int32)
  · show Steps p.tables e below (T0.setTop (mkF m 175 #[.val (.int ch)] [(.int (65536 : Int32)), (.int ch)])) _
    refine XS.icmpYes X0.here hx rfl (pc0 := 175) (pc' := 188) rfl (hb hby d1_175) rfl (tlt hc175).1 (by decide) (by decide) ?_
    show Steps p.tables e below (T0.setTop (mkF m 188 #[.val (.int ch)] [])) _
    refine XS.iconst X0.here hx rfl (hb hby d1_188) ?_
    show Steps p.tables e below (T0.setTop (mkF m 189 #[.val (.int ch)] [(.int (0 : Int32))])) _
    have hF : own_s12 ch = (0 : Int32) := by rw [own_s12, own_rng, if_pos hc175]
    rw [hF] at hr
    exact retN X0 hx (t := .boolean) hret (by simp) (hb hby d1_189) hr
  · show Steps p.tables e below (T0.setTop (mkF m 175 #[.val (.int ch)] [(.int (65536 : Int32)), (.int ch)])) _
    refine XS.icmpNo X0.here hx rfl (hb hby d1_175) rfl (flt hc175).1 ?_
    show Steps p.tables e below (T0.setTop (mkF m 178 #[.val (.int ch)] [])) _
    refine XS.iloadN X0.here hx rfl (hb hby d1_178) rfl ?_
    show Steps p.tables e below (T0.setTop (mkF m 179 #[.val (.int ch)] [(.int ch)])) _
    refine X0.ldcInt hx hown (mvT hZ (hw _ (List.mem_of_getElem? (i := 38) rfl))) (g := (mkF m 179 #[.val (.int ch)] [(.int ch)])) rfl (hb hby d1_179) _ ?_
    by_cases hc181 : (983039 : Int32) < ch
    · show Steps p.tables e below (T0.setTop (mkF m 181 #[.val (.int ch)] [(.int (983039 : Int32)), (.int ch)])) _
      refine XS.icmpYes X0.here hx rfl (pc0 := 181) (pc' := 188) rfl (hb hby d1_181) rfl (tlt hc181).2.2.1 (by decide) (by decide) ?_
      show Steps p.tables e below (T0.setTop (mkF m 188 #[.val (.int ch)] [])) _
      refine XS.iconst X0.here hx rfl (hb hby d1_188) ?_
      show Steps p.tables e below (T0.setTop (mkF m 189 #[.val (.int ch)] [(.int (0 : Int32))])) _
      have hF : own_s12 ch = (0 : Int32) := by rw [own_s12, own_rng, if_neg hc175, if_pos hc181]
      rw [hF] at hr
      exact retN X0 hx (t := .boolean) hret (by simp) (hb hby d1_189) hr
    · show Steps p.tables e below (T0.setTop (mkF m 181 #[.val (.int ch)] [(.int (983039 : Int32)), (.int ch)])) _
      refine XS.icmpNo X0.here hx rfl (hb hby d1_181) rfl (flt hc181).2.2.1 ?_
      show Steps p.tables e below (T0.setTop (mkF m 184 #[.val (.int ch)] [])) _
      refine XS.iconst X0.here hx rfl (hb hby d1_184) ?_
      show Steps p.tables e below (T0.setTop (mkF m 185 #[.val (.int ch)] [(.int (1 : Int32))])) _
      refine XS.goto X0.here hx rfl (pc0 := 185) (pc' := 189) rfl (hb hby d1_185) (by decide) (by decide) ?_
      show Steps p.tables e below (T0.setTop (mkF m 189 #[.val (.int ch)] [(.int (1 : Int32))])) _
      have hF : own_s12 ch = (1 : Int32) := by rw [own_s12, own_rng, if_neg hc175, if_neg hc181]
      rw [hF] at hr
      exact retN X0 hx (t := .boolean) hret (by simp) (hb hby d1_189) hr
def own_s11 (ch : Int32) : Int32 := own_rng 65008 65533 ch (own_s12 ch)
set_option maxRecDepth 65536 in
set_option maxHeartbeats 40000000 in
theorem sn_160 {p : Program} {l : Launch} {e : Env} {R : Room} {s : State} {m : MethodId} {args : Array Value} {below : List Frame} {meth : Method} {c : Code} {T0 : State} {locs : List Loc} {cells slots : Nat} {Z : State} {a0 : Array Value} {h0 : Heap} (ch : Int32) (X0 : Stand p l e R s m args below meth c T0 locs cells slots) (hx : p.tables.exec = Jvm.exec) (hZ : Z.Warmed39 s.vm) (hw : ∀ d ∈ tables_1, d.before a0 Z = true) (hby : c.code = prog_240_method_6_code) (hml : c.maxLocals = 1) (hown : s.vm.findClass "com/example/onward/onward/xml/Names" = some m.cls) (e0 : T0.heap = h0) (hret : meth.sig.returnType = some .boolean) (fs : List Frame) (hr : ∀ (f : JFrame) (acts : List Action), f.method = m → f.locked = none → f.entered = [] → (doReturn e (T0.setTop f) acts (some (.int (own_s11 ch)))).1 = T0.setFrames fs) : Steps p.tables e below (T0.setTop (mkF m 160 #[.val (.int ch)] [])) (T0.setFrames fs) := by
  show Steps p.tables e below (T0.setTop (mkF m 160 #[.val (.int ch)] [])) _
  refine XS.iloadN X0.here hx rfl (hb hby d1_160) rfl ?_
  show Steps p.tables e below (T0.setTop (mkF m 161 #[.val (.int ch)] [(.int ch)])) _
  refine X0.ldcInt hx hown (mvT hZ (hw _ (List.mem_of_getElem? (i := 35) rfl))) (g := (mkF m 161 #[.val (.int ch)] [(.int ch)])) rfl (hb hby d1_161) _ ?_
  by_cases hc163 : ch < (65008 : Int32)
  · show Steps p.tables e below (T0.setTop (mkF m 163 #[.val (.int ch)] [(.int (65008 : Int32)), (.int ch)])) _
    refine XS.icmpYes X0.here hx rfl (pc0 := 163) (pc' := 172) rfl (hb hby d1_163) rfl (tlt hc163).1 (by decide) (by decide) ?_
    have hF : own_s11 ch = own_s12 ch := by rw [own_s11, own_rng, if_pos hc163]
    rw [hF] at hr
    exact sn_172 ch X0 hx hZ hw hby hml hown e0 hret fs hr
  · show Steps p.tables e below (T0.setTop (mkF m 163 #[.val (.int ch)] [(.int (65008 : Int32)), (.int ch)])) _
    refine XS.icmpNo X0.here hx rfl (hb hby d1_163) rfl (flt hc163).1 ?_
    show Steps p.tables e below (T0.setTop (mkF m 166 #[.val (.int ch)] [])) _
    refine XS.iloadN X0.here hx rfl (hb hby d1_166) rfl ?_
    show Steps p.tables e below (T0.setTop (mkF m 167 #[.val (.int ch)] [(.int ch)])) _
    refine X0.ldcInt hx hown (mvT hZ (hw _ (List.mem_of_getElem? (i := 36) rfl))) (g := (mkF m 167 #[.val (.int ch)] [(.int ch)])) rfl (hb hby d1_167) _ ?_
    by_cases hc169 : (65533 : Int32) < ch
    · show Steps p.tables e below (T0.setTop (mkF m 169 #[.val (.int ch)] [(.int (65533 : Int32)), (.int ch)])) _
      refine XS.icmpNo X0.here hx rfl (hb hby d1_169) rfl (tlt hc169).2.2.2 ?_
      have hF : own_s11 ch = own_s12 ch := by rw [own_s11, own_rng, if_neg hc163, if_pos hc169]
      rw [hF] at hr
      exact sn_172 ch X0 hx hZ hw hby hml hown e0 hret fs hr
    · show Steps p.tables e below (T0.setTop (mkF m 169 #[.val (.int ch)] [(.int (65533 : Int32)), (.int ch)])) _
      refine XS.icmpYes X0.here hx rfl (pc0 := 169) (pc' := 184) rfl (hb hby d1_169) rfl (flt hc169).2.2.2 (by decide) (by decide) ?_
      show Steps p.tables e below (T0.setTop (mkF m 184 #[.val (.int ch)] [])) _
      refine XS.iconst X0.here hx rfl (hb hby d1_184) ?_
      show Steps p.tables e below (T0.setTop (mkF m 185 #[.val (.int ch)] [(.int (1 : Int32))])) _
      refine XS.goto X0.here hx rfl (pc0 := 185) (pc' := 189) rfl (hb hby d1_185) (by decide) (by decide) ?_
      show Steps p.tables e below (T0.setTop (mkF m 189 #[.val (.int ch)] [(.int (1 : Int32))])) _
      have hF : own_s11 ch = (1 : Int32) := by rw [own_s11, own_rng, if_neg hc163, if_neg hc169]
      rw [hF] at hr
      exact retN X0 hx (t := .boolean) hret (by simp) (hb hby d1_189) hr
def own_s10 (ch : Int32) : Int32 := own_rng 63744 64975 ch (own_s11 ch)
set_option maxRecDepth 65536 in
set_option maxHeartbeats 40000000 in
theorem sn_148 {p : Program} {l : Launch} {e : Env} {R : Room} {s : State} {m : MethodId} {args : Array Value} {below : List Frame} {meth : Method} {c : Code} {T0 : State} {locs : List Loc} {cells slots : Nat} {Z : State} {a0 : Array Value} {h0 : Heap} (ch : Int32) (X0 : Stand p l e R s m args below meth c T0 locs cells slots) (hx : p.tables.exec = Jvm.exec) (hZ : Z.Warmed39 s.vm) (hw : ∀ d ∈ tables_1, d.before a0 Z = true) (hby : c.code = prog_240_method_6_code) (hml : c.maxLocals = 1) (hown : s.vm.findClass "com/example/onward/onward/xml/Names" = some m.cls) (e0 : T0.heap = h0) (hret : meth.sig.returnType = some .boolean) (fs : List Frame) (hr : ∀ (f : JFrame) (acts : List Action), f.method = m → f.locked = none → f.entered = [] → (doReturn e (T0.setTop f) acts (some (.int (own_s10 ch)))).1 = T0.setFrames fs) : Steps p.tables e below (T0.setTop (mkF m 148 #[.val (.int ch)] [])) (T0.setFrames fs) := by
  show Steps p.tables e below (T0.setTop (mkF m 148 #[.val (.int ch)] [])) _
  refine XS.iloadN X0.here hx rfl (hb hby d1_148) rfl ?_
  show Steps p.tables e below (T0.setTop (mkF m 149 #[.val (.int ch)] [(.int ch)])) _
  refine X0.ldcInt hx hown (mvT hZ (hw _ (List.mem_of_getElem? (i := 33) rfl))) (g := (mkF m 149 #[.val (.int ch)] [(.int ch)])) rfl (hb hby d1_149) _ ?_
  by_cases hc151 : ch < (63744 : Int32)
  · show Steps p.tables e below (T0.setTop (mkF m 151 #[.val (.int ch)] [(.int (63744 : Int32)), (.int ch)])) _
    refine XS.icmpYes X0.here hx rfl (pc0 := 151) (pc' := 160) rfl (hb hby d1_151) rfl (tlt hc151).1 (by decide) (by decide) ?_
    have hF : own_s10 ch = own_s11 ch := by rw [own_s10, own_rng, if_pos hc151]
    rw [hF] at hr
    exact sn_160 ch X0 hx hZ hw hby hml hown e0 hret fs hr
  · show Steps p.tables e below (T0.setTop (mkF m 151 #[.val (.int ch)] [(.int (63744 : Int32)), (.int ch)])) _
    refine XS.icmpNo X0.here hx rfl (hb hby d1_151) rfl (flt hc151).1 ?_
    show Steps p.tables e below (T0.setTop (mkF m 154 #[.val (.int ch)] [])) _
    refine XS.iloadN X0.here hx rfl (hb hby d1_154) rfl ?_
    show Steps p.tables e below (T0.setTop (mkF m 155 #[.val (.int ch)] [(.int ch)])) _
    refine X0.ldcInt hx hown (mvT hZ (hw _ (List.mem_of_getElem? (i := 34) rfl))) (g := (mkF m 155 #[.val (.int ch)] [(.int ch)])) rfl (hb hby d1_155) _ ?_
    by_cases hc157 : (64975 : Int32) < ch
    · show Steps p.tables e below (T0.setTop (mkF m 157 #[.val (.int ch)] [(.int (64975 : Int32)), (.int ch)])) _
      refine XS.icmpNo X0.here hx rfl (hb hby d1_157) rfl (tlt hc157).2.2.2 ?_
      have hF : own_s10 ch = own_s11 ch := by rw [own_s10, own_rng, if_neg hc151, if_pos hc157]
      rw [hF] at hr
      exact sn_160 ch X0 hx hZ hw hby hml hown e0 hret fs hr
    · show Steps p.tables e below (T0.setTop (mkF m 157 #[.val (.int ch)] [(.int (64975 : Int32)), (.int ch)])) _
      refine XS.icmpYes X0.here hx rfl (pc0 := 157) (pc' := 184) rfl (hb hby d1_157) rfl (flt hc157).2.2.2 (by decide) (by decide) ?_
      show Steps p.tables e below (T0.setTop (mkF m 184 #[.val (.int ch)] [])) _
      refine XS.iconst X0.here hx rfl (hb hby d1_184) ?_
      show Steps p.tables e below (T0.setTop (mkF m 185 #[.val (.int ch)] [(.int (1 : Int32))])) _
      refine XS.goto X0.here hx rfl (pc0 := 185) (pc' := 189) rfl (hb hby d1_185) (by decide) (by decide) ?_
      show Steps p.tables e below (T0.setTop (mkF m 189 #[.val (.int ch)] [(.int (1 : Int32))])) _
      have hF : own_s10 ch = (1 : Int32) := by rw [own_s10, own_rng, if_neg hc151, if_neg hc157]
      rw [hF] at hr
      exact retN X0 hx (t := .boolean) hret (by simp) (hb hby d1_189) hr
def own_s9 (ch : Int32) : Int32 := own_rng 12289 55295 ch (own_s10 ch)
set_option maxRecDepth 65536 in
set_option maxHeartbeats 40000000 in
theorem sn_135 {p : Program} {l : Launch} {e : Env} {R : Room} {s : State} {m : MethodId} {args : Array Value} {below : List Frame} {meth : Method} {c : Code} {T0 : State} {locs : List Loc} {cells slots : Nat} {Z : State} {a0 : Array Value} {h0 : Heap} (ch : Int32) (X0 : Stand p l e R s m args below meth c T0 locs cells slots) (hx : p.tables.exec = Jvm.exec) (hZ : Z.Warmed39 s.vm) (hw : ∀ d ∈ tables_1, d.before a0 Z = true) (hby : c.code = prog_240_method_6_code) (hml : c.maxLocals = 1) (hown : s.vm.findClass "com/example/onward/onward/xml/Names" = some m.cls) (e0 : T0.heap = h0) (hret : meth.sig.returnType = some .boolean) (fs : List Frame) (hr : ∀ (f : JFrame) (acts : List Action), f.method = m → f.locked = none → f.entered = [] → (doReturn e (T0.setTop f) acts (some (.int (own_s9 ch)))).1 = T0.setFrames fs) : Steps p.tables e below (T0.setTop (mkF m 135 #[.val (.int ch)] [])) (T0.setFrames fs) := by
  show Steps p.tables e below (T0.setTop (mkF m 135 #[.val (.int ch)] [])) _
  refine XS.iloadN X0.here hx rfl (hb hby d1_135) rfl ?_
  show Steps p.tables e below (T0.setTop (mkF m 136 #[.val (.int ch)] [(.int ch)])) _
  refine XS.sipush X0.here hx rfl (hb hby d1_136) ?_
  by_cases hc139 : ch < (12289 : Int32)
  · show Steps p.tables e below (T0.setTop (mkF m 139 #[.val (.int ch)] [(.int (12289 : Int32)), (.int ch)])) _
    refine XS.icmpYes X0.here hx rfl (pc0 := 139) (pc' := 148) rfl (hb hby d1_139) rfl (tlt hc139).1 (by decide) (by decide) ?_
    have hF : own_s9 ch = own_s10 ch := by rw [own_s9, own_rng, if_pos hc139]
    rw [hF] at hr
    exact sn_148 ch X0 hx hZ hw hby hml hown e0 hret fs hr
  · show Steps p.tables e below (T0.setTop (mkF m 139 #[.val (.int ch)] [(.int (12289 : Int32)), (.int ch)])) _
    refine XS.icmpNo X0.here hx rfl (hb hby d1_139) rfl (flt hc139).1 ?_
    show Steps p.tables e below (T0.setTop (mkF m 142 #[.val (.int ch)] [])) _
    refine XS.iloadN X0.here hx rfl (hb hby d1_142) rfl ?_
    show Steps p.tables e below (T0.setTop (mkF m 143 #[.val (.int ch)] [(.int ch)])) _
    refine X0.ldcInt hx hown (mvT hZ (hw _ (List.mem_of_getElem? (i := 32) rfl))) (g := (mkF m 143 #[.val (.int ch)] [(.int ch)])) rfl (hb hby d1_143) _ ?_
    by_cases hc145 : (55295 : Int32) < ch
    · show Steps p.tables e below (T0.setTop (mkF m 145 #[.val (.int ch)] [(.int (55295 : Int32)), (.int ch)])) _
      refine XS.icmpNo X0.here hx rfl (hb hby d1_145) rfl (tlt hc145).2.2.2 ?_
      have hF : own_s9 ch = own_s10 ch := by rw [own_s9, own_rng, if_neg hc139, if_pos hc145]
      rw [hF] at hr
      exact sn_148 ch X0 hx hZ hw hby hml hown e0 hret fs hr
    · show Steps p.tables e below (T0.setTop (mkF m 145 #[.val (.int ch)] [(.int (55295 : Int32)), (.int ch)])) _
      refine XS.icmpYes X0.here hx rfl (pc0 := 145) (pc' := 184) rfl (hb hby d1_145) rfl (flt hc145).2.2.2 (by decide) (by decide) ?_
      show Steps p.tables e below (T0.setTop (mkF m 184 #[.val (.int ch)] [])) _
      refine XS.iconst X0.here hx rfl (hb hby d1_184) ?_
      show Steps p.tables e below (T0.setTop (mkF m 185 #[.val (.int ch)] [(.int (1 : Int32))])) _
      refine XS.goto X0.here hx rfl (pc0 := 185) (pc' := 189) rfl (hb hby d1_185) (by decide) (by decide) ?_
      show Steps p.tables e below (T0.setTop (mkF m 189 #[.val (.int ch)] [(.int (1 : Int32))])) _
      have hF : own_s9 ch = (1 : Int32) := by rw [own_s9, own_rng, if_neg hc139, if_neg hc145]
      rw [hF] at hr
      exact retN X0 hx (t := .boolean) hret (by simp) (hb hby d1_189) hr
def own_s8 (ch : Int32) : Int32 := own_rng 11264 12271 ch (own_s9 ch)
set_option maxRecDepth 65536 in
set_option maxHeartbeats 40000000 in
theorem sn_121 {p : Program} {l : Launch} {e : Env} {R : Room} {s : State} {m : MethodId} {args : Array Value} {below : List Frame} {meth : Method} {c : Code} {T0 : State} {locs : List Loc} {cells slots : Nat} {Z : State} {a0 : Array Value} {h0 : Heap} (ch : Int32) (X0 : Stand p l e R s m args below meth c T0 locs cells slots) (hx : p.tables.exec = Jvm.exec) (hZ : Z.Warmed39 s.vm) (hw : ∀ d ∈ tables_1, d.before a0 Z = true) (hby : c.code = prog_240_method_6_code) (hml : c.maxLocals = 1) (hown : s.vm.findClass "com/example/onward/onward/xml/Names" = some m.cls) (e0 : T0.heap = h0) (hret : meth.sig.returnType = some .boolean) (fs : List Frame) (hr : ∀ (f : JFrame) (acts : List Action), f.method = m → f.locked = none → f.entered = [] → (doReturn e (T0.setTop f) acts (some (.int (own_s8 ch)))).1 = T0.setFrames fs) : Steps p.tables e below (T0.setTop (mkF m 121 #[.val (.int ch)] [])) (T0.setFrames fs) := by
  show Steps p.tables e below (T0.setTop (mkF m 121 #[.val (.int ch)] [])) _
  refine XS.iloadN X0.here hx rfl (hb hby d1_121) rfl ?_
  show Steps p.tables e below (T0.setTop (mkF m 122 #[.val (.int ch)] [(.int ch)])) _
  refine XS.sipush X0.here hx rfl (hb hby d1_122) ?_
  by_cases hc125 : ch < (11264 : Int32)
  · show Steps p.tables e below (T0.setTop (mkF m 125 #[.val (.int ch)] [(.int (11264 : Int32)), (.int ch)])) _
    refine XS.icmpYes X0.here hx rfl (pc0 := 125) (pc' := 135) rfl (hb hby d1_125) rfl (tlt hc125).1 (by decide) (by decide) ?_
    have hF : own_s8 ch = own_s9 ch := by rw [own_s8, own_rng, if_pos hc125]
    rw [hF] at hr
    exact sn_135 ch X0 hx hZ hw hby hml hown e0 hret fs hr
  · show Steps p.tables e below (T0.setTop (mkF m 125 #[.val (.int ch)] [(.int (11264 : Int32)), (.int ch)])) _
    refine XS.icmpNo X0.here hx rfl (hb hby d1_125) rfl (flt hc125).1 ?_
    show Steps p.tables e below (T0.setTop (mkF m 128 #[.val (.int ch)] [])) _
    refine XS.iloadN X0.here hx rfl (hb hby d1_128) rfl ?_
    show Steps p.tables e below (T0.setTop (mkF m 129 #[.val (.int ch)] [(.int ch)])) _
    refine XS.sipush X0.here hx rfl (hb hby d1_129) ?_
    by_cases hc132 : (12271 : Int32) < ch
    · show Steps p.tables e below (T0.setTop (mkF m 132 #[.val (.int ch)] [(.int (12271 : Int32)), (.int ch)])) _
      refine XS.icmpNo X0.here hx rfl (hb hby d1_132) rfl (tlt hc132).2.2.2 ?_
      have hF : own_s8 ch = own_s9 ch := by rw [own_s8, own_rng, if_neg hc125, if_pos hc132]
      rw [hF] at hr
      exact sn_135 ch X0 hx hZ hw hby hml hown e0 hret fs hr
    · show Steps p.tables e below (T0.setTop (mkF m 132 #[.val (.int ch)] [(.int (12271 : Int32)), (.int ch)])) _
      refine XS.icmpYes X0.here hx rfl (pc0 := 132) (pc' := 184) rfl (hb hby d1_132) rfl (flt hc132).2.2.2 (by decide) (by decide) ?_
      show Steps p.tables e below (T0.setTop (mkF m 184 #[.val (.int ch)] [])) _
      refine XS.iconst X0.here hx rfl (hb hby d1_184) ?_
      show Steps p.tables e below (T0.setTop (mkF m 185 #[.val (.int ch)] [(.int (1 : Int32))])) _
      refine XS.goto X0.here hx rfl (pc0 := 185) (pc' := 189) rfl (hb hby d1_185) (by decide) (by decide) ?_
      show Steps p.tables e below (T0.setTop (mkF m 189 #[.val (.int ch)] [(.int (1 : Int32))])) _
      have hF : own_s8 ch = (1 : Int32) := by rw [own_s8, own_rng, if_neg hc125, if_neg hc132]
      rw [hF] at hr
      exact retN X0 hx (t := .boolean) hret (by simp) (hb hby d1_189) hr
def own_s7 (ch : Int32) : Int32 := own_rng 8304 8591 ch (own_s8 ch)
set_option maxRecDepth 65536 in
set_option maxHeartbeats 40000000 in
theorem sn_107 {p : Program} {l : Launch} {e : Env} {R : Room} {s : State} {m : MethodId} {args : Array Value} {below : List Frame} {meth : Method} {c : Code} {T0 : State} {locs : List Loc} {cells slots : Nat} {Z : State} {a0 : Array Value} {h0 : Heap} (ch : Int32) (X0 : Stand p l e R s m args below meth c T0 locs cells slots) (hx : p.tables.exec = Jvm.exec) (hZ : Z.Warmed39 s.vm) (hw : ∀ d ∈ tables_1, d.before a0 Z = true) (hby : c.code = prog_240_method_6_code) (hml : c.maxLocals = 1) (hown : s.vm.findClass "com/example/onward/onward/xml/Names" = some m.cls) (e0 : T0.heap = h0) (hret : meth.sig.returnType = some .boolean) (fs : List Frame) (hr : ∀ (f : JFrame) (acts : List Action), f.method = m → f.locked = none → f.entered = [] → (doReturn e (T0.setTop f) acts (some (.int (own_s7 ch)))).1 = T0.setFrames fs) : Steps p.tables e below (T0.setTop (mkF m 107 #[.val (.int ch)] [])) (T0.setFrames fs) := by
  show Steps p.tables e below (T0.setTop (mkF m 107 #[.val (.int ch)] [])) _
  refine XS.iloadN X0.here hx rfl (hb hby d1_107) rfl ?_
  show Steps p.tables e below (T0.setTop (mkF m 108 #[.val (.int ch)] [(.int ch)])) _
  refine XS.sipush X0.here hx rfl (hb hby d1_108) ?_
  by_cases hc111 : ch < (8304 : Int32)
  · show Steps p.tables e below (T0.setTop (mkF m 111 #[.val (.int ch)] [(.int (8304 : Int32)), (.int ch)])) _
    refine XS.icmpYes X0.here hx rfl (pc0 := 111) (pc' := 121) rfl (hb hby d1_111) rfl (tlt hc111).1 (by decide) (by decide) ?_
    have hF : own_s7 ch = own_s8 ch := by rw [own_s7, own_rng, if_pos hc111]
    rw [hF] at hr
    exact sn_121 ch X0 hx hZ hw hby hml hown e0 hret fs hr
  · show Steps p.tables e below (T0.setTop (mkF m 111 #[.val (.int ch)] [(.int (8304 : Int32)), (.int ch)])) _
    refine XS.icmpNo X0.here hx rfl (hb hby d1_111) rfl (flt hc111).1 ?_
    show Steps p.tables e below (T0.setTop (mkF m 114 #[.val (.int ch)] [])) _
    refine XS.iloadN X0.here hx rfl (hb hby d1_114) rfl ?_
    show Steps p.tables e below (T0.setTop (mkF m 115 #[.val (.int ch)] [(.int ch)])) _
    refine XS.sipush X0.here hx rfl (hb hby d1_115) ?_
    by_cases hc118 : (8591 : Int32) < ch
    · show Steps p.tables e below (T0.setTop (mkF m 118 #[.val (.int ch)] [(.int (8591 : Int32)), (.int ch)])) _
      refine XS.icmpNo X0.here hx rfl (hb hby d1_118) rfl (tlt hc118).2.2.2 ?_
      have hF : own_s7 ch = own_s8 ch := by rw [own_s7, own_rng, if_neg hc111, if_pos hc118]
      rw [hF] at hr
      exact sn_121 ch X0 hx hZ hw hby hml hown e0 hret fs hr
    · show Steps p.tables e below (T0.setTop (mkF m 118 #[.val (.int ch)] [(.int (8591 : Int32)), (.int ch)])) _
      refine XS.icmpYes X0.here hx rfl (pc0 := 118) (pc' := 184) rfl (hb hby d1_118) rfl (flt hc118).2.2.2 (by decide) (by decide) ?_
      show Steps p.tables e below (T0.setTop (mkF m 184 #[.val (.int ch)] [])) _
      refine XS.iconst X0.here hx rfl (hb hby d1_184) ?_
      show Steps p.tables e below (T0.setTop (mkF m 185 #[.val (.int ch)] [(.int (1 : Int32))])) _
      refine XS.goto X0.here hx rfl (pc0 := 185) (pc' := 189) rfl (hb hby d1_185) (by decide) (by decide) ?_
      show Steps p.tables e below (T0.setTop (mkF m 189 #[.val (.int ch)] [(.int (1 : Int32))])) _
      have hF : own_s7 ch = (1 : Int32) := by rw [own_s7, own_rng, if_neg hc111, if_neg hc118]
      rw [hF] at hr
      exact retN X0 hx (t := .boolean) hret (by simp) (hb hby d1_189) hr
def own_s6 (ch : Int32) : Int32 := own_rng 8204 8205 ch (own_s7 ch)
set_option maxRecDepth 65536 in
set_option maxHeartbeats 40000000 in
theorem sn_93 {p : Program} {l : Launch} {e : Env} {R : Room} {s : State} {m : MethodId} {args : Array Value} {below : List Frame} {meth : Method} {c : Code} {T0 : State} {locs : List Loc} {cells slots : Nat} {Z : State} {a0 : Array Value} {h0 : Heap} (ch : Int32) (X0 : Stand p l e R s m args below meth c T0 locs cells slots) (hx : p.tables.exec = Jvm.exec) (hZ : Z.Warmed39 s.vm) (hw : ∀ d ∈ tables_1, d.before a0 Z = true) (hby : c.code = prog_240_method_6_code) (hml : c.maxLocals = 1) (hown : s.vm.findClass "com/example/onward/onward/xml/Names" = some m.cls) (e0 : T0.heap = h0) (hret : meth.sig.returnType = some .boolean) (fs : List Frame) (hr : ∀ (f : JFrame) (acts : List Action), f.method = m → f.locked = none → f.entered = [] → (doReturn e (T0.setTop f) acts (some (.int (own_s6 ch)))).1 = T0.setFrames fs) : Steps p.tables e below (T0.setTop (mkF m 93 #[.val (.int ch)] [])) (T0.setFrames fs) := by
  show Steps p.tables e below (T0.setTop (mkF m 93 #[.val (.int ch)] [])) _
  refine XS.iloadN X0.here hx rfl (hb hby d1_93) rfl ?_
  show Steps p.tables e below (T0.setTop (mkF m 94 #[.val (.int ch)] [(.int ch)])) _
  refine XS.sipush X0.here hx rfl (hb hby d1_94) ?_
  by_cases hc97 : ch < (8204 : Int32)
  · show Steps p.tables e below (T0.setTop (mkF m 97 #[.val (.int ch)] [(.int (8204 : Int32)), (.int ch)])) _
    refine XS.icmpYes X0.here hx rfl (pc0 := 97) (pc' := 107) rfl (hb hby d1_97) rfl (tlt hc97).1 (by decide) (by decide) ?_
    have hF : own_s6 ch = own_s7 ch := by rw [own_s6, own_rng, if_pos hc97]
    rw [hF] at hr
    exact sn_107 ch X0 hx hZ hw hby hml hown e0 hret fs hr
  · show Steps p.tables e below (T0.setTop (mkF m 97 #[.val (.int ch)] [(.int (8204 : Int32)), (.int ch)])) _
    refine XS.icmpNo X0.here hx rfl (hb hby d1_97) rfl (flt hc97).1 ?_
    show Steps p.tables e below (T0.setTop (mkF m 100 #[.val (.int ch)] [])) _
    refine XS.iloadN X0.here hx rfl (hb hby d1_100) rfl ?_
    show Steps p.tables e below (T0.setTop (mkF m 101 #[.val (.int ch)] [(.int ch)])) _
    refine XS.sipush X0.here hx rfl (hb hby d1_101) ?_
    by_cases hc104 : (8205 : Int32) < ch
    · show Steps p.tables e below (T0.setTop (mkF m 104 #[.val (.int ch)] [(.int (8205 : Int32)), (.int ch)])) _
      refine XS.icmpNo X0.here hx rfl (hb hby d1_104) rfl (tlt hc104).2.2.2 ?_
      have hF : own_s6 ch = own_s7 ch := by rw [own_s6, own_rng, if_neg hc97, if_pos hc104]
      rw [hF] at hr
      exact sn_107 ch X0 hx hZ hw hby hml hown e0 hret fs hr
    · show Steps p.tables e below (T0.setTop (mkF m 104 #[.val (.int ch)] [(.int (8205 : Int32)), (.int ch)])) _
      refine XS.icmpYes X0.here hx rfl (pc0 := 104) (pc' := 184) rfl (hb hby d1_104) rfl (flt hc104).2.2.2 (by decide) (by decide) ?_
      show Steps p.tables e below (T0.setTop (mkF m 184 #[.val (.int ch)] [])) _
      refine XS.iconst X0.here hx rfl (hb hby d1_184) ?_
      show Steps p.tables e below (T0.setTop (mkF m 185 #[.val (.int ch)] [(.int (1 : Int32))])) _
      refine XS.goto X0.here hx rfl (pc0 := 185) (pc' := 189) rfl (hb hby d1_185) (by decide) (by decide) ?_
      show Steps p.tables e below (T0.setTop (mkF m 189 #[.val (.int ch)] [(.int (1 : Int32))])) _
      have hF : own_s6 ch = (1 : Int32) := by rw [own_s6, own_rng, if_neg hc97, if_neg hc104]
      rw [hF] at hr
      exact retN X0 hx (t := .boolean) hret (by simp) (hb hby d1_189) hr
def own_s5 (ch : Int32) : Int32 := own_rng 895 8191 ch (own_s6 ch)
set_option maxRecDepth 65536 in
set_option maxHeartbeats 40000000 in
theorem sn_79 {p : Program} {l : Launch} {e : Env} {R : Room} {s : State} {m : MethodId} {args : Array Value} {below : List Frame} {meth : Method} {c : Code} {T0 : State} {locs : List Loc} {cells slots : Nat} {Z : State} {a0 : Array Value} {h0 : Heap} (ch : Int32) (X0 : Stand p l e R s m args below meth c T0 locs cells slots) (hx : p.tables.exec = Jvm.exec) (hZ : Z.Warmed39 s.vm) (hw : ∀ d ∈ tables_1, d.before a0 Z = true) (hby : c.code = prog_240_method_6_code) (hml : c.maxLocals = 1) (hown : s.vm.findClass "com/example/onward/onward/xml/Names" = some m.cls) (e0 : T0.heap = h0) (hret : meth.sig.returnType = some .boolean) (fs : List Frame) (hr : ∀ (f : JFrame) (acts : List Action), f.method = m → f.locked = none → f.entered = [] → (doReturn e (T0.setTop f) acts (some (.int (own_s5 ch)))).1 = T0.setFrames fs) : Steps p.tables e below (T0.setTop (mkF m 79 #[.val (.int ch)] [])) (T0.setFrames fs) := by
  show Steps p.tables e below (T0.setTop (mkF m 79 #[.val (.int ch)] [])) _
  refine XS.iloadN X0.here hx rfl (hb hby d1_79) rfl ?_
  show Steps p.tables e below (T0.setTop (mkF m 80 #[.val (.int ch)] [(.int ch)])) _
  refine XS.sipush X0.here hx rfl (hb hby d1_80) ?_
  by_cases hc83 : ch < (895 : Int32)
  · show Steps p.tables e below (T0.setTop (mkF m 83 #[.val (.int ch)] [(.int (895 : Int32)), (.int ch)])) _
    refine XS.icmpYes X0.here hx rfl (pc0 := 83) (pc' := 93) rfl (hb hby d1_83) rfl (tlt hc83).1 (by decide) (by decide) ?_
    have hF : own_s5 ch = own_s6 ch := by rw [own_s5, own_rng, if_pos hc83]
    rw [hF] at hr
    exact sn_93 ch X0 hx hZ hw hby hml hown e0 hret fs hr
  · show Steps p.tables e below (T0.setTop (mkF m 83 #[.val (.int ch)] [(.int (895 : Int32)), (.int ch)])) _
    refine XS.icmpNo X0.here hx rfl (hb hby d1_83) rfl (flt hc83).1 ?_
    show Steps p.tables e below (T0.setTop (mkF m 86 #[.val (.int ch)] [])) _
    refine XS.iloadN X0.here hx rfl (hb hby d1_86) rfl ?_
    show Steps p.tables e below (T0.setTop (mkF m 87 #[.val (.int ch)] [(.int ch)])) _
    refine XS.sipush X0.here hx rfl (hb hby d1_87) ?_
    by_cases hc90 : (8191 : Int32) < ch
    · show Steps p.tables e below (T0.setTop (mkF m 90 #[.val (.int ch)] [(.int (8191 : Int32)), (.int ch)])) _
      refine XS.icmpNo X0.here hx rfl (hb hby d1_90) rfl (tlt hc90).2.2.2 ?_
      have hF : own_s5 ch = own_s6 ch := by rw [own_s5, own_rng, if_neg hc83, if_pos hc90]
      rw [hF] at hr
      exact sn_93 ch X0 hx hZ hw hby hml hown e0 hret fs hr
    · show Steps p.tables e below (T0.setTop (mkF m 90 #[.val (.int ch)] [(.int (8191 : Int32)), (.int ch)])) _
      refine XS.icmpYes X0.here hx rfl (pc0 := 90) (pc' := 184) rfl (hb hby d1_90) rfl (flt hc90).2.2.2 (by decide) (by decide) ?_
      show Steps p.tables e below (T0.setTop (mkF m 184 #[.val (.int ch)] [])) _
      refine XS.iconst X0.here hx rfl (hb hby d1_184) ?_
      show Steps p.tables e below (T0.setTop (mkF m 185 #[.val (.int ch)] [(.int (1 : Int32))])) _
      refine XS.goto X0.here hx rfl (pc0 := 185) (pc' := 189) rfl (hb hby d1_185) (by decide) (by decide) ?_
      show Steps p.tables e below (T0.setTop (mkF m 189 #[.val (.int ch)] [(.int (1 : Int32))])) _
      have hF : own_s5 ch = (1 : Int32) := by rw [own_s5, own_rng, if_neg hc83, if_neg hc90]
      rw [hF] at hr
      exact retN X0 hx (t := .boolean) hret (by simp) (hb hby d1_189) hr
def own_s4 (ch : Int32) : Int32 := own_rng 880 893 ch (own_s5 ch)
set_option maxRecDepth 65536 in
set_option maxHeartbeats 40000000 in
theorem sn_65 {p : Program} {l : Launch} {e : Env} {R : Room} {s : State} {m : MethodId} {args : Array Value} {below : List Frame} {meth : Method} {c : Code} {T0 : State} {locs : List Loc} {cells slots : Nat} {Z : State} {a0 : Array Value} {h0 : Heap} (ch : Int32) (X0 : Stand p l e R s m args below meth c T0 locs cells slots) (hx : p.tables.exec = Jvm.exec) (hZ : Z.Warmed39 s.vm) (hw : ∀ d ∈ tables_1, d.before a0 Z = true) (hby : c.code = prog_240_method_6_code) (hml : c.maxLocals = 1) (hown : s.vm.findClass "com/example/onward/onward/xml/Names" = some m.cls) (e0 : T0.heap = h0) (hret : meth.sig.returnType = some .boolean) (fs : List Frame) (hr : ∀ (f : JFrame) (acts : List Action), f.method = m → f.locked = none → f.entered = [] → (doReturn e (T0.setTop f) acts (some (.int (own_s4 ch)))).1 = T0.setFrames fs) : Steps p.tables e below (T0.setTop (mkF m 65 #[.val (.int ch)] [])) (T0.setFrames fs) := by
  show Steps p.tables e below (T0.setTop (mkF m 65 #[.val (.int ch)] [])) _
  refine XS.iloadN X0.here hx rfl (hb hby d1_65) rfl ?_
  show Steps p.tables e below (T0.setTop (mkF m 66 #[.val (.int ch)] [(.int ch)])) _
  refine XS.sipush X0.here hx rfl (hb hby d1_66) ?_
  by_cases hc69 : ch < (880 : Int32)
  · show Steps p.tables e below (T0.setTop (mkF m 69 #[.val (.int ch)] [(.int (880 : Int32)), (.int ch)])) _
    refine XS.icmpYes X0.here hx rfl (pc0 := 69) (pc' := 79) rfl (hb hby d1_69) rfl (tlt hc69).1 (by decide) (by decide) ?_
    have hF : own_s4 ch = own_s5 ch := by rw [own_s4, own_rng, if_pos hc69]
    rw [hF] at hr
    exact sn_79 ch X0 hx hZ hw hby hml hown e0 hret fs hr
  · show Steps p.tables e below (T0.setTop (mkF m 69 #[.val (.int ch)] [(.int (880 : Int32)), (.int ch)])) _
    refine XS.icmpNo X0.here hx rfl (hb hby d1_69) rfl (flt hc69).1 ?_
    show Steps p.tables e below (T0.setTop (mkF m 72 #[.val (.int ch)] [])) _
    refine XS.iloadN X0.here hx rfl (hb hby d1_72) rfl ?_
    show Steps p.tables e below (T0.setTop (mkF m 73 #[.val (.int ch)] [(.int ch)])) _
    refine XS.sipush X0.here hx rfl (hb hby d1_73) ?_
    by_cases hc76 : (893 : Int32) < ch
    · show Steps p.tables e below (T0.setTop (mkF m 76 #[.val (.int ch)] [(.int (893 : Int32)), (.int ch)])) _
      refine XS.icmpNo X0.here hx rfl (hb hby d1_76) rfl (tlt hc76).2.2.2 ?_
      have hF : own_s4 ch = own_s5 ch := by rw [own_s4, own_rng, if_neg hc69, if_pos hc76]
      rw [hF] at hr
      exact sn_79 ch X0 hx hZ hw hby hml hown e0 hret fs hr
    · show Steps p.tables e below (T0.setTop (mkF m 76 #[.val (.int ch)] [(.int (893 : Int32)), (.int ch)])) _
      refine XS.icmpYes X0.here hx rfl (pc0 := 76) (pc' := 184) rfl (hb hby d1_76) rfl (flt hc76).2.2.2 (by decide) (by decide) ?_
      show Steps p.tables e below (T0.setTop (mkF m 184 #[.val (.int ch)] [])) _
      refine XS.iconst X0.here hx rfl (hb hby d1_184) ?_
      show Steps p.tables e below (T0.setTop (mkF m 185 #[.val (.int ch)] [(.int (1 : Int32))])) _
      refine XS.goto X0.here hx rfl (pc0 := 185) (pc' := 189) rfl (hb hby d1_185) (by decide) (by decide) ?_
      show Steps p.tables e below (T0.setTop (mkF m 189 #[.val (.int ch)] [(.int (1 : Int32))])) _
      have hF : own_s4 ch = (1 : Int32) := by rw [own_s4, own_rng, if_neg hc69, if_neg hc76]
      rw [hF] at hr
      exact retN X0 hx (t := .boolean) hret (by simp) (hb hby d1_189) hr
def own_s3 (ch : Int32) : Int32 := own_rng 248 767 ch (own_s4 ch)
set_option maxRecDepth 65536 in
set_option maxHeartbeats 40000000 in
theorem sn_51 {p : Program} {l : Launch} {e : Env} {R : Room} {s : State} {m : MethodId} {args : Array Value} {below : List Frame} {meth : Method} {c : Code} {T0 : State} {locs : List Loc} {cells slots : Nat} {Z : State} {a0 : Array Value} {h0 : Heap} (ch : Int32) (X0 : Stand p l e R s m args below meth c T0 locs cells slots) (hx : p.tables.exec = Jvm.exec) (hZ : Z.Warmed39 s.vm) (hw : ∀ d ∈ tables_1, d.before a0 Z = true) (hby : c.code = prog_240_method_6_code) (hml : c.maxLocals = 1) (hown : s.vm.findClass "com/example/onward/onward/xml/Names" = some m.cls) (e0 : T0.heap = h0) (hret : meth.sig.returnType = some .boolean) (fs : List Frame) (hr : ∀ (f : JFrame) (acts : List Action), f.method = m → f.locked = none → f.entered = [] → (doReturn e (T0.setTop f) acts (some (.int (own_s3 ch)))).1 = T0.setFrames fs) : Steps p.tables e below (T0.setTop (mkF m 51 #[.val (.int ch)] [])) (T0.setFrames fs) := by
  show Steps p.tables e below (T0.setTop (mkF m 51 #[.val (.int ch)] [])) _
  refine XS.iloadN X0.here hx rfl (hb hby d1_51) rfl ?_
  show Steps p.tables e below (T0.setTop (mkF m 52 #[.val (.int ch)] [(.int ch)])) _
  refine XS.sipush X0.here hx rfl (hb hby d1_52) ?_
  by_cases hc55 : ch < (248 : Int32)
  · show Steps p.tables e below (T0.setTop (mkF m 55 #[.val (.int ch)] [(.int (248 : Int32)), (.int ch)])) _
    refine XS.icmpYes X0.here hx rfl (pc0 := 55) (pc' := 65) rfl (hb hby d1_55) rfl (tlt hc55).1 (by decide) (by decide) ?_
    have hF : own_s3 ch = own_s4 ch := by rw [own_s3, own_rng, if_pos hc55]
    rw [hF] at hr
    exact sn_65 ch X0 hx hZ hw hby hml hown e0 hret fs hr
  · show Steps p.tables e below (T0.setTop (mkF m 55 #[.val (.int ch)] [(.int (248 : Int32)), (.int ch)])) _
    refine XS.icmpNo X0.here hx rfl (hb hby d1_55) rfl (flt hc55).1 ?_
    show Steps p.tables e below (T0.setTop (mkF m 58 #[.val (.int ch)] [])) _
    refine XS.iloadN X0.here hx rfl (hb hby d1_58) rfl ?_
    show Steps p.tables e below (T0.setTop (mkF m 59 #[.val (.int ch)] [(.int ch)])) _
    refine XS.sipush X0.here hx rfl (hb hby d1_59) ?_
    by_cases hc62 : (767 : Int32) < ch
    · show Steps p.tables e below (T0.setTop (mkF m 62 #[.val (.int ch)] [(.int (767 : Int32)), (.int ch)])) _
      refine XS.icmpNo X0.here hx rfl (hb hby d1_62) rfl (tlt hc62).2.2.2 ?_
      have hF : own_s3 ch = own_s4 ch := by rw [own_s3, own_rng, if_neg hc55, if_pos hc62]
      rw [hF] at hr
      exact sn_65 ch X0 hx hZ hw hby hml hown e0 hret fs hr
    · show Steps p.tables e below (T0.setTop (mkF m 62 #[.val (.int ch)] [(.int (767 : Int32)), (.int ch)])) _
      refine XS.icmpYes X0.here hx rfl (pc0 := 62) (pc' := 184) rfl (hb hby d1_62) rfl (flt hc62).2.2.2 (by decide) (by decide) ?_
      show Steps p.tables e below (T0.setTop (mkF m 184 #[.val (.int ch)] [])) _
      refine XS.iconst X0.here hx rfl (hb hby d1_184) ?_
      show Steps p.tables e below (T0.setTop (mkF m 185 #[.val (.int ch)] [(.int (1 : Int32))])) _
      refine XS.goto X0.here hx rfl (pc0 := 185) (pc' := 189) rfl (hb hby d1_185) (by decide) (by decide) ?_
      show Steps p.tables e below (T0.setTop (mkF m 189 #[.val (.int ch)] [(.int (1 : Int32))])) _
      have hF : own_s3 ch = (1 : Int32) := by rw [own_s3, own_rng, if_neg hc55, if_neg hc62]
      rw [hF] at hr
      exact retN X0 hx (t := .boolean) hret (by simp) (hb hby d1_189) hr
def own_s2 (ch : Int32) : Int32 := own_rng 216 246 ch (own_s3 ch)
set_option maxRecDepth 65536 in
set_option maxHeartbeats 40000000 in
theorem sn_37 {p : Program} {l : Launch} {e : Env} {R : Room} {s : State} {m : MethodId} {args : Array Value} {below : List Frame} {meth : Method} {c : Code} {T0 : State} {locs : List Loc} {cells slots : Nat} {Z : State} {a0 : Array Value} {h0 : Heap} (ch : Int32) (X0 : Stand p l e R s m args below meth c T0 locs cells slots) (hx : p.tables.exec = Jvm.exec) (hZ : Z.Warmed39 s.vm) (hw : ∀ d ∈ tables_1, d.before a0 Z = true) (hby : c.code = prog_240_method_6_code) (hml : c.maxLocals = 1) (hown : s.vm.findClass "com/example/onward/onward/xml/Names" = some m.cls) (e0 : T0.heap = h0) (hret : meth.sig.returnType = some .boolean) (fs : List Frame) (hr : ∀ (f : JFrame) (acts : List Action), f.method = m → f.locked = none → f.entered = [] → (doReturn e (T0.setTop f) acts (some (.int (own_s2 ch)))).1 = T0.setFrames fs) : Steps p.tables e below (T0.setTop (mkF m 37 #[.val (.int ch)] [])) (T0.setFrames fs) := by
  show Steps p.tables e below (T0.setTop (mkF m 37 #[.val (.int ch)] [])) _
  refine XS.iloadN X0.here hx rfl (hb hby d1_37) rfl ?_
  show Steps p.tables e below (T0.setTop (mkF m 38 #[.val (.int ch)] [(.int ch)])) _
  refine XS.sipush X0.here hx rfl (hb hby d1_38) ?_
  by_cases hc41 : ch < (216 : Int32)
  · show Steps p.tables e below (T0.setTop (mkF m 41 #[.val (.int ch)] [(.int (216 : Int32)), (.int ch)])) _
    refine XS.icmpYes X0.here hx rfl (pc0 := 41) (pc' := 51) rfl (hb hby d1_41) rfl (tlt hc41).1 (by decide) (by decide) ?_
    have hF : own_s2 ch = own_s3 ch := by rw [own_s2, own_rng, if_pos hc41]
    rw [hF] at hr
    exact sn_51 ch X0 hx hZ hw hby hml hown e0 hret fs hr
  · show Steps p.tables e below (T0.setTop (mkF m 41 #[.val (.int ch)] [(.int (216 : Int32)), (.int ch)])) _
    refine XS.icmpNo X0.here hx rfl (hb hby d1_41) rfl (flt hc41).1 ?_
    show Steps p.tables e below (T0.setTop (mkF m 44 #[.val (.int ch)] [])) _
    refine XS.iloadN X0.here hx rfl (hb hby d1_44) rfl ?_
    show Steps p.tables e below (T0.setTop (mkF m 45 #[.val (.int ch)] [(.int ch)])) _
    refine XS.sipush X0.here hx rfl (hb hby d1_45) ?_
    by_cases hc48 : (246 : Int32) < ch
    · show Steps p.tables e below (T0.setTop (mkF m 48 #[.val (.int ch)] [(.int (246 : Int32)), (.int ch)])) _
      refine XS.icmpNo X0.here hx rfl (hb hby d1_48) rfl (tlt hc48).2.2.2 ?_
      have hF : own_s2 ch = own_s3 ch := by rw [own_s2, own_rng, if_neg hc41, if_pos hc48]
      rw [hF] at hr
      exact sn_51 ch X0 hx hZ hw hby hml hown e0 hret fs hr
    · show Steps p.tables e below (T0.setTop (mkF m 48 #[.val (.int ch)] [(.int (246 : Int32)), (.int ch)])) _
      refine XS.icmpYes X0.here hx rfl (pc0 := 48) (pc' := 184) rfl (hb hby d1_48) rfl (flt hc48).2.2.2 (by decide) (by decide) ?_
      show Steps p.tables e below (T0.setTop (mkF m 184 #[.val (.int ch)] [])) _
      refine XS.iconst X0.here hx rfl (hb hby d1_184) ?_
      show Steps p.tables e below (T0.setTop (mkF m 185 #[.val (.int ch)] [(.int (1 : Int32))])) _
      refine XS.goto X0.here hx rfl (pc0 := 185) (pc' := 189) rfl (hb hby d1_185) (by decide) (by decide) ?_
      show Steps p.tables e below (T0.setTop (mkF m 189 #[.val (.int ch)] [(.int (1 : Int32))])) _
      have hF : own_s2 ch = (1 : Int32) := by rw [own_s2, own_rng, if_neg hc41, if_neg hc48]
      rw [hF] at hr
      exact retN X0 hx (t := .boolean) hret (by simp) (hb hby d1_189) hr
def own_s1 (ch : Int32) : Int32 := own_rng 192 214 ch (own_s2 ch)
set_option maxRecDepth 65536 in
set_option maxHeartbeats 40000000 in
theorem sn_23 {p : Program} {l : Launch} {e : Env} {R : Room} {s : State} {m : MethodId} {args : Array Value} {below : List Frame} {meth : Method} {c : Code} {T0 : State} {locs : List Loc} {cells slots : Nat} {Z : State} {a0 : Array Value} {h0 : Heap} (ch : Int32) (X0 : Stand p l e R s m args below meth c T0 locs cells slots) (hx : p.tables.exec = Jvm.exec) (hZ : Z.Warmed39 s.vm) (hw : ∀ d ∈ tables_1, d.before a0 Z = true) (hby : c.code = prog_240_method_6_code) (hml : c.maxLocals = 1) (hown : s.vm.findClass "com/example/onward/onward/xml/Names" = some m.cls) (e0 : T0.heap = h0) (hret : meth.sig.returnType = some .boolean) (fs : List Frame) (hr : ∀ (f : JFrame) (acts : List Action), f.method = m → f.locked = none → f.entered = [] → (doReturn e (T0.setTop f) acts (some (.int (own_s1 ch)))).1 = T0.setFrames fs) : Steps p.tables e below (T0.setTop (mkF m 23 #[.val (.int ch)] [])) (T0.setFrames fs) := by
  show Steps p.tables e below (T0.setTop (mkF m 23 #[.val (.int ch)] [])) _
  refine XS.iloadN X0.here hx rfl (hb hby d1_23) rfl ?_
  show Steps p.tables e below (T0.setTop (mkF m 24 #[.val (.int ch)] [(.int ch)])) _
  refine XS.sipush X0.here hx rfl (hb hby d1_24) ?_
  by_cases hc27 : ch < (192 : Int32)
  · show Steps p.tables e below (T0.setTop (mkF m 27 #[.val (.int ch)] [(.int (192 : Int32)), (.int ch)])) _
    refine XS.icmpYes X0.here hx rfl (pc0 := 27) (pc' := 37) rfl (hb hby d1_27) rfl (tlt hc27).1 (by decide) (by decide) ?_
    have hF : own_s1 ch = own_s2 ch := by rw [own_s1, own_rng, if_pos hc27]
    rw [hF] at hr
    exact sn_37 ch X0 hx hZ hw hby hml hown e0 hret fs hr
  · show Steps p.tables e below (T0.setTop (mkF m 27 #[.val (.int ch)] [(.int (192 : Int32)), (.int ch)])) _
    refine XS.icmpNo X0.here hx rfl (hb hby d1_27) rfl (flt hc27).1 ?_
    show Steps p.tables e below (T0.setTop (mkF m 30 #[.val (.int ch)] [])) _
    refine XS.iloadN X0.here hx rfl (hb hby d1_30) rfl ?_
    show Steps p.tables e below (T0.setTop (mkF m 31 #[.val (.int ch)] [(.int ch)])) _
    refine XS.sipush X0.here hx rfl (hb hby d1_31) ?_
    by_cases hc34 : (214 : Int32) < ch
    · show Steps p.tables e below (T0.setTop (mkF m 34 #[.val (.int ch)] [(.int (214 : Int32)), (.int ch)])) _
      refine XS.icmpNo X0.here hx rfl (hb hby d1_34) rfl (tlt hc34).2.2.2 ?_
      have hF : own_s1 ch = own_s2 ch := by rw [own_s1, own_rng, if_neg hc27, if_pos hc34]
      rw [hF] at hr
      exact sn_37 ch X0 hx hZ hw hby hml hown e0 hret fs hr
    · show Steps p.tables e below (T0.setTop (mkF m 34 #[.val (.int ch)] [(.int (214 : Int32)), (.int ch)])) _
      refine XS.icmpYes X0.here hx rfl (pc0 := 34) (pc' := 184) rfl (hb hby d1_34) rfl (flt hc34).2.2.2 (by decide) (by decide) ?_
      show Steps p.tables e below (T0.setTop (mkF m 184 #[.val (.int ch)] [])) _
      refine XS.iconst X0.here hx rfl (hb hby d1_184) ?_
      show Steps p.tables e below (T0.setTop (mkF m 185 #[.val (.int ch)] [(.int (1 : Int32))])) _
      refine XS.goto X0.here hx rfl (pc0 := 185) (pc' := 189) rfl (hb hby d1_185) (by decide) (by decide) ?_
      show Steps p.tables e below (T0.setTop (mkF m 189 #[.val (.int ch)] [(.int (1 : Int32))])) _
      have hF : own_s1 ch = (1 : Int32) := by rw [own_s1, own_rng, if_neg hc27, if_neg hc34]
      rw [hF] at hr
      exact retN X0 hx (t := .boolean) hret (by simp) (hb hby d1_189) hr
def own_r12 (ch : Int32) : Int32 := if ch < 983040 then 1 else 0
set_option maxRecDepth 65536 in
set_option maxHeartbeats 40000000 in
theorem rf_205 {p : Program} {l : Launch} {e : Env} {R : Room} {s : State} {m : MethodId} {args : Array Value} {below : List Frame} {meth : Method} {c : Code} {T0 : State} {locs : List Loc} {cells slots : Nat} {Z : State} {a0 : Array Value} {h0 : Heap} (ch : Int32) (X0 : Stand p l e R s m args below meth c T0 locs cells slots) (hx : p.tables.exec = Jvm.exec) (hZ : Z.Warmed39 s.vm) (hw : ∀ d ∈ tables_1, d.before a0 Z = true) (hby : c.code = method_2_code) (hml : c.maxLocals = 1) (hown : s.vm.findClass "com/example/onward/onward/xml/NamesStartsNamePinLaw" = some m.cls) (e0 : T0.heap = h0) (hret : meth.sig.returnType = some .boolean) (fs : List Frame) (hr : ∀ (f : JFrame) (acts : List Action), f.method = m → f.locked = none → f.entered = [] → (doReturn e (T0.setTop f) acts (some (.int (own_r12 ch)))).1 = T0.setFrames fs) : Steps p.tables e below (T0.setTop (mkF m 205 #[.val (.int ch)] [])) (T0.setFrames fs) := by
  show Steps p.tables e below (T0.setTop (mkF m 205 #[.val (.int ch)] [])) _
  refine XS.iloadN X0.here hx rfl (hb hby d2_205) rfl ?_
  show Steps p.tables e below (T0.setTop (mkF m 206 #[.val (.int ch)] [(.int ch)])) _
  refine X0.ldcInt hx hown (mvT hZ (hw _ (List.mem_of_getElem? (i := 31) rfl))) (g := (mkF m 206 #[.val (.int ch)] [(.int ch)])) rfl (hb hby d2_206) _ ?_
  by_cases hc208 : ch < (983040 : Int32)
  · show Steps p.tables e below (T0.setTop (mkF m 208 #[.val (.int ch)] [(.int (983040 : Int32)), (.int ch)])) _
    refine XS.icmpYes X0.here hx rfl (pc0 := 208) (pc' := 213) rfl (hb hby d2_208) rfl (tlt hc208).1 (by decide) (by decide) ?_
    show Steps p.tables e below (T0.setTop (mkF m 213 #[.val (.int ch)] [])) _
    refine XS.iconst X0.here hx rfl (hb hby d2_213) ?_
    show Steps p.tables e below (T0.setTop (mkF m 214 #[.val (.int ch)] [(.int (1 : Int32))])) _
    have hF : own_r12 ch = (1 : Int32) := by rw [own_r12, if_pos hc208]
    rw [hF] at hr
    exact retN X0 hx (t := .boolean) hret (by simp) (hb hby d2_214) hr
  · show Steps p.tables e below (T0.setTop (mkF m 208 #[.val (.int ch)] [(.int (983040 : Int32)), (.int ch)])) _
    refine XS.icmpNo X0.here hx rfl (hb hby d2_208) rfl (flt hc208).1 ?_
    show Steps p.tables e below (T0.setTop (mkF m 211 #[.val (.int ch)] [])) _
    refine XS.iconst X0.here hx rfl (hb hby d2_211) ?_
    show Steps p.tables e below (T0.setTop (mkF m 212 #[.val (.int ch)] [(.int (0 : Int32))])) _
    have hF : own_r12 ch = (0 : Int32) := by rw [own_r12, if_neg hc208]
    rw [hF] at hr
    exact retN X0 hx (t := .boolean) hret (by simp) (hb hby d2_212) hr
def own_r11 (ch : Int32) : Int32 := own_gap 65534 65535 ch (own_r12 ch)
set_option maxRecDepth 65536 in
set_option maxHeartbeats 40000000 in
theorem rf_191 {p : Program} {l : Launch} {e : Env} {R : Room} {s : State} {m : MethodId} {args : Array Value} {below : List Frame} {meth : Method} {c : Code} {T0 : State} {locs : List Loc} {cells slots : Nat} {Z : State} {a0 : Array Value} {h0 : Heap} (ch : Int32) (X0 : Stand p l e R s m args below meth c T0 locs cells slots) (hx : p.tables.exec = Jvm.exec) (hZ : Z.Warmed39 s.vm) (hw : ∀ d ∈ tables_1, d.before a0 Z = true) (hby : c.code = method_2_code) (hml : c.maxLocals = 1) (hown : s.vm.findClass "com/example/onward/onward/xml/NamesStartsNamePinLaw" = some m.cls) (e0 : T0.heap = h0) (hret : meth.sig.returnType = some .boolean) (fs : List Frame) (hr : ∀ (f : JFrame) (acts : List Action), f.method = m → f.locked = none → f.entered = [] → (doReturn e (T0.setTop f) acts (some (.int (own_r11 ch)))).1 = T0.setFrames fs) : Steps p.tables e below (T0.setTop (mkF m 191 #[.val (.int ch)] [])) (T0.setFrames fs) := by
  show Steps p.tables e below (T0.setTop (mkF m 191 #[.val (.int ch)] [])) _
  refine XS.iloadN X0.here hx rfl (hb hby d2_191) rfl ?_
  show Steps p.tables e below (T0.setTop (mkF m 192 #[.val (.int ch)] [(.int ch)])) _
  refine X0.ldcInt hx hown (mvT hZ (hw _ (List.mem_of_getElem? (i := 30) rfl))) (g := (mkF m 192 #[.val (.int ch)] [(.int ch)])) rfl (hb hby d2_192) _ ?_
  by_cases hc194 : ch < (65534 : Int32)
  · show Steps p.tables e below (T0.setTop (mkF m 194 #[.val (.int ch)] [(.int (65534 : Int32)), (.int ch)])) _
    refine XS.icmpYes X0.here hx rfl (pc0 := 194) (pc' := 205) rfl (hb hby d2_194) rfl (tlt hc194).1 (by decide) (by decide) ?_
    have hF : own_r11 ch = own_r12 ch := by rw [own_r11, own_gap, if_pos hc194]
    rw [hF] at hr
    exact rf_205 ch X0 hx hZ hw hby hml hown e0 hret fs hr
  · show Steps p.tables e below (T0.setTop (mkF m 194 #[.val (.int ch)] [(.int (65534 : Int32)), (.int ch)])) _
    refine XS.icmpNo X0.here hx rfl (hb hby d2_194) rfl (flt hc194).1 ?_
    show Steps p.tables e below (T0.setTop (mkF m 197 #[.val (.int ch)] [])) _
    refine XS.iloadN X0.here hx rfl (hb hby d2_197) rfl ?_
    show Steps p.tables e below (T0.setTop (mkF m 198 #[.val (.int ch)] [(.int ch)])) _
    refine X0.ldcInt hx hown (mvT hZ (hw _ (List.mem_of_getElem? (i := 41) rfl))) (g := (mkF m 198 #[.val (.int ch)] [(.int ch)])) rfl (hb hby d2_198) _ ?_
    by_cases hc200 : (65535 : Int32) < ch
    · show Steps p.tables e below (T0.setTop (mkF m 200 #[.val (.int ch)] [(.int (65535 : Int32)), (.int ch)])) _
      refine XS.icmpYes X0.here hx rfl (pc0 := 200) (pc' := 205) rfl (hb hby d2_200) rfl (tlt hc200).2.2.1 (by decide) (by decide) ?_
      have hF : own_r11 ch = own_r12 ch := by rw [own_r11, own_gap, if_neg hc194, if_pos hc200]
      rw [hF] at hr
      exact rf_205 ch X0 hx hZ hw hby hml hown e0 hret fs hr
    · show Steps p.tables e below (T0.setTop (mkF m 200 #[.val (.int ch)] [(.int (65535 : Int32)), (.int ch)])) _
      refine XS.icmpNo X0.here hx rfl (hb hby d2_200) rfl (flt hc200).2.2.1 ?_
      show Steps p.tables e below (T0.setTop (mkF m 203 #[.val (.int ch)] [])) _
      refine XS.iconst X0.here hx rfl (hb hby d2_203) ?_
      show Steps p.tables e below (T0.setTop (mkF m 204 #[.val (.int ch)] [(.int (0 : Int32))])) _
      have hF : own_r11 ch = (0 : Int32) := by rw [own_r11, own_gap, if_neg hc194, if_neg hc200]
      rw [hF] at hr
      exact retN X0 hx (t := .boolean) hret (by simp) (hb hby d2_204) hr
def own_r10 (ch : Int32) : Int32 := own_gap 64976 65007 ch (own_r11 ch)
set_option maxRecDepth 65536 in
set_option maxHeartbeats 40000000 in
theorem rf_177 {p : Program} {l : Launch} {e : Env} {R : Room} {s : State} {m : MethodId} {args : Array Value} {below : List Frame} {meth : Method} {c : Code} {T0 : State} {locs : List Loc} {cells slots : Nat} {Z : State} {a0 : Array Value} {h0 : Heap} (ch : Int32) (X0 : Stand p l e R s m args below meth c T0 locs cells slots) (hx : p.tables.exec = Jvm.exec) (hZ : Z.Warmed39 s.vm) (hw : ∀ d ∈ tables_1, d.before a0 Z = true) (hby : c.code = method_2_code) (hml : c.maxLocals = 1) (hown : s.vm.findClass "com/example/onward/onward/xml/NamesStartsNamePinLaw" = some m.cls) (e0 : T0.heap = h0) (hret : meth.sig.returnType = some .boolean) (fs : List Frame) (hr : ∀ (f : JFrame) (acts : List Action), f.method = m → f.locked = none → f.entered = [] → (doReturn e (T0.setTop f) acts (some (.int (own_r10 ch)))).1 = T0.setFrames fs) : Steps p.tables e below (T0.setTop (mkF m 177 #[.val (.int ch)] [])) (T0.setFrames fs) := by
  show Steps p.tables e below (T0.setTop (mkF m 177 #[.val (.int ch)] [])) _
  refine XS.iloadN X0.here hx rfl (hb hby d2_177) rfl ?_
  show Steps p.tables e below (T0.setTop (mkF m 178 #[.val (.int ch)] [(.int ch)])) _
  refine X0.ldcInt hx hown (mvT hZ (hw _ (List.mem_of_getElem? (i := 29) rfl))) (g := (mkF m 178 #[.val (.int ch)] [(.int ch)])) rfl (hb hby d2_178) _ ?_
  by_cases hc180 : ch < (64976 : Int32)
  · show Steps p.tables e below (T0.setTop (mkF m 180 #[.val (.int ch)] [(.int (64976 : Int32)), (.int ch)])) _
    refine XS.icmpYes X0.here hx rfl (pc0 := 180) (pc' := 191) rfl (hb hby d2_180) rfl (tlt hc180).1 (by decide) (by decide) ?_
    have hF : own_r10 ch = own_r11 ch := by rw [own_r10, own_gap, if_pos hc180]
    rw [hF] at hr
    exact rf_191 ch X0 hx hZ hw hby hml hown e0 hret fs hr
  · show Steps p.tables e below (T0.setTop (mkF m 180 #[.val (.int ch)] [(.int (64976 : Int32)), (.int ch)])) _
    refine XS.icmpNo X0.here hx rfl (hb hby d2_180) rfl (flt hc180).1 ?_
    show Steps p.tables e below (T0.setTop (mkF m 183 #[.val (.int ch)] [])) _
    refine XS.iloadN X0.here hx rfl (hb hby d2_183) rfl ?_
    show Steps p.tables e below (T0.setTop (mkF m 184 #[.val (.int ch)] [(.int ch)])) _
    refine X0.ldcInt hx hown (mvT hZ (hw _ (List.mem_of_getElem? (i := 40) rfl))) (g := (mkF m 184 #[.val (.int ch)] [(.int ch)])) rfl (hb hby d2_184) _ ?_
    by_cases hc186 : (65007 : Int32) < ch
    · show Steps p.tables e below (T0.setTop (mkF m 186 #[.val (.int ch)] [(.int (65007 : Int32)), (.int ch)])) _
      refine XS.icmpYes X0.here hx rfl (pc0 := 186) (pc' := 191) rfl (hb hby d2_186) rfl (tlt hc186).2.2.1 (by decide) (by decide) ?_
      have hF : own_r10 ch = own_r11 ch := by rw [own_r10, own_gap, if_neg hc180, if_pos hc186]
      rw [hF] at hr
      exact rf_191 ch X0 hx hZ hw hby hml hown e0 hret fs hr
    · show Steps p.tables e below (T0.setTop (mkF m 186 #[.val (.int ch)] [(.int (65007 : Int32)), (.int ch)])) _
      refine XS.icmpNo X0.here hx rfl (hb hby d2_186) rfl (flt hc186).2.2.1 ?_
      show Steps p.tables e below (T0.setTop (mkF m 189 #[.val (.int ch)] [])) _
      refine XS.iconst X0.here hx rfl (hb hby d2_189) ?_
      show Steps p.tables e below (T0.setTop (mkF m 190 #[.val (.int ch)] [(.int (0 : Int32))])) _
      have hF : own_r10 ch = (0 : Int32) := by rw [own_r10, own_gap, if_neg hc180, if_neg hc186]
      rw [hF] at hr
      exact retN X0 hx (t := .boolean) hret (by simp) (hb hby d2_190) hr
def own_r9 (ch : Int32) : Int32 := own_gap 55296 63743 ch (own_r10 ch)
set_option maxRecDepth 65536 in
set_option maxHeartbeats 40000000 in
theorem rf_163 {p : Program} {l : Launch} {e : Env} {R : Room} {s : State} {m : MethodId} {args : Array Value} {below : List Frame} {meth : Method} {c : Code} {T0 : State} {locs : List Loc} {cells slots : Nat} {Z : State} {a0 : Array Value} {h0 : Heap} (ch : Int32) (X0 : Stand p l e R s m args below meth c T0 locs cells slots) (hx : p.tables.exec = Jvm.exec) (hZ : Z.Warmed39 s.vm) (hw : ∀ d ∈ tables_1, d.before a0 Z = true) (hby : c.code = method_2_code) (hml : c.maxLocals = 1) (hown : s.vm.findClass "com/example/onward/onward/xml/NamesStartsNamePinLaw" = some m.cls) (e0 : T0.heap = h0) (hret : meth.sig.returnType = some .boolean) (fs : List Frame) (hr : ∀ (f : JFrame) (acts : List Action), f.method = m → f.locked = none → f.entered = [] → (doReturn e (T0.setTop f) acts (some (.int (own_r9 ch)))).1 = T0.setFrames fs) : Steps p.tables e below (T0.setTop (mkF m 163 #[.val (.int ch)] [])) (T0.setFrames fs) := by
  show Steps p.tables e below (T0.setTop (mkF m 163 #[.val (.int ch)] [])) _
  refine XS.iloadN X0.here hx rfl (hb hby d2_163) rfl ?_
  show Steps p.tables e below (T0.setTop (mkF m 164 #[.val (.int ch)] [(.int ch)])) _
  refine X0.ldcInt hx hown (mvT hZ (hw _ (List.mem_of_getElem? (i := 28) rfl))) (g := (mkF m 164 #[.val (.int ch)] [(.int ch)])) rfl (hb hby d2_164) _ ?_
  by_cases hc166 : ch < (55296 : Int32)
  · show Steps p.tables e below (T0.setTop (mkF m 166 #[.val (.int ch)] [(.int (55296 : Int32)), (.int ch)])) _
    refine XS.icmpYes X0.here hx rfl (pc0 := 166) (pc' := 177) rfl (hb hby d2_166) rfl (tlt hc166).1 (by decide) (by decide) ?_
    have hF : own_r9 ch = own_r10 ch := by rw [own_r9, own_gap, if_pos hc166]
    rw [hF] at hr
    exact rf_177 ch X0 hx hZ hw hby hml hown e0 hret fs hr
  · show Steps p.tables e below (T0.setTop (mkF m 166 #[.val (.int ch)] [(.int (55296 : Int32)), (.int ch)])) _
    refine XS.icmpNo X0.here hx rfl (hb hby d2_166) rfl (flt hc166).1 ?_
    show Steps p.tables e below (T0.setTop (mkF m 169 #[.val (.int ch)] [])) _
    refine XS.iloadN X0.here hx rfl (hb hby d2_169) rfl ?_
    show Steps p.tables e below (T0.setTop (mkF m 170 #[.val (.int ch)] [(.int ch)])) _
    refine X0.ldcInt hx hown (mvT hZ (hw _ (List.mem_of_getElem? (i := 39) rfl))) (g := (mkF m 170 #[.val (.int ch)] [(.int ch)])) rfl (hb hby d2_170) _ ?_
    by_cases hc172 : (63743 : Int32) < ch
    · show Steps p.tables e below (T0.setTop (mkF m 172 #[.val (.int ch)] [(.int (63743 : Int32)), (.int ch)])) _
      refine XS.icmpYes X0.here hx rfl (pc0 := 172) (pc' := 177) rfl (hb hby d2_172) rfl (tlt hc172).2.2.1 (by decide) (by decide) ?_
      have hF : own_r9 ch = own_r10 ch := by rw [own_r9, own_gap, if_neg hc166, if_pos hc172]
      rw [hF] at hr
      exact rf_177 ch X0 hx hZ hw hby hml hown e0 hret fs hr
    · show Steps p.tables e below (T0.setTop (mkF m 172 #[.val (.int ch)] [(.int (63743 : Int32)), (.int ch)])) _
      refine XS.icmpNo X0.here hx rfl (hb hby d2_172) rfl (flt hc172).2.2.1 ?_
      show Steps p.tables e below (T0.setTop (mkF m 175 #[.val (.int ch)] [])) _
      refine XS.iconst X0.here hx rfl (hb hby d2_175) ?_
      show Steps p.tables e below (T0.setTop (mkF m 176 #[.val (.int ch)] [(.int (0 : Int32))])) _
      have hF : own_r9 ch = (0 : Int32) := by rw [own_r9, own_gap, if_neg hc166, if_neg hc172]
      rw [hF] at hr
      exact retN X0 hx (t := .boolean) hret (by simp) (hb hby d2_176) hr
def own_r8 (ch : Int32) : Int32 := own_gap 12272 12288 ch (own_r9 ch)
set_option maxRecDepth 65536 in
set_option maxHeartbeats 40000000 in
theorem rf_147 {p : Program} {l : Launch} {e : Env} {R : Room} {s : State} {m : MethodId} {args : Array Value} {below : List Frame} {meth : Method} {c : Code} {T0 : State} {locs : List Loc} {cells slots : Nat} {Z : State} {a0 : Array Value} {h0 : Heap} (ch : Int32) (X0 : Stand p l e R s m args below meth c T0 locs cells slots) (hx : p.tables.exec = Jvm.exec) (hZ : Z.Warmed39 s.vm) (hw : ∀ d ∈ tables_1, d.before a0 Z = true) (hby : c.code = method_2_code) (hml : c.maxLocals = 1) (hown : s.vm.findClass "com/example/onward/onward/xml/NamesStartsNamePinLaw" = some m.cls) (e0 : T0.heap = h0) (hret : meth.sig.returnType = some .boolean) (fs : List Frame) (hr : ∀ (f : JFrame) (acts : List Action), f.method = m → f.locked = none → f.entered = [] → (doReturn e (T0.setTop f) acts (some (.int (own_r8 ch)))).1 = T0.setFrames fs) : Steps p.tables e below (T0.setTop (mkF m 147 #[.val (.int ch)] [])) (T0.setFrames fs) := by
  show Steps p.tables e below (T0.setTop (mkF m 147 #[.val (.int ch)] [])) _
  refine XS.iloadN X0.here hx rfl (hb hby d2_147) rfl ?_
  show Steps p.tables e below (T0.setTop (mkF m 148 #[.val (.int ch)] [(.int ch)])) _
  refine XS.sipush X0.here hx rfl (hb hby d2_148) ?_
  by_cases hc151 : ch < (12272 : Int32)
  · show Steps p.tables e below (T0.setTop (mkF m 151 #[.val (.int ch)] [(.int (12272 : Int32)), (.int ch)])) _
    refine XS.icmpYes X0.here hx rfl (pc0 := 151) (pc' := 163) rfl (hb hby d2_151) rfl (tlt hc151).1 (by decide) (by decide) ?_
    have hF : own_r8 ch = own_r9 ch := by rw [own_r8, own_gap, if_pos hc151]
    rw [hF] at hr
    exact rf_163 ch X0 hx hZ hw hby hml hown e0 hret fs hr
  · show Steps p.tables e below (T0.setTop (mkF m 151 #[.val (.int ch)] [(.int (12272 : Int32)), (.int ch)])) _
    refine XS.icmpNo X0.here hx rfl (hb hby d2_151) rfl (flt hc151).1 ?_
    show Steps p.tables e below (T0.setTop (mkF m 154 #[.val (.int ch)] [])) _
    refine XS.iloadN X0.here hx rfl (hb hby d2_154) rfl ?_
    show Steps p.tables e below (T0.setTop (mkF m 155 #[.val (.int ch)] [(.int ch)])) _
    refine XS.sipush X0.here hx rfl (hb hby d2_155) ?_
    by_cases hc158 : (12288 : Int32) < ch
    · show Steps p.tables e below (T0.setTop (mkF m 158 #[.val (.int ch)] [(.int (12288 : Int32)), (.int ch)])) _
      refine XS.icmpYes X0.here hx rfl (pc0 := 158) (pc' := 163) rfl (hb hby d2_158) rfl (tlt hc158).2.2.1 (by decide) (by decide) ?_
      have hF : own_r8 ch = own_r9 ch := by rw [own_r8, own_gap, if_neg hc151, if_pos hc158]
      rw [hF] at hr
      exact rf_163 ch X0 hx hZ hw hby hml hown e0 hret fs hr
    · show Steps p.tables e below (T0.setTop (mkF m 158 #[.val (.int ch)] [(.int (12288 : Int32)), (.int ch)])) _
      refine XS.icmpNo X0.here hx rfl (hb hby d2_158) rfl (flt hc158).2.2.1 ?_
      show Steps p.tables e below (T0.setTop (mkF m 161 #[.val (.int ch)] [])) _
      refine XS.iconst X0.here hx rfl (hb hby d2_161) ?_
      show Steps p.tables e below (T0.setTop (mkF m 162 #[.val (.int ch)] [(.int (0 : Int32))])) _
      have hF : own_r8 ch = (0 : Int32) := by rw [own_r8, own_gap, if_neg hc151, if_neg hc158]
      rw [hF] at hr
      exact retN X0 hx (t := .boolean) hret (by simp) (hb hby d2_162) hr
def own_r7 (ch : Int32) : Int32 := own_gap 8592 11263 ch (own_r8 ch)
set_option maxRecDepth 65536 in
set_option maxHeartbeats 40000000 in
theorem rf_131 {p : Program} {l : Launch} {e : Env} {R : Room} {s : State} {m : MethodId} {args : Array Value} {below : List Frame} {meth : Method} {c : Code} {T0 : State} {locs : List Loc} {cells slots : Nat} {Z : State} {a0 : Array Value} {h0 : Heap} (ch : Int32) (X0 : Stand p l e R s m args below meth c T0 locs cells slots) (hx : p.tables.exec = Jvm.exec) (hZ : Z.Warmed39 s.vm) (hw : ∀ d ∈ tables_1, d.before a0 Z = true) (hby : c.code = method_2_code) (hml : c.maxLocals = 1) (hown : s.vm.findClass "com/example/onward/onward/xml/NamesStartsNamePinLaw" = some m.cls) (e0 : T0.heap = h0) (hret : meth.sig.returnType = some .boolean) (fs : List Frame) (hr : ∀ (f : JFrame) (acts : List Action), f.method = m → f.locked = none → f.entered = [] → (doReturn e (T0.setTop f) acts (some (.int (own_r7 ch)))).1 = T0.setFrames fs) : Steps p.tables e below (T0.setTop (mkF m 131 #[.val (.int ch)] [])) (T0.setFrames fs) := by
  show Steps p.tables e below (T0.setTop (mkF m 131 #[.val (.int ch)] [])) _
  refine XS.iloadN X0.here hx rfl (hb hby d2_131) rfl ?_
  show Steps p.tables e below (T0.setTop (mkF m 132 #[.val (.int ch)] [(.int ch)])) _
  refine XS.sipush X0.here hx rfl (hb hby d2_132) ?_
  by_cases hc135 : ch < (8592 : Int32)
  · show Steps p.tables e below (T0.setTop (mkF m 135 #[.val (.int ch)] [(.int (8592 : Int32)), (.int ch)])) _
    refine XS.icmpYes X0.here hx rfl (pc0 := 135) (pc' := 147) rfl (hb hby d2_135) rfl (tlt hc135).1 (by decide) (by decide) ?_
    have hF : own_r7 ch = own_r8 ch := by rw [own_r7, own_gap, if_pos hc135]
    rw [hF] at hr
    exact rf_147 ch X0 hx hZ hw hby hml hown e0 hret fs hr
  · show Steps p.tables e below (T0.setTop (mkF m 135 #[.val (.int ch)] [(.int (8592 : Int32)), (.int ch)])) _
    refine XS.icmpNo X0.here hx rfl (hb hby d2_135) rfl (flt hc135).1 ?_
    show Steps p.tables e below (T0.setTop (mkF m 138 #[.val (.int ch)] [])) _
    refine XS.iloadN X0.here hx rfl (hb hby d2_138) rfl ?_
    show Steps p.tables e below (T0.setTop (mkF m 139 #[.val (.int ch)] [(.int ch)])) _
    refine XS.sipush X0.here hx rfl (hb hby d2_139) ?_
    by_cases hc142 : (11263 : Int32) < ch
    · show Steps p.tables e below (T0.setTop (mkF m 142 #[.val (.int ch)] [(.int (11263 : Int32)), (.int ch)])) _
      refine XS.icmpYes X0.here hx rfl (pc0 := 142) (pc' := 147) rfl (hb hby d2_142) rfl (tlt hc142).2.2.1 (by decide) (by decide) ?_
      have hF : own_r7 ch = own_r8 ch := by rw [own_r7, own_gap, if_neg hc135, if_pos hc142]
      rw [hF] at hr
      exact rf_147 ch X0 hx hZ hw hby hml hown e0 hret fs hr
    · show Steps p.tables e below (T0.setTop (mkF m 142 #[.val (.int ch)] [(.int (11263 : Int32)), (.int ch)])) _
      refine XS.icmpNo X0.here hx rfl (hb hby d2_142) rfl (flt hc142).2.2.1 ?_
      show Steps p.tables e below (T0.setTop (mkF m 145 #[.val (.int ch)] [])) _
      refine XS.iconst X0.here hx rfl (hb hby d2_145) ?_
      show Steps p.tables e below (T0.setTop (mkF m 146 #[.val (.int ch)] [(.int (0 : Int32))])) _
      have hF : own_r7 ch = (0 : Int32) := by rw [own_r7, own_gap, if_neg hc135, if_neg hc142]
      rw [hF] at hr
      exact retN X0 hx (t := .boolean) hret (by simp) (hb hby d2_146) hr
def own_r6 (ch : Int32) : Int32 := own_gap 8206 8303 ch (own_r7 ch)
set_option maxRecDepth 65536 in
set_option maxHeartbeats 40000000 in
theorem rf_115 {p : Program} {l : Launch} {e : Env} {R : Room} {s : State} {m : MethodId} {args : Array Value} {below : List Frame} {meth : Method} {c : Code} {T0 : State} {locs : List Loc} {cells slots : Nat} {Z : State} {a0 : Array Value} {h0 : Heap} (ch : Int32) (X0 : Stand p l e R s m args below meth c T0 locs cells slots) (hx : p.tables.exec = Jvm.exec) (hZ : Z.Warmed39 s.vm) (hw : ∀ d ∈ tables_1, d.before a0 Z = true) (hby : c.code = method_2_code) (hml : c.maxLocals = 1) (hown : s.vm.findClass "com/example/onward/onward/xml/NamesStartsNamePinLaw" = some m.cls) (e0 : T0.heap = h0) (hret : meth.sig.returnType = some .boolean) (fs : List Frame) (hr : ∀ (f : JFrame) (acts : List Action), f.method = m → f.locked = none → f.entered = [] → (doReturn e (T0.setTop f) acts (some (.int (own_r6 ch)))).1 = T0.setFrames fs) : Steps p.tables e below (T0.setTop (mkF m 115 #[.val (.int ch)] [])) (T0.setFrames fs) := by
  show Steps p.tables e below (T0.setTop (mkF m 115 #[.val (.int ch)] [])) _
  refine XS.iloadN X0.here hx rfl (hb hby d2_115) rfl ?_
  show Steps p.tables e below (T0.setTop (mkF m 116 #[.val (.int ch)] [(.int ch)])) _
  refine XS.sipush X0.here hx rfl (hb hby d2_116) ?_
  by_cases hc119 : ch < (8206 : Int32)
  · show Steps p.tables e below (T0.setTop (mkF m 119 #[.val (.int ch)] [(.int (8206 : Int32)), (.int ch)])) _
    refine XS.icmpYes X0.here hx rfl (pc0 := 119) (pc' := 131) rfl (hb hby d2_119) rfl (tlt hc119).1 (by decide) (by decide) ?_
    have hF : own_r6 ch = own_r7 ch := by rw [own_r6, own_gap, if_pos hc119]
    rw [hF] at hr
    exact rf_131 ch X0 hx hZ hw hby hml hown e0 hret fs hr
  · show Steps p.tables e below (T0.setTop (mkF m 119 #[.val (.int ch)] [(.int (8206 : Int32)), (.int ch)])) _
    refine XS.icmpNo X0.here hx rfl (hb hby d2_119) rfl (flt hc119).1 ?_
    show Steps p.tables e below (T0.setTop (mkF m 122 #[.val (.int ch)] [])) _
    refine XS.iloadN X0.here hx rfl (hb hby d2_122) rfl ?_
    show Steps p.tables e below (T0.setTop (mkF m 123 #[.val (.int ch)] [(.int ch)])) _
    refine XS.sipush X0.here hx rfl (hb hby d2_123) ?_
    by_cases hc126 : (8303 : Int32) < ch
    · show Steps p.tables e below (T0.setTop (mkF m 126 #[.val (.int ch)] [(.int (8303 : Int32)), (.int ch)])) _
      refine XS.icmpYes X0.here hx rfl (pc0 := 126) (pc' := 131) rfl (hb hby d2_126) rfl (tlt hc126).2.2.1 (by decide) (by decide) ?_
      have hF : own_r6 ch = own_r7 ch := by rw [own_r6, own_gap, if_neg hc119, if_pos hc126]
      rw [hF] at hr
      exact rf_131 ch X0 hx hZ hw hby hml hown e0 hret fs hr
    · show Steps p.tables e below (T0.setTop (mkF m 126 #[.val (.int ch)] [(.int (8303 : Int32)), (.int ch)])) _
      refine XS.icmpNo X0.here hx rfl (hb hby d2_126) rfl (flt hc126).2.2.1 ?_
      show Steps p.tables e below (T0.setTop (mkF m 129 #[.val (.int ch)] [])) _
      refine XS.iconst X0.here hx rfl (hb hby d2_129) ?_
      show Steps p.tables e below (T0.setTop (mkF m 130 #[.val (.int ch)] [(.int (0 : Int32))])) _
      have hF : own_r6 ch = (0 : Int32) := by rw [own_r6, own_gap, if_neg hc119, if_neg hc126]
      rw [hF] at hr
      exact retN X0 hx (t := .boolean) hret (by simp) (hb hby d2_130) hr
def own_r5 (ch : Int32) : Int32 := own_gap 8192 8203 ch (own_r6 ch)
set_option maxRecDepth 65536 in
set_option maxHeartbeats 40000000 in
theorem rf_99 {p : Program} {l : Launch} {e : Env} {R : Room} {s : State} {m : MethodId} {args : Array Value} {below : List Frame} {meth : Method} {c : Code} {T0 : State} {locs : List Loc} {cells slots : Nat} {Z : State} {a0 : Array Value} {h0 : Heap} (ch : Int32) (X0 : Stand p l e R s m args below meth c T0 locs cells slots) (hx : p.tables.exec = Jvm.exec) (hZ : Z.Warmed39 s.vm) (hw : ∀ d ∈ tables_1, d.before a0 Z = true) (hby : c.code = method_2_code) (hml : c.maxLocals = 1) (hown : s.vm.findClass "com/example/onward/onward/xml/NamesStartsNamePinLaw" = some m.cls) (e0 : T0.heap = h0) (hret : meth.sig.returnType = some .boolean) (fs : List Frame) (hr : ∀ (f : JFrame) (acts : List Action), f.method = m → f.locked = none → f.entered = [] → (doReturn e (T0.setTop f) acts (some (.int (own_r5 ch)))).1 = T0.setFrames fs) : Steps p.tables e below (T0.setTop (mkF m 99 #[.val (.int ch)] [])) (T0.setFrames fs) := by
  show Steps p.tables e below (T0.setTop (mkF m 99 #[.val (.int ch)] [])) _
  refine XS.iloadN X0.here hx rfl (hb hby d2_99) rfl ?_
  show Steps p.tables e below (T0.setTop (mkF m 100 #[.val (.int ch)] [(.int ch)])) _
  refine XS.sipush X0.here hx rfl (hb hby d2_100) ?_
  by_cases hc103 : ch < (8192 : Int32)
  · show Steps p.tables e below (T0.setTop (mkF m 103 #[.val (.int ch)] [(.int (8192 : Int32)), (.int ch)])) _
    refine XS.icmpYes X0.here hx rfl (pc0 := 103) (pc' := 115) rfl (hb hby d2_103) rfl (tlt hc103).1 (by decide) (by decide) ?_
    have hF : own_r5 ch = own_r6 ch := by rw [own_r5, own_gap, if_pos hc103]
    rw [hF] at hr
    exact rf_115 ch X0 hx hZ hw hby hml hown e0 hret fs hr
  · show Steps p.tables e below (T0.setTop (mkF m 103 #[.val (.int ch)] [(.int (8192 : Int32)), (.int ch)])) _
    refine XS.icmpNo X0.here hx rfl (hb hby d2_103) rfl (flt hc103).1 ?_
    show Steps p.tables e below (T0.setTop (mkF m 106 #[.val (.int ch)] [])) _
    refine XS.iloadN X0.here hx rfl (hb hby d2_106) rfl ?_
    show Steps p.tables e below (T0.setTop (mkF m 107 #[.val (.int ch)] [(.int ch)])) _
    refine XS.sipush X0.here hx rfl (hb hby d2_107) ?_
    by_cases hc110 : (8203 : Int32) < ch
    · show Steps p.tables e below (T0.setTop (mkF m 110 #[.val (.int ch)] [(.int (8203 : Int32)), (.int ch)])) _
      refine XS.icmpYes X0.here hx rfl (pc0 := 110) (pc' := 115) rfl (hb hby d2_110) rfl (tlt hc110).2.2.1 (by decide) (by decide) ?_
      have hF : own_r5 ch = own_r6 ch := by rw [own_r5, own_gap, if_neg hc103, if_pos hc110]
      rw [hF] at hr
      exact rf_115 ch X0 hx hZ hw hby hml hown e0 hret fs hr
    · show Steps p.tables e below (T0.setTop (mkF m 110 #[.val (.int ch)] [(.int (8203 : Int32)), (.int ch)])) _
      refine XS.icmpNo X0.here hx rfl (hb hby d2_110) rfl (flt hc110).2.2.1 ?_
      show Steps p.tables e below (T0.setTop (mkF m 113 #[.val (.int ch)] [])) _
      refine XS.iconst X0.here hx rfl (hb hby d2_113) ?_
      show Steps p.tables e below (T0.setTop (mkF m 114 #[.val (.int ch)] [(.int (0 : Int32))])) _
      have hF : own_r5 ch = (0 : Int32) := by rw [own_r5, own_gap, if_neg hc103, if_neg hc110]
      rw [hF] at hr
      exact retN X0 hx (t := .boolean) hret (by simp) (hb hby d2_114) hr
def own_r4 (ch : Int32) : Int32 := if ch = 894 then 0 else own_r5 ch
set_option maxRecDepth 65536 in
set_option maxHeartbeats 40000000 in
theorem rf_90 {p : Program} {l : Launch} {e : Env} {R : Room} {s : State} {m : MethodId} {args : Array Value} {below : List Frame} {meth : Method} {c : Code} {T0 : State} {locs : List Loc} {cells slots : Nat} {Z : State} {a0 : Array Value} {h0 : Heap} (ch : Int32) (X0 : Stand p l e R s m args below meth c T0 locs cells slots) (hx : p.tables.exec = Jvm.exec) (hZ : Z.Warmed39 s.vm) (hw : ∀ d ∈ tables_1, d.before a0 Z = true) (hby : c.code = method_2_code) (hml : c.maxLocals = 1) (hown : s.vm.findClass "com/example/onward/onward/xml/NamesStartsNamePinLaw" = some m.cls) (e0 : T0.heap = h0) (hret : meth.sig.returnType = some .boolean) (fs : List Frame) (hr : ∀ (f : JFrame) (acts : List Action), f.method = m → f.locked = none → f.entered = [] → (doReturn e (T0.setTop f) acts (some (.int (own_r4 ch)))).1 = T0.setFrames fs) : Steps p.tables e below (T0.setTop (mkF m 90 #[.val (.int ch)] [])) (T0.setFrames fs) := by
  show Steps p.tables e below (T0.setTop (mkF m 90 #[.val (.int ch)] [])) _
  refine XS.iloadN X0.here hx rfl (hb hby d2_90) rfl ?_
  show Steps p.tables e below (T0.setTop (mkF m 91 #[.val (.int ch)] [(.int ch)])) _
  refine XS.sipush X0.here hx rfl (hb hby d2_91) ?_
  by_cases hc94 : ch = (894 : Int32)
  · show Steps p.tables e below (T0.setTop (mkF m 94 #[.val (.int ch)] [(.int (894 : Int32)), (.int ch)])) _
    refine XS.icmpNo X0.here hx rfl (hb hby d2_94) rfl (teq hc94).2 ?_
    show Steps p.tables e below (T0.setTop (mkF m 97 #[.val (.int ch)] [])) _
    refine XS.iconst X0.here hx rfl (hb hby d2_97) ?_
    show Steps p.tables e below (T0.setTop (mkF m 98 #[.val (.int ch)] [(.int (0 : Int32))])) _
    have hF : own_r4 ch = (0 : Int32) := by rw [own_r4, if_pos hc94]
    rw [hF] at hr
    exact retN X0 hx (t := .boolean) hret (by simp) (hb hby d2_98) hr
  · show Steps p.tables e below (T0.setTop (mkF m 94 #[.val (.int ch)] [(.int (894 : Int32)), (.int ch)])) _
    refine XS.icmpYes X0.here hx rfl (pc0 := 94) (pc' := 99) rfl (hb hby d2_94) rfl (feq hc94).2 (by decide) (by decide) ?_
    have hF : own_r4 ch = own_r5 ch := by rw [own_r4, if_neg hc94]
    rw [hF] at hr
    exact rf_99 ch X0 hx hZ hw hby hml hown e0 hret fs hr
def own_r3 (ch : Int32) : Int32 := own_gap 768 879 ch (own_r4 ch)
set_option maxRecDepth 65536 in
set_option maxHeartbeats 40000000 in
theorem rf_74 {p : Program} {l : Launch} {e : Env} {R : Room} {s : State} {m : MethodId} {args : Array Value} {below : List Frame} {meth : Method} {c : Code} {T0 : State} {locs : List Loc} {cells slots : Nat} {Z : State} {a0 : Array Value} {h0 : Heap} (ch : Int32) (X0 : Stand p l e R s m args below meth c T0 locs cells slots) (hx : p.tables.exec = Jvm.exec) (hZ : Z.Warmed39 s.vm) (hw : ∀ d ∈ tables_1, d.before a0 Z = true) (hby : c.code = method_2_code) (hml : c.maxLocals = 1) (hown : s.vm.findClass "com/example/onward/onward/xml/NamesStartsNamePinLaw" = some m.cls) (e0 : T0.heap = h0) (hret : meth.sig.returnType = some .boolean) (fs : List Frame) (hr : ∀ (f : JFrame) (acts : List Action), f.method = m → f.locked = none → f.entered = [] → (doReturn e (T0.setTop f) acts (some (.int (own_r3 ch)))).1 = T0.setFrames fs) : Steps p.tables e below (T0.setTop (mkF m 74 #[.val (.int ch)] [])) (T0.setFrames fs) := by
  show Steps p.tables e below (T0.setTop (mkF m 74 #[.val (.int ch)] [])) _
  refine XS.iloadN X0.here hx rfl (hb hby d2_74) rfl ?_
  show Steps p.tables e below (T0.setTop (mkF m 75 #[.val (.int ch)] [(.int ch)])) _
  refine XS.sipush X0.here hx rfl (hb hby d2_75) ?_
  by_cases hc78 : ch < (768 : Int32)
  · show Steps p.tables e below (T0.setTop (mkF m 78 #[.val (.int ch)] [(.int (768 : Int32)), (.int ch)])) _
    refine XS.icmpYes X0.here hx rfl (pc0 := 78) (pc' := 90) rfl (hb hby d2_78) rfl (tlt hc78).1 (by decide) (by decide) ?_
    have hF : own_r3 ch = own_r4 ch := by rw [own_r3, own_gap, if_pos hc78]
    rw [hF] at hr
    exact rf_90 ch X0 hx hZ hw hby hml hown e0 hret fs hr
  · show Steps p.tables e below (T0.setTop (mkF m 78 #[.val (.int ch)] [(.int (768 : Int32)), (.int ch)])) _
    refine XS.icmpNo X0.here hx rfl (hb hby d2_78) rfl (flt hc78).1 ?_
    show Steps p.tables e below (T0.setTop (mkF m 81 #[.val (.int ch)] [])) _
    refine XS.iloadN X0.here hx rfl (hb hby d2_81) rfl ?_
    show Steps p.tables e below (T0.setTop (mkF m 82 #[.val (.int ch)] [(.int ch)])) _
    refine XS.sipush X0.here hx rfl (hb hby d2_82) ?_
    by_cases hc85 : (879 : Int32) < ch
    · show Steps p.tables e below (T0.setTop (mkF m 85 #[.val (.int ch)] [(.int (879 : Int32)), (.int ch)])) _
      refine XS.icmpYes X0.here hx rfl (pc0 := 85) (pc' := 90) rfl (hb hby d2_85) rfl (tlt hc85).2.2.1 (by decide) (by decide) ?_
      have hF : own_r3 ch = own_r4 ch := by rw [own_r3, own_gap, if_neg hc78, if_pos hc85]
      rw [hF] at hr
      exact rf_90 ch X0 hx hZ hw hby hml hown e0 hret fs hr
    · show Steps p.tables e below (T0.setTop (mkF m 85 #[.val (.int ch)] [(.int (879 : Int32)), (.int ch)])) _
      refine XS.icmpNo X0.here hx rfl (hb hby d2_85) rfl (flt hc85).2.2.1 ?_
      show Steps p.tables e below (T0.setTop (mkF m 88 #[.val (.int ch)] [])) _
      refine XS.iconst X0.here hx rfl (hb hby d2_88) ?_
      show Steps p.tables e below (T0.setTop (mkF m 89 #[.val (.int ch)] [(.int (0 : Int32))])) _
      have hF : own_r3 ch = (0 : Int32) := by rw [own_r3, own_gap, if_neg hc78, if_neg hc85]
      rw [hF] at hr
      exact retN X0 hx (t := .boolean) hret (by simp) (hb hby d2_89) hr
def own_r2 (ch : Int32) : Int32 := if ch = 215 then 0 else if ch = 247 then 0 else own_r3 ch
set_option maxRecDepth 65536 in
set_option maxHeartbeats 40000000 in
theorem rf_58 {p : Program} {l : Launch} {e : Env} {R : Room} {s : State} {m : MethodId} {args : Array Value} {below : List Frame} {meth : Method} {c : Code} {T0 : State} {locs : List Loc} {cells slots : Nat} {Z : State} {a0 : Array Value} {h0 : Heap} (ch : Int32) (X0 : Stand p l e R s m args below meth c T0 locs cells slots) (hx : p.tables.exec = Jvm.exec) (hZ : Z.Warmed39 s.vm) (hw : ∀ d ∈ tables_1, d.before a0 Z = true) (hby : c.code = method_2_code) (hml : c.maxLocals = 1) (hown : s.vm.findClass "com/example/onward/onward/xml/NamesStartsNamePinLaw" = some m.cls) (e0 : T0.heap = h0) (hret : meth.sig.returnType = some .boolean) (fs : List Frame) (hr : ∀ (f : JFrame) (acts : List Action), f.method = m → f.locked = none → f.entered = [] → (doReturn e (T0.setTop f) acts (some (.int (own_r2 ch)))).1 = T0.setFrames fs) : Steps p.tables e below (T0.setTop (mkF m 58 #[.val (.int ch)] [])) (T0.setFrames fs) := by
  show Steps p.tables e below (T0.setTop (mkF m 58 #[.val (.int ch)] [])) _
  refine XS.iloadN X0.here hx rfl (hb hby d2_58) rfl ?_
  show Steps p.tables e below (T0.setTop (mkF m 59 #[.val (.int ch)] [(.int ch)])) _
  refine XS.sipush X0.here hx rfl (hb hby d2_59) ?_
  by_cases hc62 : ch = (215 : Int32)
  · show Steps p.tables e below (T0.setTop (mkF m 62 #[.val (.int ch)] [(.int (215 : Int32)), (.int ch)])) _
    refine XS.icmpYes X0.here hx rfl (pc0 := 62) (pc' := 72) rfl (hb hby d2_62) rfl (teq hc62).1 (by decide) (by decide) ?_
    show Steps p.tables e below (T0.setTop (mkF m 72 #[.val (.int ch)] [])) _
    refine XS.iconst X0.here hx rfl (hb hby d2_72) ?_
    show Steps p.tables e below (T0.setTop (mkF m 73 #[.val (.int ch)] [(.int (0 : Int32))])) _
    have hF : own_r2 ch = (0 : Int32) := by rw [own_r2, if_pos hc62]
    rw [hF] at hr
    exact retN X0 hx (t := .boolean) hret (by simp) (hb hby d2_73) hr
  · show Steps p.tables e below (T0.setTop (mkF m 62 #[.val (.int ch)] [(.int (215 : Int32)), (.int ch)])) _
    refine XS.icmpNo X0.here hx rfl (hb hby d2_62) rfl (feq hc62).1 ?_
    show Steps p.tables e below (T0.setTop (mkF m 65 #[.val (.int ch)] [])) _
    refine XS.iloadN X0.here hx rfl (hb hby d2_65) rfl ?_
    show Steps p.tables e below (T0.setTop (mkF m 66 #[.val (.int ch)] [(.int ch)])) _
    refine XS.sipush X0.here hx rfl (hb hby d2_66) ?_
    by_cases hc69 : ch = (247 : Int32)
    · show Steps p.tables e below (T0.setTop (mkF m 69 #[.val (.int ch)] [(.int (247 : Int32)), (.int ch)])) _
      refine XS.icmpNo X0.here hx rfl (hb hby d2_69) rfl (teq hc69).2 ?_
      show Steps p.tables e below (T0.setTop (mkF m 72 #[.val (.int ch)] [])) _
      refine XS.iconst X0.here hx rfl (hb hby d2_72) ?_
      show Steps p.tables e below (T0.setTop (mkF m 73 #[.val (.int ch)] [(.int (0 : Int32))])) _
      have hF : own_r2 ch = (0 : Int32) := by rw [own_r2, if_neg hc62, if_pos hc69]
      rw [hF] at hr
      exact retN X0 hx (t := .boolean) hret (by simp) (hb hby d2_73) hr
    · show Steps p.tables e below (T0.setTop (mkF m 69 #[.val (.int ch)] [(.int (247 : Int32)), (.int ch)])) _
      refine XS.icmpYes X0.here hx rfl (pc0 := 69) (pc' := 74) rfl (hb hby d2_69) rfl (feq hc69).2 (by decide) (by decide) ?_
      have hF : own_r2 ch = own_r3 ch := by rw [own_r2, if_neg hc62, if_neg hc69]
      rw [hF] at hr
      exact rf_74 ch X0 hx hZ hw hby hml hown e0 hret fs hr
def own_r1 (ch : Int32) : Int32 := if 191 < ch then own_r2 ch else 0
set_option maxRecDepth 65536 in
set_option maxHeartbeats 40000000 in
theorem rf_49 {p : Program} {l : Launch} {e : Env} {R : Room} {s : State} {m : MethodId} {args : Array Value} {below : List Frame} {meth : Method} {c : Code} {T0 : State} {locs : List Loc} {cells slots : Nat} {Z : State} {a0 : Array Value} {h0 : Heap} (ch : Int32) (X0 : Stand p l e R s m args below meth c T0 locs cells slots) (hx : p.tables.exec = Jvm.exec) (hZ : Z.Warmed39 s.vm) (hw : ∀ d ∈ tables_1, d.before a0 Z = true) (hby : c.code = method_2_code) (hml : c.maxLocals = 1) (hown : s.vm.findClass "com/example/onward/onward/xml/NamesStartsNamePinLaw" = some m.cls) (e0 : T0.heap = h0) (hret : meth.sig.returnType = some .boolean) (fs : List Frame) (hr : ∀ (f : JFrame) (acts : List Action), f.method = m → f.locked = none → f.entered = [] → (doReturn e (T0.setTop f) acts (some (.int (own_r1 ch)))).1 = T0.setFrames fs) : Steps p.tables e below (T0.setTop (mkF m 49 #[.val (.int ch)] [])) (T0.setFrames fs) := by
  show Steps p.tables e below (T0.setTop (mkF m 49 #[.val (.int ch)] [])) _
  refine XS.iloadN X0.here hx rfl (hb hby d2_49) rfl ?_
  show Steps p.tables e below (T0.setTop (mkF m 50 #[.val (.int ch)] [(.int ch)])) _
  refine XS.sipush X0.here hx rfl (hb hby d2_50) ?_
  by_cases hc53 : (191 : Int32) < ch
  · show Steps p.tables e below (T0.setTop (mkF m 53 #[.val (.int ch)] [(.int (191 : Int32)), (.int ch)])) _
    refine XS.icmpYes X0.here hx rfl (pc0 := 53) (pc' := 58) rfl (hb hby d2_53) rfl (tlt hc53).2.2.1 (by decide) (by decide) ?_
    have hF : own_r1 ch = own_r2 ch := by rw [own_r1, if_pos hc53]
    rw [hF] at hr
    exact rf_58 ch X0 hx hZ hw hby hml hown e0 hret fs hr
  · show Steps p.tables e below (T0.setTop (mkF m 53 #[.val (.int ch)] [(.int (191 : Int32)), (.int ch)])) _
    refine XS.icmpNo X0.here hx rfl (hb hby d2_53) rfl (flt hc53).2.2.1 ?_
    show Steps p.tables e below (T0.setTop (mkF m 56 #[.val (.int ch)] [])) _
    refine XS.iconst X0.here hx rfl (hb hby d2_56) ?_
    show Steps p.tables e below (T0.setTop (mkF m 57 #[.val (.int ch)] [(.int (0 : Int32))])) _
    have hF : own_r1 ch = (0 : Int32) := by rw [own_r1, if_neg hc53]
    rw [hF] at hr
    exact retN X0 hx (t := .boolean) hret (by simp) (hb hby d2_57) hr
def own_a3 (ch : Int32) : Int32 := if ch = 95 then 1 else if ch = 58 then 1 else 0
set_option maxRecDepth 65536 in
set_option maxHeartbeats 40000000 in
theorem rf_31 {p : Program} {l : Launch} {e : Env} {R : Room} {s : State} {m : MethodId} {args : Array Value} {below : List Frame} {meth : Method} {c : Code} {T0 : State} {locs : List Loc} {cells slots : Nat} {Z : State} {a0 : Array Value} {h0 : Heap} (ch : Int32) (X0 : Stand p l e R s m args below meth c T0 locs cells slots) (hx : p.tables.exec = Jvm.exec) (hZ : Z.Warmed39 s.vm) (hw : ∀ d ∈ tables_1, d.before a0 Z = true) (hby : c.code = method_2_code) (hml : c.maxLocals = 1) (hown : s.vm.findClass "com/example/onward/onward/xml/NamesStartsNamePinLaw" = some m.cls) (e0 : T0.heap = h0) (hret : meth.sig.returnType = some .boolean) (fs : List Frame) (hr : ∀ (f : JFrame) (acts : List Action), f.method = m → f.locked = none → f.entered = [] → (doReturn e (T0.setTop f) acts (some (.int (own_a3 ch)))).1 = T0.setFrames fs) : Steps p.tables e below (T0.setTop (mkF m 31 #[.val (.int ch)] [])) (T0.setFrames fs) := by
  show Steps p.tables e below (T0.setTop (mkF m 31 #[.val (.int ch)] [])) _
  refine XS.iloadN X0.here hx rfl (hb hby d2_31) rfl ?_
  show Steps p.tables e below (T0.setTop (mkF m 32 #[.val (.int ch)] [(.int ch)])) _
  refine XS.bipush X0.here hx rfl (hb hby d2_32) ?_
  by_cases hc34 : ch = (95 : Int32)
  · show Steps p.tables e below (T0.setTop (mkF m 34 #[.val (.int ch)] [(.int (95 : Int32)), (.int ch)])) _
    refine XS.icmpYes X0.here hx rfl (pc0 := 34) (pc' := 43) rfl (hb hby d2_34) rfl (teq hc34).1 (by decide) (by decide) ?_
    show Steps p.tables e below (T0.setTop (mkF m 43 #[.val (.int ch)] [])) _
    refine XS.iconst X0.here hx rfl (hb hby d2_43) ?_
    show Steps p.tables e below (T0.setTop (mkF m 44 #[.val (.int ch)] [(.int (1 : Int32))])) _
    refine XS.goto X0.here hx rfl (pc0 := 44) (pc' := 48) rfl (hb hby d2_44) (by decide) (by decide) ?_
    show Steps p.tables e below (T0.setTop (mkF m 48 #[.val (.int ch)] [(.int (1 : Int32))])) _
    have hF : own_a3 ch = (1 : Int32) := by rw [own_a3, if_pos hc34]
    rw [hF] at hr
    exact retN X0 hx (t := .boolean) hret (by simp) (hb hby d2_48) hr
  · show Steps p.tables e below (T0.setTop (mkF m 34 #[.val (.int ch)] [(.int (95 : Int32)), (.int ch)])) _
    refine XS.icmpNo X0.here hx rfl (hb hby d2_34) rfl (feq hc34).1 ?_
    show Steps p.tables e below (T0.setTop (mkF m 37 #[.val (.int ch)] [])) _
    refine XS.iloadN X0.here hx rfl (hb hby d2_37) rfl ?_
    show Steps p.tables e below (T0.setTop (mkF m 38 #[.val (.int ch)] [(.int ch)])) _
    refine XS.bipush X0.here hx rfl (hb hby d2_38) ?_
    by_cases hc40 : ch = (58 : Int32)
    · show Steps p.tables e below (T0.setTop (mkF m 40 #[.val (.int ch)] [(.int (58 : Int32)), (.int ch)])) _
      refine XS.icmpNo X0.here hx rfl (hb hby d2_40) rfl (teq hc40).2 ?_
      show Steps p.tables e below (T0.setTop (mkF m 43 #[.val (.int ch)] [])) _
      refine XS.iconst X0.here hx rfl (hb hby d2_43) ?_
      show Steps p.tables e below (T0.setTop (mkF m 44 #[.val (.int ch)] [(.int (1 : Int32))])) _
      refine XS.goto X0.here hx rfl (pc0 := 44) (pc' := 48) rfl (hb hby d2_44) (by decide) (by decide) ?_
      show Steps p.tables e below (T0.setTop (mkF m 48 #[.val (.int ch)] [(.int (1 : Int32))])) _
      have hF : own_a3 ch = (1 : Int32) := by rw [own_a3, if_neg hc34, if_pos hc40]
      rw [hF] at hr
      exact retN X0 hx (t := .boolean) hret (by simp) (hb hby d2_48) hr
    · show Steps p.tables e below (T0.setTop (mkF m 40 #[.val (.int ch)] [(.int (58 : Int32)), (.int ch)])) _
      refine XS.icmpYes X0.here hx rfl (pc0 := 40) (pc' := 47) rfl (hb hby d2_40) rfl (feq hc40).2 (by decide) (by decide) ?_
      show Steps p.tables e below (T0.setTop (mkF m 47 #[.val (.int ch)] [])) _
      refine XS.iconst X0.here hx rfl (hb hby d2_47) ?_
      show Steps p.tables e below (T0.setTop (mkF m 48 #[.val (.int ch)] [(.int (0 : Int32))])) _
      have hF : own_a3 ch = (0 : Int32) := by rw [own_a3, if_neg hc34, if_neg hc40]
      rw [hF] at hr
      exact retN X0 hx (t := .boolean) hret (by simp) (hb hby d2_48) hr
def own_a2 (ch : Int32) : Int32 := own_rng 97 122 ch (own_a3 ch)
set_option maxRecDepth 65536 in
set_option maxHeartbeats 40000000 in
theorem rf_19 {p : Program} {l : Launch} {e : Env} {R : Room} {s : State} {m : MethodId} {args : Array Value} {below : List Frame} {meth : Method} {c : Code} {T0 : State} {locs : List Loc} {cells slots : Nat} {Z : State} {a0 : Array Value} {h0 : Heap} (ch : Int32) (X0 : Stand p l e R s m args below meth c T0 locs cells slots) (hx : p.tables.exec = Jvm.exec) (hZ : Z.Warmed39 s.vm) (hw : ∀ d ∈ tables_1, d.before a0 Z = true) (hby : c.code = method_2_code) (hml : c.maxLocals = 1) (hown : s.vm.findClass "com/example/onward/onward/xml/NamesStartsNamePinLaw" = some m.cls) (e0 : T0.heap = h0) (hret : meth.sig.returnType = some .boolean) (fs : List Frame) (hr : ∀ (f : JFrame) (acts : List Action), f.method = m → f.locked = none → f.entered = [] → (doReturn e (T0.setTop f) acts (some (.int (own_a2 ch)))).1 = T0.setFrames fs) : Steps p.tables e below (T0.setTop (mkF m 19 #[.val (.int ch)] [])) (T0.setFrames fs) := by
  show Steps p.tables e below (T0.setTop (mkF m 19 #[.val (.int ch)] [])) _
  refine XS.iloadN X0.here hx rfl (hb hby d2_19) rfl ?_
  show Steps p.tables e below (T0.setTop (mkF m 20 #[.val (.int ch)] [(.int ch)])) _
  refine XS.bipush X0.here hx rfl (hb hby d2_20) ?_
  by_cases hc22 : ch < (97 : Int32)
  · show Steps p.tables e below (T0.setTop (mkF m 22 #[.val (.int ch)] [(.int (97 : Int32)), (.int ch)])) _
    refine XS.icmpYes X0.here hx rfl (pc0 := 22) (pc' := 31) rfl (hb hby d2_22) rfl (tlt hc22).1 (by decide) (by decide) ?_
    have hF : own_a2 ch = own_a3 ch := by rw [own_a2, own_rng, if_pos hc22]
    rw [hF] at hr
    exact rf_31 ch X0 hx hZ hw hby hml hown e0 hret fs hr
  · show Steps p.tables e below (T0.setTop (mkF m 22 #[.val (.int ch)] [(.int (97 : Int32)), (.int ch)])) _
    refine XS.icmpNo X0.here hx rfl (hb hby d2_22) rfl (flt hc22).1 ?_
    show Steps p.tables e below (T0.setTop (mkF m 25 #[.val (.int ch)] [])) _
    refine XS.iloadN X0.here hx rfl (hb hby d2_25) rfl ?_
    show Steps p.tables e below (T0.setTop (mkF m 26 #[.val (.int ch)] [(.int ch)])) _
    refine XS.bipush X0.here hx rfl (hb hby d2_26) ?_
    by_cases hc28 : (122 : Int32) < ch
    · show Steps p.tables e below (T0.setTop (mkF m 28 #[.val (.int ch)] [(.int (122 : Int32)), (.int ch)])) _
      refine XS.icmpNo X0.here hx rfl (hb hby d2_28) rfl (tlt hc28).2.2.2 ?_
      have hF : own_a2 ch = own_a3 ch := by rw [own_a2, own_rng, if_neg hc22, if_pos hc28]
      rw [hF] at hr
      exact rf_31 ch X0 hx hZ hw hby hml hown e0 hret fs hr
    · show Steps p.tables e below (T0.setTop (mkF m 28 #[.val (.int ch)] [(.int (122 : Int32)), (.int ch)])) _
      refine XS.icmpYes X0.here hx rfl (pc0 := 28) (pc' := 43) rfl (hb hby d2_28) rfl (flt hc28).2.2.2 (by decide) (by decide) ?_
      show Steps p.tables e below (T0.setTop (mkF m 43 #[.val (.int ch)] [])) _
      refine XS.iconst X0.here hx rfl (hb hby d2_43) ?_
      show Steps p.tables e below (T0.setTop (mkF m 44 #[.val (.int ch)] [(.int (1 : Int32))])) _
      refine XS.goto X0.here hx rfl (pc0 := 44) (pc' := 48) rfl (hb hby d2_44) (by decide) (by decide) ?_
      show Steps p.tables e below (T0.setTop (mkF m 48 #[.val (.int ch)] [(.int (1 : Int32))])) _
      have hF : own_a2 ch = (1 : Int32) := by rw [own_a2, own_rng, if_neg hc22, if_neg hc28]
      rw [hF] at hr
      exact retN X0 hx (t := .boolean) hret (by simp) (hb hby d2_48) hr
def own_a1 (ch : Int32) : Int32 := own_rng 65 90 ch (own_a2 ch)
set_option maxRecDepth 65536 in
set_option maxHeartbeats 40000000 in
theorem rf_7 {p : Program} {l : Launch} {e : Env} {R : Room} {s : State} {m : MethodId} {args : Array Value} {below : List Frame} {meth : Method} {c : Code} {T0 : State} {locs : List Loc} {cells slots : Nat} {Z : State} {a0 : Array Value} {h0 : Heap} (ch : Int32) (X0 : Stand p l e R s m args below meth c T0 locs cells slots) (hx : p.tables.exec = Jvm.exec) (hZ : Z.Warmed39 s.vm) (hw : ∀ d ∈ tables_1, d.before a0 Z = true) (hby : c.code = method_2_code) (hml : c.maxLocals = 1) (hown : s.vm.findClass "com/example/onward/onward/xml/NamesStartsNamePinLaw" = some m.cls) (e0 : T0.heap = h0) (hret : meth.sig.returnType = some .boolean) (fs : List Frame) (hr : ∀ (f : JFrame) (acts : List Action), f.method = m → f.locked = none → f.entered = [] → (doReturn e (T0.setTop f) acts (some (.int (own_a1 ch)))).1 = T0.setFrames fs) : Steps p.tables e below (T0.setTop (mkF m 7 #[.val (.int ch)] [])) (T0.setFrames fs) := by
  show Steps p.tables e below (T0.setTop (mkF m 7 #[.val (.int ch)] [])) _
  refine XS.iloadN X0.here hx rfl (hb hby d2_7) rfl ?_
  show Steps p.tables e below (T0.setTop (mkF m 8 #[.val (.int ch)] [(.int ch)])) _
  refine XS.bipush X0.here hx rfl (hb hby d2_8) ?_
  by_cases hc10 : ch < (65 : Int32)
  · show Steps p.tables e below (T0.setTop (mkF m 10 #[.val (.int ch)] [(.int (65 : Int32)), (.int ch)])) _
    refine XS.icmpYes X0.here hx rfl (pc0 := 10) (pc' := 19) rfl (hb hby d2_10) rfl (tlt hc10).1 (by decide) (by decide) ?_
    have hF : own_a1 ch = own_a2 ch := by rw [own_a1, own_rng, if_pos hc10]
    rw [hF] at hr
    exact rf_19 ch X0 hx hZ hw hby hml hown e0 hret fs hr
  · show Steps p.tables e below (T0.setTop (mkF m 10 #[.val (.int ch)] [(.int (65 : Int32)), (.int ch)])) _
    refine XS.icmpNo X0.here hx rfl (hb hby d2_10) rfl (flt hc10).1 ?_
    show Steps p.tables e below (T0.setTop (mkF m 13 #[.val (.int ch)] [])) _
    refine XS.iloadN X0.here hx rfl (hb hby d2_13) rfl ?_
    show Steps p.tables e below (T0.setTop (mkF m 14 #[.val (.int ch)] [(.int ch)])) _
    refine XS.bipush X0.here hx rfl (hb hby d2_14) ?_
    by_cases hc16 : (90 : Int32) < ch
    · show Steps p.tables e below (T0.setTop (mkF m 16 #[.val (.int ch)] [(.int (90 : Int32)), (.int ch)])) _
      refine XS.icmpNo X0.here hx rfl (hb hby d2_16) rfl (tlt hc16).2.2.2 ?_
      have hF : own_a1 ch = own_a2 ch := by rw [own_a1, own_rng, if_neg hc10, if_pos hc16]
      rw [hF] at hr
      exact rf_19 ch X0 hx hZ hw hby hml hown e0 hret fs hr
    · show Steps p.tables e below (T0.setTop (mkF m 16 #[.val (.int ch)] [(.int (90 : Int32)), (.int ch)])) _
      refine XS.icmpYes X0.here hx rfl (pc0 := 16) (pc' := 43) rfl (hb hby d2_16) rfl (flt hc16).2.2.2 (by decide) (by decide) ?_
      show Steps p.tables e below (T0.setTop (mkF m 43 #[.val (.int ch)] [])) _
      refine XS.iconst X0.here hx rfl (hb hby d2_43) ?_
      show Steps p.tables e below (T0.setTop (mkF m 44 #[.val (.int ch)] [(.int (1 : Int32))])) _
      refine XS.goto X0.here hx rfl (pc0 := 44) (pc' := 48) rfl (hb hby d2_44) (by decide) (by decide) ?_
      show Steps p.tables e below (T0.setTop (mkF m 48 #[.val (.int ch)] [(.int (1 : Int32))])) _
      have hF : own_a1 ch = (1 : Int32) := by rw [own_a1, own_rng, if_neg hc10, if_neg hc16]
      rw [hF] at hr
      exact retN X0 hx (t := .boolean) hret (by simp) (hb hby d2_48) hr
def own_ref (ch : Int32) : Int32 := if ch < 128 then own_a1 ch else own_r1 ch
set_option maxRecDepth 65536 in
set_option maxHeartbeats 40000000 in
theorem rf_0 {p : Program} {l : Launch} {e : Env} {R : Room} {s : State} {m : MethodId} {args : Array Value} {below : List Frame} {meth : Method} {c : Code} {T0 : State} {locs : List Loc} {cells slots : Nat} {Z : State} {a0 : Array Value} {h0 : Heap} (ch : Int32) (X0 : Stand p l e R s m args below meth c T0 locs cells slots) (hx : p.tables.exec = Jvm.exec) (hZ : Z.Warmed39 s.vm) (hw : ∀ d ∈ tables_1, d.before a0 Z = true) (hby : c.code = method_2_code) (hml : c.maxLocals = 1) (hown : s.vm.findClass "com/example/onward/onward/xml/NamesStartsNamePinLaw" = some m.cls) (e0 : T0.heap = h0) (hret : meth.sig.returnType = some .boolean) (fs : List Frame) (hr : ∀ (f : JFrame) (acts : List Action), f.method = m → f.locked = none → f.entered = [] → (doReturn e (T0.setTop f) acts (some (.int (own_ref ch)))).1 = T0.setFrames fs) : Steps p.tables e below (T0.setTop (mkF m 0 #[.val (.int ch)] [])) (T0.setFrames fs) := by
  show Steps p.tables e below (T0.setTop (mkF m 0 #[.val (.int ch)] [])) _
  refine XS.iloadN X0.here hx rfl (hb hby d2_0) rfl ?_
  show Steps p.tables e below (T0.setTop (mkF m 1 #[.val (.int ch)] [(.int ch)])) _
  refine XS.sipush X0.here hx rfl (hb hby d2_1) ?_
  by_cases hc4 : ch < (128 : Int32)
  · show Steps p.tables e below (T0.setTop (mkF m 4 #[.val (.int ch)] [(.int (128 : Int32)), (.int ch)])) _
    refine XS.icmpNo X0.here hx rfl (hb hby d2_4) rfl (tlt hc4).2.1 ?_
    have hF : own_ref ch = own_a1 ch := by rw [own_ref, if_pos hc4]
    rw [hF] at hr
    exact rf_7 ch X0 hx hZ hw hby hml hown e0 hret fs hr
  · show Steps p.tables e below (T0.setTop (mkF m 4 #[.val (.int ch)] [(.int (128 : Int32)), (.int ch)])) _
    refine XS.icmpYes X0.here hx rfl (pc0 := 4) (pc' := 49) rfl (hb hby d2_4) rfl (flt hc4).2.1 (by decide) (by decide) ?_
    have hF : own_ref ch = own_r1 ch := by rw [own_ref, if_neg hc4]
    rw [hF] at hr
    exact rf_49 ch X0 hx hZ hw hby hml hown e0 hret fs hr
theorem ef_2 (m : MethodId) (ch : Int32) : entryFrame m #[(.int ch)] 1 = mkF m 0 #[.val (.int ch)] [] := by first | (simp [entryFrame, mkF, argsToLocals, Value.category]; done) | rfl
set_option maxRecDepth 65536 in
set_option maxHeartbeats 40000000 in
theorem rm_ref (l : Launch) (Z : State) (a0 : Array Value) (hw : ∀ d ∈ tables_1, d.before a0 Z = true) (ws : List Jvm.Cond) (ch : Int32) (h0 : Heap) :
    MetFree l (⟨"com/example/onward/onward/xml/NamesStartsNamePinLaw", "reference", "(I)Z"⟩ : MethodName) (head1 (Jvm.Cond.code (⟨"com/example/onward/onward/xml/NamesStartsNamePinLaw", "reference", "(I)Z"⟩ : MethodName) method_2_code 1 (some .boolean) :: ws) ({ frames := 0, cells := 0, slots := 0, locals := 0 } : Room)) (fun ar_ U => ar_ = #[(.int ch)] ∧ Z.Warmed39 U.vm ∧ U.heap = h0) (fun _ _ _ _ _ => True) (fun _ U o U' => ∃ v L, o = .returned v ∧ QR (.int (own_ref ch)) h0 v U'.heap L ∧ FrameEnd U o U' L ({ frames := 0, cells := 0, slots := 0, locals := 0 } : Room).cells ({ frames := 0, cells := 0, slots := 0, locals := 0 } : Room).slots) := by
  refine MetFree.of_bodySF (plainFor_of_name pn_2) hisR ?_
  intro p e s m args below meth c s₁ Bd hml0 hP hK
  obtain ⟨rfl, hZ, hh⟩ := hP
  have hx := Bd.exec
  have hby := Bd.bytes
  have hml : c.maxLocals = 1 := hml0
  have hown : s.vm.findClass "com/example/onward/onward/xml/NamesStartsNamePinLaw" = some m.cls := findClass_of_methodNamed Bd.named
  have hnm := (name_of_methodNamed Bd.named Bd.method).1
  have X0 : Stand p l e ({ frames := 0, cells := 0, slots := 0, locals := 0 } : Room) s m #[(.int ch)] below meth c s₁ [] 0 0 := Stand.of_body Bd
  have e0 : s₁.heap = h0 := by rw [← hh, Bd.state]; rfl
  have pre0 : ∀ t, Steps p.tables e below (s₁.setTop (mkF m 0 #[.val (.int ch)] [])) t → Steps p.tables e below (s₁.setTop (entryFrame m #[(.int ch)] 1)) t := fun t_ k_ => castTop (ef_2 m ch) k_
  obtain ⟨fs, hr, hrun, hended, hW, hsame⟩ := X0.leave (v := some (.int (own_ref ch))) (fun h => by rw [Bd.returns] at h; cases h)
  refine ⟨_, _, pre0 _ ?_, hrun, hended, _, _, rfl, ?_, ⟨_, rfl⟩, hW, hsame.mono (by decide) (by decide)⟩
  · exact rf_0 ch X0 hx hZ hw hby hml hown e0 Bd.returns fs hr
  · exact ⟨rfl, rfl, e0⟩
/-- what the table of the first 128 signs holds -/
def own_asc (j : Nat) : Int32 := if j < 45 then 0 else if j < 47 then 2 else if j < 48 then 0 else if j < 58 then 2 else if j < 59 then 3 else if j < 65 then 0 else if j < 91 then 3 else if j < 95 then 0 else if j < 96 then 3 else if j < 97 then 0 else if j < 123 then 3 else 0
def own_sn (ch : Int32) : Int32 := if ch < 128 then (if (own_asc ch.toNatClampNeg &&& (1 : Int32)) = (0 : Int32) then 0 else 1) else own_s1 ch
theorem ef_1 (m : MethodId) (ch : Int32) : entryFrame m #[(.int ch)] 1 = mkF m 0 #[.val (.int ch)] [] := by first | (simp [entryFrame, mkF, argsToLocals, Value.category]; done) | rfl
set_option maxRecDepth 65536 in
set_option maxHeartbeats 40000000 in
theorem rm_sn (l : Launch) (Z : State) (a0 : Array Value) (hw : ∀ d ∈ tables_1, d.before a0 Z = true) (ws : List Jvm.Cond) (ch : Int32) (aA : Addr) (h0 : Heap) (S : Sta Z h0 "com/example/onward/onward/xml/Names" "ASCII" "[B" (.ref aA)) (V : Iar Z h0 aA .byte 128 own_asc) (hnn : ¬ ch < 0) :
    MetFree l (⟨"com/example/onward/onward/xml/Names", "startsName", "(I)Z"⟩ : MethodName) (head1 (Jvm.Cond.code (⟨"com/example/onward/onward/xml/Names", "startsName", "(I)Z"⟩ : MethodName) prog_240_method_6_code 1 (some .boolean) :: ws) ({ frames := 0, cells := 0, slots := 0, locals := 0 } : Room)) (fun ar_ U => ar_ = #[(.int ch)] ∧ Z.Warmed39 U.vm ∧ U.heap = h0) (fun _ _ _ _ _ => True) (fun _ U o U' => ∃ v L, o = .returned v ∧ QR (.int (own_sn ch)) h0 v U'.heap L ∧ FrameEnd U o U' L ({ frames := 0, cells := 0, slots := 0, locals := 0 } : Room).cells ({ frames := 0, cells := 0, slots := 0, locals := 0 } : Room).slots) := by
  refine MetFree.of_bodySF (plainFor_of_name pn_1) hisR ?_
  intro p e s m args below meth c s₁ Bd hml0 hP hK
  obtain ⟨rfl, hZ, hh⟩ := hP
  have hx := Bd.exec
  have hby := Bd.bytes
  have hml : c.maxLocals = 1 := hml0
  have hown : s.vm.findClass "com/example/onward/onward/xml/Names" = some m.cls := findClass_of_methodNamed Bd.named
  have hnm := (name_of_methodNamed Bd.named Bd.method).1
  have X0 : Stand p l e ({ frames := 0, cells := 0, slots := 0, locals := 0 } : Room) s m #[(.int ch)] below meth c s₁ [] 0 0 := Stand.of_body Bd
  have e0 : s₁.heap = h0 := by rw [← hh, Bd.state]; rfl
  have pre0 : ∀ t, Steps p.tables e below (s₁.setTop (mkF m 0 #[.val (.int ch)] [])) t → Steps p.tables e below (s₁.setTop (entryFrame m #[(.int ch)] 1)) t := fun t_ k_ => castTop (ef_1 m ch) k_
  by_cases hc4 : ch < (128 : Int32)
  · have hlt : ch.toNatClampNeg < 128 := by
      have q1 := nat_of hnn
      rw [Int32.lt_iff_toInt_lt, show (128 : Int32).toInt = 128 from rfl] at hc4
      omega
    obtain ⟨T1, X1, e1, st1⟩ := getS2 X0 hx hZ hown (host := "") (Or.inl (hw _ (List.mem_of_getElem? (i := 15) rfl))) Via.refl e0 S (g := (mkF m 7 #[.val (.int ch)] [])) rfl (hb hby d1_7)
    obtain ⟨fs, hr, hrun, hended, hW, hsame⟩ := X1.leave (v := some (.int (own_sn ch))) (fun h => by rw [Bd.returns] at h; cases h)
    refine ⟨_, _, pre0 _ ?_, hrun, hended, _, _, rfl, ?_, ⟨_, rfl⟩, hW, hsame.mono (by decide) (by decide)⟩
    · show Steps p.tables e below (s₁.setTop (mkF m 0 #[.val (.int ch)] [])) _
      refine XS.iloadN X0.here hx rfl (hb hby d1_0) rfl ?_
      show Steps p.tables e below (s₁.setTop (mkF m 1 #[.val (.int ch)] [(.int ch)])) _
      refine XS.sipush X0.here hx rfl (hb hby d1_1) ?_
      show Steps p.tables e below (s₁.setTop (mkF m 4 #[.val (.int ch)] [(.int (128 : Int32)), (.int ch)])) _
      refine XS.icmpNo X0.here hx rfl (hb hby d1_4) rfl (tlt hc4).2.1 ?_
      show Steps p.tables e below (s₁.setTop (mkF m 7 #[.val (.int ch)] [])) _
      refine st1 _ ?_
      show Steps p.tables e below (T1.setTop (mkF m 10 #[.val (.int ch)] [(.ref aA)])) _
      refine XS.iloadN X1.here hx rfl (hb hby d1_10) rfl ?_
      show Steps p.tables e below (T1.setTop (mkF m 11 #[.val (.int ch)] [(.int ch), (.ref aA)])) _
      refine own_ldB X1 hx hZ e1 V (j := ch) rfl hnn hlt (g := (mkF m 11 #[.val (.int ch)] [(.int ch), (.ref aA)])) rfl rfl (hb hby d1_11) _ ?_
      show Steps p.tables e below (T1.setTop (mkF m 12 #[.val (.int ch)] [(.int (own_asc ch.toNatClampNeg))])) _
      refine XS.iconst X1.here hx rfl (hb hby d1_12) ?_
      show Steps p.tables e below (T1.setTop (mkF m 13 #[.val (.int ch)] [(.int (1 : Int32)), (.int (own_asc ch.toNatClampNeg))])) _
      refine XS.iand X1.here hx rfl (hb hby d1_13) rfl ?_
      by_cases hc14 : ((own_asc ch.toNatClampNeg) &&& (1 : Int32)) = (0 : Int32)
      · show Steps p.tables e below (T1.setTop (mkF m 14 #[.val (.int ch)] [(.int ((own_asc ch.toNatClampNeg) &&& (1 : Int32)))])) _
        refine XS.ifYes X1.here hx rfl (pc0 := 14) (pc' := 21) rfl (hb hby d1_14) rfl ((if0 _ _).trans (teq hc14).1) (by decide) (by decide) ?_
        show Steps p.tables e below (T1.setTop (mkF m 21 #[.val (.int ch)] [])) _
        refine XS.iconst X1.here hx rfl (hb hby d1_21) ?_
        show Steps p.tables e below (T1.setTop (mkF m 22 #[.val (.int ch)] [(.int (0 : Int32))])) _
        have hF : own_sn ch = (0 : Int32) := by rw [own_sn, if_pos hc4, if_pos hc14]
        rw [hF] at hr
        exact retN X1 hx (t := .boolean) Bd.returns (by simp) (hb hby d1_22) hr
      · show Steps p.tables e below (T1.setTop (mkF m 14 #[.val (.int ch)] [(.int ((own_asc ch.toNatClampNeg) &&& (1 : Int32)))])) _
        refine XS.ifNo X1.here hx rfl (hb hby d1_14) rfl ((if0 _ _).trans (feq hc14).1) ?_
        show Steps p.tables e below (T1.setTop (mkF m 17 #[.val (.int ch)] [])) _
        refine XS.iconst X1.here hx rfl (hb hby d1_17) ?_
        show Steps p.tables e below (T1.setTop (mkF m 18 #[.val (.int ch)] [(.int (1 : Int32))])) _
        refine XS.goto X1.here hx rfl (pc0 := 18) (pc' := 22) rfl (hb hby d1_18) (by decide) (by decide) ?_
        show Steps p.tables e below (T1.setTop (mkF m 22 #[.val (.int ch)] [(.int (1 : Int32))])) _
        have hF : own_sn ch = (1 : Int32) := by rw [own_sn, if_pos hc4, if_neg hc14]
        rw [hF] at hr
        exact retN X1 hx (t := .boolean) Bd.returns (by simp) (hb hby d1_22) hr
    · exact ⟨rfl, rfl, e1⟩
  · obtain ⟨fs, hr, hrun, hended, hW, hsame⟩ := X0.leave (v := some (.int (own_sn ch))) (fun h => by rw [Bd.returns] at h; cases h)
    refine ⟨_, _, pre0 _ ?_, hrun, hended, _, _, rfl, ?_, ⟨_, rfl⟩, hW, hsame.mono (by decide) (by decide)⟩
    · show Steps p.tables e below (s₁.setTop (mkF m 0 #[.val (.int ch)] [])) _
      refine XS.iloadN X0.here hx rfl (hb hby d1_0) rfl ?_
      show Steps p.tables e below (s₁.setTop (mkF m 1 #[.val (.int ch)] [(.int ch)])) _
      refine XS.sipush X0.here hx rfl (hb hby d1_1) ?_
      show Steps p.tables e below (s₁.setTop (mkF m 4 #[.val (.int ch)] [(.int (128 : Int32)), (.int ch)])) _
      refine XS.icmpYes X0.here hx rfl (pc0 := 4) (pc' := 23) rfl (hb hby d1_4) rfl (flt hc4).2.1 (by decide) (by decide) ?_
      show Steps p.tables e below (s₁.setTop (mkF m 23 #[.val (.int ch)] [])) _
      have hF : own_sn ch = own_s1 ch := by rw [own_sn, if_neg hc4]
      rw [hF] at hr
      exact sn_23 ch X0 hx hZ hw hby hml hown e0 Bd.returns fs hr
    · exact ⟨rfl, rfl, e0⟩
set_option maxRecDepth 65536 in
set_option maxHeartbeats 40000000 in
theorem arr {p : Program} {l : Launch} {e : Env} {s : State} {m : MethodId} {args : Array Value} {below : List Frame} {meth : Method} {c : Code} {T0 : State} {locs : List Loc} {Z : State} {a0 : Array Value} {h0 : Heap} (mode pick delta : Int32) (n0 : Nat) (Z0 : n0 ≤ h0.size) (N0 : Fr n0 locs) (X0 : Stand p l e room_1 s m args below meth c T0 locs 0 0) (hx : p.tables.exec = Jvm.exec) (hZ : Z.Warmed39 s.vm) (hw : ∀ d ∈ tables_1, d.before a0 Z = true) (hby : c.code = code) (hml : c.maxLocals = 5) (hown : s.vm.findClass "com/example/onward/onward/xml/NamesStartsNamePinLaw" = some m.cls) (e0 : T0.heap = h0) : ∃ (T' : State) (h' : Heap) (b : Addr) (f : Nat → Int32) (locs' : List Loc), Stand p l e room_1 s m args below meth c T' locs' 1 41 ∧ T'.heap = h' ∧ Fr n0 locs' ∧ Keep h0 h' [] ∧ Iar Z h' b .int 41 f ∧ ∀ target, Steps p.tables e below (T'.setTop (mkF m 266 #[.val (.int mode), .val (.int pick), .val (.int delta), .val (.ref b), .unset] [])) target → Steps p.tables e below (T0.setTop (mkF m 0 #[.val (.int mode), .val (.int pick), .val (.int delta), .unset, .unset] [])) target := by
  obtain ⟨T1, h1, k1, X1, e1, E1, A1, st1⟩ := newP X0 hx hZ (hw _ (List.mem_of_getElem? (i := 0) rfl)) e0 (g := (mkF m 2 #[.val (.int mode), .val (.int pick), .val (.int delta), .unset, .unset] [(.int (41 : Int32))])) rfl (hb hby at_2) rfl (by decide) (cap := 41) (by decide) (by decide) (by decide) (by decide)
  obtain ⟨b, gb⟩ : ∃ z, z = h0.size := ⟨_, rfl⟩
  rw [← gb] at A1 st1
  have g : n0 ≤ b := Nat.le_trans Z0 (Nat.le_of_eq gb.symm)
  have gk : h0.size ≤ b := Nat.le_of_eq gb.symm
  obtain ⟨f1, V1⟩ : ∃ f, Iar Z h1 b .int 41 f := ⟨_, Iar.new A1 rfl (by omega) rfl rfl⟩
  have K1 : Keep h0 h1 [] := (Keep.refl h0 []).ext E1
  obtain ⟨T2, h2, X2, e2, W2, V2q, st2⟩ := own_stI X1 hx hZ e1 V1 (j := (0 : Int32)) (i := 0) (by decide) (by decide) (by omega) (g := (mkF m 7 #[.val (.int mode), .val (.int pick), .val (.int delta), .unset, .unset] [(.int (0 : Int32)), (.int (0 : Int32)), (.ref b), (.ref b)])) rfl rfl (hb hby at_7)
  obtain ⟨f2, V2⟩ : ∃ f, Iar Z h2 b .int 41 f := ⟨_, V2q⟩
  clear V2q
  have K2 : Keep h0 h2 [] := K1.wr W2 (Or.inr gk)
  have N2 := Fr.snoc X2 N0 g
  obtain ⟨T3, h3, X3, e3, W3, V3q, st3⟩ := own_stI X2 hx hZ e2 V2 (j := (1 : Int32)) (i := 1) (by decide) (by decide) (by omega) (g := (mkF m 12 #[.val (.int mode), .val (.int pick), .val (.int delta), .unset, .unset] [(.int (45 : Int32)), (.int (1 : Int32)), (.ref b), (.ref b)])) rfl rfl (hb hby at_12)
  obtain ⟨f3, V3⟩ : ∃ f, Iar Z h3 b .int 41 f := ⟨_, V3q⟩
  clear V3q
  have K3 : Keep h0 h3 [] := K2.wr W3 (Or.inr gk)
  have N3 := Fr.snoc X3 N2 g
  obtain ⟨T4, h4, X4, e4, W4, V4q, st4⟩ := own_stI X3 hx hZ e3 V3 (j := (2 : Int32)) (i := 2) (by decide) (by decide) (by omega) (g := (mkF m 17 #[.val (.int mode), .val (.int pick), .val (.int delta), .unset, .unset] [(.int (48 : Int32)), (.int (2 : Int32)), (.ref b), (.ref b)])) rfl rfl (hb hby at_17)
  obtain ⟨f4, V4⟩ : ∃ f, Iar Z h4 b .int 41 f := ⟨_, V4q⟩
  clear V4q
  have K4 : Keep h0 h4 [] := K3.wr W4 (Or.inr gk)
  have N4 := Fr.snoc X4 N3 g
  obtain ⟨T5, h5, X5, e5, W5, V5q, st5⟩ := own_stI X4 hx hZ e4 V4 (j := (3 : Int32)) (i := 3) (by decide) (by decide) (by omega) (g := (mkF m 22 #[.val (.int mode), .val (.int pick), .val (.int delta), .unset, .unset] [(.int (57 : Int32)), (.int (3 : Int32)), (.ref b), (.ref b)])) rfl rfl (hb hby at_22)
  obtain ⟨f5, V5⟩ : ∃ f, Iar Z h5 b .int 41 f := ⟨_, V5q⟩
  clear V5q
  have K5 : Keep h0 h5 [] := K4.wr W5 (Or.inr gk)
  have N5 := Fr.snoc X5 N4 g
  obtain ⟨T6, h6, X6, e6, W6, V6q, st6⟩ := own_stI X5 hx hZ e5 V5 (j := (4 : Int32)) (i := 4) (by decide) (by decide) (by omega) (g := (mkF m 27 #[.val (.int mode), .val (.int pick), .val (.int delta), .unset, .unset] [(.int (58 : Int32)), (.int (4 : Int32)), (.ref b), (.ref b)])) rfl rfl (hb hby at_27)
  obtain ⟨f6, V6⟩ : ∃ f, Iar Z h6 b .int 41 f := ⟨_, V6q⟩
  clear V6q
  have K6 : Keep h0 h6 [] := K5.wr W6 (Or.inr gk)
  have N6 := Fr.snoc X6 N5 g
  obtain ⟨T7, h7, X7, e7, W7, V7q, st7⟩ := own_stI X6 hx hZ e6 V6 (j := (5 : Int32)) (i := 5) (by decide) (by decide) (by omega) (g := (mkF m 32 #[.val (.int mode), .val (.int pick), .val (.int delta), .unset, .unset] [(.int (65 : Int32)), (.int (5 : Int32)), (.ref b), (.ref b)])) rfl rfl (hb hby at_32)
  obtain ⟨f7, V7⟩ : ∃ f, Iar Z h7 b .int 41 f := ⟨_, V7q⟩
  clear V7q
  have K7 : Keep h0 h7 [] := K6.wr W7 (Or.inr gk)
  have N7 := Fr.snoc X7 N6 g
  obtain ⟨T8, h8, X8, e8, W8, V8q, st8⟩ := own_stI X7 hx hZ e7 V7 (j := (6 : Int32)) (i := 6) (by decide) (by decide) (by omega) (g := (mkF m 38 #[.val (.int mode), .val (.int pick), .val (.int delta), .unset, .unset] [(.int (90 : Int32)), (.int (6 : Int32)), (.ref b), (.ref b)])) rfl rfl (hb hby at_38)
  obtain ⟨f8, V8⟩ : ∃ f, Iar Z h8 b .int 41 f := ⟨_, V8q⟩
  clear V8q
  have K8 : Keep h0 h8 [] := K7.wr W8 (Or.inr gk)
  have N8 := Fr.snoc X8 N7 g
  obtain ⟨T9, h9, X9, e9, W9, V9q, st9⟩ := own_stI X8 hx hZ e8 V8 (j := (7 : Int32)) (i := 7) (by decide) (by decide) (by omega) (g := (mkF m 44 #[.val (.int mode), .val (.int pick), .val (.int delta), .unset, .unset] [(.int (95 : Int32)), (.int (7 : Int32)), (.ref b), (.ref b)])) rfl rfl (hb hby at_44)
  obtain ⟨f9, V9⟩ : ∃ f, Iar Z h9 b .int 41 f := ⟨_, V9q⟩
  clear V9q
  have K9 : Keep h0 h9 [] := K8.wr W9 (Or.inr gk)
  have N9 := Fr.snoc X9 N8 g
  obtain ⟨T10, h10, X10, e10, W10, V10q, st10⟩ := own_stI X9 hx hZ e9 V9 (j := (8 : Int32)) (i := 8) (by decide) (by decide) (by omega) (g := (mkF m 50 #[.val (.int mode), .val (.int pick), .val (.int delta), .unset, .unset] [(.int (97 : Int32)), (.int (8 : Int32)), (.ref b), (.ref b)])) rfl rfl (hb hby at_50)
  obtain ⟨f10, V10⟩ : ∃ f, Iar Z h10 b .int 41 f := ⟨_, V10q⟩
  clear V10q
  have K10 : Keep h0 h10 [] := K9.wr W10 (Or.inr gk)
  have N10 := Fr.snoc X10 N9 g
  obtain ⟨T11, h11, X11, e11, W11, V11q, st11⟩ := own_stI X10 hx hZ e10 V10 (j := (9 : Int32)) (i := 9) (by decide) (by decide) (by omega) (g := (mkF m 56 #[.val (.int mode), .val (.int pick), .val (.int delta), .unset, .unset] [(.int (122 : Int32)), (.int (9 : Int32)), (.ref b), (.ref b)])) rfl rfl (hb hby at_56)
  obtain ⟨f11, V11⟩ : ∃ f, Iar Z h11 b .int 41 f := ⟨_, V11q⟩
  clear V11q
  have K11 : Keep h0 h11 [] := K10.wr W11 (Or.inr gk)
  have N11 := Fr.snoc X11 N10 g
  obtain ⟨T12, h12, X12, e12, W12, V12q, st12⟩ := own_stI X11 hx hZ e11 V11 (j := (10 : Int32)) (i := 10) (by decide) (by decide) (by omega) (g := (mkF m 62 #[.val (.int mode), .val (.int pick), .val (.int delta), .unset, .unset] [(.int (127 : Int32)), (.int (10 : Int32)), (.ref b), (.ref b)])) rfl rfl (hb hby at_62)
  obtain ⟨f12, V12⟩ : ∃ f, Iar Z h12 b .int 41 f := ⟨_, V12q⟩
  clear V12q
  have K12 : Keep h0 h12 [] := K11.wr W12 (Or.inr gk)
  have N12 := Fr.snoc X12 N11 g
  obtain ⟨T13, h13, X13, e13, W13, V13q, st13⟩ := own_stI X12 hx hZ e12 V12 (j := (11 : Int32)) (i := 11) (by decide) (by decide) (by omega) (g := (mkF m 69 #[.val (.int mode), .val (.int pick), .val (.int delta), .unset, .unset] [(.int (128 : Int32)), (.int (11 : Int32)), (.ref b), (.ref b)])) rfl rfl (hb hby at_69)
  obtain ⟨f13, V13⟩ : ∃ f, Iar Z h13 b .int 41 f := ⟨_, V13q⟩
  clear V13q
  have K13 : Keep h0 h13 [] := K12.wr W13 (Or.inr gk)
  have N13 := Fr.snoc X13 N12 g
  obtain ⟨T14, h14, X14, e14, W14, V14q, st14⟩ := own_stI X13 hx hZ e13 V13 (j := (12 : Int32)) (i := 12) (by decide) (by decide) (by omega) (g := (mkF m 76 #[.val (.int mode), .val (.int pick), .val (.int delta), .unset, .unset] [(.int (192 : Int32)), (.int (12 : Int32)), (.ref b), (.ref b)])) rfl rfl (hb hby at_76)
  obtain ⟨f14, V14⟩ : ∃ f, Iar Z h14 b .int 41 f := ⟨_, V14q⟩
  clear V14q
  have K14 : Keep h0 h14 [] := K13.wr W14 (Or.inr gk)
  have N14 := Fr.snoc X14 N13 g
  obtain ⟨T15, h15, X15, e15, W15, V15q, st15⟩ := own_stI X14 hx hZ e14 V14 (j := (13 : Int32)) (i := 13) (by decide) (by decide) (by omega) (g := (mkF m 83 #[.val (.int mode), .val (.int pick), .val (.int delta), .unset, .unset] [(.int (214 : Int32)), (.int (13 : Int32)), (.ref b), (.ref b)])) rfl rfl (hb hby at_83)
  obtain ⟨f15, V15⟩ : ∃ f, Iar Z h15 b .int 41 f := ⟨_, V15q⟩
  clear V15q
  have K15 : Keep h0 h15 [] := K14.wr W15 (Or.inr gk)
  have N15 := Fr.snoc X15 N14 g
  obtain ⟨T16, h16, X16, e16, W16, V16q, st16⟩ := own_stI X15 hx hZ e15 V15 (j := (14 : Int32)) (i := 14) (by decide) (by decide) (by omega) (g := (mkF m 90 #[.val (.int mode), .val (.int pick), .val (.int delta), .unset, .unset] [(.int (215 : Int32)), (.int (14 : Int32)), (.ref b), (.ref b)])) rfl rfl (hb hby at_90)
  obtain ⟨f16, V16⟩ : ∃ f, Iar Z h16 b .int 41 f := ⟨_, V16q⟩
  clear V16q
  have K16 : Keep h0 h16 [] := K15.wr W16 (Or.inr gk)
  have N16 := Fr.snoc X16 N15 g
  obtain ⟨T17, h17, X17, e17, W17, V17q, st17⟩ := own_stI X16 hx hZ e16 V16 (j := (15 : Int32)) (i := 15) (by decide) (by decide) (by omega) (g := (mkF m 97 #[.val (.int mode), .val (.int pick), .val (.int delta), .unset, .unset] [(.int (216 : Int32)), (.int (15 : Int32)), (.ref b), (.ref b)])) rfl rfl (hb hby at_97)
  obtain ⟨f17, V17⟩ : ∃ f, Iar Z h17 b .int 41 f := ⟨_, V17q⟩
  clear V17q
  have K17 : Keep h0 h17 [] := K16.wr W17 (Or.inr gk)
  have N17 := Fr.snoc X17 N16 g
  obtain ⟨T18, h18, X18, e18, W18, V18q, st18⟩ := own_stI X17 hx hZ e17 V17 (j := (16 : Int32)) (i := 16) (by decide) (by decide) (by omega) (g := (mkF m 104 #[.val (.int mode), .val (.int pick), .val (.int delta), .unset, .unset] [(.int (246 : Int32)), (.int (16 : Int32)), (.ref b), (.ref b)])) rfl rfl (hb hby at_104)
  obtain ⟨f18, V18⟩ : ∃ f, Iar Z h18 b .int 41 f := ⟨_, V18q⟩
  clear V18q
  have K18 : Keep h0 h18 [] := K17.wr W18 (Or.inr gk)
  have N18 := Fr.snoc X18 N17 g
  obtain ⟨T19, h19, X19, e19, W19, V19q, st19⟩ := own_stI X18 hx hZ e18 V18 (j := (17 : Int32)) (i := 17) (by decide) (by decide) (by omega) (g := (mkF m 111 #[.val (.int mode), .val (.int pick), .val (.int delta), .unset, .unset] [(.int (247 : Int32)), (.int (17 : Int32)), (.ref b), (.ref b)])) rfl rfl (hb hby at_111)
  obtain ⟨f19, V19⟩ : ∃ f, Iar Z h19 b .int 41 f := ⟨_, V19q⟩
  clear V19q
  have K19 : Keep h0 h19 [] := K18.wr W19 (Or.inr gk)
  have N19 := Fr.snoc X19 N18 g
  obtain ⟨T20, h20, X20, e20, W20, V20q, st20⟩ := own_stI X19 hx hZ e19 V19 (j := (18 : Int32)) (i := 18) (by decide) (by decide) (by omega) (g := (mkF m 118 #[.val (.int mode), .val (.int pick), .val (.int delta), .unset, .unset] [(.int (248 : Int32)), (.int (18 : Int32)), (.ref b), (.ref b)])) rfl rfl (hb hby at_118)
  obtain ⟨f20, V20⟩ : ∃ f, Iar Z h20 b .int 41 f := ⟨_, V20q⟩
  clear V20q
  have K20 : Keep h0 h20 [] := K19.wr W20 (Or.inr gk)
  have N20 := Fr.snoc X20 N19 g
  obtain ⟨T21, h21, X21, e21, W21, V21q, st21⟩ := own_stI X20 hx hZ e20 V20 (j := (19 : Int32)) (i := 19) (by decide) (by decide) (by omega) (g := (mkF m 125 #[.val (.int mode), .val (.int pick), .val (.int delta), .unset, .unset] [(.int (767 : Int32)), (.int (19 : Int32)), (.ref b), (.ref b)])) rfl rfl (hb hby at_125)
  obtain ⟨f21, V21⟩ : ∃ f, Iar Z h21 b .int 41 f := ⟨_, V21q⟩
  clear V21q
  have K21 : Keep h0 h21 [] := K20.wr W21 (Or.inr gk)
  have N21 := Fr.snoc X21 N20 g
  obtain ⟨T22, h22, X22, e22, W22, V22q, st22⟩ := own_stI X21 hx hZ e21 V21 (j := (20 : Int32)) (i := 20) (by decide) (by decide) (by omega) (g := (mkF m 132 #[.val (.int mode), .val (.int pick), .val (.int delta), .unset, .unset] [(.int (768 : Int32)), (.int (20 : Int32)), (.ref b), (.ref b)])) rfl rfl (hb hby at_132)
  obtain ⟨f22, V22⟩ : ∃ f, Iar Z h22 b .int 41 f := ⟨_, V22q⟩
  clear V22q
  have K22 : Keep h0 h22 [] := K21.wr W22 (Or.inr gk)
  have N22 := Fr.snoc X22 N21 g
  obtain ⟨T23, h23, X23, e23, W23, V23q, st23⟩ := own_stI X22 hx hZ e22 V22 (j := (21 : Int32)) (i := 21) (by decide) (by decide) (by omega) (g := (mkF m 139 #[.val (.int mode), .val (.int pick), .val (.int delta), .unset, .unset] [(.int (880 : Int32)), (.int (21 : Int32)), (.ref b), (.ref b)])) rfl rfl (hb hby at_139)
  obtain ⟨f23, V23⟩ : ∃ f, Iar Z h23 b .int 41 f := ⟨_, V23q⟩
  clear V23q
  have K23 : Keep h0 h23 [] := K22.wr W23 (Or.inr gk)
  have N23 := Fr.snoc X23 N22 g
  obtain ⟨T24, h24, X24, e24, W24, V24q, st24⟩ := own_stI X23 hx hZ e23 V23 (j := (22 : Int32)) (i := 22) (by decide) (by decide) (by omega) (g := (mkF m 146 #[.val (.int mode), .val (.int pick), .val (.int delta), .unset, .unset] [(.int (893 : Int32)), (.int (22 : Int32)), (.ref b), (.ref b)])) rfl rfl (hb hby at_146)
  obtain ⟨f24, V24⟩ : ∃ f, Iar Z h24 b .int 41 f := ⟨_, V24q⟩
  clear V24q
  have K24 : Keep h0 h24 [] := K23.wr W24 (Or.inr gk)
  have N24 := Fr.snoc X24 N23 g
  obtain ⟨T25, h25, X25, e25, W25, V25q, st25⟩ := own_stI X24 hx hZ e24 V24 (j := (23 : Int32)) (i := 23) (by decide) (by decide) (by omega) (g := (mkF m 153 #[.val (.int mode), .val (.int pick), .val (.int delta), .unset, .unset] [(.int (894 : Int32)), (.int (23 : Int32)), (.ref b), (.ref b)])) rfl rfl (hb hby at_153)
  obtain ⟨f25, V25⟩ : ∃ f, Iar Z h25 b .int 41 f := ⟨_, V25q⟩
  clear V25q
  have K25 : Keep h0 h25 [] := K24.wr W25 (Or.inr gk)
  have N25 := Fr.snoc X25 N24 g
  obtain ⟨T26, h26, X26, e26, W26, V26q, st26⟩ := own_stI X25 hx hZ e25 V25 (j := (24 : Int32)) (i := 24) (by decide) (by decide) (by omega) (g := (mkF m 160 #[.val (.int mode), .val (.int pick), .val (.int delta), .unset, .unset] [(.int (895 : Int32)), (.int (24 : Int32)), (.ref b), (.ref b)])) rfl rfl (hb hby at_160)
  obtain ⟨f26, V26⟩ : ∃ f, Iar Z h26 b .int 41 f := ⟨_, V26q⟩
  clear V26q
  have K26 : Keep h0 h26 [] := K25.wr W26 (Or.inr gk)
  have N26 := Fr.snoc X26 N25 g
  obtain ⟨T27, h27, X27, e27, W27, V27q, st27⟩ := own_stI X26 hx hZ e26 V26 (j := (25 : Int32)) (i := 25) (by decide) (by decide) (by omega) (g := (mkF m 167 #[.val (.int mode), .val (.int pick), .val (.int delta), .unset, .unset] [(.int (8191 : Int32)), (.int (25 : Int32)), (.ref b), (.ref b)])) rfl rfl (hb hby at_167)
  obtain ⟨f27, V27⟩ : ∃ f, Iar Z h27 b .int 41 f := ⟨_, V27q⟩
  clear V27q
  have K27 : Keep h0 h27 [] := K26.wr W27 (Or.inr gk)
  have N27 := Fr.snoc X27 N26 g
  obtain ⟨T28, h28, X28, e28, W28, V28q, st28⟩ := own_stI X27 hx hZ e27 V27 (j := (26 : Int32)) (i := 26) (by decide) (by decide) (by omega) (g := (mkF m 174 #[.val (.int mode), .val (.int pick), .val (.int delta), .unset, .unset] [(.int (8204 : Int32)), (.int (26 : Int32)), (.ref b), (.ref b)])) rfl rfl (hb hby at_174)
  obtain ⟨f28, V28⟩ : ∃ f, Iar Z h28 b .int 41 f := ⟨_, V28q⟩
  clear V28q
  have K28 : Keep h0 h28 [] := K27.wr W28 (Or.inr gk)
  have N28 := Fr.snoc X28 N27 g
  obtain ⟨T29, h29, X29, e29, W29, V29q, st29⟩ := own_stI X28 hx hZ e28 V28 (j := (27 : Int32)) (i := 27) (by decide) (by decide) (by omega) (g := (mkF m 181 #[.val (.int mode), .val (.int pick), .val (.int delta), .unset, .unset] [(.int (8205 : Int32)), (.int (27 : Int32)), (.ref b), (.ref b)])) rfl rfl (hb hby at_181)
  obtain ⟨f29, V29⟩ : ∃ f, Iar Z h29 b .int 41 f := ⟨_, V29q⟩
  clear V29q
  have K29 : Keep h0 h29 [] := K28.wr W29 (Or.inr gk)
  have N29 := Fr.snoc X29 N28 g
  obtain ⟨T30, h30, X30, e30, W30, V30q, st30⟩ := own_stI X29 hx hZ e29 V29 (j := (28 : Int32)) (i := 28) (by decide) (by decide) (by omega) (g := (mkF m 188 #[.val (.int mode), .val (.int pick), .val (.int delta), .unset, .unset] [(.int (8304 : Int32)), (.int (28 : Int32)), (.ref b), (.ref b)])) rfl rfl (hb hby at_188)
  obtain ⟨f30, V30⟩ : ∃ f, Iar Z h30 b .int 41 f := ⟨_, V30q⟩
  clear V30q
  have K30 : Keep h0 h30 [] := K29.wr W30 (Or.inr gk)
  have N30 := Fr.snoc X30 N29 g
  obtain ⟨T31, h31, X31, e31, W31, V31q, st31⟩ := own_stI X30 hx hZ e30 V30 (j := (29 : Int32)) (i := 29) (by decide) (by decide) (by omega) (g := (mkF m 195 #[.val (.int mode), .val (.int pick), .val (.int delta), .unset, .unset] [(.int (8591 : Int32)), (.int (29 : Int32)), (.ref b), (.ref b)])) rfl rfl (hb hby at_195)
  obtain ⟨f31, V31⟩ : ∃ f, Iar Z h31 b .int 41 f := ⟨_, V31q⟩
  clear V31q
  have K31 : Keep h0 h31 [] := K30.wr W31 (Or.inr gk)
  have N31 := Fr.snoc X31 N30 g
  obtain ⟨T32, h32, X32, e32, W32, V32q, st32⟩ := own_stI X31 hx hZ e31 V31 (j := (30 : Int32)) (i := 30) (by decide) (by decide) (by omega) (g := (mkF m 202 #[.val (.int mode), .val (.int pick), .val (.int delta), .unset, .unset] [(.int (11264 : Int32)), (.int (30 : Int32)), (.ref b), (.ref b)])) rfl rfl (hb hby at_202)
  obtain ⟨f32, V32⟩ : ∃ f, Iar Z h32 b .int 41 f := ⟨_, V32q⟩
  clear V32q
  have K32 : Keep h0 h32 [] := K31.wr W32 (Or.inr gk)
  have N32 := Fr.snoc X32 N31 g
  obtain ⟨T33, h33, X33, e33, W33, V33q, st33⟩ := own_stI X32 hx hZ e32 V32 (j := (31 : Int32)) (i := 31) (by decide) (by decide) (by omega) (g := (mkF m 209 #[.val (.int mode), .val (.int pick), .val (.int delta), .unset, .unset] [(.int (12271 : Int32)), (.int (31 : Int32)), (.ref b), (.ref b)])) rfl rfl (hb hby at_209)
  obtain ⟨f33, V33⟩ : ∃ f, Iar Z h33 b .int 41 f := ⟨_, V33q⟩
  clear V33q
  have K33 : Keep h0 h33 [] := K32.wr W33 (Or.inr gk)
  have N33 := Fr.snoc X33 N32 g
  obtain ⟨T34, h34, X34, e34, W34, V34q, st34⟩ := own_stI X33 hx hZ e33 V33 (j := (32 : Int32)) (i := 32) (by decide) (by decide) (by omega) (g := (mkF m 216 #[.val (.int mode), .val (.int pick), .val (.int delta), .unset, .unset] [(.int (12289 : Int32)), (.int (32 : Int32)), (.ref b), (.ref b)])) rfl rfl (hb hby at_216)
  obtain ⟨f34, V34⟩ : ∃ f, Iar Z h34 b .int 41 f := ⟨_, V34q⟩
  clear V34q
  have K34 : Keep h0 h34 [] := K33.wr W34 (Or.inr gk)
  have N34 := Fr.snoc X34 N33 g
  obtain ⟨T35, h35, X35, e35, W35, V35q, st35⟩ := own_stI X34 hx hZ e34 V34 (j := (33 : Int32)) (i := 33) (by decide) (by decide) (by omega) (g := (mkF m 222 #[.val (.int mode), .val (.int pick), .val (.int delta), .unset, .unset] [(.int (55295 : Int32)), (.int (33 : Int32)), (.ref b), (.ref b)])) rfl rfl (hb hby at_222)
  obtain ⟨f35, V35⟩ : ∃ f, Iar Z h35 b .int 41 f := ⟨_, V35q⟩
  clear V35q
  have K35 : Keep h0 h35 [] := K34.wr W35 (Or.inr gk)
  have N35 := Fr.snoc X35 N34 g
  obtain ⟨T36, h36, X36, e36, W36, V36q, st36⟩ := own_stI X35 hx hZ e35 V35 (j := (34 : Int32)) (i := 34) (by decide) (by decide) (by omega) (g := (mkF m 228 #[.val (.int mode), .val (.int pick), .val (.int delta), .unset, .unset] [(.int (63744 : Int32)), (.int (34 : Int32)), (.ref b), (.ref b)])) rfl rfl (hb hby at_228)
  obtain ⟨f36, V36⟩ : ∃ f, Iar Z h36 b .int 41 f := ⟨_, V36q⟩
  clear V36q
  have K36 : Keep h0 h36 [] := K35.wr W36 (Or.inr gk)
  have N36 := Fr.snoc X36 N35 g
  obtain ⟨T37, h37, X37, e37, W37, V37q, st37⟩ := own_stI X36 hx hZ e36 V36 (j := (35 : Int32)) (i := 35) (by decide) (by decide) (by omega) (g := (mkF m 234 #[.val (.int mode), .val (.int pick), .val (.int delta), .unset, .unset] [(.int (64975 : Int32)), (.int (35 : Int32)), (.ref b), (.ref b)])) rfl rfl (hb hby at_234)
  obtain ⟨f37, V37⟩ : ∃ f, Iar Z h37 b .int 41 f := ⟨_, V37q⟩
  clear V37q
  have K37 : Keep h0 h37 [] := K36.wr W37 (Or.inr gk)
  have N37 := Fr.snoc X37 N36 g
  obtain ⟨T38, h38, X38, e38, W38, V38q, st38⟩ := own_stI X37 hx hZ e37 V37 (j := (36 : Int32)) (i := 36) (by decide) (by decide) (by omega) (g := (mkF m 240 #[.val (.int mode), .val (.int pick), .val (.int delta), .unset, .unset] [(.int (65008 : Int32)), (.int (36 : Int32)), (.ref b), (.ref b)])) rfl rfl (hb hby at_240)
  obtain ⟨f38, V38⟩ : ∃ f, Iar Z h38 b .int 41 f := ⟨_, V38q⟩
  clear V38q
  have K38 : Keep h0 h38 [] := K37.wr W38 (Or.inr gk)
  have N38 := Fr.snoc X38 N37 g
  obtain ⟨T39, h39, X39, e39, W39, V39q, st39⟩ := own_stI X38 hx hZ e38 V38 (j := (37 : Int32)) (i := 37) (by decide) (by decide) (by omega) (g := (mkF m 246 #[.val (.int mode), .val (.int pick), .val (.int delta), .unset, .unset] [(.int (65533 : Int32)), (.int (37 : Int32)), (.ref b), (.ref b)])) rfl rfl (hb hby at_246)
  obtain ⟨f39, V39⟩ : ∃ f, Iar Z h39 b .int 41 f := ⟨_, V39q⟩
  clear V39q
  have K39 : Keep h0 h39 [] := K38.wr W39 (Or.inr gk)
  have N39 := Fr.snoc X39 N38 g
  obtain ⟨T40, h40, X40, e40, W40, V40q, st40⟩ := own_stI X39 hx hZ e39 V39 (j := (38 : Int32)) (i := 38) (by decide) (by decide) (by omega) (g := (mkF m 252 #[.val (.int mode), .val (.int pick), .val (.int delta), .unset, .unset] [(.int (65536 : Int32)), (.int (38 : Int32)), (.ref b), (.ref b)])) rfl rfl (hb hby at_252)
  obtain ⟨f40, V40⟩ : ∃ f, Iar Z h40 b .int 41 f := ⟨_, V40q⟩
  clear V40q
  have K40 : Keep h0 h40 [] := K39.wr W40 (Or.inr gk)
  have N40 := Fr.snoc X40 N39 g
  obtain ⟨T41, h41, X41, e41, W41, V41q, st41⟩ := own_stI X40 hx hZ e40 V40 (j := (39 : Int32)) (i := 39) (by decide) (by decide) (by omega) (g := (mkF m 258 #[.val (.int mode), .val (.int pick), .val (.int delta), .unset, .unset] [(.int (983039 : Int32)), (.int (39 : Int32)), (.ref b), (.ref b)])) rfl rfl (hb hby at_258)
  obtain ⟨f41, V41⟩ : ∃ f, Iar Z h41 b .int 41 f := ⟨_, V41q⟩
  clear V41q
  have K41 : Keep h0 h41 [] := K40.wr W41 (Or.inr gk)
  have N41 := Fr.snoc X41 N40 g
  obtain ⟨T42, h42, X42, e42, W42, V42q, st42⟩ := own_stI X41 hx hZ e41 V41 (j := (40 : Int32)) (i := 40) (by decide) (by decide) (by omega) (g := (mkF m 264 #[.val (.int mode), .val (.int pick), .val (.int delta), .unset, .unset] [(.int (1114111 : Int32)), (.int (40 : Int32)), (.ref b), (.ref b)])) rfl rfl (hb hby at_264)
  obtain ⟨f42, V42⟩ : ∃ f, Iar Z h42 b .int 41 f := ⟨_, V42q⟩
  clear V42q
  have K42 : Keep h0 h42 [] := K41.wr W42 (Or.inr gk)
  have N42 := Fr.snoc X42 N41 g
  refine ⟨T42, _, b, _, _, X42, e42, N42, K42, V42, fun target kt => ?_⟩
  show Steps p.tables e below (T0.setTop (mkF m 0 #[.val (.int mode), .val (.int pick), .val (.int delta), .unset, .unset] [])) _
  refine XS.bipush X0.here hx rfl (hb hby at_0) ?_
  show Steps p.tables e below (T0.setTop (mkF m 2 #[.val (.int mode), .val (.int pick), .val (.int delta), .unset, .unset] [(.int (41 : Int32))])) _
  refine st1 _ ?_
  show Steps p.tables e below (T1.setTop (mkF m 4 #[.val (.int mode), .val (.int pick), .val (.int delta), .unset, .unset] [(.ref b)])) _
  refine XS.dup X1.here hx rfl (hb hby at_4) rfl rfl ?_
  show Steps p.tables e below (T1.setTop (mkF m 5 #[.val (.int mode), .val (.int pick), .val (.int delta), .unset, .unset] [(.ref b), (.ref b)])) _
  refine XS.iconst X1.here hx rfl (hb hby at_5) ?_
  show Steps p.tables e below (T1.setTop (mkF m 6 #[.val (.int mode), .val (.int pick), .val (.int delta), .unset, .unset] [(.int (0 : Int32)), (.ref b), (.ref b)])) _
  refine XS.iconst X1.here hx rfl (hb hby at_6) ?_
  show Steps p.tables e below (T1.setTop (mkF m 7 #[.val (.int mode), .val (.int pick), .val (.int delta), .unset, .unset] [(.int (0 : Int32)), (.int (0 : Int32)), (.ref b), (.ref b)])) _
  refine st2 _ ?_
  show Steps p.tables e below (T2.setTop (mkF m 8 #[.val (.int mode), .val (.int pick), .val (.int delta), .unset, .unset] [(.ref b)])) _
  refine XS.dup X2.here hx rfl (hb hby at_8) rfl rfl ?_
  show Steps p.tables e below (T2.setTop (mkF m 9 #[.val (.int mode), .val (.int pick), .val (.int delta), .unset, .unset] [(.ref b), (.ref b)])) _
  refine XS.iconst X2.here hx rfl (hb hby at_9) ?_
  show Steps p.tables e below (T2.setTop (mkF m 10 #[.val (.int mode), .val (.int pick), .val (.int delta), .unset, .unset] [(.int (1 : Int32)), (.ref b), (.ref b)])) _
  refine XS.bipush X2.here hx rfl (hb hby at_10) ?_
  show Steps p.tables e below (T2.setTop (mkF m 12 #[.val (.int mode), .val (.int pick), .val (.int delta), .unset, .unset] [(.int (45 : Int32)), (.int (1 : Int32)), (.ref b), (.ref b)])) _
  refine st3 _ ?_
  show Steps p.tables e below (T3.setTop (mkF m 13 #[.val (.int mode), .val (.int pick), .val (.int delta), .unset, .unset] [(.ref b)])) _
  refine XS.dup X3.here hx rfl (hb hby at_13) rfl rfl ?_
  show Steps p.tables e below (T3.setTop (mkF m 14 #[.val (.int mode), .val (.int pick), .val (.int delta), .unset, .unset] [(.ref b), (.ref b)])) _
  refine XS.iconst X3.here hx rfl (hb hby at_14) ?_
  show Steps p.tables e below (T3.setTop (mkF m 15 #[.val (.int mode), .val (.int pick), .val (.int delta), .unset, .unset] [(.int (2 : Int32)), (.ref b), (.ref b)])) _
  refine XS.bipush X3.here hx rfl (hb hby at_15) ?_
  show Steps p.tables e below (T3.setTop (mkF m 17 #[.val (.int mode), .val (.int pick), .val (.int delta), .unset, .unset] [(.int (48 : Int32)), (.int (2 : Int32)), (.ref b), (.ref b)])) _
  refine st4 _ ?_
  show Steps p.tables e below (T4.setTop (mkF m 18 #[.val (.int mode), .val (.int pick), .val (.int delta), .unset, .unset] [(.ref b)])) _
  refine XS.dup X4.here hx rfl (hb hby at_18) rfl rfl ?_
  show Steps p.tables e below (T4.setTop (mkF m 19 #[.val (.int mode), .val (.int pick), .val (.int delta), .unset, .unset] [(.ref b), (.ref b)])) _
  refine XS.iconst X4.here hx rfl (hb hby at_19) ?_
  show Steps p.tables e below (T4.setTop (mkF m 20 #[.val (.int mode), .val (.int pick), .val (.int delta), .unset, .unset] [(.int (3 : Int32)), (.ref b), (.ref b)])) _
  refine XS.bipush X4.here hx rfl (hb hby at_20) ?_
  show Steps p.tables e below (T4.setTop (mkF m 22 #[.val (.int mode), .val (.int pick), .val (.int delta), .unset, .unset] [(.int (57 : Int32)), (.int (3 : Int32)), (.ref b), (.ref b)])) _
  refine st5 _ ?_
  show Steps p.tables e below (T5.setTop (mkF m 23 #[.val (.int mode), .val (.int pick), .val (.int delta), .unset, .unset] [(.ref b)])) _
  refine XS.dup X5.here hx rfl (hb hby at_23) rfl rfl ?_
  show Steps p.tables e below (T5.setTop (mkF m 24 #[.val (.int mode), .val (.int pick), .val (.int delta), .unset, .unset] [(.ref b), (.ref b)])) _
  refine XS.iconst X5.here hx rfl (hb hby at_24) ?_
  show Steps p.tables e below (T5.setTop (mkF m 25 #[.val (.int mode), .val (.int pick), .val (.int delta), .unset, .unset] [(.int (4 : Int32)), (.ref b), (.ref b)])) _
  refine XS.bipush X5.here hx rfl (hb hby at_25) ?_
  show Steps p.tables e below (T5.setTop (mkF m 27 #[.val (.int mode), .val (.int pick), .val (.int delta), .unset, .unset] [(.int (58 : Int32)), (.int (4 : Int32)), (.ref b), (.ref b)])) _
  refine st6 _ ?_
  show Steps p.tables e below (T6.setTop (mkF m 28 #[.val (.int mode), .val (.int pick), .val (.int delta), .unset, .unset] [(.ref b)])) _
  refine XS.dup X6.here hx rfl (hb hby at_28) rfl rfl ?_
  show Steps p.tables e below (T6.setTop (mkF m 29 #[.val (.int mode), .val (.int pick), .val (.int delta), .unset, .unset] [(.ref b), (.ref b)])) _
  refine XS.iconst X6.here hx rfl (hb hby at_29) ?_
  show Steps p.tables e below (T6.setTop (mkF m 30 #[.val (.int mode), .val (.int pick), .val (.int delta), .unset, .unset] [(.int (5 : Int32)), (.ref b), (.ref b)])) _
  refine XS.bipush X6.here hx rfl (hb hby at_30) ?_
  show Steps p.tables e below (T6.setTop (mkF m 32 #[.val (.int mode), .val (.int pick), .val (.int delta), .unset, .unset] [(.int (65 : Int32)), (.int (5 : Int32)), (.ref b), (.ref b)])) _
  refine st7 _ ?_
  show Steps p.tables e below (T7.setTop (mkF m 33 #[.val (.int mode), .val (.int pick), .val (.int delta), .unset, .unset] [(.ref b)])) _
  refine XS.dup X7.here hx rfl (hb hby at_33) rfl rfl ?_
  show Steps p.tables e below (T7.setTop (mkF m 34 #[.val (.int mode), .val (.int pick), .val (.int delta), .unset, .unset] [(.ref b), (.ref b)])) _
  refine XS.bipush X7.here hx rfl (hb hby at_34) ?_
  show Steps p.tables e below (T7.setTop (mkF m 36 #[.val (.int mode), .val (.int pick), .val (.int delta), .unset, .unset] [(.int (6 : Int32)), (.ref b), (.ref b)])) _
  refine XS.bipush X7.here hx rfl (hb hby at_36) ?_
  show Steps p.tables e below (T7.setTop (mkF m 38 #[.val (.int mode), .val (.int pick), .val (.int delta), .unset, .unset] [(.int (90 : Int32)), (.int (6 : Int32)), (.ref b), (.ref b)])) _
  refine st8 _ ?_
  show Steps p.tables e below (T8.setTop (mkF m 39 #[.val (.int mode), .val (.int pick), .val (.int delta), .unset, .unset] [(.ref b)])) _
  refine XS.dup X8.here hx rfl (hb hby at_39) rfl rfl ?_
  show Steps p.tables e below (T8.setTop (mkF m 40 #[.val (.int mode), .val (.int pick), .val (.int delta), .unset, .unset] [(.ref b), (.ref b)])) _
  refine XS.bipush X8.here hx rfl (hb hby at_40) ?_
  show Steps p.tables e below (T8.setTop (mkF m 42 #[.val (.int mode), .val (.int pick), .val (.int delta), .unset, .unset] [(.int (7 : Int32)), (.ref b), (.ref b)])) _
  refine XS.bipush X8.here hx rfl (hb hby at_42) ?_
  show Steps p.tables e below (T8.setTop (mkF m 44 #[.val (.int mode), .val (.int pick), .val (.int delta), .unset, .unset] [(.int (95 : Int32)), (.int (7 : Int32)), (.ref b), (.ref b)])) _
  refine st9 _ ?_
  show Steps p.tables e below (T9.setTop (mkF m 45 #[.val (.int mode), .val (.int pick), .val (.int delta), .unset, .unset] [(.ref b)])) _
  refine XS.dup X9.here hx rfl (hb hby at_45) rfl rfl ?_
  show Steps p.tables e below (T9.setTop (mkF m 46 #[.val (.int mode), .val (.int pick), .val (.int delta), .unset, .unset] [(.ref b), (.ref b)])) _
  refine XS.bipush X9.here hx rfl (hb hby at_46) ?_
  show Steps p.tables e below (T9.setTop (mkF m 48 #[.val (.int mode), .val (.int pick), .val (.int delta), .unset, .unset] [(.int (8 : Int32)), (.ref b), (.ref b)])) _
  refine XS.bipush X9.here hx rfl (hb hby at_48) ?_
  show Steps p.tables e below (T9.setTop (mkF m 50 #[.val (.int mode), .val (.int pick), .val (.int delta), .unset, .unset] [(.int (97 : Int32)), (.int (8 : Int32)), (.ref b), (.ref b)])) _
  refine st10 _ ?_
  show Steps p.tables e below (T10.setTop (mkF m 51 #[.val (.int mode), .val (.int pick), .val (.int delta), .unset, .unset] [(.ref b)])) _
  refine XS.dup X10.here hx rfl (hb hby at_51) rfl rfl ?_
  show Steps p.tables e below (T10.setTop (mkF m 52 #[.val (.int mode), .val (.int pick), .val (.int delta), .unset, .unset] [(.ref b), (.ref b)])) _
  refine XS.bipush X10.here hx rfl (hb hby at_52) ?_
  show Steps p.tables e below (T10.setTop (mkF m 54 #[.val (.int mode), .val (.int pick), .val (.int delta), .unset, .unset] [(.int (9 : Int32)), (.ref b), (.ref b)])) _
  refine XS.bipush X10.here hx rfl (hb hby at_54) ?_
  show Steps p.tables e below (T10.setTop (mkF m 56 #[.val (.int mode), .val (.int pick), .val (.int delta), .unset, .unset] [(.int (122 : Int32)), (.int (9 : Int32)), (.ref b), (.ref b)])) _
  refine st11 _ ?_
  show Steps p.tables e below (T11.setTop (mkF m 57 #[.val (.int mode), .val (.int pick), .val (.int delta), .unset, .unset] [(.ref b)])) _
  refine XS.dup X11.here hx rfl (hb hby at_57) rfl rfl ?_
  show Steps p.tables e below (T11.setTop (mkF m 58 #[.val (.int mode), .val (.int pick), .val (.int delta), .unset, .unset] [(.ref b), (.ref b)])) _
  refine XS.bipush X11.here hx rfl (hb hby at_58) ?_
  show Steps p.tables e below (T11.setTop (mkF m 60 #[.val (.int mode), .val (.int pick), .val (.int delta), .unset, .unset] [(.int (10 : Int32)), (.ref b), (.ref b)])) _
  refine XS.bipush X11.here hx rfl (hb hby at_60) ?_
  show Steps p.tables e below (T11.setTop (mkF m 62 #[.val (.int mode), .val (.int pick), .val (.int delta), .unset, .unset] [(.int (127 : Int32)), (.int (10 : Int32)), (.ref b), (.ref b)])) _
  refine st12 _ ?_
  show Steps p.tables e below (T12.setTop (mkF m 63 #[.val (.int mode), .val (.int pick), .val (.int delta), .unset, .unset] [(.ref b)])) _
  refine XS.dup X12.here hx rfl (hb hby at_63) rfl rfl ?_
  show Steps p.tables e below (T12.setTop (mkF m 64 #[.val (.int mode), .val (.int pick), .val (.int delta), .unset, .unset] [(.ref b), (.ref b)])) _
  refine XS.bipush X12.here hx rfl (hb hby at_64) ?_
  show Steps p.tables e below (T12.setTop (mkF m 66 #[.val (.int mode), .val (.int pick), .val (.int delta), .unset, .unset] [(.int (11 : Int32)), (.ref b), (.ref b)])) _
  refine XS.sipush X12.here hx rfl (hb hby at_66) ?_
  show Steps p.tables e below (T12.setTop (mkF m 69 #[.val (.int mode), .val (.int pick), .val (.int delta), .unset, .unset] [(.int (128 : Int32)), (.int (11 : Int32)), (.ref b), (.ref b)])) _
  refine st13 _ ?_
  show Steps p.tables e below (T13.setTop (mkF m 70 #[.val (.int mode), .val (.int pick), .val (.int delta), .unset, .unset] [(.ref b)])) _
  refine XS.dup X13.here hx rfl (hb hby at_70) rfl rfl ?_
  show Steps p.tables e below (T13.setTop (mkF m 71 #[.val (.int mode), .val (.int pick), .val (.int delta), .unset, .unset] [(.ref b), (.ref b)])) _
  refine XS.bipush X13.here hx rfl (hb hby at_71) ?_
  show Steps p.tables e below (T13.setTop (mkF m 73 #[.val (.int mode), .val (.int pick), .val (.int delta), .unset, .unset] [(.int (12 : Int32)), (.ref b), (.ref b)])) _
  refine XS.sipush X13.here hx rfl (hb hby at_73) ?_
  show Steps p.tables e below (T13.setTop (mkF m 76 #[.val (.int mode), .val (.int pick), .val (.int delta), .unset, .unset] [(.int (192 : Int32)), (.int (12 : Int32)), (.ref b), (.ref b)])) _
  refine st14 _ ?_
  show Steps p.tables e below (T14.setTop (mkF m 77 #[.val (.int mode), .val (.int pick), .val (.int delta), .unset, .unset] [(.ref b)])) _
  refine XS.dup X14.here hx rfl (hb hby at_77) rfl rfl ?_
  show Steps p.tables e below (T14.setTop (mkF m 78 #[.val (.int mode), .val (.int pick), .val (.int delta), .unset, .unset] [(.ref b), (.ref b)])) _
  refine XS.bipush X14.here hx rfl (hb hby at_78) ?_
  show Steps p.tables e below (T14.setTop (mkF m 80 #[.val (.int mode), .val (.int pick), .val (.int delta), .unset, .unset] [(.int (13 : Int32)), (.ref b), (.ref b)])) _
  refine XS.sipush X14.here hx rfl (hb hby at_80) ?_
  show Steps p.tables e below (T14.setTop (mkF m 83 #[.val (.int mode), .val (.int pick), .val (.int delta), .unset, .unset] [(.int (214 : Int32)), (.int (13 : Int32)), (.ref b), (.ref b)])) _
  refine st15 _ ?_
  show Steps p.tables e below (T15.setTop (mkF m 84 #[.val (.int mode), .val (.int pick), .val (.int delta), .unset, .unset] [(.ref b)])) _
  refine XS.dup X15.here hx rfl (hb hby at_84) rfl rfl ?_
  show Steps p.tables e below (T15.setTop (mkF m 85 #[.val (.int mode), .val (.int pick), .val (.int delta), .unset, .unset] [(.ref b), (.ref b)])) _
  refine XS.bipush X15.here hx rfl (hb hby at_85) ?_
  show Steps p.tables e below (T15.setTop (mkF m 87 #[.val (.int mode), .val (.int pick), .val (.int delta), .unset, .unset] [(.int (14 : Int32)), (.ref b), (.ref b)])) _
  refine XS.sipush X15.here hx rfl (hb hby at_87) ?_
  show Steps p.tables e below (T15.setTop (mkF m 90 #[.val (.int mode), .val (.int pick), .val (.int delta), .unset, .unset] [(.int (215 : Int32)), (.int (14 : Int32)), (.ref b), (.ref b)])) _
  refine st16 _ ?_
  show Steps p.tables e below (T16.setTop (mkF m 91 #[.val (.int mode), .val (.int pick), .val (.int delta), .unset, .unset] [(.ref b)])) _
  refine XS.dup X16.here hx rfl (hb hby at_91) rfl rfl ?_
  show Steps p.tables e below (T16.setTop (mkF m 92 #[.val (.int mode), .val (.int pick), .val (.int delta), .unset, .unset] [(.ref b), (.ref b)])) _
  refine XS.bipush X16.here hx rfl (hb hby at_92) ?_
  show Steps p.tables e below (T16.setTop (mkF m 94 #[.val (.int mode), .val (.int pick), .val (.int delta), .unset, .unset] [(.int (15 : Int32)), (.ref b), (.ref b)])) _
  refine XS.sipush X16.here hx rfl (hb hby at_94) ?_
  show Steps p.tables e below (T16.setTop (mkF m 97 #[.val (.int mode), .val (.int pick), .val (.int delta), .unset, .unset] [(.int (216 : Int32)), (.int (15 : Int32)), (.ref b), (.ref b)])) _
  refine st17 _ ?_
  show Steps p.tables e below (T17.setTop (mkF m 98 #[.val (.int mode), .val (.int pick), .val (.int delta), .unset, .unset] [(.ref b)])) _
  refine XS.dup X17.here hx rfl (hb hby at_98) rfl rfl ?_
  show Steps p.tables e below (T17.setTop (mkF m 99 #[.val (.int mode), .val (.int pick), .val (.int delta), .unset, .unset] [(.ref b), (.ref b)])) _
  refine XS.bipush X17.here hx rfl (hb hby at_99) ?_
  show Steps p.tables e below (T17.setTop (mkF m 101 #[.val (.int mode), .val (.int pick), .val (.int delta), .unset, .unset] [(.int (16 : Int32)), (.ref b), (.ref b)])) _
  refine XS.sipush X17.here hx rfl (hb hby at_101) ?_
  show Steps p.tables e below (T17.setTop (mkF m 104 #[.val (.int mode), .val (.int pick), .val (.int delta), .unset, .unset] [(.int (246 : Int32)), (.int (16 : Int32)), (.ref b), (.ref b)])) _
  refine st18 _ ?_
  show Steps p.tables e below (T18.setTop (mkF m 105 #[.val (.int mode), .val (.int pick), .val (.int delta), .unset, .unset] [(.ref b)])) _
  refine XS.dup X18.here hx rfl (hb hby at_105) rfl rfl ?_
  show Steps p.tables e below (T18.setTop (mkF m 106 #[.val (.int mode), .val (.int pick), .val (.int delta), .unset, .unset] [(.ref b), (.ref b)])) _
  refine XS.bipush X18.here hx rfl (hb hby at_106) ?_
  show Steps p.tables e below (T18.setTop (mkF m 108 #[.val (.int mode), .val (.int pick), .val (.int delta), .unset, .unset] [(.int (17 : Int32)), (.ref b), (.ref b)])) _
  refine XS.sipush X18.here hx rfl (hb hby at_108) ?_
  show Steps p.tables e below (T18.setTop (mkF m 111 #[.val (.int mode), .val (.int pick), .val (.int delta), .unset, .unset] [(.int (247 : Int32)), (.int (17 : Int32)), (.ref b), (.ref b)])) _
  refine st19 _ ?_
  show Steps p.tables e below (T19.setTop (mkF m 112 #[.val (.int mode), .val (.int pick), .val (.int delta), .unset, .unset] [(.ref b)])) _
  refine XS.dup X19.here hx rfl (hb hby at_112) rfl rfl ?_
  show Steps p.tables e below (T19.setTop (mkF m 113 #[.val (.int mode), .val (.int pick), .val (.int delta), .unset, .unset] [(.ref b), (.ref b)])) _
  refine XS.bipush X19.here hx rfl (hb hby at_113) ?_
  show Steps p.tables e below (T19.setTop (mkF m 115 #[.val (.int mode), .val (.int pick), .val (.int delta), .unset, .unset] [(.int (18 : Int32)), (.ref b), (.ref b)])) _
  refine XS.sipush X19.here hx rfl (hb hby at_115) ?_
  show Steps p.tables e below (T19.setTop (mkF m 118 #[.val (.int mode), .val (.int pick), .val (.int delta), .unset, .unset] [(.int (248 : Int32)), (.int (18 : Int32)), (.ref b), (.ref b)])) _
  refine st20 _ ?_
  show Steps p.tables e below (T20.setTop (mkF m 119 #[.val (.int mode), .val (.int pick), .val (.int delta), .unset, .unset] [(.ref b)])) _
  refine XS.dup X20.here hx rfl (hb hby at_119) rfl rfl ?_
  show Steps p.tables e below (T20.setTop (mkF m 120 #[.val (.int mode), .val (.int pick), .val (.int delta), .unset, .unset] [(.ref b), (.ref b)])) _
  refine XS.bipush X20.here hx rfl (hb hby at_120) ?_
  show Steps p.tables e below (T20.setTop (mkF m 122 #[.val (.int mode), .val (.int pick), .val (.int delta), .unset, .unset] [(.int (19 : Int32)), (.ref b), (.ref b)])) _
  refine XS.sipush X20.here hx rfl (hb hby at_122) ?_
  show Steps p.tables e below (T20.setTop (mkF m 125 #[.val (.int mode), .val (.int pick), .val (.int delta), .unset, .unset] [(.int (767 : Int32)), (.int (19 : Int32)), (.ref b), (.ref b)])) _
  refine st21 _ ?_
  show Steps p.tables e below (T21.setTop (mkF m 126 #[.val (.int mode), .val (.int pick), .val (.int delta), .unset, .unset] [(.ref b)])) _
  refine XS.dup X21.here hx rfl (hb hby at_126) rfl rfl ?_
  show Steps p.tables e below (T21.setTop (mkF m 127 #[.val (.int mode), .val (.int pick), .val (.int delta), .unset, .unset] [(.ref b), (.ref b)])) _
  refine XS.bipush X21.here hx rfl (hb hby at_127) ?_
  show Steps p.tables e below (T21.setTop (mkF m 129 #[.val (.int mode), .val (.int pick), .val (.int delta), .unset, .unset] [(.int (20 : Int32)), (.ref b), (.ref b)])) _
  refine XS.sipush X21.here hx rfl (hb hby at_129) ?_
  show Steps p.tables e below (T21.setTop (mkF m 132 #[.val (.int mode), .val (.int pick), .val (.int delta), .unset, .unset] [(.int (768 : Int32)), (.int (20 : Int32)), (.ref b), (.ref b)])) _
  refine st22 _ ?_
  show Steps p.tables e below (T22.setTop (mkF m 133 #[.val (.int mode), .val (.int pick), .val (.int delta), .unset, .unset] [(.ref b)])) _
  refine XS.dup X22.here hx rfl (hb hby at_133) rfl rfl ?_
  show Steps p.tables e below (T22.setTop (mkF m 134 #[.val (.int mode), .val (.int pick), .val (.int delta), .unset, .unset] [(.ref b), (.ref b)])) _
  refine XS.bipush X22.here hx rfl (hb hby at_134) ?_
  show Steps p.tables e below (T22.setTop (mkF m 136 #[.val (.int mode), .val (.int pick), .val (.int delta), .unset, .unset] [(.int (21 : Int32)), (.ref b), (.ref b)])) _
  refine XS.sipush X22.here hx rfl (hb hby at_136) ?_
  show Steps p.tables e below (T22.setTop (mkF m 139 #[.val (.int mode), .val (.int pick), .val (.int delta), .unset, .unset] [(.int (880 : Int32)), (.int (21 : Int32)), (.ref b), (.ref b)])) _
  refine st23 _ ?_
  show Steps p.tables e below (T23.setTop (mkF m 140 #[.val (.int mode), .val (.int pick), .val (.int delta), .unset, .unset] [(.ref b)])) _
  refine XS.dup X23.here hx rfl (hb hby at_140) rfl rfl ?_
  show Steps p.tables e below (T23.setTop (mkF m 141 #[.val (.int mode), .val (.int pick), .val (.int delta), .unset, .unset] [(.ref b), (.ref b)])) _
  refine XS.bipush X23.here hx rfl (hb hby at_141) ?_
  show Steps p.tables e below (T23.setTop (mkF m 143 #[.val (.int mode), .val (.int pick), .val (.int delta), .unset, .unset] [(.int (22 : Int32)), (.ref b), (.ref b)])) _
  refine XS.sipush X23.here hx rfl (hb hby at_143) ?_
  show Steps p.tables e below (T23.setTop (mkF m 146 #[.val (.int mode), .val (.int pick), .val (.int delta), .unset, .unset] [(.int (893 : Int32)), (.int (22 : Int32)), (.ref b), (.ref b)])) _
  refine st24 _ ?_
  show Steps p.tables e below (T24.setTop (mkF m 147 #[.val (.int mode), .val (.int pick), .val (.int delta), .unset, .unset] [(.ref b)])) _
  refine XS.dup X24.here hx rfl (hb hby at_147) rfl rfl ?_
  show Steps p.tables e below (T24.setTop (mkF m 148 #[.val (.int mode), .val (.int pick), .val (.int delta), .unset, .unset] [(.ref b), (.ref b)])) _
  refine XS.bipush X24.here hx rfl (hb hby at_148) ?_
  show Steps p.tables e below (T24.setTop (mkF m 150 #[.val (.int mode), .val (.int pick), .val (.int delta), .unset, .unset] [(.int (23 : Int32)), (.ref b), (.ref b)])) _
  refine XS.sipush X24.here hx rfl (hb hby at_150) ?_
  show Steps p.tables e below (T24.setTop (mkF m 153 #[.val (.int mode), .val (.int pick), .val (.int delta), .unset, .unset] [(.int (894 : Int32)), (.int (23 : Int32)), (.ref b), (.ref b)])) _
  refine st25 _ ?_
  show Steps p.tables e below (T25.setTop (mkF m 154 #[.val (.int mode), .val (.int pick), .val (.int delta), .unset, .unset] [(.ref b)])) _
  refine XS.dup X25.here hx rfl (hb hby at_154) rfl rfl ?_
  show Steps p.tables e below (T25.setTop (mkF m 155 #[.val (.int mode), .val (.int pick), .val (.int delta), .unset, .unset] [(.ref b), (.ref b)])) _
  refine XS.bipush X25.here hx rfl (hb hby at_155) ?_
  show Steps p.tables e below (T25.setTop (mkF m 157 #[.val (.int mode), .val (.int pick), .val (.int delta), .unset, .unset] [(.int (24 : Int32)), (.ref b), (.ref b)])) _
  refine XS.sipush X25.here hx rfl (hb hby at_157) ?_
  show Steps p.tables e below (T25.setTop (mkF m 160 #[.val (.int mode), .val (.int pick), .val (.int delta), .unset, .unset] [(.int (895 : Int32)), (.int (24 : Int32)), (.ref b), (.ref b)])) _
  refine st26 _ ?_
  show Steps p.tables e below (T26.setTop (mkF m 161 #[.val (.int mode), .val (.int pick), .val (.int delta), .unset, .unset] [(.ref b)])) _
  refine XS.dup X26.here hx rfl (hb hby at_161) rfl rfl ?_
  show Steps p.tables e below (T26.setTop (mkF m 162 #[.val (.int mode), .val (.int pick), .val (.int delta), .unset, .unset] [(.ref b), (.ref b)])) _
  refine XS.bipush X26.here hx rfl (hb hby at_162) ?_
  show Steps p.tables e below (T26.setTop (mkF m 164 #[.val (.int mode), .val (.int pick), .val (.int delta), .unset, .unset] [(.int (25 : Int32)), (.ref b), (.ref b)])) _
  refine XS.sipush X26.here hx rfl (hb hby at_164) ?_
  show Steps p.tables e below (T26.setTop (mkF m 167 #[.val (.int mode), .val (.int pick), .val (.int delta), .unset, .unset] [(.int (8191 : Int32)), (.int (25 : Int32)), (.ref b), (.ref b)])) _
  refine st27 _ ?_
  show Steps p.tables e below (T27.setTop (mkF m 168 #[.val (.int mode), .val (.int pick), .val (.int delta), .unset, .unset] [(.ref b)])) _
  refine XS.dup X27.here hx rfl (hb hby at_168) rfl rfl ?_
  show Steps p.tables e below (T27.setTop (mkF m 169 #[.val (.int mode), .val (.int pick), .val (.int delta), .unset, .unset] [(.ref b), (.ref b)])) _
  refine XS.bipush X27.here hx rfl (hb hby at_169) ?_
  show Steps p.tables e below (T27.setTop (mkF m 171 #[.val (.int mode), .val (.int pick), .val (.int delta), .unset, .unset] [(.int (26 : Int32)), (.ref b), (.ref b)])) _
  refine XS.sipush X27.here hx rfl (hb hby at_171) ?_
  show Steps p.tables e below (T27.setTop (mkF m 174 #[.val (.int mode), .val (.int pick), .val (.int delta), .unset, .unset] [(.int (8204 : Int32)), (.int (26 : Int32)), (.ref b), (.ref b)])) _
  refine st28 _ ?_
  show Steps p.tables e below (T28.setTop (mkF m 175 #[.val (.int mode), .val (.int pick), .val (.int delta), .unset, .unset] [(.ref b)])) _
  refine XS.dup X28.here hx rfl (hb hby at_175) rfl rfl ?_
  show Steps p.tables e below (T28.setTop (mkF m 176 #[.val (.int mode), .val (.int pick), .val (.int delta), .unset, .unset] [(.ref b), (.ref b)])) _
  refine XS.bipush X28.here hx rfl (hb hby at_176) ?_
  show Steps p.tables e below (T28.setTop (mkF m 178 #[.val (.int mode), .val (.int pick), .val (.int delta), .unset, .unset] [(.int (27 : Int32)), (.ref b), (.ref b)])) _
  refine XS.sipush X28.here hx rfl (hb hby at_178) ?_
  show Steps p.tables e below (T28.setTop (mkF m 181 #[.val (.int mode), .val (.int pick), .val (.int delta), .unset, .unset] [(.int (8205 : Int32)), (.int (27 : Int32)), (.ref b), (.ref b)])) _
  refine st29 _ ?_
  show Steps p.tables e below (T29.setTop (mkF m 182 #[.val (.int mode), .val (.int pick), .val (.int delta), .unset, .unset] [(.ref b)])) _
  refine XS.dup X29.here hx rfl (hb hby at_182) rfl rfl ?_
  show Steps p.tables e below (T29.setTop (mkF m 183 #[.val (.int mode), .val (.int pick), .val (.int delta), .unset, .unset] [(.ref b), (.ref b)])) _
  refine XS.bipush X29.here hx rfl (hb hby at_183) ?_
  show Steps p.tables e below (T29.setTop (mkF m 185 #[.val (.int mode), .val (.int pick), .val (.int delta), .unset, .unset] [(.int (28 : Int32)), (.ref b), (.ref b)])) _
  refine XS.sipush X29.here hx rfl (hb hby at_185) ?_
  show Steps p.tables e below (T29.setTop (mkF m 188 #[.val (.int mode), .val (.int pick), .val (.int delta), .unset, .unset] [(.int (8304 : Int32)), (.int (28 : Int32)), (.ref b), (.ref b)])) _
  refine st30 _ ?_
  show Steps p.tables e below (T30.setTop (mkF m 189 #[.val (.int mode), .val (.int pick), .val (.int delta), .unset, .unset] [(.ref b)])) _
  refine XS.dup X30.here hx rfl (hb hby at_189) rfl rfl ?_
  show Steps p.tables e below (T30.setTop (mkF m 190 #[.val (.int mode), .val (.int pick), .val (.int delta), .unset, .unset] [(.ref b), (.ref b)])) _
  refine XS.bipush X30.here hx rfl (hb hby at_190) ?_
  show Steps p.tables e below (T30.setTop (mkF m 192 #[.val (.int mode), .val (.int pick), .val (.int delta), .unset, .unset] [(.int (29 : Int32)), (.ref b), (.ref b)])) _
  refine XS.sipush X30.here hx rfl (hb hby at_192) ?_
  show Steps p.tables e below (T30.setTop (mkF m 195 #[.val (.int mode), .val (.int pick), .val (.int delta), .unset, .unset] [(.int (8591 : Int32)), (.int (29 : Int32)), (.ref b), (.ref b)])) _
  refine st31 _ ?_
  show Steps p.tables e below (T31.setTop (mkF m 196 #[.val (.int mode), .val (.int pick), .val (.int delta), .unset, .unset] [(.ref b)])) _
  refine XS.dup X31.here hx rfl (hb hby at_196) rfl rfl ?_
  show Steps p.tables e below (T31.setTop (mkF m 197 #[.val (.int mode), .val (.int pick), .val (.int delta), .unset, .unset] [(.ref b), (.ref b)])) _
  refine XS.bipush X31.here hx rfl (hb hby at_197) ?_
  show Steps p.tables e below (T31.setTop (mkF m 199 #[.val (.int mode), .val (.int pick), .val (.int delta), .unset, .unset] [(.int (30 : Int32)), (.ref b), (.ref b)])) _
  refine XS.sipush X31.here hx rfl (hb hby at_199) ?_
  show Steps p.tables e below (T31.setTop (mkF m 202 #[.val (.int mode), .val (.int pick), .val (.int delta), .unset, .unset] [(.int (11264 : Int32)), (.int (30 : Int32)), (.ref b), (.ref b)])) _
  refine st32 _ ?_
  show Steps p.tables e below (T32.setTop (mkF m 203 #[.val (.int mode), .val (.int pick), .val (.int delta), .unset, .unset] [(.ref b)])) _
  refine XS.dup X32.here hx rfl (hb hby at_203) rfl rfl ?_
  show Steps p.tables e below (T32.setTop (mkF m 204 #[.val (.int mode), .val (.int pick), .val (.int delta), .unset, .unset] [(.ref b), (.ref b)])) _
  refine XS.bipush X32.here hx rfl (hb hby at_204) ?_
  show Steps p.tables e below (T32.setTop (mkF m 206 #[.val (.int mode), .val (.int pick), .val (.int delta), .unset, .unset] [(.int (31 : Int32)), (.ref b), (.ref b)])) _
  refine XS.sipush X32.here hx rfl (hb hby at_206) ?_
  show Steps p.tables e below (T32.setTop (mkF m 209 #[.val (.int mode), .val (.int pick), .val (.int delta), .unset, .unset] [(.int (12271 : Int32)), (.int (31 : Int32)), (.ref b), (.ref b)])) _
  refine st33 _ ?_
  show Steps p.tables e below (T33.setTop (mkF m 210 #[.val (.int mode), .val (.int pick), .val (.int delta), .unset, .unset] [(.ref b)])) _
  refine XS.dup X33.here hx rfl (hb hby at_210) rfl rfl ?_
  show Steps p.tables e below (T33.setTop (mkF m 211 #[.val (.int mode), .val (.int pick), .val (.int delta), .unset, .unset] [(.ref b), (.ref b)])) _
  refine XS.bipush X33.here hx rfl (hb hby at_211) ?_
  show Steps p.tables e below (T33.setTop (mkF m 213 #[.val (.int mode), .val (.int pick), .val (.int delta), .unset, .unset] [(.int (32 : Int32)), (.ref b), (.ref b)])) _
  refine XS.sipush X33.here hx rfl (hb hby at_213) ?_
  show Steps p.tables e below (T33.setTop (mkF m 216 #[.val (.int mode), .val (.int pick), .val (.int delta), .unset, .unset] [(.int (12289 : Int32)), (.int (32 : Int32)), (.ref b), (.ref b)])) _
  refine st34 _ ?_
  show Steps p.tables e below (T34.setTop (mkF m 217 #[.val (.int mode), .val (.int pick), .val (.int delta), .unset, .unset] [(.ref b)])) _
  refine XS.dup X34.here hx rfl (hb hby at_217) rfl rfl ?_
  show Steps p.tables e below (T34.setTop (mkF m 218 #[.val (.int mode), .val (.int pick), .val (.int delta), .unset, .unset] [(.ref b), (.ref b)])) _
  refine XS.bipush X34.here hx rfl (hb hby at_218) ?_
  show Steps p.tables e below (T34.setTop (mkF m 220 #[.val (.int mode), .val (.int pick), .val (.int delta), .unset, .unset] [(.int (33 : Int32)), (.ref b), (.ref b)])) _
  refine X34.ldcInt hx hown (mvT hZ (hw _ (List.mem_of_getElem? (i := 1) rfl))) (g := (mkF m 220 #[.val (.int mode), .val (.int pick), .val (.int delta), .unset, .unset] [(.int (33 : Int32)), (.ref b), (.ref b)])) rfl (hb hby at_220) _ ?_
  show Steps p.tables e below (T34.setTop (mkF m 222 #[.val (.int mode), .val (.int pick), .val (.int delta), .unset, .unset] [(.int (55295 : Int32)), (.int (33 : Int32)), (.ref b), (.ref b)])) _
  refine st35 _ ?_
  show Steps p.tables e below (T35.setTop (mkF m 223 #[.val (.int mode), .val (.int pick), .val (.int delta), .unset, .unset] [(.ref b)])) _
  refine XS.dup X35.here hx rfl (hb hby at_223) rfl rfl ?_
  show Steps p.tables e below (T35.setTop (mkF m 224 #[.val (.int mode), .val (.int pick), .val (.int delta), .unset, .unset] [(.ref b), (.ref b)])) _
  refine XS.bipush X35.here hx rfl (hb hby at_224) ?_
  show Steps p.tables e below (T35.setTop (mkF m 226 #[.val (.int mode), .val (.int pick), .val (.int delta), .unset, .unset] [(.int (34 : Int32)), (.ref b), (.ref b)])) _
  refine X35.ldcInt hx hown (mvT hZ (hw _ (List.mem_of_getElem? (i := 2) rfl))) (g := (mkF m 226 #[.val (.int mode), .val (.int pick), .val (.int delta), .unset, .unset] [(.int (34 : Int32)), (.ref b), (.ref b)])) rfl (hb hby at_226) _ ?_
  show Steps p.tables e below (T35.setTop (mkF m 228 #[.val (.int mode), .val (.int pick), .val (.int delta), .unset, .unset] [(.int (63744 : Int32)), (.int (34 : Int32)), (.ref b), (.ref b)])) _
  refine st36 _ ?_
  show Steps p.tables e below (T36.setTop (mkF m 229 #[.val (.int mode), .val (.int pick), .val (.int delta), .unset, .unset] [(.ref b)])) _
  refine XS.dup X36.here hx rfl (hb hby at_229) rfl rfl ?_
  show Steps p.tables e below (T36.setTop (mkF m 230 #[.val (.int mode), .val (.int pick), .val (.int delta), .unset, .unset] [(.ref b), (.ref b)])) _
  refine XS.bipush X36.here hx rfl (hb hby at_230) ?_
  show Steps p.tables e below (T36.setTop (mkF m 232 #[.val (.int mode), .val (.int pick), .val (.int delta), .unset, .unset] [(.int (35 : Int32)), (.ref b), (.ref b)])) _
  refine X36.ldcInt hx hown (mvT hZ (hw _ (List.mem_of_getElem? (i := 3) rfl))) (g := (mkF m 232 #[.val (.int mode), .val (.int pick), .val (.int delta), .unset, .unset] [(.int (35 : Int32)), (.ref b), (.ref b)])) rfl (hb hby at_232) _ ?_
  show Steps p.tables e below (T36.setTop (mkF m 234 #[.val (.int mode), .val (.int pick), .val (.int delta), .unset, .unset] [(.int (64975 : Int32)), (.int (35 : Int32)), (.ref b), (.ref b)])) _
  refine st37 _ ?_
  show Steps p.tables e below (T37.setTop (mkF m 235 #[.val (.int mode), .val (.int pick), .val (.int delta), .unset, .unset] [(.ref b)])) _
  refine XS.dup X37.here hx rfl (hb hby at_235) rfl rfl ?_
  show Steps p.tables e below (T37.setTop (mkF m 236 #[.val (.int mode), .val (.int pick), .val (.int delta), .unset, .unset] [(.ref b), (.ref b)])) _
  refine XS.bipush X37.here hx rfl (hb hby at_236) ?_
  show Steps p.tables e below (T37.setTop (mkF m 238 #[.val (.int mode), .val (.int pick), .val (.int delta), .unset, .unset] [(.int (36 : Int32)), (.ref b), (.ref b)])) _
  refine X37.ldcInt hx hown (mvT hZ (hw _ (List.mem_of_getElem? (i := 4) rfl))) (g := (mkF m 238 #[.val (.int mode), .val (.int pick), .val (.int delta), .unset, .unset] [(.int (36 : Int32)), (.ref b), (.ref b)])) rfl (hb hby at_238) _ ?_
  show Steps p.tables e below (T37.setTop (mkF m 240 #[.val (.int mode), .val (.int pick), .val (.int delta), .unset, .unset] [(.int (65008 : Int32)), (.int (36 : Int32)), (.ref b), (.ref b)])) _
  refine st38 _ ?_
  show Steps p.tables e below (T38.setTop (mkF m 241 #[.val (.int mode), .val (.int pick), .val (.int delta), .unset, .unset] [(.ref b)])) _
  refine XS.dup X38.here hx rfl (hb hby at_241) rfl rfl ?_
  show Steps p.tables e below (T38.setTop (mkF m 242 #[.val (.int mode), .val (.int pick), .val (.int delta), .unset, .unset] [(.ref b), (.ref b)])) _
  refine XS.bipush X38.here hx rfl (hb hby at_242) ?_
  show Steps p.tables e below (T38.setTop (mkF m 244 #[.val (.int mode), .val (.int pick), .val (.int delta), .unset, .unset] [(.int (37 : Int32)), (.ref b), (.ref b)])) _
  refine X38.ldcInt hx hown (mvT hZ (hw _ (List.mem_of_getElem? (i := 5) rfl))) (g := (mkF m 244 #[.val (.int mode), .val (.int pick), .val (.int delta), .unset, .unset] [(.int (37 : Int32)), (.ref b), (.ref b)])) rfl (hb hby at_244) _ ?_
  show Steps p.tables e below (T38.setTop (mkF m 246 #[.val (.int mode), .val (.int pick), .val (.int delta), .unset, .unset] [(.int (65533 : Int32)), (.int (37 : Int32)), (.ref b), (.ref b)])) _
  refine st39 _ ?_
  show Steps p.tables e below (T39.setTop (mkF m 247 #[.val (.int mode), .val (.int pick), .val (.int delta), .unset, .unset] [(.ref b)])) _
  refine XS.dup X39.here hx rfl (hb hby at_247) rfl rfl ?_
  show Steps p.tables e below (T39.setTop (mkF m 248 #[.val (.int mode), .val (.int pick), .val (.int delta), .unset, .unset] [(.ref b), (.ref b)])) _
  refine XS.bipush X39.here hx rfl (hb hby at_248) ?_
  show Steps p.tables e below (T39.setTop (mkF m 250 #[.val (.int mode), .val (.int pick), .val (.int delta), .unset, .unset] [(.int (38 : Int32)), (.ref b), (.ref b)])) _
  refine X39.ldcInt hx hown (mvT hZ (hw _ (List.mem_of_getElem? (i := 6) rfl))) (g := (mkF m 250 #[.val (.int mode), .val (.int pick), .val (.int delta), .unset, .unset] [(.int (38 : Int32)), (.ref b), (.ref b)])) rfl (hb hby at_250) _ ?_
  show Steps p.tables e below (T39.setTop (mkF m 252 #[.val (.int mode), .val (.int pick), .val (.int delta), .unset, .unset] [(.int (65536 : Int32)), (.int (38 : Int32)), (.ref b), (.ref b)])) _
  refine st40 _ ?_
  show Steps p.tables e below (T40.setTop (mkF m 253 #[.val (.int mode), .val (.int pick), .val (.int delta), .unset, .unset] [(.ref b)])) _
  refine XS.dup X40.here hx rfl (hb hby at_253) rfl rfl ?_
  show Steps p.tables e below (T40.setTop (mkF m 254 #[.val (.int mode), .val (.int pick), .val (.int delta), .unset, .unset] [(.ref b), (.ref b)])) _
  refine XS.bipush X40.here hx rfl (hb hby at_254) ?_
  show Steps p.tables e below (T40.setTop (mkF m 256 #[.val (.int mode), .val (.int pick), .val (.int delta), .unset, .unset] [(.int (39 : Int32)), (.ref b), (.ref b)])) _
  refine X40.ldcInt hx hown (mvT hZ (hw _ (List.mem_of_getElem? (i := 7) rfl))) (g := (mkF m 256 #[.val (.int mode), .val (.int pick), .val (.int delta), .unset, .unset] [(.int (39 : Int32)), (.ref b), (.ref b)])) rfl (hb hby at_256) _ ?_
  show Steps p.tables e below (T40.setTop (mkF m 258 #[.val (.int mode), .val (.int pick), .val (.int delta), .unset, .unset] [(.int (983039 : Int32)), (.int (39 : Int32)), (.ref b), (.ref b)])) _
  refine st41 _ ?_
  show Steps p.tables e below (T41.setTop (mkF m 259 #[.val (.int mode), .val (.int pick), .val (.int delta), .unset, .unset] [(.ref b)])) _
  refine XS.dup X41.here hx rfl (hb hby at_259) rfl rfl ?_
  show Steps p.tables e below (T41.setTop (mkF m 260 #[.val (.int mode), .val (.int pick), .val (.int delta), .unset, .unset] [(.ref b), (.ref b)])) _
  refine XS.bipush X41.here hx rfl (hb hby at_260) ?_
  show Steps p.tables e below (T41.setTop (mkF m 262 #[.val (.int mode), .val (.int pick), .val (.int delta), .unset, .unset] [(.int (40 : Int32)), (.ref b), (.ref b)])) _
  refine X41.ldcInt hx hown (mvT hZ (hw _ (List.mem_of_getElem? (i := 8) rfl))) (g := (mkF m 262 #[.val (.int mode), .val (.int pick), .val (.int delta), .unset, .unset] [(.int (40 : Int32)), (.ref b), (.ref b)])) rfl (hb hby at_262) _ ?_
  show Steps p.tables e below (T41.setTop (mkF m 264 #[.val (.int mode), .val (.int pick), .val (.int delta), .unset, .unset] [(.int (1114111 : Int32)), (.int (40 : Int32)), (.ref b), (.ref b)])) _
  refine st42 _ ?_
  show Steps p.tables e below (T42.setTop (mkF m 265 #[.val (.int mode), .val (.int pick), .val (.int delta), .unset, .unset] [(.ref b)])) _
  refine XS.astoreN X42.here hx rfl (hb hby at_265) rfl rfl (l' := #[.val (.int mode), .val (.int pick), .val (.int delta), .val (.ref b), .unset]) rfl ?_
  exact kt
theorem own_c0 (pick : Int32) : 0 ≤ ((pick &&& (2147483647 : Int32)) % (1114112 : Int32)).toInt ∧ ((pick &&& (2147483647 : Int32)) % (1114112 : Int32)).toInt ≤ 1114111 := by
  have h1 := c_mask pick 2147483647 31 (by omega) (by decide)
  have h2 := (c_irem (pick &&& (2147483647 : Int32)) 1114112 1114112 rfl).1 (by omega)
  omega
theorem own_i41 (pick : Int32) : ¬ ((pick &&& (2147483647 : Int32)) % (Int32.ofNat 41)) < 0 ∧ ((pick &&& (2147483647 : Int32)) % (Int32.ofNat 41)).toNatClampNeg < 41 := by
  have h1 := c_mask pick 2147483647 31 (by omega) (by decide)
  have h2 := (c_irem (pick &&& (2147483647 : Int32)) (Int32.ofNat 41) 41 rfl).1 (by omega)
  have h3 : ¬ ((pick &&& (2147483647 : Int32)) % (Int32.ofNat 41)) < 0 := by
    rw [Int32.lt_iff_toInt_lt, show (0 : Int32).toInt = 0 from rfl]; omega
  have h4 := nat_of h3
  exact ⟨h3, by omega⟩
theorem own_cm (z : Int32) : 0 ≤ (own_max (0 : Int32) (own_min (1114111 : Int32) z)).toInt ∧ (own_max (0 : Int32) (own_min (1114111 : Int32) z)).toInt ≤ 1114111 := by
  have k0 : (0 : Int32).toInt = 0 := rfl
  have k1 : (1114111 : Int32).toInt = 1114111 := rfl
  unfold own_max own_min
  by_cases q1 : z < 1114111
  · rw [if_pos q1]
    by_cases q2 : (0 : Int32) < z
    · rw [if_pos q2]; rw [Int32.lt_iff_toInt_lt] at q1 q2; omega
    · rw [if_neg q2]; rw [Int32.lt_iff_toInt_lt] at q1 q2; omega
  · rw [if_neg q1, if_pos (by decide)]; omega
set_option maxRecDepth 65536 in
set_option maxHeartbeats 40000000 in
theorem sign {p : Program} {l : Launch} {e : Env} {s : State} {m : MethodId} {args : Array Value} {below : List Frame} {meth : Method} {c : Code} {T0 : State} {locs : List Loc} {Z : State} {a0 : Array Value} {h0 : Heap} (mode pick delta : Int32) (b : Addr) (f : Nat → Int32) (V : Iar Z h0 b .int 41 f) (X0 : Stand p l e room_1 s m args below meth c T0 locs 1 41) (hx : p.tables.exec = Jvm.exec) (hZ : Z.Warmed39 s.vm) (hw : ∀ d ∈ tables_1, d.before a0 Z = true) (hby : c.code = code) (hml : c.maxLocals = 5) (hown : s.vm.findClass "com/example/onward/onward/xml/NamesStartsNamePinLaw" = some m.cls) (e0 : T0.heap = h0) : ∃ (T' : State) (ch : Int32), Stand p l e room_1 s m args below meth c T' locs 1 41 ∧ T'.heap = h0 ∧ 0 ≤ ch.toInt ∧ ch.toInt ≤ 1114111 ∧ ∀ target, Steps p.tables e below (T'.setTop (mkF m 317 #[.val (.int mode), .val (.int pick), .val (.int delta), .val (.ref b), .val (.int ch)] [])) target → Steps p.tables e below (T0.setTop (mkF m 266 #[.val (.int mode), .val (.int pick), .val (.int delta), .val (.ref b), .unset] [])) target := by
  by_cases hc269 : (mode &&& (1 : Int32)) = (0 : Int32)
  · refine ⟨T0, _, X0, e0, (own_c0 pick).1, (own_c0 pick).2, fun target kt => ?_⟩
    show Steps p.tables e below (T0.setTop (mkF m 266 #[.val (.int mode), .val (.int pick), .val (.int delta), .val (.ref b), .unset] [])) _
    refine XS.iloadN X0.here hx rfl (hb hby at_266) rfl ?_
    show Steps p.tables e below (T0.setTop (mkF m 267 #[.val (.int mode), .val (.int pick), .val (.int delta), .val (.ref b), .unset] [(.int mode)])) _
    refine XS.iconst X0.here hx rfl (hb hby at_267) ?_
    show Steps p.tables e below (T0.setTop (mkF m 268 #[.val (.int mode), .val (.int pick), .val (.int delta), .val (.ref b), .unset] [(.int (1 : Int32)), (.int mode)])) _
    refine XS.iand X0.here hx rfl (hb hby at_268) rfl ?_
    show Steps p.tables e below (T0.setTop (mkF m 269 #[.val (.int mode), .val (.int pick), .val (.int delta), .val (.ref b), .unset] [(.int (mode &&& (1 : Int32)))])) _
    refine XS.ifNo X0.here hx rfl (hb hby at_269) rfl ((if0 _ _).trans (teq hc269).2) ?_
    show Steps p.tables e below (T0.setTop (mkF m 272 #[.val (.int mode), .val (.int pick), .val (.int delta), .val (.ref b), .unset] [])) _
    refine XS.iloadN X0.here hx rfl (hb hby at_272) rfl ?_
    show Steps p.tables e below (T0.setTop (mkF m 273 #[.val (.int mode), .val (.int pick), .val (.int delta), .val (.ref b), .unset] [(.int pick)])) _
    refine X0.ldcInt hx hown (mvT hZ (hw _ (List.mem_of_getElem? (i := 9) rfl))) (g := (mkF m 273 #[.val (.int mode), .val (.int pick), .val (.int delta), .val (.ref b), .unset] [(.int pick)])) rfl (hb hby at_273) _ ?_
    show Steps p.tables e below (T0.setTop (mkF m 275 #[.val (.int mode), .val (.int pick), .val (.int delta), .val (.ref b), .unset] [(.int (2147483647 : Int32)), (.int pick)])) _
    refine XS.iand X0.here hx rfl (hb hby at_275) rfl ?_
    show Steps p.tables e below (T0.setTop (mkF m 276 #[.val (.int mode), .val (.int pick), .val (.int delta), .val (.ref b), .unset] [(.int (pick &&& (2147483647 : Int32)))])) _
    refine X0.ldcInt hx hown (mvT hZ (hw _ (List.mem_of_getElem? (i := 10) rfl))) (g := (mkF m 276 #[.val (.int mode), .val (.int pick), .val (.int delta), .val (.ref b), .unset] [(.int (pick &&& (2147483647 : Int32)))])) rfl (hb hby at_276) _ ?_
    show Steps p.tables e below (T0.setTop (mkF m 278 #[.val (.int mode), .val (.int pick), .val (.int delta), .val (.ref b), .unset] [(.int (1114112 : Int32)), (.int (pick &&& (2147483647 : Int32)))])) _
    refine iremM X0 hx rfl (hb hby at_278) rfl (by decide) ?_
    show Steps p.tables e below (T0.setTop (mkF m 279 #[.val (.int mode), .val (.int pick), .val (.int delta), .val (.ref b), .unset] [(.int ((pick &&& (2147483647 : Int32)) % (1114112 : Int32)))])) _
    refine XS.istore X0.here hx rfl (hb hby at_279) rfl (l' := #[.val (.int mode), .val (.int pick), .val (.int delta), .val (.ref b), .val (.int ((pick &&& (2147483647 : Int32)) % (1114112 : Int32)))]) rfl ?_
    show Steps p.tables e below (T0.setTop (mkF m 281 #[.val (.int mode), .val (.int pick), .val (.int delta), .val (.ref b), .val (.int ((pick &&& (2147483647 : Int32)) % (1114112 : Int32)))] [])) _
    refine XS.goto X0.here hx rfl (pc0 := 281) (pc' := 317) rfl (hb hby at_281) (by decide) (by decide) ?_
    exact kt
  · obtain ⟨T1, X1, e1, st1⟩ := own_callR X0 hx hZ hown (hw _ (List.mem_of_getElem? (i := 21) rfl)) (hw _ (List.mem_of_getElem? (i := 22) rfl)) (hw _ (List.mem_of_getElem? (i := 23) rfl)) (hw _ (List.mem_of_getElem? (i := 24) rfl)) (by decide) (W := 1) (as' := [(.int (1114111 : Int32)), (.int (((f ((pick &&& (2147483647 : Int32)) % (Int32.ofNat 41)).toNatClampNeg) + ((delta &&& (2147483647 : Int32)) % (5 : Int32))) - (2 : Int32)))]) (F := (.int (own_min (1114111 : Int32) (((f ((pick &&& (2147483647 : Int32)) % (Int32.ofNat 41)).toNatClampNeg) + ((delta &&& (2147483647 : Int32)) % (5 : Int32))) - (2 : Int32))))) (rm_min l Z a0 hw [] (1114111 : Int32) (((f ((pick &&& (2147483647 : Int32)) % (Int32.ofNat 41)).toNatClampNeg) + ((delta &&& (2147483647 : Int32)) % (5 : Int32))) - (2 : Int32)) h0) rfl rfl (by decide) (by decide) (by decide) (by decide) e0 (g := (mkF m 309 #[.val (.int mode), .val (.int pick), .val (.int delta), .val (.ref b), .val (.int (((f ((pick &&& (2147483647 : Int32)) % (Int32.ofNat 41)).toNatClampNeg) + ((delta &&& (2147483647 : Int32)) % (5 : Int32))) - (2 : Int32)))] [(.int (((f ((pick &&& (2147483647 : Int32)) % (Int32.ofNat 41)).toNatClampNeg) + ((delta &&& (2147483647 : Int32)) % (5 : Int32))) - (2 : Int32))), (.int (1114111 : Int32)), (.int (0 : Int32))])) rfl (by rw [hml]; rfl) (lenOf pd_3 rfl) (rest := [(.int (0 : Int32))]) rfl (Nat.le_of_eq rfl) (hb hby at_309)
    obtain ⟨T2, X2, e2, st2⟩ := own_callR X1 hx hZ hown (hw _ (List.mem_of_getElem? (i := 25) rfl)) (hw _ (List.mem_of_getElem? (i := 26) rfl)) (hw _ (List.mem_of_getElem? (i := 23) rfl)) (hw _ (List.mem_of_getElem? (i := 27) rfl)) (by decide) (W := 0) (as' := [(.int (0 : Int32)), (.int (own_min (1114111 : Int32) (((f ((pick &&& (2147483647 : Int32)) % (Int32.ofNat 41)).toNatClampNeg) + ((delta &&& (2147483647 : Int32)) % (5 : Int32))) - (2 : Int32))))]) (F := (.int (own_max (0 : Int32) (own_min (1114111 : Int32) (((f ((pick &&& (2147483647 : Int32)) % (Int32.ofNat 41)).toNatClampNeg) + ((delta &&& (2147483647 : Int32)) % (5 : Int32))) - (2 : Int32)))))) (rm_max l Z a0 hw [] (0 : Int32) (own_min (1114111 : Int32) (((f ((pick &&& (2147483647 : Int32)) % (Int32.ofNat 41)).toNatClampNeg) + ((delta &&& (2147483647 : Int32)) % (5 : Int32))) - (2 : Int32))) h0) rfl rfl (by decide) (by decide) (by decide) (by decide) e1 (g := (mkF m 312 #[.val (.int mode), .val (.int pick), .val (.int delta), .val (.ref b), .val (.int (((f ((pick &&& (2147483647 : Int32)) % (Int32.ofNat 41)).toNatClampNeg) + ((delta &&& (2147483647 : Int32)) % (5 : Int32))) - (2 : Int32)))] [(.int (own_min (1114111 : Int32) (((f ((pick &&& (2147483647 : Int32)) % (Int32.ofNat 41)).toNatClampNeg) + ((delta &&& (2147483647 : Int32)) % (5 : Int32))) - (2 : Int32)))), (.int (0 : Int32))])) rfl (by rw [hml]; rfl) (lenOf pd_4 rfl) (rest := []) rfl (Nat.le_of_eq rfl) (hb hby at_312)
    refine ⟨T2, (own_max (0 : Int32) (own_min (1114111 : Int32) (((f ((pick &&& (2147483647 : Int32)) % (Int32.ofNat 41)).toNatClampNeg) + ((delta &&& (2147483647 : Int32)) % (5 : Int32))) - (2 : Int32)))), X2, e2, (own_cm _).1, (own_cm _).2, fun target kt => ?_⟩
    show Steps p.tables e below (T0.setTop (mkF m 266 #[.val (.int mode), .val (.int pick), .val (.int delta), .val (.ref b), .unset] [])) _
    refine XS.iloadN X0.here hx rfl (hb hby at_266) rfl ?_
    show Steps p.tables e below (T0.setTop (mkF m 267 #[.val (.int mode), .val (.int pick), .val (.int delta), .val (.ref b), .unset] [(.int mode)])) _
    refine XS.iconst X0.here hx rfl (hb hby at_267) ?_
    show Steps p.tables e below (T0.setTop (mkF m 268 #[.val (.int mode), .val (.int pick), .val (.int delta), .val (.ref b), .unset] [(.int (1 : Int32)), (.int mode)])) _
    refine XS.iand X0.here hx rfl (hb hby at_268) rfl ?_
    show Steps p.tables e below (T0.setTop (mkF m 269 #[.val (.int mode), .val (.int pick), .val (.int delta), .val (.ref b), .unset] [(.int (mode &&& (1 : Int32)))])) _
    refine XS.ifYes X0.here hx rfl (pc0 := 269) (pc' := 284) rfl (hb hby at_269) rfl ((if0 _ _).trans (feq hc269).2) (by decide) (by decide) ?_
    show Steps p.tables e below (T0.setTop (mkF m 284 #[.val (.int mode), .val (.int pick), .val (.int delta), .val (.ref b), .unset] [])) _
    refine XS.aloadN X0.here hx rfl (hb hby at_284) rfl rfl ?_
    show Steps p.tables e below (T0.setTop (mkF m 285 #[.val (.int mode), .val (.int pick), .val (.int delta), .val (.ref b), .unset] [(.ref b)])) _
    refine XS.iloadN X0.here hx rfl (hb hby at_285) rfl ?_
    show Steps p.tables e below (T0.setTop (mkF m 286 #[.val (.int mode), .val (.int pick), .val (.int delta), .val (.ref b), .unset] [(.int pick), (.ref b)])) _
    refine X0.ldcInt hx hown (mvT hZ (hw _ (List.mem_of_getElem? (i := 9) rfl))) (g := (mkF m 286 #[.val (.int mode), .val (.int pick), .val (.int delta), .val (.ref b), .unset] [(.int pick), (.ref b)])) rfl (hb hby at_286) _ ?_
    show Steps p.tables e below (T0.setTop (mkF m 288 #[.val (.int mode), .val (.int pick), .val (.int delta), .val (.ref b), .unset] [(.int (2147483647 : Int32)), (.int pick), (.ref b)])) _
    refine XS.iand X0.here hx rfl (hb hby at_288) rfl ?_
    show Steps p.tables e below (T0.setTop (mkF m 289 #[.val (.int mode), .val (.int pick), .val (.int delta), .val (.ref b), .unset] [(.int (pick &&& (2147483647 : Int32))), (.ref b)])) _
    refine XS.aloadN X0.here hx rfl (hb hby at_289) rfl rfl ?_
    show Steps p.tables e below (T0.setTop (mkF m 290 #[.val (.int mode), .val (.int pick), .val (.int delta), .val (.ref b), .unset] [(.ref b), (.int (pick &&& (2147483647 : Int32))), (.ref b)])) _
    refine own_len X0 hx hZ e0 V (g := (mkF m 290 #[.val (.int mode), .val (.int pick), .val (.int delta), .val (.ref b), .unset] [(.ref b), (.int (pick &&& (2147483647 : Int32))), (.ref b)])) rfl rfl (hb hby at_290) _ ?_
    show Steps p.tables e below (T0.setTop (mkF m 291 #[.val (.int mode), .val (.int pick), .val (.int delta), .val (.ref b), .unset] [(.int (Int32.ofNat 41)), (.int (pick &&& (2147483647 : Int32))), (.ref b)])) _
    refine iremM X0 hx rfl (hb hby at_291) rfl (by decide) ?_
    show Steps p.tables e below (T0.setTop (mkF m 292 #[.val (.int mode), .val (.int pick), .val (.int delta), .val (.ref b), .unset] [(.int ((pick &&& (2147483647 : Int32)) % (Int32.ofNat 41))), (.ref b)])) _
    refine own_ldI X0 hx hZ e0 V (j := ((pick &&& (2147483647 : Int32)) % (Int32.ofNat 41))) rfl (own_i41 pick).1 (own_i41 pick).2 (g := (mkF m 292 #[.val (.int mode), .val (.int pick), .val (.int delta), .val (.ref b), .unset] [(.int ((pick &&& (2147483647 : Int32)) % (Int32.ofNat 41))), (.ref b)])) rfl rfl (hb hby at_292) _ ?_
    show Steps p.tables e below (T0.setTop (mkF m 293 #[.val (.int mode), .val (.int pick), .val (.int delta), .val (.ref b), .unset] [(.int (f ((pick &&& (2147483647 : Int32)) % (Int32.ofNat 41)).toNatClampNeg))])) _
    refine XS.iloadN X0.here hx rfl (hb hby at_293) rfl ?_
    show Steps p.tables e below (T0.setTop (mkF m 294 #[.val (.int mode), .val (.int pick), .val (.int delta), .val (.ref b), .unset] [(.int delta), (.int (f ((pick &&& (2147483647 : Int32)) % (Int32.ofNat 41)).toNatClampNeg))])) _
    refine X0.ldcInt hx hown (mvT hZ (hw _ (List.mem_of_getElem? (i := 9) rfl))) (g := (mkF m 294 #[.val (.int mode), .val (.int pick), .val (.int delta), .val (.ref b), .unset] [(.int delta), (.int (f ((pick &&& (2147483647 : Int32)) % (Int32.ofNat 41)).toNatClampNeg))])) rfl (hb hby at_294) _ ?_
    show Steps p.tables e below (T0.setTop (mkF m 296 #[.val (.int mode), .val (.int pick), .val (.int delta), .val (.ref b), .unset] [(.int (2147483647 : Int32)), (.int delta), (.int (f ((pick &&& (2147483647 : Int32)) % (Int32.ofNat 41)).toNatClampNeg))])) _
    refine XS.iand X0.here hx rfl (hb hby at_296) rfl ?_
    show Steps p.tables e below (T0.setTop (mkF m 297 #[.val (.int mode), .val (.int pick), .val (.int delta), .val (.ref b), .unset] [(.int (delta &&& (2147483647 : Int32))), (.int (f ((pick &&& (2147483647 : Int32)) % (Int32.ofNat 41)).toNatClampNeg))])) _
    refine XS.iconst X0.here hx rfl (hb hby at_297) ?_
    show Steps p.tables e below (T0.setTop (mkF m 298 #[.val (.int mode), .val (.int pick), .val (.int delta), .val (.ref b), .unset] [(.int (5 : Int32)), (.int (delta &&& (2147483647 : Int32))), (.int (f ((pick &&& (2147483647 : Int32)) % (Int32.ofNat 41)).toNatClampNeg))])) _
    refine iremM X0 hx rfl (hb hby at_298) rfl (by decide) ?_
    show Steps p.tables e below (T0.setTop (mkF m 299 #[.val (.int mode), .val (.int pick), .val (.int delta), .val (.ref b), .unset] [(.int ((delta &&& (2147483647 : Int32)) % (5 : Int32))), (.int (f ((pick &&& (2147483647 : Int32)) % (Int32.ofNat 41)).toNatClampNeg))])) _
    refine XS.iadd X0.here hx rfl (hb hby at_299) rfl ?_
    show Steps p.tables e below (T0.setTop (mkF m 300 #[.val (.int mode), .val (.int pick), .val (.int delta), .val (.ref b), .unset] [(.int ((f ((pick &&& (2147483647 : Int32)) % (Int32.ofNat 41)).toNatClampNeg) + ((delta &&& (2147483647 : Int32)) % (5 : Int32))))])) _
    refine XS.iconst X0.here hx rfl (hb hby at_300) ?_
    show Steps p.tables e below (T0.setTop (mkF m 301 #[.val (.int mode), .val (.int pick), .val (.int delta), .val (.ref b), .unset] [(.int (2 : Int32)), (.int ((f ((pick &&& (2147483647 : Int32)) % (Int32.ofNat 41)).toNatClampNeg) + ((delta &&& (2147483647 : Int32)) % (5 : Int32))))])) _
    refine XS.isub X0.here hx rfl (hb hby at_301) rfl ?_
    show Steps p.tables e below (T0.setTop (mkF m 302 #[.val (.int mode), .val (.int pick), .val (.int delta), .val (.ref b), .unset] [(.int (((f ((pick &&& (2147483647 : Int32)) % (Int32.ofNat 41)).toNatClampNeg) + ((delta &&& (2147483647 : Int32)) % (5 : Int32))) - (2 : Int32)))])) _
    refine XS.istore X0.here hx rfl (hb hby at_302) rfl (l' := #[.val (.int mode), .val (.int pick), .val (.int delta), .val (.ref b), .val (.int (((f ((pick &&& (2147483647 : Int32)) % (Int32.ofNat 41)).toNatClampNeg) + ((delta &&& (2147483647 : Int32)) % (5 : Int32))) - (2 : Int32)))]) rfl ?_
    show Steps p.tables e below (T0.setTop (mkF m 304 #[.val (.int mode), .val (.int pick), .val (.int delta), .val (.ref b), .val (.int (((f ((pick &&& (2147483647 : Int32)) % (Int32.ofNat 41)).toNatClampNeg) + ((delta &&& (2147483647 : Int32)) % (5 : Int32))) - (2 : Int32)))] [])) _
    refine XS.iconst X0.here hx rfl (hb hby at_304) ?_
    show Steps p.tables e below (T0.setTop (mkF m 305 #[.val (.int mode), .val (.int pick), .val (.int delta), .val (.ref b), .val (.int (((f ((pick &&& (2147483647 : Int32)) % (Int32.ofNat 41)).toNatClampNeg) + ((delta &&& (2147483647 : Int32)) % (5 : Int32))) - (2 : Int32)))] [(.int (0 : Int32))])) _
    refine X0.ldcInt hx hown (mvT hZ (hw _ (List.mem_of_getElem? (i := 8) rfl))) (g := (mkF m 305 #[.val (.int mode), .val (.int pick), .val (.int delta), .val (.ref b), .val (.int (((f ((pick &&& (2147483647 : Int32)) % (Int32.ofNat 41)).toNatClampNeg) + ((delta &&& (2147483647 : Int32)) % (5 : Int32))) - (2 : Int32)))] [(.int (0 : Int32))])) rfl (hb hby at_305) _ ?_
    show Steps p.tables e below (T0.setTop (mkF m 307 #[.val (.int mode), .val (.int pick), .val (.int delta), .val (.ref b), .val (.int (((f ((pick &&& (2147483647 : Int32)) % (Int32.ofNat 41)).toNatClampNeg) + ((delta &&& (2147483647 : Int32)) % (5 : Int32))) - (2 : Int32)))] [(.int (1114111 : Int32)), (.int (0 : Int32))])) _
    refine XS.iload X0.here hx rfl (hb hby at_307) rfl ?_
    show Steps p.tables e below (T0.setTop (mkF m 309 #[.val (.int mode), .val (.int pick), .val (.int delta), .val (.ref b), .val (.int (((f ((pick &&& (2147483647 : Int32)) % (Int32.ofNat 41)).toNatClampNeg) + ((delta &&& (2147483647 : Int32)) % (5 : Int32))) - (2 : Int32)))] [(.int (((f ((pick &&& (2147483647 : Int32)) % (Int32.ofNat 41)).toNatClampNeg) + ((delta &&& (2147483647 : Int32)) % (5 : Int32))) - (2 : Int32))), (.int (1114111 : Int32)), (.int (0 : Int32))])) _
    refine st1 _ ?_
    show Steps p.tables e below (T1.setTop (mkF m 312 #[.val (.int mode), .val (.int pick), .val (.int delta), .val (.ref b), .val (.int (((f ((pick &&& (2147483647 : Int32)) % (Int32.ofNat 41)).toNatClampNeg) + ((delta &&& (2147483647 : Int32)) % (5 : Int32))) - (2 : Int32)))] [(.int (own_min (1114111 : Int32) (((f ((pick &&& (2147483647 : Int32)) % (Int32.ofNat 41)).toNatClampNeg) + ((delta &&& (2147483647 : Int32)) % (5 : Int32))) - (2 : Int32)))), (.int (0 : Int32))])) _
    refine st2 _ ?_
    show Steps p.tables e below (T2.setTop (mkF m 315 #[.val (.int mode), .val (.int pick), .val (.int delta), .val (.ref b), .val (.int (((f ((pick &&& (2147483647 : Int32)) % (Int32.ofNat 41)).toNatClampNeg) + ((delta &&& (2147483647 : Int32)) % (5 : Int32))) - (2 : Int32)))] [(.int (own_max (0 : Int32) (own_min (1114111 : Int32) (((f ((pick &&& (2147483647 : Int32)) % (Int32.ofNat 41)).toNatClampNeg) + ((delta &&& (2147483647 : Int32)) % (5 : Int32))) - (2 : Int32)))))])) _
    refine XS.istore X2.here hx rfl (hb hby at_315) rfl (l' := #[.val (.int mode), .val (.int pick), .val (.int delta), .val (.ref b), .val (.int (own_max (0 : Int32) (own_min (1114111 : Int32) (((f ((pick &&& (2147483647 : Int32)) % (Int32.ofNat 41)).toNatClampNeg) + ((delta &&& (2147483647 : Int32)) % (5 : Int32))) - (2 : Int32)))))]) rfl ?_
    exact kt
theorem own_rng_iff {lo hi ch r : Int32} {a b : Int} (h1 : lo.toInt = a) (h2 : hi.toInt = b) : own_rng lo hi ch r = 1 ↔ (a ≤ ch.toInt ∧ ch.toInt ≤ b) ∨ (r = 1 ∧ ¬ (a ≤ ch.toInt ∧ ch.toInt ≤ b)) := by
  unfold own_rng
  by_cases q1 : ch < lo
  · rw [if_pos q1]; rw [Int32.lt_iff_toInt_lt] at q1; constructor
    · intro h; exact Or.inr ⟨h, by omega⟩
    · rintro (h | h)
      · omega
      · exact h.1
  · rw [if_neg q1]; rw [Int32.lt_iff_toInt_lt] at q1
    by_cases q2 : hi < ch
    · rw [if_pos q2]; rw [Int32.lt_iff_toInt_lt] at q2; constructor
      · intro h; exact Or.inr ⟨h, by omega⟩
      · rintro (h | h)
        · omega
        · exact h.1
    · rw [if_neg q2]; rw [Int32.lt_iff_toInt_lt] at q2
      exact ⟨fun _ => Or.inl (by omega), fun _ => rfl⟩
theorem own_gap_iff {lo hi ch r : Int32} {a b : Int} (h1 : lo.toInt = a) (h2 : hi.toInt = b) : own_gap lo hi ch r = 1 ↔ ¬ (a ≤ ch.toInt ∧ ch.toInt ≤ b) ∧ r = 1 := by
  unfold own_gap
  by_cases q1 : ch < lo
  · rw [if_pos q1]; rw [Int32.lt_iff_toInt_lt] at q1
    exact ⟨fun h => ⟨by omega, h⟩, fun h => h.2⟩
  · rw [if_neg q1]; rw [Int32.lt_iff_toInt_lt] at q1
    by_cases q2 : hi < ch
    · rw [if_pos q2]; rw [Int32.lt_iff_toInt_lt] at q2
      exact ⟨fun h => ⟨by omega, h⟩, fun h => h.2⟩
    · rw [if_neg q2]; rw [Int32.lt_iff_toInt_lt] at q2
      exact ⟨fun h => absurd h (by decide), fun h => absurd (by omega) h.1⟩
theorem own_rng01 {lo hi ch r : Int32} (h : r = 0 ∨ r = 1) : own_rng lo hi ch r = 0 ∨ own_rng lo hi ch r = 1 := by
  unfold own_rng; split
  · exact h
  · split
    · exact h
    · exact Or.inr rfl
theorem own_gap01 {lo hi ch r : Int32} (h : r = 0 ∨ r = 1) : own_gap lo hi ch r = 0 ∨ own_gap lo hi ch r = 1 := by
  unfold own_gap; split
  · exact h
  · split
    · exact h
    · exact Or.inl rfl
theorem s1201 (ch : Int32) : own_s12 ch = 0 ∨ own_s12 ch = 1 := own_rng01 (Or.inl rfl)
theorem s12_iff (ch : Int32) : own_s12 ch = 1 ↔ (65536 ≤ ch.toInt ∧ ch.toInt ≤ 983039) := by
  rw [own_s12, own_rng_iff (a := 65536) (b := 983039) rfl rfl]
  exact ⟨fun h => h.elim id fun q => absurd q.1 (by decide), Or.inl⟩
theorem s1101 (ch : Int32) : own_s11 ch = 0 ∨ own_s11 ch = 1 := own_rng01 (s1201 ch)
theorem s11_iff (ch : Int32) : own_s11 ch = 1 ↔ (65008 ≤ ch.toInt ∧ ch.toInt ≤ 65533) ∨ (65536 ≤ ch.toInt ∧ ch.toInt ≤ 983039) := by
  rw [own_s11, own_rng_iff (a := 65008) (b := 65533) rfl rfl, s12_iff]
  exact ⟨fun h => h.imp id fun q => q.1, fun h => (Classical.em _).elim Or.inl fun q => Or.inr ⟨h.resolve_left q, q⟩⟩
theorem s1001 (ch : Int32) : own_s10 ch = 0 ∨ own_s10 ch = 1 := own_rng01 (s1101 ch)
theorem s10_iff (ch : Int32) : own_s10 ch = 1 ↔ (63744 ≤ ch.toInt ∧ ch.toInt ≤ 64975) ∨ (65008 ≤ ch.toInt ∧ ch.toInt ≤ 65533) ∨ (65536 ≤ ch.toInt ∧ ch.toInt ≤ 983039) := by
  rw [own_s10, own_rng_iff (a := 63744) (b := 64975) rfl rfl, s11_iff]
  exact ⟨fun h => h.imp id fun q => q.1, fun h => (Classical.em _).elim Or.inl fun q => Or.inr ⟨h.resolve_left q, q⟩⟩
theorem s901 (ch : Int32) : own_s9 ch = 0 ∨ own_s9 ch = 1 := own_rng01 (s1001 ch)
theorem s9_iff (ch : Int32) : own_s9 ch = 1 ↔ (12289 ≤ ch.toInt ∧ ch.toInt ≤ 55295) ∨ (63744 ≤ ch.toInt ∧ ch.toInt ≤ 64975) ∨ (65008 ≤ ch.toInt ∧ ch.toInt ≤ 65533) ∨ (65536 ≤ ch.toInt ∧ ch.toInt ≤ 983039) := by
  rw [own_s9, own_rng_iff (a := 12289) (b := 55295) rfl rfl, s10_iff]
  exact ⟨fun h => h.imp id fun q => q.1, fun h => (Classical.em _).elim Or.inl fun q => Or.inr ⟨h.resolve_left q, q⟩⟩
theorem s801 (ch : Int32) : own_s8 ch = 0 ∨ own_s8 ch = 1 := own_rng01 (s901 ch)
theorem s8_iff (ch : Int32) : own_s8 ch = 1 ↔ (11264 ≤ ch.toInt ∧ ch.toInt ≤ 12271) ∨ (12289 ≤ ch.toInt ∧ ch.toInt ≤ 55295) ∨ (63744 ≤ ch.toInt ∧ ch.toInt ≤ 64975) ∨ (65008 ≤ ch.toInt ∧ ch.toInt ≤ 65533) ∨ (65536 ≤ ch.toInt ∧ ch.toInt ≤ 983039) := by
  rw [own_s8, own_rng_iff (a := 11264) (b := 12271) rfl rfl, s9_iff]
  exact ⟨fun h => h.imp id fun q => q.1, fun h => (Classical.em _).elim Or.inl fun q => Or.inr ⟨h.resolve_left q, q⟩⟩
theorem s701 (ch : Int32) : own_s7 ch = 0 ∨ own_s7 ch = 1 := own_rng01 (s801 ch)
theorem s7_iff (ch : Int32) : own_s7 ch = 1 ↔ (8304 ≤ ch.toInt ∧ ch.toInt ≤ 8591) ∨ (11264 ≤ ch.toInt ∧ ch.toInt ≤ 12271) ∨ (12289 ≤ ch.toInt ∧ ch.toInt ≤ 55295) ∨ (63744 ≤ ch.toInt ∧ ch.toInt ≤ 64975) ∨ (65008 ≤ ch.toInt ∧ ch.toInt ≤ 65533) ∨ (65536 ≤ ch.toInt ∧ ch.toInt ≤ 983039) := by
  rw [own_s7, own_rng_iff (a := 8304) (b := 8591) rfl rfl, s8_iff]
  exact ⟨fun h => h.imp id fun q => q.1, fun h => (Classical.em _).elim Or.inl fun q => Or.inr ⟨h.resolve_left q, q⟩⟩
theorem s601 (ch : Int32) : own_s6 ch = 0 ∨ own_s6 ch = 1 := own_rng01 (s701 ch)
theorem s6_iff (ch : Int32) : own_s6 ch = 1 ↔ (8204 ≤ ch.toInt ∧ ch.toInt ≤ 8205) ∨ (8304 ≤ ch.toInt ∧ ch.toInt ≤ 8591) ∨ (11264 ≤ ch.toInt ∧ ch.toInt ≤ 12271) ∨ (12289 ≤ ch.toInt ∧ ch.toInt ≤ 55295) ∨ (63744 ≤ ch.toInt ∧ ch.toInt ≤ 64975) ∨ (65008 ≤ ch.toInt ∧ ch.toInt ≤ 65533) ∨ (65536 ≤ ch.toInt ∧ ch.toInt ≤ 983039) := by
  rw [own_s6, own_rng_iff (a := 8204) (b := 8205) rfl rfl, s7_iff]
  exact ⟨fun h => h.imp id fun q => q.1, fun h => (Classical.em _).elim Or.inl fun q => Or.inr ⟨h.resolve_left q, q⟩⟩
theorem s501 (ch : Int32) : own_s5 ch = 0 ∨ own_s5 ch = 1 := own_rng01 (s601 ch)
theorem s5_iff (ch : Int32) : own_s5 ch = 1 ↔ (895 ≤ ch.toInt ∧ ch.toInt ≤ 8191) ∨ (8204 ≤ ch.toInt ∧ ch.toInt ≤ 8205) ∨ (8304 ≤ ch.toInt ∧ ch.toInt ≤ 8591) ∨ (11264 ≤ ch.toInt ∧ ch.toInt ≤ 12271) ∨ (12289 ≤ ch.toInt ∧ ch.toInt ≤ 55295) ∨ (63744 ≤ ch.toInt ∧ ch.toInt ≤ 64975) ∨ (65008 ≤ ch.toInt ∧ ch.toInt ≤ 65533) ∨ (65536 ≤ ch.toInt ∧ ch.toInt ≤ 983039) := by
  rw [own_s5, own_rng_iff (a := 895) (b := 8191) rfl rfl, s6_iff]
  exact ⟨fun h => h.imp id fun q => q.1, fun h => (Classical.em _).elim Or.inl fun q => Or.inr ⟨h.resolve_left q, q⟩⟩
theorem s401 (ch : Int32) : own_s4 ch = 0 ∨ own_s4 ch = 1 := own_rng01 (s501 ch)
theorem s4_iff (ch : Int32) : own_s4 ch = 1 ↔ (880 ≤ ch.toInt ∧ ch.toInt ≤ 893) ∨ (895 ≤ ch.toInt ∧ ch.toInt ≤ 8191) ∨ (8204 ≤ ch.toInt ∧ ch.toInt ≤ 8205) ∨ (8304 ≤ ch.toInt ∧ ch.toInt ≤ 8591) ∨ (11264 ≤ ch.toInt ∧ ch.toInt ≤ 12271) ∨ (12289 ≤ ch.toInt ∧ ch.toInt ≤ 55295) ∨ (63744 ≤ ch.toInt ∧ ch.toInt ≤ 64975) ∨ (65008 ≤ ch.toInt ∧ ch.toInt ≤ 65533) ∨ (65536 ≤ ch.toInt ∧ ch.toInt ≤ 983039) := by
  rw [own_s4, own_rng_iff (a := 880) (b := 893) rfl rfl, s5_iff]
  exact ⟨fun h => h.imp id fun q => q.1, fun h => (Classical.em _).elim Or.inl fun q => Or.inr ⟨h.resolve_left q, q⟩⟩
theorem s301 (ch : Int32) : own_s3 ch = 0 ∨ own_s3 ch = 1 := own_rng01 (s401 ch)
theorem s3_iff (ch : Int32) : own_s3 ch = 1 ↔ (248 ≤ ch.toInt ∧ ch.toInt ≤ 767) ∨ (880 ≤ ch.toInt ∧ ch.toInt ≤ 893) ∨ (895 ≤ ch.toInt ∧ ch.toInt ≤ 8191) ∨ (8204 ≤ ch.toInt ∧ ch.toInt ≤ 8205) ∨ (8304 ≤ ch.toInt ∧ ch.toInt ≤ 8591) ∨ (11264 ≤ ch.toInt ∧ ch.toInt ≤ 12271) ∨ (12289 ≤ ch.toInt ∧ ch.toInt ≤ 55295) ∨ (63744 ≤ ch.toInt ∧ ch.toInt ≤ 64975) ∨ (65008 ≤ ch.toInt ∧ ch.toInt ≤ 65533) ∨ (65536 ≤ ch.toInt ∧ ch.toInt ≤ 983039) := by
  rw [own_s3, own_rng_iff (a := 248) (b := 767) rfl rfl, s4_iff]
  exact ⟨fun h => h.imp id fun q => q.1, fun h => (Classical.em _).elim Or.inl fun q => Or.inr ⟨h.resolve_left q, q⟩⟩
theorem s201 (ch : Int32) : own_s2 ch = 0 ∨ own_s2 ch = 1 := own_rng01 (s301 ch)
theorem s2_iff (ch : Int32) : own_s2 ch = 1 ↔ (216 ≤ ch.toInt ∧ ch.toInt ≤ 246) ∨ (248 ≤ ch.toInt ∧ ch.toInt ≤ 767) ∨ (880 ≤ ch.toInt ∧ ch.toInt ≤ 893) ∨ (895 ≤ ch.toInt ∧ ch.toInt ≤ 8191) ∨ (8204 ≤ ch.toInt ∧ ch.toInt ≤ 8205) ∨ (8304 ≤ ch.toInt ∧ ch.toInt ≤ 8591) ∨ (11264 ≤ ch.toInt ∧ ch.toInt ≤ 12271) ∨ (12289 ≤ ch.toInt ∧ ch.toInt ≤ 55295) ∨ (63744 ≤ ch.toInt ∧ ch.toInt ≤ 64975) ∨ (65008 ≤ ch.toInt ∧ ch.toInt ≤ 65533) ∨ (65536 ≤ ch.toInt ∧ ch.toInt ≤ 983039) := by
  rw [own_s2, own_rng_iff (a := 216) (b := 246) rfl rfl, s3_iff]
  exact ⟨fun h => h.imp id fun q => q.1, fun h => (Classical.em _).elim Or.inl fun q => Or.inr ⟨h.resolve_left q, q⟩⟩
theorem s101 (ch : Int32) : own_s1 ch = 0 ∨ own_s1 ch = 1 := own_rng01 (s201 ch)
theorem s1_iff (ch : Int32) : own_s1 ch = 1 ↔ (192 ≤ ch.toInt ∧ ch.toInt ≤ 214) ∨ (216 ≤ ch.toInt ∧ ch.toInt ≤ 246) ∨ (248 ≤ ch.toInt ∧ ch.toInt ≤ 767) ∨ (880 ≤ ch.toInt ∧ ch.toInt ≤ 893) ∨ (895 ≤ ch.toInt ∧ ch.toInt ≤ 8191) ∨ (8204 ≤ ch.toInt ∧ ch.toInt ≤ 8205) ∨ (8304 ≤ ch.toInt ∧ ch.toInt ≤ 8591) ∨ (11264 ≤ ch.toInt ∧ ch.toInt ≤ 12271) ∨ (12289 ≤ ch.toInt ∧ ch.toInt ≤ 55295) ∨ (63744 ≤ ch.toInt ∧ ch.toInt ≤ 64975) ∨ (65008 ≤ ch.toInt ∧ ch.toInt ≤ 65533) ∨ (65536 ≤ ch.toInt ∧ ch.toInt ≤ 983039) := by
  rw [own_s1, own_rng_iff (a := 192) (b := 214) rfl rfl, s2_iff]
  exact ⟨fun h => h.imp id fun q => q.1, fun h => (Classical.em _).elim Or.inl fun q => Or.inr ⟨h.resolve_left q, q⟩⟩
theorem r1201 (ch : Int32) : own_r12 ch = 0 ∨ own_r12 ch = 1 := by unfold own_r12; split <;> simp
theorem r12_iff (ch : Int32) : own_r12 ch = 1 ↔ ch.toInt < 983040 := by
  unfold own_r12
  by_cases q : ch < 983040
  · rw [if_pos q]; rw [Int32.lt_iff_toInt_lt, show (983040 : Int32).toInt = 983040 from rfl] at q; exact ⟨fun _ => q, fun _ => rfl⟩
  · rw [if_neg q]; rw [Int32.lt_iff_toInt_lt, show (983040 : Int32).toInt = 983040 from rfl] at q; exact ⟨fun h => absurd h (by decide), fun h => absurd h q⟩
theorem own_eqk {ch k : Int32} {a : Int} (h : k.toInt = a) : ch = k ↔ ch.toInt = a := by rw [← Int32.toInt_inj, h]
theorem r1101 (ch : Int32) : own_r11 ch = 0 ∨ own_r11 ch = 1 := own_gap01 (r1201 ch)
theorem r11_iff (ch : Int32) : own_r11 ch = 1 ↔ ¬ (65534 ≤ ch.toInt ∧ ch.toInt ≤ 65535) ∧ ch.toInt < 983040 := by
  rw [own_r11, own_gap_iff (a := 65534) (b := 65535) rfl rfl, r12_iff]
theorem r1001 (ch : Int32) : own_r10 ch = 0 ∨ own_r10 ch = 1 := own_gap01 (r1101 ch)
theorem r10_iff (ch : Int32) : own_r10 ch = 1 ↔ ¬ (64976 ≤ ch.toInt ∧ ch.toInt ≤ 65007) ∧ ¬ (65534 ≤ ch.toInt ∧ ch.toInt ≤ 65535) ∧ ch.toInt < 983040 := by
  rw [own_r10, own_gap_iff (a := 64976) (b := 65007) rfl rfl, r11_iff]
theorem r901 (ch : Int32) : own_r9 ch = 0 ∨ own_r9 ch = 1 := own_gap01 (r1001 ch)
theorem r9_iff (ch : Int32) : own_r9 ch = 1 ↔ ¬ (55296 ≤ ch.toInt ∧ ch.toInt ≤ 63743) ∧ ¬ (64976 ≤ ch.toInt ∧ ch.toInt ≤ 65007) ∧ ¬ (65534 ≤ ch.toInt ∧ ch.toInt ≤ 65535) ∧ ch.toInt < 983040 := by
  rw [own_r9, own_gap_iff (a := 55296) (b := 63743) rfl rfl, r10_iff]
theorem r801 (ch : Int32) : own_r8 ch = 0 ∨ own_r8 ch = 1 := own_gap01 (r901 ch)
theorem r8_iff (ch : Int32) : own_r8 ch = 1 ↔ ¬ (12272 ≤ ch.toInt ∧ ch.toInt ≤ 12288) ∧ ¬ (55296 ≤ ch.toInt ∧ ch.toInt ≤ 63743) ∧ ¬ (64976 ≤ ch.toInt ∧ ch.toInt ≤ 65007) ∧ ¬ (65534 ≤ ch.toInt ∧ ch.toInt ≤ 65535) ∧ ch.toInt < 983040 := by
  rw [own_r8, own_gap_iff (a := 12272) (b := 12288) rfl rfl, r9_iff]
theorem r701 (ch : Int32) : own_r7 ch = 0 ∨ own_r7 ch = 1 := own_gap01 (r801 ch)
theorem r7_iff (ch : Int32) : own_r7 ch = 1 ↔ ¬ (8592 ≤ ch.toInt ∧ ch.toInt ≤ 11263) ∧ ¬ (12272 ≤ ch.toInt ∧ ch.toInt ≤ 12288) ∧ ¬ (55296 ≤ ch.toInt ∧ ch.toInt ≤ 63743) ∧ ¬ (64976 ≤ ch.toInt ∧ ch.toInt ≤ 65007) ∧ ¬ (65534 ≤ ch.toInt ∧ ch.toInt ≤ 65535) ∧ ch.toInt < 983040 := by
  rw [own_r7, own_gap_iff (a := 8592) (b := 11263) rfl rfl, r8_iff]
theorem r601 (ch : Int32) : own_r6 ch = 0 ∨ own_r6 ch = 1 := own_gap01 (r701 ch)
theorem r6_iff (ch : Int32) : own_r6 ch = 1 ↔ ¬ (8206 ≤ ch.toInt ∧ ch.toInt ≤ 8303) ∧ ¬ (8592 ≤ ch.toInt ∧ ch.toInt ≤ 11263) ∧ ¬ (12272 ≤ ch.toInt ∧ ch.toInt ≤ 12288) ∧ ¬ (55296 ≤ ch.toInt ∧ ch.toInt ≤ 63743) ∧ ¬ (64976 ≤ ch.toInt ∧ ch.toInt ≤ 65007) ∧ ¬ (65534 ≤ ch.toInt ∧ ch.toInt ≤ 65535) ∧ ch.toInt < 983040 := by
  rw [own_r6, own_gap_iff (a := 8206) (b := 8303) rfl rfl, r7_iff]
theorem r501 (ch : Int32) : own_r5 ch = 0 ∨ own_r5 ch = 1 := own_gap01 (r601 ch)
theorem r5_iff (ch : Int32) : own_r5 ch = 1 ↔ ¬ (8192 ≤ ch.toInt ∧ ch.toInt ≤ 8203) ∧ ¬ (8206 ≤ ch.toInt ∧ ch.toInt ≤ 8303) ∧ ¬ (8592 ≤ ch.toInt ∧ ch.toInt ≤ 11263) ∧ ¬ (12272 ≤ ch.toInt ∧ ch.toInt ≤ 12288) ∧ ¬ (55296 ≤ ch.toInt ∧ ch.toInt ≤ 63743) ∧ ¬ (64976 ≤ ch.toInt ∧ ch.toInt ≤ 65007) ∧ ¬ (65534 ≤ ch.toInt ∧ ch.toInt ≤ 65535) ∧ ch.toInt < 983040 := by
  rw [own_r5, own_gap_iff (a := 8192) (b := 8203) rfl rfl, r6_iff]
theorem r401 (ch : Int32) : own_r4 ch = 0 ∨ own_r4 ch = 1 := by unfold own_r4; split; exact Or.inl rfl; exact r501 ch
theorem r4_iff (ch : Int32) : own_r4 ch = 1 ↔ ¬ (ch.toInt = 894) ∧ ¬ (8192 ≤ ch.toInt ∧ ch.toInt ≤ 8203) ∧ ¬ (8206 ≤ ch.toInt ∧ ch.toInt ≤ 8303) ∧ ¬ (8592 ≤ ch.toInt ∧ ch.toInt ≤ 11263) ∧ ¬ (12272 ≤ ch.toInt ∧ ch.toInt ≤ 12288) ∧ ¬ (55296 ≤ ch.toInt ∧ ch.toInt ≤ 63743) ∧ ¬ (64976 ≤ ch.toInt ∧ ch.toInt ≤ 65007) ∧ ¬ (65534 ≤ ch.toInt ∧ ch.toInt ≤ 65535) ∧ ch.toInt < 983040 := by
  rw [← r5_iff, ← own_eqk (k := 894) (a := 894) rfl]
  unfold own_r4
  by_cases q : ch = 894
  · rw [if_pos q]; exact ⟨fun h => absurd h (by decide), fun h => absurd q h.1⟩
  · rw [if_neg q]; exact ⟨fun h => ⟨q, h⟩, fun h => h.2⟩
theorem r301 (ch : Int32) : own_r3 ch = 0 ∨ own_r3 ch = 1 := own_gap01 (r401 ch)
theorem r3_iff (ch : Int32) : own_r3 ch = 1 ↔ ¬ (768 ≤ ch.toInt ∧ ch.toInt ≤ 879) ∧ ¬ (ch.toInt = 894) ∧ ¬ (8192 ≤ ch.toInt ∧ ch.toInt ≤ 8203) ∧ ¬ (8206 ≤ ch.toInt ∧ ch.toInt ≤ 8303) ∧ ¬ (8592 ≤ ch.toInt ∧ ch.toInt ≤ 11263) ∧ ¬ (12272 ≤ ch.toInt ∧ ch.toInt ≤ 12288) ∧ ¬ (55296 ≤ ch.toInt ∧ ch.toInt ≤ 63743) ∧ ¬ (64976 ≤ ch.toInt ∧ ch.toInt ≤ 65007) ∧ ¬ (65534 ≤ ch.toInt ∧ ch.toInt ≤ 65535) ∧ ch.toInt < 983040 := by
  rw [own_r3, own_gap_iff (a := 768) (b := 879) rfl rfl, r4_iff]
theorem r201 (ch : Int32) : own_r2 ch = 0 ∨ own_r2 ch = 1 := by
  unfold own_r2; split
  · exact Or.inl rfl
  · split
    · exact Or.inl rfl
    · exact r301 ch
theorem r2_iff (ch : Int32) : own_r2 ch = 1 ↔ ¬ (ch.toInt = 215) ∧ ¬ (ch.toInt = 247) ∧ own_r3 ch = 1 := by
  rw [← own_eqk (k := 215) (a := 215) rfl, ← own_eqk (k := 247) (a := 247) rfl]
  unfold own_r2
  by_cases q : ch = 215
  · rw [if_pos q]; exact ⟨fun h => absurd h (by decide), fun h => absurd q h.1⟩
  · rw [if_neg q]
    by_cases q2 : ch = 247
    · rw [if_pos q2]; exact ⟨fun h => absurd h (by decide), fun h => absurd q2 h.2.1⟩
    · rw [if_neg q2]; exact ⟨fun h => ⟨q, q2, h⟩, fun h => h.2.2⟩
theorem r101 (ch : Int32) : own_r1 ch = 0 ∨ own_r1 ch = 1 := by unfold own_r1; split; exact r201 ch; exact Or.inl rfl
theorem r1_iff (ch : Int32) : own_r1 ch = 1 ↔ 191 < ch.toInt ∧ own_r2 ch = 1 := by
  unfold own_r1
  by_cases q : 191 < ch
  · rw [if_pos q]; rw [Int32.lt_iff_toInt_lt, show (191 : Int32).toInt = 191 from rfl] at q; exact ⟨fun h => ⟨q, h⟩, fun h => h.2⟩
  · rw [if_neg q]; rw [Int32.lt_iff_toInt_lt, show (191 : Int32).toInt = 191 from rfl] at q; exact ⟨fun h => absurd h (by decide), fun h => absurd h.1 q⟩
theorem own_high (ch : Int32) : own_s1 ch = own_r1 ch := by
  have key : own_s1 ch = 1 ↔ own_r1 ch = 1 := by
    rw [s1_iff, r1_iff, r2_iff, r3_iff]
    generalize ch.toInt = z
    constructor
    · intro h
      rcases h with h | h | h | h | h | h | h | h | h | h | h | h <;> refine ⟨by omega, by omega, by omega, by omega, by omega, by omega, by omega, by omega, by omega, by omega, by omega, by omega, by omega⟩
    · rintro ⟨g1, g2, g3, g4, g5, g6, g7, g8, g9, g10, g11, g12, g13⟩
      by_cases y0 : z ≤ 214
      · exact Or.inl ⟨by omega, y0⟩
      by_cases y1 : z ≤ 246
      · exact Or.inr (Or.inl ⟨by omega, y1⟩)
      by_cases y2 : z ≤ 767
      · exact Or.inr (Or.inr (Or.inl ⟨by omega, y2⟩))
      by_cases y3 : z ≤ 893
      · exact Or.inr (Or.inr (Or.inr (Or.inl ⟨by omega, y3⟩)))
      by_cases y4 : z ≤ 8191
      · exact Or.inr (Or.inr (Or.inr (Or.inr (Or.inl ⟨by omega, y4⟩))))
      by_cases y5 : z ≤ 8205
      · exact Or.inr (Or.inr (Or.inr (Or.inr (Or.inr (Or.inl ⟨by omega, y5⟩)))))
      by_cases y6 : z ≤ 8591
      · exact Or.inr (Or.inr (Or.inr (Or.inr (Or.inr (Or.inr (Or.inl ⟨by omega, y6⟩))))))
      by_cases y7 : z ≤ 12271
      · exact Or.inr (Or.inr (Or.inr (Or.inr (Or.inr (Or.inr (Or.inr (Or.inl ⟨by omega, y7⟩)))))))
      by_cases y8 : z ≤ 55295
      · exact Or.inr (Or.inr (Or.inr (Or.inr (Or.inr (Or.inr (Or.inr (Or.inr (Or.inl ⟨by omega, y8⟩))))))))
      by_cases y9 : z ≤ 64975
      · exact Or.inr (Or.inr (Or.inr (Or.inr (Or.inr (Or.inr (Or.inr (Or.inr (Or.inr (Or.inl ⟨by omega, y9⟩)))))))))
      by_cases y10 : z ≤ 65533
      · exact Or.inr (Or.inr (Or.inr (Or.inr (Or.inr (Or.inr (Or.inr (Or.inr (Or.inr (Or.inr (Or.inl ⟨by omega, y10⟩))))))))))
      exact Or.inr (Or.inr (Or.inr (Or.inr (Or.inr (Or.inr (Or.inr (Or.inr (Or.inr (Or.inr (Or.inr (⟨by omega, by omega⟩)))))))))))
  rcases s101 ch with h | h <;> rcases r101 ch with h' | h'
  · rw [h, h']
  · rw [key.mpr h'] at h; exact absurd h (by decide)
  · rw [key.mp h] at h'; exact absurd h' (by decide)
  · rw [h, h']
theorem own_low : ∀ j : Fin 128, (if (own_asc j.1 &&& (1 : Int32)) = (0 : Int32) then (0 : Int32) else 1) = own_a1 (Int32.ofNat j.1) := by decide +kernel
theorem own_law (ch : Int32) (h0 : 0 ≤ ch.toInt) : own_sn ch = own_ref ch := by
  unfold own_sn own_ref
  by_cases q : ch < 128
  · rw [if_pos q, if_pos q]
    have hnn : ¬ ch < 0 := by rw [Int32.lt_iff_toInt_lt, show (0 : Int32).toInt = 0 from rfl]; omega
    have q1 := nat_of hnn
    have q' := q
    rw [Int32.lt_iff_toInt_lt, show (128 : Int32).toInt = 128 from rfl] at q'
    have e : Int32.ofNat ch.toNatClampNeg = ch := by rw [← Int32.toInt_inj, own_ti (by omega)]; omega
    have r := own_low ⟨ch.toNatClampNeg, by omega⟩
    rw [e] at r
    exact r
  · rw [if_neg q, if_neg q]; exact own_high ch
theorem ef_0 (m : MethodId) (mode : Int32) (pick : Int32) (delta : Int32) : entryFrame m #[(.int mode), (.int pick), (.int delta)] maxLocals = mkF m 0 #[.val (.int mode), .val (.int pick), .val (.int delta), .unset, .unset] [] := by first | (simp [entryFrame, mkF, argsToLocals, Value.category, maxLocals]; done) | rfl
set_option maxRecDepth 65536 in
set_option maxHeartbeats 40000000 in
theorem rm0 (l : Launch) (Z : State) (a0 : Array Value) (hw : ∀ d ∈ tables_1, d.before a0 Z = true) (ws : List Jvm.Cond) (mode pick delta : Int32) (aA : Addr) (h0 : Heap) (n0 : Nat) (Z0 : n0 ≤ h0.size) (S : Sta Z h0 "com/example/onward/onward/xml/Names" "ASCII" "[B" (.ref aA)) (V : Iar Z h0 aA .byte 128 own_asc) :
    MetFree l x (head1 (Jvm.Cond.code x code maxLocals ret :: ws) room_1) (fun ar_ U => ar_ = #[(.int mode), (.int pick), (.int delta)] ∧ Z.Warmed39 U.vm ∧ U.heap = h0) (fun _ _ _ _ _ => True) (fun _ U o U' => ∃ v L, o = .returned v ∧ (v = some (.int (1 : Int32)) ∧ Fr n0 L) ∧ FrameEnd U o U' L room_1.cells room_1.slots) := by
  refine MetFree.of_bodySF (plainFor_of_name pn_0) hisR ?_
  intro p e s m args below meth c s₁ Bd hml0 hP hK
  obtain ⟨rfl, hZ, hh⟩ := hP
  have hx := Bd.exec
  have hby := Bd.bytes
  have hml : c.maxLocals = 5 := hml0
  have hown : s.vm.findClass "com/example/onward/onward/xml/NamesStartsNamePinLaw" = some m.cls := findClass_of_methodNamed Bd.named
  have hnm := (name_of_methodNamed Bd.named Bd.method).1
  have X0 : Stand p l e room_1 s m #[(.int mode), (.int pick), (.int delta)] below meth c s₁ [] 0 0 := Stand.of_body Bd
  have e0 : s₁.heap = h0 := by rw [← hh, Bd.state]; rfl
  have pre0 : ∀ t, Steps p.tables e below (s₁.setTop (mkF m 0 #[.val (.int mode), .val (.int pick), .val (.int delta), .unset, .unset] [])) t → Steps p.tables e below (s₁.setTop (entryFrame m #[(.int mode), (.int pick), (.int delta)] maxLocals)) t := fun t_ k_ => castTop (ef_0 m mode pick delta) k_
  obtain ⟨TA, hA, b, f, LA, XA, eA, NA, KA, VA, stA⟩ := arr mode pick delta n0 Z0 (Fr.nil n0) X0 hx hZ hw hby hml hown e0
  obtain ⟨TB, ch, XB, eB, c0, c1, stB⟩ := sign mode pick delta b f VA XA hx hZ hw hby hml hown eA
  have hnn : ¬ ch < 0 := by rw [Int32.lt_iff_toInt_lt, show (0 : Int32).toInt = 0 from rfl]; omega
  have S' := own_staKeep KA S
  have V' := V.keep KA nin0
  obtain ⟨T1, X1, e1, st1⟩ := own_callR XB hx hZ hown (hw _ (List.mem_of_getElem? (i := 11) rfl)) (hw _ (List.mem_of_getElem? (i := 12) rfl)) (hw _ (List.mem_of_getElem? (i := 13) rfl)) (hw _ (List.mem_of_getElem? (i := 14) rfl)) (by decide) (W := 0) (as' := [(.int ch)]) (F := (.int (own_sn ch))) (rm_sn l Z a0 hw [] ch aA hA S' V' hnn) rfl rfl (by decide) (by decide) (by decide) (by decide) eB (g := (mkF m 319 #[.val (.int mode), .val (.int pick), .val (.int delta), .val (.ref b), .val (.int ch)] [(.int ch)])) rfl (by rw [hml]; rfl) (lenOf pd_1 rfl) (rest := []) rfl (Nat.le_of_eq rfl) (hb hby at_319)
  obtain ⟨T2, X2, e2, st2⟩ := own_callR X1 hx hZ hown (hw _ (List.mem_of_getElem? (i := 17) rfl)) (hw _ (List.mem_of_getElem? (i := 18) rfl)) (hw _ (List.mem_of_getElem? (i := 19) rfl)) (hw _ (List.mem_of_getElem? (i := 20) rfl)) (by decide) (W := 1) (as' := [(.int ch)]) (F := (.int (own_ref ch))) (rm_ref l Z a0 hw [] ch hA) rfl rfl (by decide) (by decide) (by decide) (by decide) e1 (g := (mkF m 324 #[.val (.int mode), .val (.int pick), .val (.int delta), .val (.ref b), .val (.int ch)] [(.int ch), (.int (own_sn ch))])) rfl (by rw [hml]; rfl) (lenOf pd_2 rfl) (rest := [(.int (own_sn ch))]) rfl (Nat.le_of_eq rfl) (hb hby at_324)
  obtain ⟨fs, hr, hrun, hended, hW, hsame⟩ := X2.leave (v := some (.int (1 : Int32))) (fun h => by rw [Bd.returns] at h; cases h)
  refine ⟨_, _, pre0 _ ?_, hrun, hended, _, _, rfl, ?_, ⟨_, rfl⟩, hW, hsame.mono (by decide) (by decide)⟩
  · refine stA _ ?_
    refine stB _ ?_
    show Steps p.tables e below (TB.setTop (mkF m 317 #[.val (.int mode), .val (.int pick), .val (.int delta), .val (.ref b), .val (.int ch)] [])) _
    refine XS.iload XB.here hx rfl (hb hby at_317) rfl ?_
    show Steps p.tables e below (TB.setTop (mkF m 319 #[.val (.int mode), .val (.int pick), .val (.int delta), .val (.ref b), .val (.int ch)] [(.int ch)])) _
    refine st1 _ ?_
    show Steps p.tables e below (T1.setTop (mkF m 322 #[.val (.int mode), .val (.int pick), .val (.int delta), .val (.ref b), .val (.int ch)] [(.int (own_sn ch))])) _
    refine XS.iload X1.here hx rfl (hb hby at_322) rfl ?_
    show Steps p.tables e below (T1.setTop (mkF m 324 #[.val (.int mode), .val (.int pick), .val (.int delta), .val (.ref b), .val (.int ch)] [(.int ch), (.int (own_sn ch))])) _
    refine st2 _ ?_
    show Steps p.tables e below (T2.setTop (mkF m 327 #[.val (.int mode), .val (.int pick), .val (.int delta), .val (.ref b), .val (.int ch)] [(.int (own_ref ch)), (.int (own_sn ch))])) _
    refine XS.icmpNo X2.here hx rfl (hb hby at_327) rfl (teq (own_law ch c0)).2 ?_
    show Steps p.tables e below (T2.setTop (mkF m 330 #[.val (.int mode), .val (.int pick), .val (.int delta), .val (.ref b), .val (.int ch)] [])) _
    refine XS.iconst X2.here hx rfl (hb hby at_330) ?_
    show Steps p.tables e below (T2.setTop (mkF m 331 #[.val (.int mode), .val (.int pick), .val (.int delta), .val (.ref b), .val (.int ch)] [(.int (1 : Int32))])) _
    refine XS.goto X2.here hx rfl (pc0 := 331) (pc' := 335) rfl (hb hby at_331) (by decide) (by decide) ?_
    show Steps p.tables e below (T2.setTop (mkF m 335 #[.val (.int mode), .val (.int pick), .val (.int delta), .val (.ref b), .val (.int ch)] [(.int (1 : Int32))])) _
    exact retN X2 hx (t := .boolean) Bd.returns (by simp) (hb hby at_335) hr
  · exact ⟨rfl, NA⟩
theorem own_len31 {args : Array Value} {s : State} {t : Term} {a : Addr} {cl : Cell} {v : Value} (ev : t.eval args s none [] s = some (.ref a)) (hAt : s.arrayAt? a = some cl) (h : (Term.length t).eval args s none [] s = some v) : cl.slots.size < 2 ^ 31 := by
  by_cases q : cl.slots.size < 2 ^ 31
  · exact q
  · simp [Term.eval, ev, hAt, q] at h
theorem own_orF {args : Array Value} {s : State} {idx : List Nat} {c d : Jvm.Cond} (h : (Jvm.Cond.or c d).value args s none s idx = some true) (h1 : c.value args s none s idx = some false) : d.value args s none s idx = some true := by simpa [Cond.value, h1] using h
theorem own_all3 {args : Array Value} {s : State} {i : Nat} {lo hi v x : Int32} {E : Term} (hE : E.eval args s none [i] s = some (.int x)) (h : (Jvm.Cond.or (Jvm.Cond.lt (Jvm.Term.index 0) (Jvm.Term.int lo)) (Jvm.Cond.or (Jvm.Cond.le (Jvm.Term.int hi) (Jvm.Term.index 0)) (Jvm.Cond.eq E (Jvm.Term.int v)))).value args s none s [i] = some true) : Int32.ofNat i < lo ∨ hi ≤ Int32.ofNat i ∨ x = v := by
  have h1 : (Jvm.Cond.lt (Jvm.Term.index 0) (Jvm.Term.int lo)).value args s none s [i] = some (decide (Int32.ofNat i < lo)) := Cond.lt_ints (Term.index_eval _) (Term.int_eval _)
  by_cases p1 : Int32.ofNat i < lo
  · exact Or.inl p1
  · exact Or.inr (or_e2 (Cond.le_ints (Term.int_eval _) (Term.index_eval _)) (Cond.eq_ints hE (Term.int_eval _)) (own_orF h (h1.trans (by simp [p1]))))
theorem own_all2a {args : Array Value} {s : State} {i : Nat} {hi v x : Int32} {E : Term} (hE : E.eval args s none [i] s = some (.int x)) (h : (Jvm.Cond.or (Jvm.Cond.le (Jvm.Term.int hi) (Jvm.Term.index 0)) (Jvm.Cond.eq E (Jvm.Term.int v))).value args s none s [i] = some true) : hi ≤ Int32.ofNat i ∨ x = v :=
  or_e2 (Cond.le_ints (Term.int_eval _) (Term.index_eval _)) (Cond.eq_ints hE (Term.int_eval _)) h
theorem own_all2b {args : Array Value} {s : State} {i : Nat} {lo v x : Int32} {E : Term} (hE : E.eval args s none [i] s = some (.int x)) (h : (Jvm.Cond.or (Jvm.Cond.lt (Jvm.Term.index 0) (Jvm.Term.int lo)) (Jvm.Cond.eq E (Jvm.Term.int v))).value args s none s [i] = some true) : Int32.ofNat i < lo ∨ x = v :=
  or_e2 (Cond.lt_ints (Term.index_eval _) (Term.int_eval _)) (Cond.eq_ints hE (Term.int_eval _)) h
set_option maxRecDepth 65536 in
set_option maxHeartbeats 40000000 in
theorem own_narrow {args : Array Value} {s : State} (hn : narrow_1.value args s none s [] = some true) (hw : ∀ d ∈ tables_1, d.before args s = true) (hfit : Fit s) : ∃ aA, Sta s s.heap "com/example/onward/onward/xml/Names" "ASCII" "[B" (.ref aA) ∧ Iar s s.heap aA .byte 128 own_asc := by
  obtain ⟨hA, hn⟩ := and_e hn
  obtain ⟨hL, hn⟩ := and_e hn
  obtain ⟨q0, hn⟩ := and_e hn
  obtain ⟨q45, hn⟩ := and_e hn
  obtain ⟨q46, hn⟩ := and_e hn
  obtain ⟨q47, hn⟩ := and_e hn
  obtain ⟨q48, hn⟩ := and_e hn
  obtain ⟨q58, hn⟩ := and_e hn
  obtain ⟨q59, hn⟩ := and_e hn
  obtain ⟨q65, hn⟩ := and_e hn
  obtain ⟨q91, hn⟩ := and_e hn
  obtain ⟨q95, hn⟩ := and_e hn
  obtain ⟨q96, hn⟩ := and_e hn
  obtain ⟨q97, q123⟩ := and_e hn
  obtain ⟨aA, ev⟩ := arr_v hA
  obtain ⟨cl, A⟩ := Arr.start ev hA
  have hAt := A.fin (Vm.Alike.refl _)
  have evi : ∀ idx, (Jvm.Term.static "com/example/onward/onward/xml/Names" "ASCII" "[B").eval args s none idx s = some (.ref aA) := fun idx => ev
  have e1 := eqv_i (Term.int_eval 128) hL
  have hq : cl.slots.size < 2 ^ 31 := own_len31 ev hAt e1
  have e2 := Option.some.inj ((len_f ev hAt hq).symm.trans e1)
  have e3 : cl.slots.size.toInt32 = 128 := Value.int.inj e2
  have hs : cl.slots.size = 128 := by
    have q := len_toInt hq
    rw [e3] at q
    have : (128 : Int32).toInt = 128 := rfl
    omega
  have TB := Tab.start hfit A (Or.inr (Or.inr (Or.inl rfl))) hq e3 (by decide)
  have hx : ∀ i, i < 128 → ∃ x, cl.slots[i]? = some (.int x) := fun i hi => by
    have q := TB.2.2.2 (Int32.ofNat i) (Iar.inb hs (own_n32 (by omega)) (own_nn (by omega)) hi)
    rw [own_n32 (by omega)] at q
    exact ⟨_, q⟩
  have hEl : ∀ i x, i < 128 → cl.slots[i]? = some (.int x) → (Jvm.Term.elem (Jvm.Term.static "com/example/onward/onward/xml/Names" "ASCII" "[B") (Jvm.Term.index 0)).eval args s none [i] s = some (.int x) := fun i x hi hx => by
    have q := elem_f (evi [i]) (a := Jvm.Term.index 0) (j := Int32.ofNat i) (Term.index_eval _) hAt (own_nn (by omega))
    rw [q, own_n32 (by omega)]; exact hx
  have hK : ∀ (k : Nat) (v : Int32), k < 128 → (Jvm.Cond.eq (Jvm.Term.elem (Jvm.Term.static "com/example/onward/onward/xml/Names" "ASCII" "[B") (Jvm.Term.int (Int32.ofNat k))) (Jvm.Term.int v)).value args s none s [] = some true → cl.slots[k]? = some (.int v) := fun k v hk h => by
    have q := (elem_in (eqv_i (Term.int_eval v) h) ev (Term.int_eval _) A.1).2
    rw [own_n32 (by omega)] at q; exact q
  refine ⟨aA, Sta.start ev (Or.inr ⟨(hw _ (List.mem_of_getElem? (i := 13) rfl)), (hw _ (List.mem_of_getElem? (i := 16) rfl))⟩), by omega, cl, A, hs, fun i hi => ?_, fun i hi => ?_⟩
  · obtain ⟨x, hxi⟩ := hx i hi
    have hE := hEl i x hi hxi
    have hil : i < cl.slots.size := by omega
    rw [hxi]
    refine congrArg (fun z => some (Value.int z)) ?_
    have g0 := own_all2a hE (Cond.all_elim ev hAt q0 i hil)
    have g48 := own_all3 hE (Cond.all_elim ev hAt q48 i hil)
    have g59 := own_all3 hE (Cond.all_elim ev hAt q59 i hil)
    have g65 := own_all3 hE (Cond.all_elim ev hAt q65 i hil)
    have g91 := own_all3 hE (Cond.all_elim ev hAt q91 i hil)
    have g97 := own_all3 hE (Cond.all_elim ev hAt q97 i hil)
    have g123 := own_all2b hE (Cond.all_elim ev hAt q123 i hil)
    have k45 := hK 45 2 (by omega) q45
    have k46 := hK 46 2 (by omega) q46
    have k47 := hK 47 0 (by omega) q47
    have k58 := hK 58 3 (by omega) q58
    have k95 := hK 95 3 (by omega) q95
    have k96 := hK 96 0 (by omega) q96
    have sg : ∀ {k : Nat} {v : Int32}, cl.slots[k]? = some (.int v) → i = k → x = v := fun {k v} hk e => by
      subst e; exact Value.int.inj (Option.some.inj (hxi.symm.trans hk))
    simp only [Int32.lt_iff_toInt_lt, Int32.le_iff_toInt_le, own_ti (show i < 2 ^ 31 by omega), show (45 : Int32).toInt = 45 from rfl, show (48 : Int32).toInt = 48 from rfl, show (58 : Int32).toInt = 58 from rfl, show (59 : Int32).toInt = 59 from rfl, show (65 : Int32).toInt = 65 from rfl, show (91 : Int32).toInt = 91 from rfl, show (95 : Int32).toInt = 95 from rfl, show (97 : Int32).toInt = 97 from rfl, show (123 : Int32).toInt = 123 from rfl] at g0 g48 g59 g65 g91 g97 g123
    unfold own_asc
    split
    · exact g0.resolve_left (by omega)
    split
    · by_cases e : i = 45
      · exact sg k45 e
      · exact sg k46 (by omega)
    split
    · exact sg k47 (by omega)
    split
    · exact (g48.resolve_left (by omega)).resolve_left (by omega)
    split
    · exact sg k58 (by omega)
    split
    · exact (g59.resolve_left (by omega)).resolve_left (by omega)
    split
    · exact (g65.resolve_left (by omega)).resolve_left (by omega)
    split
    · exact (g91.resolve_left (by omega)).resolve_left (by omega)
    split
    · exact sg k95 (by omega)
    split
    · exact sg k96 (by omega)
    split
    · exact (g97.resolve_left (by omega)).resolve_left (by omega)
    · exact g123.resolve_left (by omega)
  · have q : ∀ j : Fin 128, fits .byte (.int (own_asc j.1)) = true := by decide +kernel
    exact q ⟨i, hi⟩
set_option maxRecDepth 65536 in
set_option maxHeartbeats 40000000 in
theorem comes_1 {Post : Tables → Env → Array Value → State → Outcome → State → Prop} (hpost : ∀ tb e args s v u, (limb_1_1.after args s (.returned v) u = true ∧ limb_1_2.after args s (.returned v) u = true ∧ True) → FrameEnd s (.returned v) u (Jvm.fieldLocs frame_1_writes args s ++ Jvm.arrayLocs frame_1_arrays args s ++ Jvm.staticLocs frame_1_statics s) 16 192 → Post tb e args s (.returned v) u) :
    ArmFor flags0 classFile x code maxLocals ret World_1 tables_1 room_1 Calls_1 rest_1 Pre_1 Post := by
  intro l hfl _ _ p e ha hc hk s m args below hf hA hF happ hP
  obtain ⟨hcalls, hrest, hpre⟩ := hP
  obtain ⟨-, -, -, hnamed, -, -, -, hat⟩ := (Spec.applies_iff hf).mp happ
  obtain ⟨hg, hn⟩ := and_e (Cond.before_iff.mp (show (Jvm.Cond.and given_1 narrow_1).before args s = true from hpre))
  obtain ⟨hcnt, k0⟩ := and_e hg
  obtain ⟨v0, k1⟩ := and_e k0
  obtain ⟨v1, k2⟩ := and_e k1
  obtain ⟨w0, w1, w2, rfl⟩ : ∃ w0 w1 w2 : Value, args = #[w0, w1, w2] := by
    have hs : args.size = 3 := by simpa [Cond.value, given_1] using hcnt
    obtain ⟨L⟩ := args
    match L, hs with
    | [w0, w1, w2], _ => exact ⟨w0, w1, w2, rfl⟩
  have hw := fun d (hd : d ∈ tables_1) => atoms_spec (ws := Jvm.Cond.code x code maxLocals ret :: tables_1) hat d (List.mem_cons_of_mem _ hd)
  have hfit : Fit s := fun {y c} hc i hi => by
    obtain ⟨ha, rfl⟩ := Array.getElem?_eq_some_iff.mp hc
    have q := List.all_eq_true.mp ((Array.all_eq_true_iff_forall_mem.mp hF) _ (Array.getElem_mem ha)) i (List.mem_range.mpr hi)
    simpa [Array.getElem?_eq_getElem hi] using q
  obtain ⟨i0, ei0⟩ := is_v v0
  obtain rfl : w0 = (.int i0) := Option.some.inj ei0
  obtain ⟨i1, ei1⟩ := is_v v1
  obtain rfl : w1 = (.int i1) := Option.some.inj ei1
  obtain ⟨i2, ei2⟩ := is_v k2
  obtain rfl : w2 = (.int i2) := Option.some.inj ei2
  obtain ⟨aA, SA, VA⟩ := own_narrow hn hw hfit
  obtain ⟨n, o, h1, h2, h3, _, L, rfl, ⟨rfl, N⟩, hq⟩ := rm0 l s _ hw tables_1 i0 i1 i2 aA s.heap s.heap.size (Nat.le_refl _) SA VA p e ha hc hk s m _ below hf ((Spec.applies_iff_loose hf).mp happ).1 ⟨rfl, State.Warmed39.refl s, rfl⟩ trivial
  refine ⟨n, _, h1, h2, h3, hpost _ _ _ _ _ _ ⟨Cond.after_iff.mpr rfl, Cond.after_iff.mpr (eq_i res_at (Term.int_eval (1)) rfl), trivial⟩ ⟨hq.1, hq.2.1, (hq.2.2.sift fun y hy => Or.inr (N y hy)).mono (by decide) (by decide)⟩⟩
theorem main_1_1 : Claimed_1_1 := comes_1 fun _ _ _ _ _ _ h hF => ⟨h.1, hF⟩
theorem main_1_2 : Claimed_1_2 := comes_1 fun _ _ _ _ _ _ h hF => ⟨h.2.1, hF⟩
end Jvm.Pilot.@@N@@
namespace Jvm.Pilot.@@N@@
open Jvm Jvm.ClassFile Sem Op Lib Jvm.Free Jvm.Stand Jvm.Pilot.@@N@@.Jvm.D
/-! MADE BY PROGRAM (witnessworld.py) out of the Statement's table words and the real class files: 10 classes; the members and pool entries that the words name. The judged class is class 1, her method 2. -/
namespace start1
open Jvm.ClassFile
def u (s : String) : CpInfo := .utf8 (stringToUtf16 s)
/-- a pool by its gaps: so many unusable entries, then the entry; so many at the end -/
def gap : Nat → List CpInfo → List CpInfo
  | 0, r => r
  | n + 1, r => .unusable :: gap n r
def poolList (es : List (Nat × CpInfo)) (last : Nat) : List CpInfo := es.foldr (fun e r => gap e.1 (e.2 :: r)) (gap last [])
def pool (es : List (Nat × CpInfo)) (last : Nat) : Array CpInfo := ⟨poolList es last⟩
def fileOf (pool : Array CpInfo) (this : Nat) (attrs : Array Attribute := #[]) (ms : Array MethodInfo := #[]) (fl : Nat := 33) (sup : Nat := 0) (ifs : Array Nat := #[]) (fds : Array FieldInfo := #[]) : ClassFile where
  minorVersion := 0
  majorVersion := 65
  constantPool := pool
  accessFlags := fl
  thisClass := this
  superClass := sup
  interfaces := ifs
  fields := fds
  methods := ms
  attributes := attrs
def plain (name : String) (sup : Option ClassId) : Class where
  name := name
  kind := .ordinary
  loader := none
  accessFlags := 33
  super := sup
  interfaces := #[]
  cf := none
  fields := #[]
  methods := #[]
  instanceTypes := #[]
  staticTypes := #[]
  resolved := #[]
  callSites := []
  init := .initialized
  statics := none
  mirror := none

def pool0 : Array CpInfo := pool [(5, u "<init>"), (0, u "()V"), (1, .class_ 10), (1, u "java/lang/Object")] 113

def k0m0 : Method := { name := "<init>", desc := "()V", sig := { parameters := [], returnType := none }, accessFlags := 1, code := none }
/-- java/lang/Object -/
def k0 : Class := { plain "java/lang/Object" none with
  accessFlags := 33
  interfaces := #[]
  cf := some (fileOf pool0 8 #[] #[{ accessFlags := 1, nameIndex := 5, descriptorIndex := 6, attributes := #[] }] 33 0 #[] #[])
  fields := #[]
  methods := #[k0m0]
  instanceTypes := #[]
  staticTypes := #[]
  resolved := Array.replicate 124 none
  statics := none }

def pool1 : Array CpInfo := pool [(2, .class_ 4), (1, u "java/lang/Object"), (0, u "<init>"), (0, u "()V"), (0, .integer 55296), (0, .integer 63743), (0, .integer 64976), (0, .integer 65007), (0, .integer 65534), (0, .integer 65535), (0, .integer 983040), (0, .integer 55295), (0, .integer 63744), (0, .integer 64975), (0, .integer 65008), (0, .integer 65533), (0, .integer 65536), (0, .integer 983039), (0, .integer 1114111), (0, .integer 2147483647), (0, .integer 1114112), (0, .methodref 25 26), (0, .class_ 27), (0, .nameAndType 28 29), (0, u "java/lang/Math"), (0, u "min"), (0, u "(II)I"), (0, .methodref 25 31), (0, .nameAndType 32 29), (0, u "max"), (0, .methodref 34 35), (0, .class_ 36), (0, .nameAndType 37 38), (0, u "com/example/onward/onward/xml/Names"), (0, u "startsName"), (0, u "(I)Z"), (0, .methodref 40 41), (0, .class_ 42), (0, .nameAndType 43 38), (0, u "com/example/onward/onward/xml/NamesStartsNamePinLaw"), (0, u "reference"), (3, u "law"), (0, u "(III)Z")] 4

def k1m0 : Method := { name := "<init>", desc := "()V", sig := { parameters := [], returnType := none }, accessFlags := 2, code := none }
def k1c1 : Code := { maxStack := 2, maxLocals := 1, code := method_2_code, exceptionTable := #[], attributes := #[] }
def k1m1 : Method := { name := "reference", desc := "(I)Z", sig := { parameters := [.int], returnType := some .boolean }, accessFlags := 10, code := some k1c1 }
def k1c2 : Code := { maxStack := 4, maxLocals := 5, code := code, exceptionTable := #[], attributes := #[] }
def k1m2 : Method := { name := "law", desc := "(III)Z", sig := { parameters := [.int, .int, .int], returnType := some .boolean }, accessFlags := 9, code := some k1c2 }
/-- com/example/onward/onward/xml/NamesStartsNamePinLaw -/
def k1 : Class := { plain "com/example/onward/onward/xml/NamesStartsNamePinLaw" (some 0) with
  accessFlags := 49
  interfaces := #[]
  cf := some (fileOf pool1 40 #[] #[{ accessFlags := 2, nameIndex := 5, descriptorIndex := 6, attributes := #[] }, { accessFlags := 10, nameIndex := 43, descriptorIndex := 38, attributes := #[] }, { accessFlags := 9, nameIndex := 47, descriptorIndex := 48, attributes := #[] }] 49 2 #[] #[])
  fields := #[]
  methods := #[k1m0, k1m1, k1m2]
  instanceTypes := #[]
  staticTypes := #[]
  resolved := Array.replicate 53 none
  statics := none }

def pool2 : Array CpInfo := pool [(2, .class_ 4), (1, u "java/lang/Object"), (0, u "<init>"), (0, u "()V"), (3, .class_ 12), (1, u "com/example/onward/onward/xml/Names"), (0, u "names"), (0, u "[Ljava/lang/String;"), (2, u "prefixes"), (2, u "locals"), (2, u "hashes"), (0, u "[I"), (6, u "prefix"), (0, u "Ljava/lang/String;"), (2, u "local"), (21, u "startsName"), (0, u "(I)Z"), (13, u "count"), (0, u "I"), (0, .integer 65536), (2, u "characters"), (11, .fieldref 10 90), (0, .nameAndType 91 92), (0, u "ASCII"), (0, u "[B"), (0, .integer 55295), (0, .integer 63744), (0, .integer 64975), (0, .integer 65008), (0, .integer 65533), (0, .integer 983039), (10, u "KEPT"), (1, u "KEPT_CHARACTERS"), (0, u "PROBES"), (1, u "STARTS"), (0, u "B"), (1, u "GOES_ON")] 13

def k2m0 : Method := { name := "<init>", desc := "()V", sig := { parameters := [], returnType := none }, accessFlags := 0, code := none }
def k2c1 : Code := { maxStack := 2, maxLocals := 1, code := prog_240_method_6_code, exceptionTable := #[], attributes := #[] }
def k2m1 : Method := { name := "startsName", desc := "(I)Z", sig := { parameters := [.int], returnType := some .boolean }, accessFlags := 8, code := some k2c1 }
/-- com/example/onward/onward/xml/Names -/
def k2 : Class := { plain "com/example/onward/onward/xml/Names" (some 0) with
  accessFlags := 48
  interfaces := #[]
  cf := some (fileOf pool2 10 #[] #[{ accessFlags := 0, nameIndex := 5, descriptorIndex := 6, attributes := #[] }, { accessFlags := 8, nameIndex := 57, descriptorIndex := 58, attributes := #[] }] 48 2 #[] #[{ accessFlags := 24, nameIndex := 109, descriptorIndex := 73, attributes := #[] }, { accessFlags := 24, nameIndex := 111, descriptorIndex := 73, attributes := #[] }, { accessFlags := 26, nameIndex := 112, descriptorIndex := 73, attributes := #[] }, { accessFlags := 26, nameIndex := 91, descriptorIndex := 92, attributes := #[] }, { accessFlags := 26, nameIndex := 114, descriptorIndex := 115, attributes := #[] }, { accessFlags := 26, nameIndex := 117, descriptorIndex := 115, attributes := #[] }, { accessFlags := 2, nameIndex := 13, descriptorIndex := 14, attributes := #[] }, { accessFlags := 2, nameIndex := 17, descriptorIndex := 14, attributes := #[] }, { accessFlags := 2, nameIndex := 20, descriptorIndex := 14, attributes := #[] }, { accessFlags := 2, nameIndex := 23, descriptorIndex := 24, attributes := #[] }, { accessFlags := 2, nameIndex := 72, descriptorIndex := 73, attributes := #[] }, { accessFlags := 2, nameIndex := 77, descriptorIndex := 73, attributes := #[] }, { accessFlags := 2, nameIndex := 31, descriptorIndex := 32, attributes := #[] }, { accessFlags := 2, nameIndex := 35, descriptorIndex := 32, attributes := #[] }])
  fields := #[{ name := "KEPT", type := .int, accessFlags := 24, slot := 0, constantValue := 0 }, { name := "KEPT_CHARACTERS", type := .int, accessFlags := 24, slot := 1, constantValue := 0 }, { name := "PROBES", type := .int, accessFlags := 26, slot := 2, constantValue := 0 }, { name := "ASCII", type := (.array .byte), accessFlags := 26, slot := 3, constantValue := 0 }, { name := "STARTS", type := .byte, accessFlags := 26, slot := 4, constantValue := 0 }, { name := "GOES_ON", type := .byte, accessFlags := 26, slot := 5, constantValue := 0 }, { name := "names", type := (.array (.object "java/lang/String")), accessFlags := 2, slot := 0, constantValue := 0 }, { name := "prefixes", type := (.array (.object "java/lang/String")), accessFlags := 2, slot := 1, constantValue := 0 }, { name := "locals", type := (.array (.object "java/lang/String")), accessFlags := 2, slot := 2, constantValue := 0 }, { name := "hashes", type := (.array .int), accessFlags := 2, slot := 3, constantValue := 0 }, { name := "count", type := .int, accessFlags := 2, slot := 4, constantValue := 0 }, { name := "characters", type := .int, accessFlags := 2, slot := 5, constantValue := 0 }, { name := "prefix", type := (.object "java/lang/String"), accessFlags := 2, slot := 6, constantValue := 0 }, { name := "local", type := (.object "java/lang/String"), accessFlags := 2, slot := 7, constantValue := 0 }]
  methods := #[k2m0, k2m1]
  instanceTypes := #[(.array (.object "java/lang/String")), (.array (.object "java/lang/String")), (.array (.object "java/lang/String")), (.array .int), .int, .int, (.object "java/lang/String"), (.object "java/lang/String")]
  staticTypes := #[.int, .int, .int, (.array .byte), .byte, .byte]
  resolved := Array.replicate 131 none
  statics := some 0 }

def pool3 : Array CpInfo := pool [(1, .class_ 2), (0, u "java/lang/Math"), (1, .class_ 6), (1, u "java/lang/Object"), (0, u "<init>"), (0, u "()V"), (89, .class_ 100), (1, u "java/lang/Math$RandomNumberGeneratorHolder"), (71, u "negativeZeroFloatBits"), (0, u "J"), (2, u "negativeZeroDoubleBits"), (21, u "max"), (2, u "min"), (43, u "$assertionsDisabled"), (0, u "Z"), (88, u "(II)I"), (2, u "twoToTheDoubleScaleDown"), (0, u "D"), (4, u "twoToTheDoubleScaleUp"), (9, u "E"), (3, u "PI"), (2, u "TAU"), (2, u "DEGREES_TO_RADIANS"), (0, u "RADIANS_TO_DEGREES")] 94

def k3m0 : Method := { name := "<init>", desc := "()V", sig := { parameters := [], returnType := none }, accessFlags := 2, code := none }
def k3c1 : Code := { maxStack := 2, maxLocals := 2, code := jdk_29_method_65_code, exceptionTable := #[], attributes := #[] }
def k3m1 : Method := { name := "max", desc := "(II)I", sig := { parameters := [.int, .int], returnType := some .int }, accessFlags := 9, code := some k3c1 }
def k3c2 : Code := { maxStack := 2, maxLocals := 2, code := jdk_29_method_69_code, exceptionTable := #[], attributes := #[] }
def k3m2 : Method := { name := "min", desc := "(II)I", sig := { parameters := [.int, .int], returnType := some .int }, accessFlags := 9, code := some k3c2 }
/-- java/lang/Math -/
def k3 : Class := { plain "java/lang/Math" (some 0) with
  accessFlags := 49
  interfaces := #[]
  cf := some (fileOf pool3 1 #[.nestMembers #[98]] #[{ accessFlags := 2, nameIndex := 7, descriptorIndex := 8, attributes := #[] }, { accessFlags := 9, nameIndex := 198, descriptorIndex := 335, attributes := #[] }, { accessFlags := 9, nameIndex := 201, descriptorIndex := 335, attributes := #[] }] 49 4 #[] #[{ accessFlags := 25, nameIndex := 354, descriptorIndex := 339, attributes := #[] }, { accessFlags := 25, nameIndex := 358, descriptorIndex := 339, attributes := #[] }, { accessFlags := 25, nameIndex := 361, descriptorIndex := 339, attributes := #[] }, { accessFlags := 26, nameIndex := 364, descriptorIndex := 339, attributes := #[] }, { accessFlags := 26, nameIndex := 365, descriptorIndex := 339, attributes := #[] }, { accessFlags := 26, nameIndex := 172, descriptorIndex := 173, attributes := #[] }, { accessFlags := 26, nameIndex := 176, descriptorIndex := 173, attributes := #[] }, { accessFlags := 8, nameIndex := 344, descriptorIndex := 339, attributes := #[] }, { accessFlags := 8, nameIndex := 338, descriptorIndex := 339, attributes := #[] }, { accessFlags := 4120, nameIndex := 245, descriptorIndex := 246, attributes := #[] }])
  fields := #[{ name := "E", type := .double, accessFlags := 25, slot := 0, constantValue := 0 }, { name := "PI", type := .double, accessFlags := 25, slot := 1, constantValue := 0 }, { name := "TAU", type := .double, accessFlags := 25, slot := 2, constantValue := 0 }, { name := "DEGREES_TO_RADIANS", type := .double, accessFlags := 26, slot := 3, constantValue := 0 }, { name := "RADIANS_TO_DEGREES", type := .double, accessFlags := 26, slot := 4, constantValue := 0 }, { name := "negativeZeroFloatBits", type := .long, accessFlags := 26, slot := 5, constantValue := 0 }, { name := "negativeZeroDoubleBits", type := .long, accessFlags := 26, slot := 6, constantValue := 0 }, { name := "twoToTheDoubleScaleUp", type := .double, accessFlags := 8, slot := 7, constantValue := 0 }, { name := "twoToTheDoubleScaleDown", type := .double, accessFlags := 8, slot := 8, constantValue := 0 }, { name := "$assertionsDisabled", type := .boolean, accessFlags := 4120, slot := 9, constantValue := 0 }]
  methods := #[k3m0, k3m1, k3m2]
  instanceTypes := #[]
  staticTypes := #[.double, .double, .double, .double, .double, .long, .long, .double, .double, .boolean]
  resolved := Array.replicate 460 none
  statics := none }

def pool4 : Array CpInfo := pool [(1, u "java/lang/Cloneable"), (0, .class_ 1), (0, u "java/lang/Object"), (0, .class_ 3)] 3

/-- java/lang/Cloneable -/
def k4 : Class := { plain "java/lang/Cloneable" (some 0) with
  accessFlags := 1537
  interfaces := #[]
  cf := some (fileOf pool4 2 #[] #[] 1537 4 #[] #[])
  fields := #[]
  methods := #[]
  instanceTypes := #[]
  staticTypes := #[]
  resolved := Array.replicate 8 none
  statics := none }

def pool5 : Array CpInfo := pool [(1, u "java/io/Serializable"), (0, .class_ 1), (0, u "java/lang/Object"), (0, .class_ 3)] 3

/-- java/io/Serializable -/
def k5 : Class := { plain "java/io/Serializable" (some 0) with
  accessFlags := 1537
  interfaces := #[]
  cf := some (fileOf pool5 2 #[] #[] 1537 4 #[] #[])
  fields := #[]
  methods := #[]
  instanceTypes := #[]
  staticTypes := #[]
  resolved := Array.replicate 8 none
  statics := none }

/-- the primitive byte -/
def k6 : Class := { plain "byte" none with kind := .primitive 'B', accessFlags := 0x411 }
/-- [B -/
def k7 : Class := { plain "[B" (some 0) with kind := .array 6 .byte, interfaces := #[4, 5], accessFlags := 1041 }

/-- the primitive int -/
def k8 : Class := { plain "int" none with kind := .primitive 'I', accessFlags := 0x411 }
/-- [I -/
def k9 : Class := { plain "[I" (some 0) with kind := .array 8 .int, interfaces := #[4, 5], accessFlags := 1041 }

def heap : Heap := #[{ cls := 2, slots := #[.int 0, .int 0, .int 0, .ref 1, .int 0, .int 0], vm := .statics 2 },
  { cls := 7, slots := #[.int 0, .int 0, .int 0, .int 0, .int 0, .int 0, .int 0, .int 0, .int 0, .int 0, .int 0, .int 0, .int 0, .int 0, .int 0, .int 0, .int 0, .int 0, .int 0, .int 0, .int 0, .int 0, .int 0, .int 0, .int 0, .int 0, .int 0, .int 0, .int 0, .int 0, .int 0, .int 0, .int 0, .int 0, .int 0, .int 0, .int 0, .int 0, .int 0, .int 0, .int 0, .int 0, .int 0, .int 0, .int 0, .int 2, .int 2, .int 0, .int 2, .int 2, .int 2, .int 2, .int 2, .int 2, .int 2, .int 2, .int 2, .int 2, .int 3, .int 0, .int 0, .int 0, .int 0, .int 0, .int 0, .int 3, .int 3, .int 3, .int 3, .int 3, .int 3, .int 3, .int 3, .int 3, .int 3, .int 3, .int 3, .int 3, .int 3, .int 3, .int 3, .int 3, .int 3, .int 3, .int 3, .int 3, .int 3, .int 3, .int 3, .int 3, .int 3, .int 0, .int 0, .int 0, .int 0, .int 3, .int 0, .int 3, .int 3, .int 3, .int 3, .int 3, .int 3, .int 3, .int 3, .int 3, .int 3, .int 3, .int 3, .int 3, .int 3, .int 3, .int 3, .int 3, .int 3, .int 3, .int 3, .int 3, .int 3, .int 3, .int 3, .int 3, .int 3, .int 0, .int 0, .int 0, .int 0, .int 0], vm := .none }]
def classes : Array Class := #[k0, k1, k2, k3, k4, k5, k6, k7, k8, k9]
def interned : List (Array UInt16 × Addr) := []
def slotsUsed : Nat := 134
def theMethod : MethodId := ⟨1, 2⟩
def args0 : Array Value := #[.int 1, .int 5, .int 2]
def aboutOver (below : List Frame) : State where
  vm := { classes := classes, interned := interned.toArray }
  heap := heap
  slotsUsed := slotsUsed
  threads := #[{ frames := .invoking theMethod args0 :: below }]
def below0 : List Frame := [.native { method := ⟨0, 0⟩, args := #[] }]
def about1 : State := aboutOver below0
def p0 : Program := .bare "" "" ""
def e0 : Env := launch0.env 0 0 0
theorem w_frames : about1.frames = Frame.invoking theMethod args0 :: below0 := rfl
set_option maxRecDepth 65536 in
theorem w_args : argsFit about1.vm theMethod args0 = true := by decide +kernel
set_option maxRecDepth 65536 in
theorem w_heap : heapFits about1 = true := by decide +kernel
set_option maxRecDepth 65536 in
theorem w_runnable : about1.curStatus? = some .runnable := by decide +kernel
set_option maxRecDepth 65536 in
theorem w_alone : about1.alone = true := by decide +kernel
set_option maxRecDepth 65536 in
theorem w_named : about1.methodNamed? x = some theMethod := by decide +kernel
set_option maxRecDepth 65536 in
theorem w_hears : about1.hears theMethod below0 = true := by decide +kernel
set_option maxRecDepth 65536 in
theorem w_ripe : about1.ripe theMethod args0 below0 = true := by decide +kernel
theorem w_running : about1.status = .running := rfl
set_option maxRecDepth 65536 in
theorem w_room : about1.hasRoom e0.platform room_1 = true :=
  launch0.hasRoom_least _ room_1 (by decide +kernel) (by decide +kernel) (by decide +kernel) (by decide +kernel) (by decide +kernel) (by decide +kernel)
theorem allAtoms_all (ts : List Jvm.Cond) (a : Array Jvm.Value) (st : Jvm.State) : (allAtoms ts).before a st = ts.all (fun c => c.before a st) := by
  induction ts with
  | nil => rfl
  | cons c t ih =>
    show (Jvm.Cond.and c (allAtoms t)).before a st = _
    rw [Jvm.Cond.before_and, ih, List.all_cons]
def words1 : List Jvm.Cond := Jvm.Cond.code x code maxLocals ret :: tables_1
/-- a 'code' word, met by the world's own term for the bytes: nothing is compared byte by byte -/
theorem code_word {y : MethodName} {bytes : ByteArray} {mx : Nat} {rt : Option FieldType} {a : Array Value} {s : State} {m : MethodId} {meth : Method} {c : Code} (h1 : s.methodNamed? y = some m) (h2 : s.vm.method? m = some meth) (h3 : meth.code = some c) (h4 : c.code = bytes)
    (h5 : (c.maxLocals == mx && c.exceptionTable.isEmpty && decide (c.maxStack ≤ mostOperands) && decide (meth.sig.returnType = rt) && !meth.locks && decide (parseMethodDescriptor y.desc = some meth.sig)) = true) : (Jvm.Cond.code y bytes mx rt).before a s = true := by
  simp only [Bool.and_eq_true, beq_iff_eq, Bool.not_eq_true', decide_eq_true_eq] at h5
  obtain ⟨⟨⟨⟨⟨g1, g2⟩, g3⟩, g4⟩, g5⟩, g6⟩ := h5
  simp [Cond.before, Cond.holds, Cond.value, h1, h2, h3, h4, g1, g2, g3, g4, g5, g6]
def isCode : Jvm.Cond → Bool
  | .code _ _ _ _ => true
  | _ => false
theorem all_split {L : List Jvm.Cond} {P : Jvm.Cond → Bool} (h1 : L.all (fun c => isCode c || P c) = true) (h2 : ∀ c ∈ L.filter isCode, P c = true) : L.all P = true := by
  refine List.all_eq_true.mpr fun c hc => ?_
  have h := List.all_eq_true.mp h1 c hc
  rcases Bool.eq_false_or_eq_true (isCode c) with hi | hi
  · exact h2 c (List.mem_filter.mpr ⟨hc, hi⟩)
  · simpa [hi] using h
set_option maxRecDepth 65536 in
theorem w_c0 : (Jvm.Cond.code x code maxLocals ret).before args0 about1 = true := code_word (m := ⟨1, 2⟩) (meth := k1m2) (c := k1c2) (by decide +kernel) rfl rfl rfl (by decide +kernel)
set_option maxRecDepth 65536 in
theorem w_c1 : (Jvm.Cond.code ({ cls := "com/example/onward/onward/xml/Names", name := "startsName", desc := "(I)Z" } : Jvm.MethodName) prog_240_method_6_code (1 : Nat) (Option.some Jvm.ClassFile.FieldType.boolean)).before args0 about1 = true := code_word (m := ⟨2, 1⟩) (meth := k2m1) (c := k2c1) (by decide +kernel) rfl rfl rfl (by decide +kernel)
set_option maxRecDepth 65536 in
theorem w_c2 : (Jvm.Cond.code ({ cls := "com/example/onward/onward/xml/NamesStartsNamePinLaw", name := "reference", desc := "(I)Z" } : Jvm.MethodName) method_2_code (1 : Nat) (Option.some Jvm.ClassFile.FieldType.boolean)).before args0 about1 = true := code_word (m := ⟨1, 1⟩) (meth := k1m1) (c := k1c1) (by decide +kernel) rfl rfl rfl (by decide +kernel)
set_option maxRecDepth 65536 in
theorem w_c3 : (Jvm.Cond.code ({ cls := "java/lang/Math", name := "min", desc := "(II)I" } : Jvm.MethodName) jdk_29_method_69_code (2 : Nat) (Option.some Jvm.ClassFile.FieldType.int)).before args0 about1 = true := code_word (m := ⟨3, 2⟩) (meth := k3m2) (c := k3c2) (by decide +kernel) rfl rfl rfl (by decide +kernel)
set_option maxRecDepth 65536 in
theorem w_c4 : (Jvm.Cond.code ({ cls := "java/lang/Math", name := "max", desc := "(II)I" } : Jvm.MethodName) jdk_29_method_65_code (2 : Nat) (Option.some Jvm.ClassFile.FieldType.int)).before args0 about1 = true := code_word (m := ⟨3, 1⟩) (meth := k3m1) (c := k3c1) (by decide +kernel) rfl rfl rfl (by decide +kernel)
def codes1 : List Jvm.Cond := [Jvm.Cond.code x code maxLocals ret, Jvm.Cond.code ({ cls := "com/example/onward/onward/xml/Names", name := "startsName", desc := "(I)Z" } : Jvm.MethodName) prog_240_method_6_code (1 : Nat) (Option.some Jvm.ClassFile.FieldType.boolean), Jvm.Cond.code ({ cls := "com/example/onward/onward/xml/NamesStartsNamePinLaw", name := "reference", desc := "(I)Z" } : Jvm.MethodName) method_2_code (1 : Nat) (Option.some Jvm.ClassFile.FieldType.boolean), Jvm.Cond.code ({ cls := "java/lang/Math", name := "min", desc := "(II)I" } : Jvm.MethodName) jdk_29_method_69_code (2 : Nat) (Option.some Jvm.ClassFile.FieldType.int), Jvm.Cond.code ({ cls := "java/lang/Math", name := "max", desc := "(II)I" } : Jvm.MethodName) jdk_29_method_65_code (2 : Nat) (Option.some Jvm.ClassFile.FieldType.int)]
set_option maxRecDepth 65536 in
theorem codes_eq : words1.filter isCode = codes1 := rfl
theorem w_codes : ∀ c ∈ words1.filter isCode, c.before args0 about1 = true := by
  rw [codes_eq]
  intro c hc
  simp only [codes1, List.mem_cons, List.not_mem_nil, or_false] at hc
  rcases hc with rfl | rfl | rfl | rfl | rfl
  · exact w_c0
  · exact w_c1
  · exact w_c2
  · exact w_c3
  · exact w_c4
set_option maxRecDepth 65536 in
theorem w_t1 : (words1.take 24).all (fun c => isCode c || c.before args0 about1) = true := by decide +kernel
set_option maxRecDepth 65536 in
theorem w_t2 : (words1.drop 24).all (fun c => isCode c || c.before args0 about1) = true := by decide +kernel
theorem w_tables : (allAtoms (Jvm.Cond.code x code maxLocals ret :: tables_1)).before args0 about1 = true := by
  rw [allAtoms_all]
  show words1.all (fun c => c.before args0 about1) = true
  refine all_split ?_ w_codes
  rw [← List.take_append_drop 24 words1, List.all_append, w_t1, w_t2]
  rfl
set_option maxRecDepth 65536 in
theorem w_case : (Jvm.Cond.and given_1 narrow_1).before args0 about1 = true := by decide +kernel
theorem w_applies : (headSpec (Jvm.Cond.code x code maxLocals ret :: tables_1) room_1).applies x e0.platform about1 = true :=
  (Spec.applies_iff w_frames).mpr ⟨w_running, w_runnable, w_alone, w_named, w_hears, w_ripe, w_room, w_tables⟩
theorem atStart : AtStart classFile x code maxLocals ret World_1 tables_1 room_1 Calls_1 rest_1 Pre_1 launch0 p0 e0 about1 theMethod args0 below0 :=
  ⟨lists_1, trivial, launch0.admits_env _ _ _, launch0.least_env, fairChoices_fair.cas, fairChoices_fair.clock, w_frames, w_args, w_heap, w_applies, trivial, trivial, w_case⟩
end start1
theorem witness_1 : WitnessClaimed_1 := ⟨start1.p0, start1.e0, start1.about1, start1.theMethod, start1.args0, start1.below0, start1.atStart⟩
end Jvm.Pilot.@@N@@
