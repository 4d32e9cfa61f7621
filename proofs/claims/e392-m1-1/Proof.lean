import JvmDerived
import JvmDerived.Pilot.@@N@@Statement
import JvmDerived.Pilot.@@N@@Code
set_option linter.unusedVariables false
set_option linter.unusedSimpArgs false
namespace Jvm.RoadKit
open Sem ClassFile Op Lib Jvm.Stand Jvm.Free Jvm.LawKit
section New
variable {p : Program} {l : Launch} {e : Env} {R : Room} {s : State} {m : MethodId} {args : Array Value} {below : List Frame} {meth : Method} {c : Code} {T : State} {locs : List Loc} {cells slots : Nat}
theorem retI (X : Stand p l e R s m args below meth c T locs cells slots) (hx : p.tables.exec = Jvm.exec) {pc : Nat} {Ls : Array Slot} {z : Int32} {rest : List Value} (hret : meth.sig.returnType = some .int) (hd : decode c.code pc = .ok (.ireturn, 1)) {fs : List Frame}
    (hl : ∀ (f : JFrame) (acts : List Action), f.method = m → f.locked = none → f.entered = [] → (doReturn e (T.setTop f) acts (some (.int z))).1 = T.setFrames fs) : Steps p.tables e below (T.setTop (mkF m pc Ls (.int z :: rest))) (T.setFrames fs) := by
  have hm' : T.vm.method? m = some meth := X.method'
  have hn : narrow .int (.int z) = .int z := rfl
  show Steps p.tables e below (T.setTop { method := m, pc := pc, locals := Ls, stack := _ :: rest, locked := none }) _
  jvm_step X.here [X.here.top, hx, hd, hm', hret, hn]
  first | (intro acts; rw [hl _ acts rfl rfl rfl]) | rw [hl _ _ rfl rfl rfl]
  exact Steps.refl _
end New
end Jvm.RoadKit
namespace Jvm.Pilot.@@N@@
open Jvm Jvm.ClassFile Sem Op Lib Jvm.Free Jvm.Stand Jvm.LawKit Jvm.RoadKit Bundle Jvm.Pilot.@@N@@.Jvm.D
section OwnCommon
variable {p : Program} {l : Launch} {e : Env} {R : Room} {s : State} {m : MethodId} {args : Array Value} {below : List Frame} {meth : Method} {c : Code} {T : State} {locs : List Loc} {cells slots : Nat} {Z : State} {a0 : Array Value} {h h' : Heap} {a b : Addr} {ty : FieldType} {n : Nat} {f f' : Nat → Int32}
theorem own_nn {i : Nat} (hi : i < 2 ^ 31) : ¬ Int32.ofNat i < 0 := by
  rw [Int32.lt_iff_toInt_lt, Int32.toInt_ofNat_of_lt (by omega), show (0 : Int32).toInt = 0 from rfl]; omega
theorem own_n32 {i : Nat} (hi : i < 2 ^ 31) : (Int32.ofNat i).toNatClampNeg = i := by
  rw [Int32.toNatClampNeg, Int32.toInt_ofNat_of_lt (by omega)]; rfl
theorem own_ti {i : Nat} (hi : i < 2 ^ 31) : (Int32.ofNat i).toInt = (i : Int) := Int32.toInt_ofNat_of_lt (by omega)
theorem own_lt {i j : Nat} (hi : i < 2 ^ 31) (hj : j < 2 ^ 31) : Int32.ofNat i < Int32.ofNat j ↔ i < j := by
  rw [Int32.lt_iff_toInt_lt, own_ti hi, own_ti hj]; omega
theorem own_one (i : Nat) : Int32.ofNat i + (1 : Int32) = Int32.ofNat (i + 1) := (Int32.ofNat_add i 1).symm
theorem own_eq {i j : Nat} (hi : i < 2 ^ 31) (hj : j < 2 ^ 31) : Int32.ofNat i = Int32.ofNat j ↔ i = j := by
  rw [← Int32.toInt_inj, own_ti hi, own_ti hj]; omega
/-- an array of ints (bytes, chars): n places, place j holds f j -/
def Iar (Z : State) (h : Heap) (a : Addr) (ty : FieldType) (n : Nat) (f : Nat → Int32) : Prop :=
  n < 2 ^ 31 ∧ ∃ c : Cell, Arr Z h a c ty ∧ c.slots.size = n ∧ (∀ j, j < n → c.slots[j]? = some (.int (f j))) ∧ ∀ j, j < n → fits ty (.int (f j)) = true
theorem Iar.lt (F : Iar Z h a ty n f) : a < h.size := by obtain ⟨-, c, A, -⟩ := F; exact A.lt
theorem Iar.ext (F : Iar Z h a ty n f) (E : Ext h h') : Iar Z h' a ty n f := by obtain ⟨q, c, A, r⟩ := F; exact ⟨q, c, A.ext E, r⟩
theorem Iar.other {sl : Nat} {v : Value} (F : Iar Z h b ty n f) (W : Wr h h' a sl v) (q : b ≠ a) : Iar Z h' b ty n f := by obtain ⟨z, c, A, r⟩ := F; exact ⟨z, c, A.other W q, r⟩
theorem Iar.keep {ws : List Addr} (F : Iar Z h a ty n f) (K : Keep h h' ws) (q : a ∉ ws) : Iar Z h' a ty n f := by obtain ⟨z, c, A, r⟩ := F; exact ⟨z, c, ⟨K.2.1 a c A.1 q, A.2⟩, r⟩
theorem Iar.congr (F : Iar Z h a ty n f) (q : ∀ j, j < n → f j = f' j) : Iar Z h a ty n f' := by
  obtain ⟨z, c, A, S, H, G⟩ := F
  exact ⟨z, c, A, S, fun j hj => by rw [← q j hj]; exact H j hj, fun j hj => by rw [← q j hj]; exact G j hj⟩
theorem Iar.new {z : Int32} {k : ClassId} (A : Arr Z h a (newA k ty z) ty) (hz : z = Int32.ofNat n) (hn : n < 2 ^ 31) (hd : defaultValue ty = .int 0) (hf : fits ty (.int 0) = true) : Iar Z h a ty n (fun _ => 0) := by
  have e1 : z.toNatClampNeg = n := by rw [hz]; exact own_n32 hn
  refine ⟨hn, _, A, by rw [sz_new]; exact e1, fun j hj => ?_, fun j hj => hf⟩
  show (Array.replicate z.toNatClampNeg (defaultValue ty))[j]? = _
  rw [e1, hd, Array.getElem?_replicate, if_pos hj]
theorem Iar.set (F : Iar Z h a ty n f) {j : Int32} {i : Nat} {v : Int32} (W : Wr h h' a j.toNatClampNeg (.int v)) (hj : j.toNatClampNeg = i) (hv : fits ty (.int v) = true) : Iar Z h' a ty n (fun k => if k = i then v else f k) := by
  obtain ⟨z, c, A, S, H, G⟩ := F
  refine ⟨z, _, A.same W, by rw [sz_set]; exact S, fun k hk => ?_, fun k hk => ?_⟩
  · show (c.slots.setIfInBounds j.toNatClampNeg (.int v))[k]? = some (.int (if k = i then v else f k))
    rw [hj, Array.getElem?_setIfInBounds]
    by_cases q : k = i
    · subst q; rw [if_pos rfl, if_pos (by omega), if_pos rfl]
    · rw [if_neg (fun y => q y.symm), if_neg q]; exact H k hk
  · by_cases q : k = i
    · simp only [q, if_true]; exact hv
    · simp only [q, if_false]; exact G k hk
theorem Iar.inb {j : Int32} {i : Nat} {cl : Cell} (S : cl.slots.size = n) (hj : j.toNatClampNeg = i) (h0 : ¬ j < 0) (hi : i < n) : ¬ (j < 0 ∨ cl.slots.size ≤ j.toNatClampNeg) := by
  rw [S, hj]; exact fun q => q.elim h0 (fun q => by omega)
theorem own_ldB {g : JFrame} {rest : List Value} {j : Int32} {i : Nat} (X : Stand p l e R s m args below meth c T locs cells slots) (hx : p.tables.exec = Jvm.exec) (hZ : Z.Warmed39 s.vm) (eT : T.heap = h) (F : Iar Z h a .byte n f) (hj : j.toNatClampNeg = i) (h0 : ¬ j < 0) (hi : i < n)
    (hg : g.method = m) (hs : g.stack = .int j :: .ref a :: rest) (hd : decode c.code g.pc = .ok (.baload, 1)) (target : State) (k : Steps p.tables e below (T.setTop { g with pc := g.pc + 1, stack := .int (f i) :: rest }) target) : Steps p.tables e below (T.setTop g) target := by
  obtain ⟨z, cl, A, S, H, G⟩ := F
  exact X.baloadBytes hx (by rw [eT]; exact A.1) (State.isArrayOf_alike hZ.alike A.2.1) A.2.2 (Iar.inb S hj h0 hi) (by rw [hj]; exact H i hi) hg hs hd _ k
theorem own_ldC {g : JFrame} {rest : List Value} {j : Int32} {i : Nat} (X : Stand p l e R s m args below meth c T locs cells slots) (hx : p.tables.exec = Jvm.exec) (hZ : Z.Warmed39 s.vm) (eT : T.heap = h) (F : Iar Z h a .char n f) (hj : j.toNatClampNeg = i) (h0 : ¬ j < 0) (hi : i < n)
    (hg : g.method = m) (hs : g.stack = .int j :: .ref a :: rest) (hd : decode c.code g.pc = .ok (.caload, 1)) (target : State) (k : Steps p.tables e below (T.setTop { g with pc := g.pc + 1, stack := .int (f i) :: rest }) target) : Steps p.tables e below (T.setTop g) target := by
  obtain ⟨z, cl, A, S, H, G⟩ := F
  exact X.caload hx (by rw [eT]; exact A.1) (State.isArrayOf_alike hZ.alike A.2.1) A.2.2 (Iar.inb S hj h0 hi) (by rw [hj]; exact H i hi) hg hs hd _ k
theorem own_ldI {g : JFrame} {rest : List Value} {j : Int32} {i : Nat} (X : Stand p l e R s m args below meth c T locs cells slots) (hx : p.tables.exec = Jvm.exec) (hZ : Z.Warmed39 s.vm) (eT : T.heap = h) (F : Iar Z h a .int n f) (hj : j.toNatClampNeg = i) (h0 : ¬ j < 0) (hi : i < n)
    (hg : g.method = m) (hs : g.stack = .int j :: .ref a :: rest) (hd : decode c.code g.pc = .ok (.iaload, 1)) (target : State) (k : Steps p.tables e below (T.setTop { g with pc := g.pc + 1, stack := .int (f i) :: rest }) target) : Steps p.tables e below (T.setTop g) target := by
  obtain ⟨z, cl, A, S, H, G⟩ := F
  exact X.iaload hx (by rw [eT]; exact A.1) (State.isArrayOf_alike hZ.alike A.2.1) A.2.2 (Iar.inb S hj h0 hi) (by rw [hj]; exact H i hi) hg hs hd _ k
theorem own_len {g : JFrame} {rest : List Value} (X : Stand p l e R s m args below meth c T locs cells slots) (hx : p.tables.exec = Jvm.exec) (hZ : Z.Warmed39 s.vm) (eT : T.heap = h) (F : Iar Z h a ty n f)
    (hg : g.method = m) (hs : g.stack = .ref a :: rest) (hd : decode c.code g.pc = .ok (.arraylength, 1)) (target : State) (k : Steps p.tables e below (T.setTop { g with pc := g.pc + 1, stack := .int (Int32.ofNat n) :: rest }) target) : Steps p.tables e below (T.setTop g) target := by
  obtain ⟨z, cl, A, S, H, G⟩ := F
  refine X.arraylength hx (by rw [eT]; exact A.1) (State.isArrayOf_alike hZ.alike A.2.1) hg hs hd _ ?_
  rw [S]; exact k
theorem own_stB {g : JFrame} {rest : List Value} {j x : Int32} {i : Nat} (X : Stand p l e R s m args below meth c T locs cells slots) (hx : p.tables.exec = Jvm.exec) (hZ : Z.Warmed39 s.vm) (eT : T.heap = h) (F : Iar Z h a .byte n f) (hj : j.toNatClampNeg = i) (h0 : ¬ j < 0) (hi : i < n)
    (hg : g.method = m) (hs : g.stack = .int x :: .int j :: .ref a :: rest) (hd : decode c.code g.pc = .ok (.bastore, 1)) :
    ∃ T' h', Stand p l e R s m args below meth c T' (locs ++ [⟨a, j.toNatClampNeg⟩]) cells slots ∧ T'.heap = h' ∧ Wr h h' a j.toNatClampNeg (.int (nar .byte x)) ∧ Iar Z h' a .byte n (fun k => if k = i then nar .byte x else f k) ∧
      ∀ target, Steps p.tables e below (T'.setTop { g with pc := g.pc + 1, stack := rest }) target → Steps p.tables e below (T.setTop g) target := by
  have F' := F
  obtain ⟨z, cl, A, S, H, G⟩ := F
  obtain ⟨T1, h1, X1, e1, W1, st1⟩ := stB X hx hZ eT A (Iar.inb S hj h0 hi) hg hs hd
  exact ⟨T1, h1, X1, e1, W1, F'.set W1 hj (fits_nar_byte x), st1⟩
theorem own_stC {g : JFrame} {rest : List Value} {j x : Int32} {i : Nat} (X : Stand p l e R s m args below meth c T locs cells slots) (hx : p.tables.exec = Jvm.exec) (hZ : Z.Warmed39 s.vm) (eT : T.heap = h) (F : Iar Z h a .char n f) (hj : j.toNatClampNeg = i) (h0 : ¬ j < 0) (hi : i < n)
    (hg : g.method = m) (hs : g.stack = .int x :: .int j :: .ref a :: rest) (hd : decode c.code g.pc = .ok (.castore, 1)) :
    ∃ T' h', Stand p l e R s m args below meth c T' (locs ++ [⟨a, j.toNatClampNeg⟩]) cells slots ∧ T'.heap = h' ∧ Wr h h' a j.toNatClampNeg (.int (nar .char x)) ∧ Iar Z h' a .char n (fun k => if k = i then nar .char x else f k) ∧
      ∀ target, Steps p.tables e below (T'.setTop { g with pc := g.pc + 1, stack := rest }) target → Steps p.tables e below (T.setTop g) target := by
  have F' := F
  obtain ⟨z, cl, A, S, H, G⟩ := F
  obtain ⟨T1, h1, X1, e1, W1, st1⟩ := stC X hx hZ eT A (Iar.inb S hj h0 hi) hg hs hd
  exact ⟨T1, h1, X1, e1, W1, F'.set W1 hj (fits_nar_char x), st1⟩
theorem own_stI {g : JFrame} {rest : List Value} {j x : Int32} {i : Nat} (X : Stand p l e R s m args below meth c T locs cells slots) (hx : p.tables.exec = Jvm.exec) (hZ : Z.Warmed39 s.vm) (eT : T.heap = h) (F : Iar Z h a .int n f) (hj : j.toNatClampNeg = i) (h0 : ¬ j < 0) (hi : i < n)
    (hg : g.method = m) (hs : g.stack = .int x :: .int j :: .ref a :: rest) (hd : decode c.code g.pc = .ok (.iastore, 1)) :
    ∃ T' h', Stand p l e R s m args below meth c T' (locs ++ [⟨a, j.toNatClampNeg⟩]) cells slots ∧ T'.heap = h' ∧ Wr h h' a j.toNatClampNeg (.int x) ∧ Iar Z h' a .int n (fun k => if k = i then x else f k) ∧
      ∀ target, Steps p.tables e below (T'.setTop { g with pc := g.pc + 1, stack := rest }) target → Steps p.tables e below (T.setTop g) target := by
  have F' := F
  obtain ⟨z, cl, A, S, H, G⟩ := F
  obtain ⟨T1, h1, X1, e1, W1, st1⟩ := stI X hx hZ eT A (Iar.inb S hj h0 hi) hg hs hd
  exact ⟨T1, h1, X1, e1, W1, F'.set W1 hj rfl, st1⟩
/-- a callee that only reads: what it returns; it writes nothing; the heap is as it was -/
def QR (F : Value) (h0 : Heap) (v : Option Value) (h : Heap) (L : List Loc) : Prop := v = some F ∧ L = [] ∧ h = h0
/-- ONE STATIC CALL OF A METHOD THAT ONLY READS: the walk stands where it stood, with the answer on the stack -/
theorem own_callR {own : String} {index : Nat} {y : MethodName} {bytes : ByteArray} {maxL : Nat} {ret : Option FieldType} {rm : Room} {W : Nat} {as' : List Value} {F : Value} {g : JFrame} {rest : List Value}
    (X : Stand p l e R s m args below meth c T locs cells slots) (hx : p.tables.exec = Jvm.exec) (hZ : Z.Warmed39 s.vm) (hown : s.vm.findClass own = some m.cls)
    (w1 : (Cond.methodLink own index y).before a0 Z = true) (w2 : (Cond.static y).before a0 Z = true) (w3 : (Cond.initialized y.cls).before a0 Z = true) (w4 : (Cond.code y bytes maxL ret).before a0 Z = true) (hy : y.cls ≠ "java/lang/invoke/MethodHandle" ∧ y.cls ≠ "java/lang/invoke/VarHandle")
    (hM : MetFree l y (head1 [Cond.code y bytes maxL ret] rm) (fun a U => a = as'.toArray ∧ Z.Warmed39 U.vm ∧ U.heap = h) (fun _ _ _ _ _ => True) (fun _ U o U' => ∃ v L, o = .returned v ∧ QR F h v U'.heap L ∧ FrameEnd U o U' L rm.cells rm.slots))
    (hrc : rm.cells = 0) (hrs : rm.slots = 0) (hf : rm.frames + 1 ≤ R.frames) (hl : W + (maxL + 11) + rm.locals ≤ R.locals) (hcc : cells ≤ R.cells) (hss : slots ≤ R.slots) (eT : T.heap = h)
    (hg : g.method = m) (hsize : g.locals.size = c.maxLocals) (hlen : ∀ sig, parseMethodDescriptor y.desc = some sig → as'.length = sig.parameters.length) (hstack : g.stack = as'.reverse ++ rest)
    (hW : 2 * g.monitorRoom + (rest.map fun v => v.category).sum ≤ W) (hdg : decode c.code g.pc = .ok (.invokestatic index, 3)) :
    ∃ T', Stand p l e R s m args below meth c T' locs cells slots ∧ T'.heap = h ∧
      ∀ target, Steps p.tables e below (T'.setTop { g with pc := g.pc + 3, stack := F :: rest }) target → Steps p.tables e below (T.setTop g) target := by
  obtain ⟨v, _, ⟨T4, L4, k4, n4⟩, -, X4, ⟨Lc4, hQ4, l4, y4, z4⟩, st4⟩ := Jvm.LawKit.callS X hx (y := y) hown (mvT hZ w1) (mvT hZ w2) (mvT hZ w3) (mvT hZ w4) hy (backOf (W := W) hM hZ w4 w3 hf hl) (g := g) hg hsize (argsL := as') (rest := rest) hlen hstack hW hdg
    (fun _ _ => ⟨rfl, eT, by rw [hrc]; exact hcc, by rw [hrs]; exact hss⟩)
  dsimp only [Pt.U, Pt.locs, Pt.cells, Pt.slots] at X4 l4 y4 z4 st4 hQ4
  obtain ⟨rfl, rfl, e4⟩ := hQ4
  rw [hrc, Nat.add_zero] at y4
  rw [hrs, Nat.add_zero] at z4
  rw [List.append_nil] at l4
  subst l4 y4 z4
  exact ⟨T4, X4, e4, st4⟩
end OwnCommon
theorem d3_0 : decode method_2_code 0 = .ok (.iload_n 2, 1) := by decide +kernel
theorem d3_1 : decode method_2_code 1 = .ok (.iload_n 3, 1) := by decide +kernel
theorem d3_2 : decode method_2_code 2 = .ok (.iushr, 1) := by decide +kernel
theorem d3_3 : decode method_2_code 3 = .ok (.iconst 1, 1) := by decide +kernel
theorem d3_4 : decode method_2_code 4 = .ok (.iand, 1) := by decide +kernel
theorem d3_5 : decode method_2_code 5 = .ok (.ifCond .eq 6, 3) := by decide +kernel
theorem d3_8 : decode method_2_code 8 = .ok (.bipush 10, 2) := by decide +kernel
theorem d3_10 : decode method_2_code 10 = .ok (.ireturn, 1) := by decide +kernel
theorem d3_11 : decode method_2_code 11 = .ok (.lload_n 0, 1) := by decide +kernel
theorem d3_12 : decode method_2_code 12 = .ok (.bipush 8, 2) := by decide +kernel
theorem d3_14 : decode method_2_code 14 = .ok (.iload_n 3, 1) := by decide +kernel
theorem d3_15 : decode method_2_code 15 = .ok (.imul, 1) := by decide +kernel
theorem d3_16 : decode method_2_code 16 = .ok (.lushr, 1) := by decide +kernel
theorem d3_17 : decode method_2_code 17 = .ok (.l2i, 1) := by decide +kernel
theorem d3_18 : decode method_2_code 18 = .ok (.i2b, 1) := by decide +kernel
theorem d3_19 : decode method_2_code 19 = .ok (.ireturn, 1) := by decide +kernel
theorem pn_3 : plainName "com/example/pathline/pathline/bench/TimeCommandLineCountPinLaw" = true := by first | (simp [plainName, overriddenIn]; done) | decide +kernel
theorem pd_3 : parseMethodDescriptor "(JII)B" = some ⟨[.long, .int, .int], some .byte⟩ := by decide +kernel
theorem d1_0 : decode method_3_code 0 = .ok (.iload 4, 2) := by decide +kernel
theorem d1_2 : decode method_3_code 2 = .ok (.iload_n 3, 1) := by decide +kernel
theorem d1_3 : decode method_3_code 3 = .ok (.if_icmp .lt 5, 3) := by decide +kernel
theorem d1_6 : decode method_3_code 6 = .ok (.iconst 0, 1) := by decide +kernel
theorem d1_7 : decode method_3_code 7 = .ok (.ireturn, 1) := by decide +kernel
theorem d1_8 : decode method_3_code 8 = .ok (.lload_n 0, 1) := by decide +kernel
theorem d1_9 : decode method_3_code 9 = .ok (.iload_n 2, 1) := by decide +kernel
theorem d1_10 : decode method_3_code 10 = .ok (.iload 4, 2) := by decide +kernel
theorem d1_12 : decode method_3_code 12 = .ok (.invokestatic 7, 3) := by decide +kernel
theorem d1_15 : decode method_3_code 15 = .ok (.bipush 10, 2) := by decide +kernel
theorem d1_17 : decode method_3_code 17 = .ok (.if_icmp .eq 11, 3) := by decide +kernel
theorem d1_20 : decode method_3_code 20 = .ok (.iload 4, 2) := by decide +kernel
theorem d1_22 : decode method_3_code 22 = .ok (.iload_n 3, 1) := by decide +kernel
theorem d1_23 : decode method_3_code 23 = .ok (.iconst 1, 1) := by decide +kernel
theorem d1_24 : decode method_3_code 24 = .ok (.isub, 1) := by decide +kernel
theorem d1_25 : decode method_3_code 25 = .ok (.if_icmp .ne 5, 3) := by decide +kernel
theorem d1_28 : decode method_3_code 28 = .ok (.iconst 1, 1) := by decide +kernel
theorem d1_29 : decode method_3_code 29 = .ok (.ireturn, 1) := by decide +kernel
theorem d1_30 : decode method_3_code 30 = .ok (.iconst 0, 1) := by decide +kernel
theorem d1_31 : decode method_3_code 31 = .ok (.ireturn, 1) := by decide +kernel
theorem pn_1 : plainName "com/example/pathline/pathline/bench/TimeCommandLineCountPinLaw" = true := by first | (simp [plainName, overriddenIn]; done) | decide +kernel
theorem pd_1 : parseMethodDescriptor "(JIII)I" = some ⟨[.long, .int, .int, .int], some .int⟩ := by decide +kernel
theorem d2_0 : decode prog_48_method_5_code 0 = .ok (.iconst 0, 1) := by decide +kernel
theorem d2_1 : decode prog_48_method_5_code 1 = .ok (.istore_n 1, 1) := by decide +kernel
theorem d2_2 : decode prog_48_method_5_code 2 = .ok (.aload_n 0, 1) := by decide +kernel
theorem d2_3 : decode prog_48_method_5_code 3 = .ok (.astore_n 2, 1) := by decide +kernel
theorem d2_4 : decode prog_48_method_5_code 4 = .ok (.aload_n 2, 1) := by decide +kernel
theorem d2_5 : decode prog_48_method_5_code 5 = .ok (.arraylength, 1) := by decide +kernel
theorem d2_6 : decode prog_48_method_5_code 6 = .ok (.istore_n 3, 1) := by decide +kernel
theorem d2_7 : decode prog_48_method_5_code 7 = .ok (.iconst 0, 1) := by decide +kernel
theorem d2_8 : decode prog_48_method_5_code 8 = .ok (.istore 4, 2) := by decide +kernel
theorem d2_10 : decode prog_48_method_5_code 10 = .ok (.iload 4, 2) := by decide +kernel
theorem d2_12 : decode prog_48_method_5_code 12 = .ok (.iload_n 3, 1) := by decide +kernel
theorem d2_13 : decode prog_48_method_5_code 13 = .ok (.if_icmp .ge 25, 3) := by decide +kernel
theorem d2_16 : decode prog_48_method_5_code 16 = .ok (.aload_n 2, 1) := by decide +kernel
theorem d2_17 : decode prog_48_method_5_code 17 = .ok (.iload 4, 2) := by decide +kernel
theorem d2_19 : decode prog_48_method_5_code 19 = .ok (.baload, 1) := by decide +kernel
theorem d2_20 : decode prog_48_method_5_code 20 = .ok (.istore 5, 2) := by decide +kernel
theorem d2_22 : decode prog_48_method_5_code 22 = .ok (.iload 5, 2) := by decide +kernel
theorem d2_24 : decode prog_48_method_5_code 24 = .ok (.bipush 10, 2) := by decide +kernel
theorem d2_26 : decode prog_48_method_5_code 26 = .ok (.if_icmp .ne 6, 3) := by decide +kernel
theorem d2_29 : decode prog_48_method_5_code 29 = .ok (.iinc 1 1, 3) := by decide +kernel
theorem d2_32 : decode prog_48_method_5_code 32 = .ok (.iinc 4 1, 3) := by decide +kernel
theorem d2_35 : decode prog_48_method_5_code 35 = .ok (.goto (-25), 3) := by decide +kernel
theorem d2_38 : decode prog_48_method_5_code 38 = .ok (.aload_n 0, 1) := by decide +kernel
theorem d2_39 : decode prog_48_method_5_code 39 = .ok (.arraylength, 1) := by decide +kernel
theorem d2_40 : decode prog_48_method_5_code 40 = .ok (.ifCond .le 17, 3) := by decide +kernel
theorem d2_43 : decode prog_48_method_5_code 43 = .ok (.aload_n 0, 1) := by decide +kernel
theorem d2_44 : decode prog_48_method_5_code 44 = .ok (.aload_n 0, 1) := by decide +kernel
theorem d2_45 : decode prog_48_method_5_code 45 = .ok (.arraylength, 1) := by decide +kernel
theorem d2_46 : decode prog_48_method_5_code 46 = .ok (.iconst 1, 1) := by decide +kernel
theorem d2_47 : decode prog_48_method_5_code 47 = .ok (.isub, 1) := by decide +kernel
theorem d2_48 : decode prog_48_method_5_code 48 = .ok (.baload, 1) := by decide +kernel
theorem d2_49 : decode prog_48_method_5_code 49 = .ok (.bipush 10, 2) := by decide +kernel
theorem d2_51 : decode prog_48_method_5_code 51 = .ok (.if_icmp .eq 6, 3) := by decide +kernel
theorem d2_54 : decode prog_48_method_5_code 54 = .ok (.iinc 1 1, 3) := by decide +kernel
theorem d2_57 : decode prog_48_method_5_code 57 = .ok (.iload_n 1, 1) := by decide +kernel
theorem d2_58 : decode prog_48_method_5_code 58 = .ok (.ireturn, 1) := by decide +kernel
theorem pn_2 : plainName "com/example/pathline/pathline/bench/TimeCommand" = true := by first | (simp [plainName, overriddenIn]; done) | decide +kernel
theorem pd_2 : parseMethodDescriptor "([B)I" = some ⟨[(.array .byte)], some .int⟩ := by decide +kernel
theorem pn_0 : plainName "com/example/pathline/pathline/bench/TimeCommandLineCountPinLaw" = true := by first | (simp [plainName, overriddenIn]; done) | decide +kernel
/-- the k-th byte -/
def own_at (q : Int64) (nl k : Int32) : Int32 := if (((nl.toUInt32 >>> (k &&& 31).toUInt32).toInt32) &&& (1 : Int32)) = (0 : Int32) then ((((q.toUInt64 >>> (((8 : Int32) * k) &&& 0x3f).toInt64.toUInt64).toInt64).toInt32).toInt8.toInt32) else 10
theorem own_i2b (x : Int32) : nar .byte (x.toInt8.toInt32) = x.toInt8.toInt32 := by
  show (x.toInt8.toInt32).toInt8.toInt32 = x.toInt8.toInt32
  rw [Int8.toInt8_toInt32]
theorem own_at_nar (q : Int64) (nl k : Int32) : nar .byte (own_at q nl k) = own_at q nl k := by
  unfold own_at
  split
  · exact own_i2b _
  · rfl
def own_ends (q : Int64) (nl n k : Int32) : Int32 := if k < n then (if own_at q nl k = (10 : Int32) then 1 else if k = n - (1 : Int32) then 1 else 0) else 0
def own_cnt (f : Nat → Int32) : Nat → Nat → Int32
  | 0, _ => 0
  | k + 1, i => (if f i = (10 : Int32) then 1 else 0) + own_cnt f k (i + 1)
def own_lc (f : Nat → Int32) (n : Nat) : Int32 := if 0 < n then (if f (n - 1) = (10 : Int32) then own_cnt f n 0 else own_cnt f n 0 + 1) else own_cnt f n 0
theorem ef_3 (m : MethodId) (q : Int64) (nl : Int32) (k : Int32) : entryFrame m #[(.long q), (.int nl), (.int k)] 4 = mkF m 0 #[.val (.long q), .second, .val (.int nl), .val (.int k)] [] := by first | (simp [entryFrame, mkF, argsToLocals, Value.category]; done) | rfl
set_option maxRecDepth 65536 in
set_option maxHeartbeats 40000000 in
theorem rm_at (l : Launch) (Z : State) (a0 : Array Value) (hw : ∀ d ∈ tables_1, d.before a0 Z = true) (ws : List Jvm.Cond) (q : Int64) (nl k : Int32) (h0 : Heap) :
    MetFree l (⟨"com/example/pathline/pathline/bench/TimeCommandLineCountPinLaw", "at", "(JII)B"⟩ : MethodName) (head1 (Jvm.Cond.code (⟨"com/example/pathline/pathline/bench/TimeCommandLineCountPinLaw", "at", "(JII)B"⟩ : MethodName) method_2_code 4 (some .byte) :: ws) ({ frames := 0, cells := 0, slots := 0, locals := 0 } : Room)) (fun ar_ U => ar_ = #[(.long q), (.int nl), (.int k)] ∧ Z.Warmed39 U.vm ∧ U.heap = h0) (fun _ _ _ _ _ => True) (fun _ U o U' => ∃ v L, o = .returned v ∧ QR (.int (own_at q nl k)) h0 v U'.heap L ∧ FrameEnd U o U' L ({ frames := 0, cells := 0, slots := 0, locals := 0 } : Room).cells ({ frames := 0, cells := 0, slots := 0, locals := 0 } : Room).slots) := by
  refine MetFree.of_bodySF (plainFor_of_name pn_3) hisR ?_
  intro p e s m args below meth c s₁ Bd hml0 hP hK
  obtain ⟨rfl, hZ, hh⟩ := hP
  have hx := Bd.exec
  have hby := Bd.bytes
  have hml : c.maxLocals = 4 := hml0
  have hown : s.vm.findClass "com/example/pathline/pathline/bench/TimeCommandLineCountPinLaw" = some m.cls := findClass_of_methodNamed Bd.named
  have hnm := (name_of_methodNamed Bd.named Bd.method).1
  have X0 : Stand p l e ({ frames := 0, cells := 0, slots := 0, locals := 0 } : Room) s m #[(.long q), (.int nl), (.int k)] below meth c s₁ [] 0 0 := Stand.of_body Bd
  have e0 : s₁.heap = h0 := by rw [← hh, Bd.state]; rfl
  have pre0 : ∀ t, Steps p.tables e below (s₁.setTop (mkF m 0 #[.val (.long q), .second, .val (.int nl), .val (.int k)] [])) t → Steps p.tables e below (s₁.setTop (entryFrame m #[(.long q), (.int nl), (.int k)] 4)) t := fun t_ k_ => castTop (ef_3 m q nl k) k_
  obtain ⟨fs, hr, hrun, hended, hW, hsame⟩ := X0.leave (v := some (.int (own_at q nl k))) (fun h => by rw [Bd.returns] at h; cases h)
  refine ⟨_, _, pre0 _ ?_, hrun, hended, _, _, rfl, ?_, ⟨_, rfl⟩, hW, hsame.mono (by decide) (by decide)⟩
  · show Steps p.tables e below (s₁.setTop (mkF m 0 #[.val (.long q), .second, .val (.int nl), .val (.int k)] [])) _
    refine XS.iloadN X0.here hx rfl (hb hby d3_0) rfl ?_
    show Steps p.tables e below (s₁.setTop (mkF m 1 #[.val (.long q), .second, .val (.int nl), .val (.int k)] [(.int nl)])) _
    refine XS.iloadN X0.here hx rfl (hb hby d3_1) rfl ?_
    show Steps p.tables e below (s₁.setTop (mkF m 2 #[.val (.long q), .second, .val (.int nl), .val (.int k)] [(.int k), (.int nl)])) _
    refine XS.iushr X0.here hx rfl (hb hby d3_2) rfl ?_
    show Steps p.tables e below (s₁.setTop (mkF m 3 #[.val (.long q), .second, .val (.int nl), .val (.int k)] [(.int ((nl.toUInt32 >>> (k &&& 31).toUInt32).toInt32))])) _
    refine XS.iconst X0.here hx rfl (hb hby d3_3) ?_
    show Steps p.tables e below (s₁.setTop (mkF m 4 #[.val (.long q), .second, .val (.int nl), .val (.int k)] [(.int (1 : Int32)), (.int ((nl.toUInt32 >>> (k &&& 31).toUInt32).toInt32))])) _
    refine XS.iand X0.here hx rfl (hb hby d3_4) rfl ?_
    by_cases hc5 : (((nl.toUInt32 >>> (k &&& 31).toUInt32).toInt32) &&& (1 : Int32)) = (0 : Int32)
    · show Steps p.tables e below (s₁.setTop (mkF m 5 #[.val (.long q), .second, .val (.int nl), .val (.int k)] [(.int (((nl.toUInt32 >>> (k &&& 31).toUInt32).toInt32) &&& (1 : Int32)))])) _
      refine XS.ifYes X0.here hx rfl (pc0 := 5) (pc' := 11) rfl (hb hby d3_5) rfl ((if0 _ _).trans (teq hc5).1) (by decide) (by decide) ?_
      show Steps p.tables e below (s₁.setTop (mkF m 11 #[.val (.long q), .second, .val (.int nl), .val (.int k)] [])) _
      refine XS.lloadN X0.here hx rfl (hb hby d3_11) rfl ?_
      show Steps p.tables e below (s₁.setTop (mkF m 12 #[.val (.long q), .second, .val (.int nl), .val (.int k)] [(.long q)])) _
      refine XS.bipush X0.here hx rfl (hb hby d3_12) ?_
      show Steps p.tables e below (s₁.setTop (mkF m 14 #[.val (.long q), .second, .val (.int nl), .val (.int k)] [(.int (8 : Int32)), (.long q)])) _
      refine XS.iloadN X0.here hx rfl (hb hby d3_14) rfl ?_
      show Steps p.tables e below (s₁.setTop (mkF m 15 #[.val (.long q), .second, .val (.int nl), .val (.int k)] [(.int k), (.int (8 : Int32)), (.long q)])) _
      refine XS.imul X0.here hx rfl (hb hby d3_15) rfl ?_
      show Steps p.tables e below (s₁.setTop (mkF m 16 #[.val (.long q), .second, .val (.int nl), .val (.int k)] [(.int ((8 : Int32) * k)), (.long q)])) _
      refine XS.lushr X0.here hx rfl (hb hby d3_16) rfl ?_
      show Steps p.tables e below (s₁.setTop (mkF m 17 #[.val (.long q), .second, .val (.int nl), .val (.int k)] [(.long ((q.toUInt64 >>> (((8 : Int32) * k) &&& 0x3f).toInt64.toUInt64).toInt64))])) _
      refine XS.l2i X0.here hx rfl (hb hby d3_17) rfl ?_
      show Steps p.tables e below (s₁.setTop (mkF m 18 #[.val (.long q), .second, .val (.int nl), .val (.int k)] [(.int (((q.toUInt64 >>> (((8 : Int32) * k) &&& 0x3f).toInt64.toUInt64).toInt64).toInt32))])) _
      refine XS.i2b X0.here hx rfl (hb hby d3_18) rfl ?_
      show Steps p.tables e below (s₁.setTop (mkF m 19 #[.val (.long q), .second, .val (.int nl), .val (.int k)] [(.int ((((q.toUInt64 >>> (((8 : Int32) * k) &&& 0x3f).toInt64.toUInt64).toInt64).toInt32).toInt8.toInt32))])) _
      have hF : own_at q nl k = nar .byte ((((q.toUInt64 >>> (((8 : Int32) * k) &&& 0x3f).toInt64.toUInt64).toInt64).toInt32).toInt8.toInt32) := by rw [own_at, if_pos hc5]; exact (own_i2b _).symm
      rw [hF] at hr
      exact retN X0 hx (t := .byte) Bd.returns (by simp) (hb hby d3_19) hr
    · show Steps p.tables e below (s₁.setTop (mkF m 5 #[.val (.long q), .second, .val (.int nl), .val (.int k)] [(.int (((nl.toUInt32 >>> (k &&& 31).toUInt32).toInt32) &&& (1 : Int32)))])) _
      refine XS.ifNo X0.here hx rfl (hb hby d3_5) rfl ((if0 _ _).trans (feq hc5).1) ?_
      show Steps p.tables e below (s₁.setTop (mkF m 8 #[.val (.long q), .second, .val (.int nl), .val (.int k)] [])) _
      refine XS.bipush X0.here hx rfl (hb hby d3_8) ?_
      show Steps p.tables e below (s₁.setTop (mkF m 10 #[.val (.long q), .second, .val (.int nl), .val (.int k)] [(.int (10 : Int32))])) _
      have hF : own_at q nl k = nar .byte (10 : Int32) := by rw [own_at, if_neg hc5]; rfl
      rw [hF] at hr
      exact retN X0 hx (t := .byte) Bd.returns (by simp) (hb hby d3_10) hr
  · exact ⟨rfl, rfl, e0⟩
theorem ef_1 (m : MethodId) (q : Int64) (nl : Int32) (n : Int32) (k : Int32) : entryFrame m #[(.long q), (.int nl), (.int n), (.int k)] 5 = mkF m 0 #[.val (.long q), .second, .val (.int nl), .val (.int n), .val (.int k)] [] := by first | (simp [entryFrame, mkF, argsToLocals, Value.category]; done) | rfl
set_option maxRecDepth 65536 in
set_option maxHeartbeats 40000000 in
theorem rm_ends (l : Launch) (Z : State) (a0 : Array Value) (hw : ∀ d ∈ tables_1, d.before a0 Z = true) (ws : List Jvm.Cond) (q : Int64) (nl n k : Int32) (h0 : Heap) :
    MetFree l (⟨"com/example/pathline/pathline/bench/TimeCommandLineCountPinLaw", "ends", "(JIII)I"⟩ : MethodName) (head1 (Jvm.Cond.code (⟨"com/example/pathline/pathline/bench/TimeCommandLineCountPinLaw", "ends", "(JIII)I"⟩ : MethodName) method_3_code 5 (some .int) :: ws) ({ frames := 1, cells := 0, slots := 0, locals := 15 } : Room)) (fun ar_ U => ar_ = #[(.long q), (.int nl), (.int n), (.int k)] ∧ Z.Warmed39 U.vm ∧ U.heap = h0) (fun _ _ _ _ _ => True) (fun _ U o U' => ∃ v L, o = .returned v ∧ QR (.int (own_ends q nl n k)) h0 v U'.heap L ∧ FrameEnd U o U' L ({ frames := 1, cells := 0, slots := 0, locals := 15 } : Room).cells ({ frames := 1, cells := 0, slots := 0, locals := 15 } : Room).slots) := by
  refine MetFree.of_bodySF (plainFor_of_name pn_1) hisR ?_
  intro p e s m args below meth c s₁ Bd hml0 hP hK
  obtain ⟨rfl, hZ, hh⟩ := hP
  have hx := Bd.exec
  have hby := Bd.bytes
  have hml : c.maxLocals = 5 := hml0
  have hown : s.vm.findClass "com/example/pathline/pathline/bench/TimeCommandLineCountPinLaw" = some m.cls := findClass_of_methodNamed Bd.named
  have hnm := (name_of_methodNamed Bd.named Bd.method).1
  have X0 : Stand p l e ({ frames := 1, cells := 0, slots := 0, locals := 15 } : Room) s m #[(.long q), (.int nl), (.int n), (.int k)] below meth c s₁ [] 0 0 := Stand.of_body Bd
  have e0 : s₁.heap = h0 := by rw [← hh, Bd.state]; rfl
  have pre0 : ∀ t, Steps p.tables e below (s₁.setTop (mkF m 0 #[.val (.long q), .second, .val (.int nl), .val (.int n), .val (.int k)] [])) t → Steps p.tables e below (s₁.setTop (entryFrame m #[(.long q), (.int nl), (.int n), (.int k)] 5)) t := fun t_ k_ => castTop (ef_1 m q nl n k) k_
  by_cases hc3 : k < n
  · obtain ⟨T1, X1, e1, st1⟩ := own_callR X0 hx hZ hown (hw _ (List.mem_of_getElem? (i := 10) rfl)) (hw _ (List.mem_of_getElem? (i := 11) rfl)) (hw _ (List.mem_of_getElem? (i := 4) rfl)) (hw _ (List.mem_of_getElem? (i := 12) rfl)) (by decide) (W := 0) (as' := [(.long q), (.int nl), (.int k)]) (F := (.int (own_at q nl k))) (rm_at l Z a0 hw [] q nl k h0) rfl rfl (by decide) (by decide) (Nat.zero_le _) (Nat.zero_le _) e0 (g := (mkF m 12 #[.val (.long q), .second, .val (.int nl), .val (.int n), .val (.int k)] [(.int k), (.int nl), (.long q)])) rfl (by rw [hml]; rfl) (lenOf pd_3 rfl) (rest := []) rfl (Nat.le_of_eq rfl) (hb hby d1_12)
    obtain ⟨fs, hr, hrun, hended, hW, hsame⟩ := X1.leave (v := some (.int (own_ends q nl n k))) (fun h => by rw [Bd.returns] at h; cases h)
    refine ⟨_, _, pre0 _ ?_, hrun, hended, _, _, rfl, ?_, ⟨_, rfl⟩, hW, hsame.mono (by decide) (by decide)⟩
    · show Steps p.tables e below (s₁.setTop (mkF m 0 #[.val (.long q), .second, .val (.int nl), .val (.int n), .val (.int k)] [])) _
      refine XS.iload X0.here hx rfl (hb hby d1_0) rfl ?_
      show Steps p.tables e below (s₁.setTop (mkF m 2 #[.val (.long q), .second, .val (.int nl), .val (.int n), .val (.int k)] [(.int k)])) _
      refine XS.iloadN X0.here hx rfl (hb hby d1_2) rfl ?_
      show Steps p.tables e below (s₁.setTop (mkF m 3 #[.val (.long q), .second, .val (.int nl), .val (.int n), .val (.int k)] [(.int n), (.int k)])) _
      refine XS.icmpYes X0.here hx rfl (pc0 := 3) (pc' := 8) rfl (hb hby d1_3) rfl (tlt hc3).1 (by decide) (by decide) ?_
      show Steps p.tables e below (s₁.setTop (mkF m 8 #[.val (.long q), .second, .val (.int nl), .val (.int n), .val (.int k)] [])) _
      refine XS.lloadN X0.here hx rfl (hb hby d1_8) rfl ?_
      show Steps p.tables e below (s₁.setTop (mkF m 9 #[.val (.long q), .second, .val (.int nl), .val (.int n), .val (.int k)] [(.long q)])) _
      refine XS.iloadN X0.here hx rfl (hb hby d1_9) rfl ?_
      show Steps p.tables e below (s₁.setTop (mkF m 10 #[.val (.long q), .second, .val (.int nl), .val (.int n), .val (.int k)] [(.int nl), (.long q)])) _
      refine XS.iload X0.here hx rfl (hb hby d1_10) rfl ?_
      show Steps p.tables e below (s₁.setTop (mkF m 12 #[.val (.long q), .second, .val (.int nl), .val (.int n), .val (.int k)] [(.int k), (.int nl), (.long q)])) _
      refine st1 _ ?_
      show Steps p.tables e below (T1.setTop (mkF m 15 #[.val (.long q), .second, .val (.int nl), .val (.int n), .val (.int k)] [(.int (own_at q nl k))])) _
      refine XS.bipush X1.here hx rfl (hb hby d1_15) ?_
      by_cases hc17 : (own_at q nl k) = (10 : Int32)
      · show Steps p.tables e below (T1.setTop (mkF m 17 #[.val (.long q), .second, .val (.int nl), .val (.int n), .val (.int k)] [(.int (10 : Int32)), (.int (own_at q nl k))])) _
        refine XS.icmpYes X1.here hx rfl (pc0 := 17) (pc' := 28) rfl (hb hby d1_17) rfl (teq hc17).1 (by decide) (by decide) ?_
        show Steps p.tables e below (T1.setTop (mkF m 28 #[.val (.long q), .second, .val (.int nl), .val (.int n), .val (.int k)] [])) _
        refine XS.iconst X1.here hx rfl (hb hby d1_28) ?_
        show Steps p.tables e below (T1.setTop (mkF m 29 #[.val (.long q), .second, .val (.int nl), .val (.int n), .val (.int k)] [(.int (1 : Int32))])) _
        have hF : own_ends q nl n k = (1 : Int32) := by rw [own_ends, if_pos hc3, if_pos hc17]
        rw [hF] at hr
        exact retI X1 hx Bd.returns (hb hby d1_29) hr
      · show Steps p.tables e below (T1.setTop (mkF m 17 #[.val (.long q), .second, .val (.int nl), .val (.int n), .val (.int k)] [(.int (10 : Int32)), (.int (own_at q nl k))])) _
        refine XS.icmpNo X1.here hx rfl (hb hby d1_17) rfl (feq hc17).1 ?_
        show Steps p.tables e below (T1.setTop (mkF m 20 #[.val (.long q), .second, .val (.int nl), .val (.int n), .val (.int k)] [])) _
        refine XS.iload X1.here hx rfl (hb hby d1_20) rfl ?_
        show Steps p.tables e below (T1.setTop (mkF m 22 #[.val (.long q), .second, .val (.int nl), .val (.int n), .val (.int k)] [(.int k)])) _
        refine XS.iloadN X1.here hx rfl (hb hby d1_22) rfl ?_
        show Steps p.tables e below (T1.setTop (mkF m 23 #[.val (.long q), .second, .val (.int nl), .val (.int n), .val (.int k)] [(.int n), (.int k)])) _
        refine XS.iconst X1.here hx rfl (hb hby d1_23) ?_
        show Steps p.tables e below (T1.setTop (mkF m 24 #[.val (.long q), .second, .val (.int nl), .val (.int n), .val (.int k)] [(.int (1 : Int32)), (.int n), (.int k)])) _
        refine XS.isub X1.here hx rfl (hb hby d1_24) rfl ?_
        by_cases hc25 : k = (n - (1 : Int32))
        · show Steps p.tables e below (T1.setTop (mkF m 25 #[.val (.long q), .second, .val (.int nl), .val (.int n), .val (.int k)] [(.int (n - (1 : Int32))), (.int k)])) _
          refine XS.icmpNo X1.here hx rfl (hb hby d1_25) rfl (teq hc25).2 ?_
          show Steps p.tables e below (T1.setTop (mkF m 28 #[.val (.long q), .second, .val (.int nl), .val (.int n), .val (.int k)] [])) _
          refine XS.iconst X1.here hx rfl (hb hby d1_28) ?_
          show Steps p.tables e below (T1.setTop (mkF m 29 #[.val (.long q), .second, .val (.int nl), .val (.int n), .val (.int k)] [(.int (1 : Int32))])) _
          have hF : own_ends q nl n k = (1 : Int32) := by rw [own_ends, if_pos hc3, if_neg hc17, if_pos hc25]
          rw [hF] at hr
          exact retI X1 hx Bd.returns (hb hby d1_29) hr
        · show Steps p.tables e below (T1.setTop (mkF m 25 #[.val (.long q), .second, .val (.int nl), .val (.int n), .val (.int k)] [(.int (n - (1 : Int32))), (.int k)])) _
          refine XS.icmpYes X1.here hx rfl (pc0 := 25) (pc' := 30) rfl (hb hby d1_25) rfl (feq hc25).2 (by decide) (by decide) ?_
          show Steps p.tables e below (T1.setTop (mkF m 30 #[.val (.long q), .second, .val (.int nl), .val (.int n), .val (.int k)] [])) _
          refine XS.iconst X1.here hx rfl (hb hby d1_30) ?_
          show Steps p.tables e below (T1.setTop (mkF m 31 #[.val (.long q), .second, .val (.int nl), .val (.int n), .val (.int k)] [(.int (0 : Int32))])) _
          have hF : own_ends q nl n k = (0 : Int32) := by rw [own_ends, if_pos hc3, if_neg hc17, if_neg hc25]
          rw [hF] at hr
          exact retI X1 hx Bd.returns (hb hby d1_31) hr
    · exact ⟨rfl, rfl, e1⟩
  · obtain ⟨fs, hr, hrun, hended, hW, hsame⟩ := X0.leave (v := some (.int (own_ends q nl n k))) (fun h => by rw [Bd.returns] at h; cases h)
    refine ⟨_, _, pre0 _ ?_, hrun, hended, _, _, rfl, ?_, ⟨_, rfl⟩, hW, hsame.mono (by decide) (by decide)⟩
    · show Steps p.tables e below (s₁.setTop (mkF m 0 #[.val (.long q), .second, .val (.int nl), .val (.int n), .val (.int k)] [])) _
      refine XS.iload X0.here hx rfl (hb hby d1_0) rfl ?_
      show Steps p.tables e below (s₁.setTop (mkF m 2 #[.val (.long q), .second, .val (.int nl), .val (.int n), .val (.int k)] [(.int k)])) _
      refine XS.iloadN X0.here hx rfl (hb hby d1_2) rfl ?_
      show Steps p.tables e below (s₁.setTop (mkF m 3 #[.val (.long q), .second, .val (.int nl), .val (.int n), .val (.int k)] [(.int n), (.int k)])) _
      refine XS.icmpNo X0.here hx rfl (hb hby d1_3) rfl (flt hc3).1 ?_
      show Steps p.tables e below (s₁.setTop (mkF m 6 #[.val (.long q), .second, .val (.int nl), .val (.int n), .val (.int k)] [])) _
      refine XS.iconst X0.here hx rfl (hb hby d1_6) ?_
      show Steps p.tables e below (s₁.setTop (mkF m 7 #[.val (.long q), .second, .val (.int nl), .val (.int n), .val (.int k)] [(.int (0 : Int32))])) _
      have hF : own_ends q nl n k = (0 : Int32) := by rw [own_ends, if_neg hc3]
      rw [hF] at hr
      exact retI X0 hx Bd.returns (hb hby d1_7) hr
    · exact ⟨rfl, rfl, e0⟩
theorem os_lc {z0 z1 z2 z3 z4 : Value} {s5 : Slot} {v : Int32} (h : One s5) : storeLocals #[.val z0, .val z1, .val z2, .val z3, .val z4, s5] 5 (.int v) = some #[.val z0, .val z1, .val z2, .val z3, .val z4, .val (.int v)] := by
  rcases h with rfl | ⟨w, rfl, hw⟩
  · rfl
  · cases w <;> first | rfl | (simp [Value.category] at hw)
set_option maxRecDepth 65536 in
set_option maxHeartbeats 40000000 in
theorem loop_lc {p : Program} {l : Launch} {e : Env} {R : Room} {s : State} {m : MethodId} {args : Array Value} {below : List Frame} {meth : Method} {c : Code} {T0 : State} {locs : List Loc} {cells slots : Nat} {Z : State} {a0 : Array Value} {h0 : Heap} (a : Addr) (n : Nat) (f : Nat → Int32) (X0 : Stand p l e R s m args below meth c T0 locs cells slots) (hx : p.tables.exec = Jvm.exec) (hZ : Z.Warmed39 s.vm) (hw : ∀ d ∈ tables_1, d.before a0 Z = true) (hby : c.code = prog_48_method_5_code) (hml : c.maxLocals = 6) (hown : s.vm.findClass "com/example/pathline/pathline/bench/TimeCommand" = some m.cls) (e0 : T0.heap = h0) (V : Iar Z h0 a .byte n f) : ∀ (k i : Nat) (S : Int32) (s5 : Slot), i + k = n → One s5 →
    ∃ s5' : Slot, ∀ target, Steps p.tables e below (T0.setTop (mkF m 38 #[.val (.ref a), .val (.int (S + own_cnt f k i)), .val (.ref a), .val (.int (Int32.ofNat n)), .val (.int (Int32.ofNat n)), s5'] [])) target → Steps p.tables e below (T0.setTop (mkF m 10 #[.val (.ref a), .val (.int S), .val (.ref a), .val (.int (Int32.ofNat n)), .val (.int (Int32.ofNat i)), s5] [])) target := by
  have hn : n < 2 ^ 31 := V.1
  intro k
  induction k with
  | zero =>
    intro i S s5 hi hs5
    obtain rfl : i = n := by omega
    refine ⟨s5, fun target kt => ?_⟩
    rw [show S + own_cnt f 0 i = S from Int32.add_zero S] at kt
    show Steps p.tables e below (T0.setTop (mkF m 10 #[.val (.ref a), .val (.int S), .val (.ref a), .val (.int (Int32.ofNat i)), .val (.int (Int32.ofNat i)), s5] [])) _
    refine XS.iload X0.here hx rfl (hb hby d2_10) rfl ?_
    show Steps p.tables e below (T0.setTop (mkF m 12 #[.val (.ref a), .val (.int S), .val (.ref a), .val (.int (Int32.ofNat i)), .val (.int (Int32.ofNat i)), s5] [(.int (Int32.ofNat i))])) _
    refine XS.iloadN X0.here hx rfl (hb hby d2_12) rfl ?_
    show Steps p.tables e below (T0.setTop (mkF m 13 #[.val (.ref a), .val (.int S), .val (.ref a), .val (.int (Int32.ofNat i)), .val (.int (Int32.ofNat i)), s5] [(.int (Int32.ofNat i)), (.int (Int32.ofNat i))])) _
    refine XS.icmpYes X0.here hx rfl (pc0 := 13) (pc' := 38) rfl (hb hby d2_13) rfl (flt (Int32.lt_irrefl)).2.1 (by decide) (by decide) ?_
    exact kt
  | succ k ih =>
    intro i S s5 hi hs5
    obtain ⟨s5', st⟩ := ih (i + 1) (S + (if f i = (10 : Int32) then 1 else 0)) (.val (.int (f i))) (by omega) (One.val rfl)
    refine ⟨s5', fun target kt => ?_⟩
    have hlt : Int32.ofNat i < Int32.ofNat n := (own_lt (by omega) hn).mpr (by omega)
    have kt2 := st target (by rw [Int32.add_assoc]; exact kt)
    show Steps p.tables e below (T0.setTop (mkF m 10 #[.val (.ref a), .val (.int S), .val (.ref a), .val (.int (Int32.ofNat n)), .val (.int (Int32.ofNat i)), s5] [])) _
    refine XS.iload X0.here hx rfl (hb hby d2_10) rfl ?_
    show Steps p.tables e below (T0.setTop (mkF m 12 #[.val (.ref a), .val (.int S), .val (.ref a), .val (.int (Int32.ofNat n)), .val (.int (Int32.ofNat i)), s5] [(.int (Int32.ofNat i))])) _
    refine XS.iloadN X0.here hx rfl (hb hby d2_12) rfl ?_
    show Steps p.tables e below (T0.setTop (mkF m 13 #[.val (.ref a), .val (.int S), .val (.ref a), .val (.int (Int32.ofNat n)), .val (.int (Int32.ofNat i)), s5] [(.int (Int32.ofNat n)), (.int (Int32.ofNat i))])) _
    refine XS.icmpNo X0.here hx rfl (hb hby d2_13) rfl (tlt hlt).2.1 ?_
    show Steps p.tables e below (T0.setTop (mkF m 16 #[.val (.ref a), .val (.int S), .val (.ref a), .val (.int (Int32.ofNat n)), .val (.int (Int32.ofNat i)), s5] [])) _
    refine XS.aloadN X0.here hx rfl (hb hby d2_16) rfl rfl ?_
    show Steps p.tables e below (T0.setTop (mkF m 17 #[.val (.ref a), .val (.int S), .val (.ref a), .val (.int (Int32.ofNat n)), .val (.int (Int32.ofNat i)), s5] [(.ref a)])) _
    refine XS.iload X0.here hx rfl (hb hby d2_17) rfl ?_
    show Steps p.tables e below (T0.setTop (mkF m 19 #[.val (.ref a), .val (.int S), .val (.ref a), .val (.int (Int32.ofNat n)), .val (.int (Int32.ofNat i)), s5] [(.int (Int32.ofNat i)), (.ref a)])) _
    refine own_ldB X0 hx hZ e0 V (j := (Int32.ofNat i)) (own_n32 (by omega)) (own_nn (by omega)) (by omega) (g := (mkF m 19 #[.val (.ref a), .val (.int S), .val (.ref a), .val (.int (Int32.ofNat n)), .val (.int (Int32.ofNat i)), s5] [(.int (Int32.ofNat i)), (.ref a)])) rfl rfl (hb hby d2_19) _ ?_
    show Steps p.tables e below (T0.setTop (mkF m 20 #[.val (.ref a), .val (.int S), .val (.ref a), .val (.int (Int32.ofNat n)), .val (.int (Int32.ofNat i)), s5] [(.int (f i))])) _
    refine XS.istore X0.here hx rfl (hb hby d2_20) rfl (l' := #[.val (.ref a), .val (.int S), .val (.ref a), .val (.int (Int32.ofNat n)), .val (.int (Int32.ofNat i)), .val (.int (f i))]) (os_lc hs5) ?_
    show Steps p.tables e below (T0.setTop (mkF m 22 #[.val (.ref a), .val (.int S), .val (.ref a), .val (.int (Int32.ofNat n)), .val (.int (Int32.ofNat i)), .val (.int (f i))] [])) _
    refine XS.iload X0.here hx rfl (hb hby d2_22) rfl ?_
    show Steps p.tables e below (T0.setTop (mkF m 24 #[.val (.ref a), .val (.int S), .val (.ref a), .val (.int (Int32.ofNat n)), .val (.int (Int32.ofNat i)), .val (.int (f i))] [(.int (f i))])) _
    refine XS.bipush X0.here hx rfl (hb hby d2_24) ?_
    by_cases hc26 : (f i) = (10 : Int32)
    · show Steps p.tables e below (T0.setTop (mkF m 26 #[.val (.ref a), .val (.int S), .val (.ref a), .val (.int (Int32.ofNat n)), .val (.int (Int32.ofNat i)), .val (.int (f i))] [(.int (10 : Int32)), (.int (f i))])) _
      refine XS.icmpNo X0.here hx rfl (hb hby d2_26) rfl (teq hc26).2 ?_
      show Steps p.tables e below (T0.setTop (mkF m 29 #[.val (.ref a), .val (.int S), .val (.ref a), .val (.int (Int32.ofNat n)), .val (.int (Int32.ofNat i)), .val (.int (f i))] [])) _
      refine XS.iinc X0.here hx rfl (hb hby d2_29) rfl (l' := #[.val (.ref a), .val (.int (S + (1 : Int32))), .val (.ref a), .val (.int (Int32.ofNat n)), .val (.int (Int32.ofNat i)), .val (.int (f i))]) rfl ?_
      show Steps p.tables e below (T0.setTop (mkF m 32 #[.val (.ref a), .val (.int (S + (1 : Int32))), .val (.ref a), .val (.int (Int32.ofNat n)), .val (.int (Int32.ofNat i)), .val (.int (f i))] [])) _
      refine XS.iinc X0.here hx rfl (hb hby d2_32) rfl (l' := #[.val (.ref a), .val (.int (S + (1 : Int32))), .val (.ref a), .val (.int (Int32.ofNat n)), .val (.int ((Int32.ofNat i) + (1 : Int32))), .val (.int (f i))]) rfl ?_
      show Steps p.tables e below (T0.setTop (mkF m 35 #[.val (.ref a), .val (.int (S + (1 : Int32))), .val (.ref a), .val (.int (Int32.ofNat n)), .val (.int ((Int32.ofNat i) + (1 : Int32))), .val (.int (f i))] [])) _
      refine XS.goto X0.here hx rfl (pc0 := 35) (pc' := 10) rfl (hb hby d2_35) (by decide) (by decide) ?_
      have kt3 := kt2
      rw [if_pos hc26, ← own_one] at kt3
      exact kt3
    · show Steps p.tables e below (T0.setTop (mkF m 26 #[.val (.ref a), .val (.int S), .val (.ref a), .val (.int (Int32.ofNat n)), .val (.int (Int32.ofNat i)), .val (.int (f i))] [(.int (10 : Int32)), (.int (f i))])) _
      refine XS.icmpYes X0.here hx rfl (pc0 := 26) (pc' := 32) rfl (hb hby d2_26) rfl (feq hc26).2 (by decide) (by decide) ?_
      show Steps p.tables e below (T0.setTop (mkF m 32 #[.val (.ref a), .val (.int S), .val (.ref a), .val (.int (Int32.ofNat n)), .val (.int (Int32.ofNat i)), .val (.int (f i))] [])) _
      refine XS.iinc X0.here hx rfl (hb hby d2_32) rfl (l' := #[.val (.ref a), .val (.int S), .val (.ref a), .val (.int (Int32.ofNat n)), .val (.int ((Int32.ofNat i) + (1 : Int32))), .val (.int (f i))]) rfl ?_
      show Steps p.tables e below (T0.setTop (mkF m 35 #[.val (.ref a), .val (.int S), .val (.ref a), .val (.int (Int32.ofNat n)), .val (.int ((Int32.ofNat i) + (1 : Int32))), .val (.int (f i))] [])) _
      refine XS.goto X0.here hx rfl (pc0 := 35) (pc' := 10) rfl (hb hby d2_35) (by decide) (by decide) ?_
      have kt3 := kt2
      rw [if_neg hc26, Int32.add_zero, ← own_one] at kt3
      exact kt3
theorem ef_2 (m : MethodId) (a : Addr) : entryFrame m #[(.ref a)] 6 = mkF m 0 #[.val (.ref a), .unset, .unset, .unset, .unset, .unset] [] := by first | (simp [entryFrame, mkF, argsToLocals, Value.category]; done) | rfl
set_option maxRecDepth 65536 in
set_option maxHeartbeats 40000000 in
theorem rm_lc (l : Launch) (Z : State) (a0 : Array Value) (hw : ∀ d ∈ tables_1, d.before a0 Z = true) (ws : List Jvm.Cond) (a : Addr) (n : Nat) (f : Nat → Int32) (h0 : Heap) (V : Iar Z h0 a .byte n f) :
    MetFree l (⟨"com/example/pathline/pathline/bench/TimeCommand", "lineCount", "([B)I"⟩ : MethodName) (head1 (Jvm.Cond.code (⟨"com/example/pathline/pathline/bench/TimeCommand", "lineCount", "([B)I"⟩ : MethodName) prog_48_method_5_code 6 (some .int) :: ws) ({ frames := 0, cells := 0, slots := 0, locals := 0 } : Room)) (fun ar_ U => ar_ = #[(.ref a)] ∧ Z.Warmed39 U.vm ∧ U.heap = h0) (fun _ _ _ _ _ => True) (fun _ U o U' => ∃ v L, o = .returned v ∧ QR (.int (own_lc f n)) h0 v U'.heap L ∧ FrameEnd U o U' L ({ frames := 0, cells := 0, slots := 0, locals := 0 } : Room).cells ({ frames := 0, cells := 0, slots := 0, locals := 0 } : Room).slots) := by
  refine MetFree.of_bodySF (plainFor_of_name pn_2) hisR ?_
  intro p e s m args below meth c s₁ Bd hml0 hP hK
  obtain ⟨rfl, hZ, hh⟩ := hP
  have hx := Bd.exec
  have hby := Bd.bytes
  have hml : c.maxLocals = 6 := hml0
  have hown : s.vm.findClass "com/example/pathline/pathline/bench/TimeCommand" = some m.cls := findClass_of_methodNamed Bd.named
  have hnm := (name_of_methodNamed Bd.named Bd.method).1
  have X0 : Stand p l e ({ frames := 0, cells := 0, slots := 0, locals := 0 } : Room) s m #[(.ref a)] below meth c s₁ [] 0 0 := Stand.of_body Bd
  have e0 : s₁.heap = h0 := by rw [← hh, Bd.state]; rfl
  have pre0 : ∀ t, Steps p.tables e below (s₁.setTop (mkF m 0 #[.val (.ref a), .unset, .unset, .unset, .unset, .unset] [])) t → Steps p.tables e below (s₁.setTop (entryFrame m #[(.ref a)] 6)) t := fun t_ k_ => castTop (ef_2 m a) k_
  have hn : n < 2 ^ 31 := V.1
  obtain ⟨s5, stL⟩ := loop_lc a n f X0 hx hZ hw hby hml hown e0 V n 0 0 .unset (by omega) One.u
  obtain ⟨fs, hr, hrun, hended, hW, hsame⟩ := X0.leave (v := some (.int (own_lc f n))) (fun h => by rw [Bd.returns] at h; cases h)
  refine ⟨_, _, pre0 _ ?_, hrun, hended, _, _, rfl, ?_, ⟨_, rfl⟩, hW, hsame.mono (by decide) (by decide)⟩
  · show Steps p.tables e below (s₁.setTop (mkF m 0 #[.val (.ref a), .unset, .unset, .unset, .unset, .unset] [])) _
    refine XS.iconst X0.here hx rfl (hb hby d2_0) ?_
    show Steps p.tables e below (s₁.setTop (mkF m 1 #[.val (.ref a), .unset, .unset, .unset, .unset, .unset] [(.int (0 : Int32))])) _
    refine XS.istoreN X0.here hx rfl (hb hby d2_1) rfl (l' := #[.val (.ref a), .val (.int (0 : Int32)), .unset, .unset, .unset, .unset]) rfl ?_
    show Steps p.tables e below (s₁.setTop (mkF m 2 #[.val (.ref a), .val (.int (0 : Int32)), .unset, .unset, .unset, .unset] [])) _
    refine XS.aloadN X0.here hx rfl (hb hby d2_2) rfl rfl ?_
    show Steps p.tables e below (s₁.setTop (mkF m 3 #[.val (.ref a), .val (.int (0 : Int32)), .unset, .unset, .unset, .unset] [(.ref a)])) _
    refine XS.astoreN X0.here hx rfl (hb hby d2_3) rfl rfl (l' := #[.val (.ref a), .val (.int (0 : Int32)), .val (.ref a), .unset, .unset, .unset]) rfl ?_
    show Steps p.tables e below (s₁.setTop (mkF m 4 #[.val (.ref a), .val (.int (0 : Int32)), .val (.ref a), .unset, .unset, .unset] [])) _
    refine XS.aloadN X0.here hx rfl (hb hby d2_4) rfl rfl ?_
    show Steps p.tables e below (s₁.setTop (mkF m 5 #[.val (.ref a), .val (.int (0 : Int32)), .val (.ref a), .unset, .unset, .unset] [(.ref a)])) _
    refine own_len X0 hx hZ e0 V (g := (mkF m 5 #[.val (.ref a), .val (.int (0 : Int32)), .val (.ref a), .unset, .unset, .unset] [(.ref a)])) rfl rfl (hb hby d2_5) _ ?_
    show Steps p.tables e below (s₁.setTop (mkF m 6 #[.val (.ref a), .val (.int (0 : Int32)), .val (.ref a), .unset, .unset, .unset] [(.int (Int32.ofNat n))])) _
    refine XS.istoreN X0.here hx rfl (hb hby d2_6) rfl (l' := #[.val (.ref a), .val (.int (0 : Int32)), .val (.ref a), .val (.int (Int32.ofNat n)), .unset, .unset]) rfl ?_
    show Steps p.tables e below (s₁.setTop (mkF m 7 #[.val (.ref a), .val (.int (0 : Int32)), .val (.ref a), .val (.int (Int32.ofNat n)), .unset, .unset] [])) _
    refine XS.iconst X0.here hx rfl (hb hby d2_7) ?_
    show Steps p.tables e below (s₁.setTop (mkF m 8 #[.val (.ref a), .val (.int (0 : Int32)), .val (.ref a), .val (.int (Int32.ofNat n)), .unset, .unset] [(.int (0 : Int32))])) _
    refine XS.istore X0.here hx rfl (hb hby d2_8) rfl (l' := #[.val (.ref a), .val (.int (0 : Int32)), .val (.ref a), .val (.int (Int32.ofNat n)), .val (.int (0 : Int32)), .unset]) rfl ?_
    show Steps p.tables e below (s₁.setTop (mkF m 10 #[.val (.ref a), .val (.int (0 : Int32)), .val (.ref a), .val (.int (Int32.ofNat n)), .val (.int (0 : Int32)), .unset] [])) _
    refine stL _ ?_
    rw [Int32.zero_add]
    show Steps p.tables e below (s₁.setTop (mkF m 38 #[.val (.ref a), .val (.int (own_cnt f n 0)), .val (.ref a), .val (.int (Int32.ofNat n)), .val (.int (Int32.ofNat n)), s5] [])) _
    refine XS.aloadN X0.here hx rfl (hb hby d2_38) rfl rfl ?_
    show Steps p.tables e below (s₁.setTop (mkF m 39 #[.val (.ref a), .val (.int (own_cnt f n 0)), .val (.ref a), .val (.int (Int32.ofNat n)), .val (.int (Int32.ofNat n)), s5] [(.ref a)])) _
    refine own_len X0 hx hZ e0 V (g := (mkF m 39 #[.val (.ref a), .val (.int (own_cnt f n 0)), .val (.ref a), .val (.int (Int32.ofNat n)), .val (.int (Int32.ofNat n)), s5] [(.ref a)])) rfl rfl (hb hby d2_39) _ ?_
    show Steps p.tables e below (s₁.setTop (mkF m 40 #[.val (.ref a), .val (.int (own_cnt f n 0)), .val (.ref a), .val (.int (Int32.ofNat n)), .val (.int (Int32.ofNat n)), s5] [(.int (Int32.ofNat n))])) _
    by_cases hn0 : 0 < n
    · have hc40 : (0 : Int32) < (Int32.ofNat n) := (own_lt (i := 0) (by omega) hn).mpr hn0
      have hm1 : (Int32.ofNat n) - (1 : Int32) = Int32.ofNat (n - 1) := by
        have q := own_one (n - 1)
        rw [show n - 1 + 1 = n by omega] at q
        rw [← q, Int32.add_sub_cancel]
      show Steps p.tables e below (s₁.setTop (mkF m 40 #[.val (.ref a), .val (.int (own_cnt f n 0)), .val (.ref a), .val (.int (Int32.ofNat n)), .val (.int (Int32.ofNat n)), s5] [(.int (Int32.ofNat n))])) _
      refine XS.ifNo X0.here hx rfl (hb hby d2_40) rfl ((if0 _ _).trans (tlt hc40).2.2.2) ?_
      show Steps p.tables e below (s₁.setTop (mkF m 43 #[.val (.ref a), .val (.int (own_cnt f n 0)), .val (.ref a), .val (.int (Int32.ofNat n)), .val (.int (Int32.ofNat n)), s5] [])) _
      refine XS.aloadN X0.here hx rfl (hb hby d2_43) rfl rfl ?_
      show Steps p.tables e below (s₁.setTop (mkF m 44 #[.val (.ref a), .val (.int (own_cnt f n 0)), .val (.ref a), .val (.int (Int32.ofNat n)), .val (.int (Int32.ofNat n)), s5] [(.ref a)])) _
      refine XS.aloadN X0.here hx rfl (hb hby d2_44) rfl rfl ?_
      show Steps p.tables e below (s₁.setTop (mkF m 45 #[.val (.ref a), .val (.int (own_cnt f n 0)), .val (.ref a), .val (.int (Int32.ofNat n)), .val (.int (Int32.ofNat n)), s5] [(.ref a), (.ref a)])) _
      refine own_len X0 hx hZ e0 V (g := (mkF m 45 #[.val (.ref a), .val (.int (own_cnt f n 0)), .val (.ref a), .val (.int (Int32.ofNat n)), .val (.int (Int32.ofNat n)), s5] [(.ref a), (.ref a)])) rfl rfl (hb hby d2_45) _ ?_
      show Steps p.tables e below (s₁.setTop (mkF m 46 #[.val (.ref a), .val (.int (own_cnt f n 0)), .val (.ref a), .val (.int (Int32.ofNat n)), .val (.int (Int32.ofNat n)), s5] [(.int (Int32.ofNat n)), (.ref a)])) _
      refine XS.iconst X0.here hx rfl (hb hby d2_46) ?_
      show Steps p.tables e below (s₁.setTop (mkF m 47 #[.val (.ref a), .val (.int (own_cnt f n 0)), .val (.ref a), .val (.int (Int32.ofNat n)), .val (.int (Int32.ofNat n)), s5] [(.int (1 : Int32)), (.int (Int32.ofNat n)), (.ref a)])) _
      refine XS.isub X0.here hx rfl (hb hby d2_47) rfl ?_
      show Steps p.tables e below (s₁.setTop (mkF m 48 #[.val (.ref a), .val (.int (own_cnt f n 0)), .val (.ref a), .val (.int (Int32.ofNat n)), .val (.int (Int32.ofNat n)), s5] [(.int ((Int32.ofNat n) - (1 : Int32))), (.ref a)])) _
      refine own_ldB X0 hx hZ e0 V (j := ((Int32.ofNat n) - (1 : Int32))) (i := n - 1) (by rw [hm1]; exact own_n32 (by omega)) (by rw [hm1]; exact own_nn (by omega)) (by omega) (g := (mkF m 48 #[.val (.ref a), .val (.int (own_cnt f n 0)), .val (.ref a), .val (.int (Int32.ofNat n)), .val (.int (Int32.ofNat n)), s5] [(.int ((Int32.ofNat n) - (1 : Int32))), (.ref a)])) rfl rfl (hb hby d2_48) _ ?_
      show Steps p.tables e below (s₁.setTop (mkF m 49 #[.val (.ref a), .val (.int (own_cnt f n 0)), .val (.ref a), .val (.int (Int32.ofNat n)), .val (.int (Int32.ofNat n)), s5] [(.int (f (n - 1)))])) _
      refine XS.bipush X0.here hx rfl (hb hby d2_49) ?_
      by_cases hc51 : (f (n - 1)) = (10 : Int32)
      · show Steps p.tables e below (s₁.setTop (mkF m 51 #[.val (.ref a), .val (.int (own_cnt f n 0)), .val (.ref a), .val (.int (Int32.ofNat n)), .val (.int (Int32.ofNat n)), s5] [(.int (10 : Int32)), (.int (f (n - 1)))])) _
        refine XS.icmpYes X0.here hx rfl (pc0 := 51) (pc' := 57) rfl (hb hby d2_51) rfl (teq hc51).1 (by decide) (by decide) ?_
        show Steps p.tables e below (s₁.setTop (mkF m 57 #[.val (.ref a), .val (.int (own_cnt f n 0)), .val (.ref a), .val (.int (Int32.ofNat n)), .val (.int (Int32.ofNat n)), s5] [])) _
        refine XS.iloadN X0.here hx rfl (hb hby d2_57) rfl ?_
        show Steps p.tables e below (s₁.setTop (mkF m 58 #[.val (.ref a), .val (.int (own_cnt f n 0)), .val (.ref a), .val (.int (Int32.ofNat n)), .val (.int (Int32.ofNat n)), s5] [(.int (own_cnt f n 0))])) _
        have hF : own_lc f n = (own_cnt f n 0) := by rw [own_lc, if_pos hn0, if_pos hc51]
        rw [hF] at hr
        exact retI X0 hx Bd.returns (hb hby d2_58) hr
      · show Steps p.tables e below (s₁.setTop (mkF m 51 #[.val (.ref a), .val (.int (own_cnt f n 0)), .val (.ref a), .val (.int (Int32.ofNat n)), .val (.int (Int32.ofNat n)), s5] [(.int (10 : Int32)), (.int (f (n - 1)))])) _
        refine XS.icmpNo X0.here hx rfl (hb hby d2_51) rfl (feq hc51).1 ?_
        show Steps p.tables e below (s₁.setTop (mkF m 54 #[.val (.ref a), .val (.int (own_cnt f n 0)), .val (.ref a), .val (.int (Int32.ofNat n)), .val (.int (Int32.ofNat n)), s5] [])) _
        refine XS.iinc X0.here hx rfl (hb hby d2_54) rfl (l' := #[.val (.ref a), .val (.int ((own_cnt f n 0) + (1 : Int32))), .val (.ref a), .val (.int (Int32.ofNat n)), .val (.int (Int32.ofNat n)), s5]) rfl ?_
        show Steps p.tables e below (s₁.setTop (mkF m 57 #[.val (.ref a), .val (.int ((own_cnt f n 0) + (1 : Int32))), .val (.ref a), .val (.int (Int32.ofNat n)), .val (.int (Int32.ofNat n)), s5] [])) _
        refine XS.iloadN X0.here hx rfl (hb hby d2_57) rfl ?_
        show Steps p.tables e below (s₁.setTop (mkF m 58 #[.val (.ref a), .val (.int ((own_cnt f n 0) + (1 : Int32))), .val (.ref a), .val (.int (Int32.ofNat n)), .val (.int (Int32.ofNat n)), s5] [(.int ((own_cnt f n 0) + (1 : Int32)))])) _
        have hF : own_lc f n = ((own_cnt f n 0) + (1 : Int32)) := by rw [own_lc, if_pos hn0, if_neg hc51]
        rw [hF] at hr
        exact retI X0 hx Bd.returns (hb hby d2_58) hr
    · have hc40 : ¬ ((0 : Int32) < (Int32.ofNat n)) := fun q => hn0 ((own_lt (i := 0) (by omega) hn).mp q)
      show Steps p.tables e below (s₁.setTop (mkF m 40 #[.val (.ref a), .val (.int (own_cnt f n 0)), .val (.ref a), .val (.int (Int32.ofNat n)), .val (.int (Int32.ofNat n)), s5] [(.int (Int32.ofNat n))])) _
      refine XS.ifYes X0.here hx rfl (pc0 := 40) (pc' := 57) rfl (hb hby d2_40) rfl ((if0 _ _).trans (flt hc40).2.2.2) (by decide) (by decide) ?_
      show Steps p.tables e below (s₁.setTop (mkF m 57 #[.val (.ref a), .val (.int (own_cnt f n 0)), .val (.ref a), .val (.int (Int32.ofNat n)), .val (.int (Int32.ofNat n)), s5] [])) _
      refine XS.iloadN X0.here hx rfl (hb hby d2_57) rfl ?_
      show Steps p.tables e below (s₁.setTop (mkF m 58 #[.val (.ref a), .val (.int (own_cnt f n 0)), .val (.ref a), .val (.int (Int32.ofNat n)), .val (.int (Int32.ofNat n)), s5] [(.int (own_cnt f n 0))])) _
      have hF : own_lc f n = (own_cnt f n 0) := by rw [own_lc, if_neg hn0]
      rw [hF] at hr
      exact retI X0 hx Bd.returns (hb hby d2_58) hr
  · exact ⟨rfl, rfl, e0⟩
def own_f (q : Int64) (nl : Int32) (k : Nat) (j : Nat) : Int32 := if j < k then own_at q nl (Int32.ofNat j) else 0
set_option maxRecDepth 65536 in
set_option maxHeartbeats 40000000 in
theorem seg0 {p : Program} {l : Launch} {e : Env} {s : State} {m : MethodId} {args : Array Value} {below : List Frame} {meth : Method} {c : Code} {T0 : State} {locs : List Loc} {Z : State} {a0 : Array Value} {h0 : Heap} (len : Int32) (q : Int64) (nl : Int32) (n : Nat) (b : Addr) (n0 : Nat) (X0 : Stand p l e room_1 s m args below meth c T0 locs 1 8) (hx : p.tables.exec = Jvm.exec) (hZ : Z.Warmed39 s.vm) (hw : ∀ d ∈ tables_1, d.before a0 Z = true) (hby : c.code = code) (hml : c.maxLocals = 7) (hown : s.vm.findClass "com/example/pathline/pathline/bench/TimeCommandLineCountPinLaw" = some m.cls) (e0 : T0.heap = h0) (V : Iar Z h0 b .byte n (own_f q nl 0)) (g : n0 ≤ b) (N0 : Fr n0 locs) :
    ∃ (T' : State) (h' : Heap) (locs' : List Loc), Stand p l e room_1 s m args below meth c T' locs' 1 8 ∧ T'.heap = h' ∧ Fr n0 locs' ∧ Iar Z h' b .byte n (own_f q nl 1) ∧ (∀ target, Steps p.tables e below (T'.setTop (mkF m 30 #[.val (.int len), .val (.long q), .second, .val (.int nl), .val (.int (Int32.ofNat n)), .val (.ref b), .unset] [])) target → Steps p.tables e below (T0.setTop (mkF m 15 #[.val (.int len), .val (.long q), .second, .val (.int nl), .val (.int (Int32.ofNat n)), .val (.ref b), .unset] [])) target) := by
  have hn : n < 2 ^ 31 := V.1
  by_cases hk : 0 < n
  · have hc : (0 : Int32) < (Int32.ofNat n) := (own_lt (i := 0) (by omega) hn).mpr hk
    obtain ⟨T1, X1, e1, st1⟩ := own_callR X0 hx hZ hown (hw _ (List.mem_of_getElem? (i := 10) rfl)) (hw _ (List.mem_of_getElem? (i := 11) rfl)) (hw _ (List.mem_of_getElem? (i := 4) rfl)) (hw _ (List.mem_of_getElem? (i := 12) rfl)) (by decide) (W := 2) (as' := [(.long q), (.int nl), (.int (0 : Int32))]) (F := (.int (own_at q nl (0 : Int32)))) (rm_at l Z a0 hw [] q nl (0 : Int32) h0) rfl rfl (by decide) (by decide) (by decide) (by decide) e0 (g := (mkF m 26 #[.val (.int len), .val (.long q), .second, .val (.int nl), .val (.int (Int32.ofNat n)), .val (.ref b), .unset] [(.int (0 : Int32)), (.int nl), (.long q), (.int (0 : Int32)), (.ref b)])) rfl (by rw [hml]; rfl) (lenOf pd_3 rfl) (rest := [(.int (0 : Int32)), (.ref b)]) rfl (Nat.le_of_eq rfl) (hb hby at_26)
    obtain ⟨T2, h2, X2, e2, W2, V2, st2⟩ := own_stB X1 hx hZ e1 V (j := (0 : Int32)) (i := 0) (by decide) (by decide) hk (g := (mkF m 29 #[.val (.int len), .val (.long q), .second, .val (.int nl), .val (.int (Int32.ofNat n)), .val (.ref b), .unset] [(.int (own_at q nl (0 : Int32))), (.int (0 : Int32)), (.ref b)])) rfl rfl (hb hby at_29)
    refine ⟨T2, _, _, X2, e2, Fr.snoc X2 N0 g, V2.congr fun j hj => ?_, fun target kt => ?_⟩
    · rw [own_at_nar]
      unfold own_f
      by_cases hj2 : j = 0
      · subst hj2; rw [if_pos rfl, if_pos (by omega)]; rfl
      · rw [if_neg hj2]
        by_cases hj3 : j < 0
        · rw [if_pos hj3, if_pos (by omega)]
        · rw [if_neg hj3, if_neg (by omega)]
    · show Steps p.tables e below (T0.setTop (mkF m 15 #[.val (.int len), .val (.long q), .second, .val (.int nl), .val (.int (Int32.ofNat n)), .val (.ref b), .unset] [])) _
      refine XS.iload X0.here hx rfl (hb hby at_15) rfl ?_
      show Steps p.tables e below (T0.setTop (mkF m 17 #[.val (.int len), .val (.long q), .second, .val (.int nl), .val (.int (Int32.ofNat n)), .val (.ref b), .unset] [(.int (Int32.ofNat n))])) _
      refine XS.ifNo X0.here hx rfl (hb hby at_17) rfl ((if0 _ _).trans (tlt hc).2.2.2) ?_
      show Steps p.tables e below (T0.setTop (mkF m 20 #[.val (.int len), .val (.long q), .second, .val (.int nl), .val (.int (Int32.ofNat n)), .val (.ref b), .unset] [])) _
      refine XS.aload X0.here hx rfl (hb hby at_20) rfl rfl ?_
      show Steps p.tables e below (T0.setTop (mkF m 22 #[.val (.int len), .val (.long q), .second, .val (.int nl), .val (.int (Int32.ofNat n)), .val (.ref b), .unset] [(.ref b)])) _
      refine XS.iconst X0.here hx rfl (hb hby at_22) ?_
      show Steps p.tables e below (T0.setTop (mkF m 23 #[.val (.int len), .val (.long q), .second, .val (.int nl), .val (.int (Int32.ofNat n)), .val (.ref b), .unset] [(.int (0 : Int32)), (.ref b)])) _
      refine XS.lloadN X0.here hx rfl (hb hby at_23) rfl ?_
      show Steps p.tables e below (T0.setTop (mkF m 24 #[.val (.int len), .val (.long q), .second, .val (.int nl), .val (.int (Int32.ofNat n)), .val (.ref b), .unset] [(.long q), (.int (0 : Int32)), (.ref b)])) _
      refine XS.iloadN X0.here hx rfl (hb hby at_24) rfl ?_
      show Steps p.tables e below (T0.setTop (mkF m 25 #[.val (.int len), .val (.long q), .second, .val (.int nl), .val (.int (Int32.ofNat n)), .val (.ref b), .unset] [(.int nl), (.long q), (.int (0 : Int32)), (.ref b)])) _
      refine XS.iconst X0.here hx rfl (hb hby at_25) ?_
      show Steps p.tables e below (T0.setTop (mkF m 26 #[.val (.int len), .val (.long q), .second, .val (.int nl), .val (.int (Int32.ofNat n)), .val (.ref b), .unset] [(.int (0 : Int32)), (.int nl), (.long q), (.int (0 : Int32)), (.ref b)])) _
      refine st1 _ ?_
      show Steps p.tables e below (T1.setTop (mkF m 29 #[.val (.int len), .val (.long q), .second, .val (.int nl), .val (.int (Int32.ofNat n)), .val (.ref b), .unset] [(.int (own_at q nl (0 : Int32))), (.int (0 : Int32)), (.ref b)])) _
      refine st2 _ ?_
      exact kt
  · have hc : ¬ ((0 : Int32) < (Int32.ofNat n)) := fun y => hk ((own_lt (i := 0) (by omega) hn).mp y)
    refine ⟨T0, _, locs, X0, e0, N0, V.congr fun j hj => ?_, fun target kt => ?_⟩
    · unfold own_f
      rw [if_pos (by omega), if_pos (by omega)]
    · show Steps p.tables e below (T0.setTop (mkF m 15 #[.val (.int len), .val (.long q), .second, .val (.int nl), .val (.int (Int32.ofNat n)), .val (.ref b), .unset] [])) _
      refine XS.iload X0.here hx rfl (hb hby at_15) rfl ?_
      show Steps p.tables e below (T0.setTop (mkF m 17 #[.val (.int len), .val (.long q), .second, .val (.int nl), .val (.int (Int32.ofNat n)), .val (.ref b), .unset] [(.int (Int32.ofNat n))])) _
      refine XS.ifYes X0.here hx rfl (pc0 := 17) (pc' := 30) rfl (hb hby at_17) rfl ((if0 _ _).trans (flt hc).2.2.2) (by decide) (by decide) ?_
      exact kt
set_option maxRecDepth 65536 in
set_option maxHeartbeats 40000000 in
theorem seg1 {p : Program} {l : Launch} {e : Env} {s : State} {m : MethodId} {args : Array Value} {below : List Frame} {meth : Method} {c : Code} {T0 : State} {locs : List Loc} {Z : State} {a0 : Array Value} {h0 : Heap} (len : Int32) (q : Int64) (nl : Int32) (n : Nat) (b : Addr) (n0 : Nat) (X0 : Stand p l e room_1 s m args below meth c T0 locs 1 8) (hx : p.tables.exec = Jvm.exec) (hZ : Z.Warmed39 s.vm) (hw : ∀ d ∈ tables_1, d.before a0 Z = true) (hby : c.code = code) (hml : c.maxLocals = 7) (hown : s.vm.findClass "com/example/pathline/pathline/bench/TimeCommandLineCountPinLaw" = some m.cls) (e0 : T0.heap = h0) (V : Iar Z h0 b .byte n (own_f q nl 1)) (g : n0 ≤ b) (N0 : Fr n0 locs) :
    ∃ (T' : State) (h' : Heap) (locs' : List Loc), Stand p l e room_1 s m args below meth c T' locs' 1 8 ∧ T'.heap = h' ∧ Fr n0 locs' ∧ Iar Z h' b .byte n (own_f q nl 2) ∧ (∀ target, Steps p.tables e below (T'.setTop (mkF m 46 #[.val (.int len), .val (.long q), .second, .val (.int nl), .val (.int (Int32.ofNat n)), .val (.ref b), .unset] [])) target → Steps p.tables e below (T0.setTop (mkF m 30 #[.val (.int len), .val (.long q), .second, .val (.int nl), .val (.int (Int32.ofNat n)), .val (.ref b), .unset] [])) target) := by
  have hn : n < 2 ^ 31 := V.1
  by_cases hk : 1 < n
  · have hc : (1 : Int32) < (Int32.ofNat n) := (own_lt (i := 1) (by omega) hn).mpr hk
    obtain ⟨T1, X1, e1, st1⟩ := own_callR X0 hx hZ hown (hw _ (List.mem_of_getElem? (i := 10) rfl)) (hw _ (List.mem_of_getElem? (i := 11) rfl)) (hw _ (List.mem_of_getElem? (i := 4) rfl)) (hw _ (List.mem_of_getElem? (i := 12) rfl)) (by decide) (W := 2) (as' := [(.long q), (.int nl), (.int (1 : Int32))]) (F := (.int (own_at q nl (1 : Int32)))) (rm_at l Z a0 hw [] q nl (1 : Int32) h0) rfl rfl (by decide) (by decide) (by decide) (by decide) e0 (g := (mkF m 42 #[.val (.int len), .val (.long q), .second, .val (.int nl), .val (.int (Int32.ofNat n)), .val (.ref b), .unset] [(.int (1 : Int32)), (.int nl), (.long q), (.int (1 : Int32)), (.ref b)])) rfl (by rw [hml]; rfl) (lenOf pd_3 rfl) (rest := [(.int (1 : Int32)), (.ref b)]) rfl (Nat.le_of_eq rfl) (hb hby at_42)
    obtain ⟨T2, h2, X2, e2, W2, V2, st2⟩ := own_stB X1 hx hZ e1 V (j := (1 : Int32)) (i := 1) (by decide) (by decide) hk (g := (mkF m 45 #[.val (.int len), .val (.long q), .second, .val (.int nl), .val (.int (Int32.ofNat n)), .val (.ref b), .unset] [(.int (own_at q nl (1 : Int32))), (.int (1 : Int32)), (.ref b)])) rfl rfl (hb hby at_45)
    refine ⟨T2, _, _, X2, e2, Fr.snoc X2 N0 g, V2.congr fun j hj => ?_, fun target kt => ?_⟩
    · rw [own_at_nar]
      unfold own_f
      by_cases hj2 : j = 1
      · subst hj2; rw [if_pos rfl, if_pos (by omega)]; rfl
      · rw [if_neg hj2]
        by_cases hj3 : j < 1
        · rw [if_pos hj3, if_pos (by omega)]
        · rw [if_neg hj3, if_neg (by omega)]
    · show Steps p.tables e below (T0.setTop (mkF m 30 #[.val (.int len), .val (.long q), .second, .val (.int nl), .val (.int (Int32.ofNat n)), .val (.ref b), .unset] [])) _
      refine XS.iload X0.here hx rfl (hb hby at_30) rfl ?_
      show Steps p.tables e below (T0.setTop (mkF m 32 #[.val (.int len), .val (.long q), .second, .val (.int nl), .val (.int (Int32.ofNat n)), .val (.ref b), .unset] [(.int (Int32.ofNat n))])) _
      refine XS.iconst X0.here hx rfl (hb hby at_32) ?_
      show Steps p.tables e below (T0.setTop (mkF m 33 #[.val (.int len), .val (.long q), .second, .val (.int nl), .val (.int (Int32.ofNat n)), .val (.ref b), .unset] [(.int (1 : Int32)), (.int (Int32.ofNat n))])) _
      refine XS.icmpNo X0.here hx rfl (hb hby at_33) rfl (tlt hc).2.2.2 ?_
      show Steps p.tables e below (T0.setTop (mkF m 36 #[.val (.int len), .val (.long q), .second, .val (.int nl), .val (.int (Int32.ofNat n)), .val (.ref b), .unset] [])) _
      refine XS.aload X0.here hx rfl (hb hby at_36) rfl rfl ?_
      show Steps p.tables e below (T0.setTop (mkF m 38 #[.val (.int len), .val (.long q), .second, .val (.int nl), .val (.int (Int32.ofNat n)), .val (.ref b), .unset] [(.ref b)])) _
      refine XS.iconst X0.here hx rfl (hb hby at_38) ?_
      show Steps p.tables e below (T0.setTop (mkF m 39 #[.val (.int len), .val (.long q), .second, .val (.int nl), .val (.int (Int32.ofNat n)), .val (.ref b), .unset] [(.int (1 : Int32)), (.ref b)])) _
      refine XS.lloadN X0.here hx rfl (hb hby at_39) rfl ?_
      show Steps p.tables e below (T0.setTop (mkF m 40 #[.val (.int len), .val (.long q), .second, .val (.int nl), .val (.int (Int32.ofNat n)), .val (.ref b), .unset] [(.long q), (.int (1 : Int32)), (.ref b)])) _
      refine XS.iloadN X0.here hx rfl (hb hby at_40) rfl ?_
      show Steps p.tables e below (T0.setTop (mkF m 41 #[.val (.int len), .val (.long q), .second, .val (.int nl), .val (.int (Int32.ofNat n)), .val (.ref b), .unset] [(.int nl), (.long q), (.int (1 : Int32)), (.ref b)])) _
      refine XS.iconst X0.here hx rfl (hb hby at_41) ?_
      show Steps p.tables e below (T0.setTop (mkF m 42 #[.val (.int len), .val (.long q), .second, .val (.int nl), .val (.int (Int32.ofNat n)), .val (.ref b), .unset] [(.int (1 : Int32)), (.int nl), (.long q), (.int (1 : Int32)), (.ref b)])) _
      refine st1 _ ?_
      show Steps p.tables e below (T1.setTop (mkF m 45 #[.val (.int len), .val (.long q), .second, .val (.int nl), .val (.int (Int32.ofNat n)), .val (.ref b), .unset] [(.int (own_at q nl (1 : Int32))), (.int (1 : Int32)), (.ref b)])) _
      refine st2 _ ?_
      exact kt
  · have hc : ¬ ((1 : Int32) < (Int32.ofNat n)) := fun y => hk ((own_lt (i := 1) (by omega) hn).mp y)
    refine ⟨T0, _, locs, X0, e0, N0, V.congr fun j hj => ?_, fun target kt => ?_⟩
    · unfold own_f
      rw [if_pos (by omega), if_pos (by omega)]
    · show Steps p.tables e below (T0.setTop (mkF m 30 #[.val (.int len), .val (.long q), .second, .val (.int nl), .val (.int (Int32.ofNat n)), .val (.ref b), .unset] [])) _
      refine XS.iload X0.here hx rfl (hb hby at_30) rfl ?_
      show Steps p.tables e below (T0.setTop (mkF m 32 #[.val (.int len), .val (.long q), .second, .val (.int nl), .val (.int (Int32.ofNat n)), .val (.ref b), .unset] [(.int (Int32.ofNat n))])) _
      refine XS.iconst X0.here hx rfl (hb hby at_32) ?_
      show Steps p.tables e below (T0.setTop (mkF m 33 #[.val (.int len), .val (.long q), .second, .val (.int nl), .val (.int (Int32.ofNat n)), .val (.ref b), .unset] [(.int (1 : Int32)), (.int (Int32.ofNat n))])) _
      refine XS.icmpYes X0.here hx rfl (pc0 := 33) (pc' := 46) rfl (hb hby at_33) rfl (flt hc).2.2.2 (by decide) (by decide) ?_
      exact kt
set_option maxRecDepth 65536 in
set_option maxHeartbeats 40000000 in
theorem seg2 {p : Program} {l : Launch} {e : Env} {s : State} {m : MethodId} {args : Array Value} {below : List Frame} {meth : Method} {c : Code} {T0 : State} {locs : List Loc} {Z : State} {a0 : Array Value} {h0 : Heap} (len : Int32) (q : Int64) (nl : Int32) (n : Nat) (b : Addr) (n0 : Nat) (X0 : Stand p l e room_1 s m args below meth c T0 locs 1 8) (hx : p.tables.exec = Jvm.exec) (hZ : Z.Warmed39 s.vm) (hw : ∀ d ∈ tables_1, d.before a0 Z = true) (hby : c.code = code) (hml : c.maxLocals = 7) (hown : s.vm.findClass "com/example/pathline/pathline/bench/TimeCommandLineCountPinLaw" = some m.cls) (e0 : T0.heap = h0) (V : Iar Z h0 b .byte n (own_f q nl 2)) (g : n0 ≤ b) (N0 : Fr n0 locs) :
    ∃ (T' : State) (h' : Heap) (locs' : List Loc), Stand p l e room_1 s m args below meth c T' locs' 1 8 ∧ T'.heap = h' ∧ Fr n0 locs' ∧ Iar Z h' b .byte n (own_f q nl 3) ∧ (∀ target, Steps p.tables e below (T'.setTop (mkF m 62 #[.val (.int len), .val (.long q), .second, .val (.int nl), .val (.int (Int32.ofNat n)), .val (.ref b), .unset] [])) target → Steps p.tables e below (T0.setTop (mkF m 46 #[.val (.int len), .val (.long q), .second, .val (.int nl), .val (.int (Int32.ofNat n)), .val (.ref b), .unset] [])) target) := by
  have hn : n < 2 ^ 31 := V.1
  by_cases hk : 2 < n
  · have hc : (2 : Int32) < (Int32.ofNat n) := (own_lt (i := 2) (by omega) hn).mpr hk
    obtain ⟨T1, X1, e1, st1⟩ := own_callR X0 hx hZ hown (hw _ (List.mem_of_getElem? (i := 10) rfl)) (hw _ (List.mem_of_getElem? (i := 11) rfl)) (hw _ (List.mem_of_getElem? (i := 4) rfl)) (hw _ (List.mem_of_getElem? (i := 12) rfl)) (by decide) (W := 2) (as' := [(.long q), (.int nl), (.int (2 : Int32))]) (F := (.int (own_at q nl (2 : Int32)))) (rm_at l Z a0 hw [] q nl (2 : Int32) h0) rfl rfl (by decide) (by decide) (by decide) (by decide) e0 (g := (mkF m 58 #[.val (.int len), .val (.long q), .second, .val (.int nl), .val (.int (Int32.ofNat n)), .val (.ref b), .unset] [(.int (2 : Int32)), (.int nl), (.long q), (.int (2 : Int32)), (.ref b)])) rfl (by rw [hml]; rfl) (lenOf pd_3 rfl) (rest := [(.int (2 : Int32)), (.ref b)]) rfl (Nat.le_of_eq rfl) (hb hby at_58)
    obtain ⟨T2, h2, X2, e2, W2, V2, st2⟩ := own_stB X1 hx hZ e1 V (j := (2 : Int32)) (i := 2) (by decide) (by decide) hk (g := (mkF m 61 #[.val (.int len), .val (.long q), .second, .val (.int nl), .val (.int (Int32.ofNat n)), .val (.ref b), .unset] [(.int (own_at q nl (2 : Int32))), (.int (2 : Int32)), (.ref b)])) rfl rfl (hb hby at_61)
    refine ⟨T2, _, _, X2, e2, Fr.snoc X2 N0 g, V2.congr fun j hj => ?_, fun target kt => ?_⟩
    · rw [own_at_nar]
      unfold own_f
      by_cases hj2 : j = 2
      · subst hj2; rw [if_pos rfl, if_pos (by omega)]; rfl
      · rw [if_neg hj2]
        by_cases hj3 : j < 2
        · rw [if_pos hj3, if_pos (by omega)]
        · rw [if_neg hj3, if_neg (by omega)]
    · show Steps p.tables e below (T0.setTop (mkF m 46 #[.val (.int len), .val (.long q), .second, .val (.int nl), .val (.int (Int32.ofNat n)), .val (.ref b), .unset] [])) _
      refine XS.iload X0.here hx rfl (hb hby at_46) rfl ?_
      show Steps p.tables e below (T0.setTop (mkF m 48 #[.val (.int len), .val (.long q), .second, .val (.int nl), .val (.int (Int32.ofNat n)), .val (.ref b), .unset] [(.int (Int32.ofNat n))])) _
      refine XS.iconst X0.here hx rfl (hb hby at_48) ?_
      show Steps p.tables e below (T0.setTop (mkF m 49 #[.val (.int len), .val (.long q), .second, .val (.int nl), .val (.int (Int32.ofNat n)), .val (.ref b), .unset] [(.int (2 : Int32)), (.int (Int32.ofNat n))])) _
      refine XS.icmpNo X0.here hx rfl (hb hby at_49) rfl (tlt hc).2.2.2 ?_
      show Steps p.tables e below (T0.setTop (mkF m 52 #[.val (.int len), .val (.long q), .second, .val (.int nl), .val (.int (Int32.ofNat n)), .val (.ref b), .unset] [])) _
      refine XS.aload X0.here hx rfl (hb hby at_52) rfl rfl ?_
      show Steps p.tables e below (T0.setTop (mkF m 54 #[.val (.int len), .val (.long q), .second, .val (.int nl), .val (.int (Int32.ofNat n)), .val (.ref b), .unset] [(.ref b)])) _
      refine XS.iconst X0.here hx rfl (hb hby at_54) ?_
      show Steps p.tables e below (T0.setTop (mkF m 55 #[.val (.int len), .val (.long q), .second, .val (.int nl), .val (.int (Int32.ofNat n)), .val (.ref b), .unset] [(.int (2 : Int32)), (.ref b)])) _
      refine XS.lloadN X0.here hx rfl (hb hby at_55) rfl ?_
      show Steps p.tables e below (T0.setTop (mkF m 56 #[.val (.int len), .val (.long q), .second, .val (.int nl), .val (.int (Int32.ofNat n)), .val (.ref b), .unset] [(.long q), (.int (2 : Int32)), (.ref b)])) _
      refine XS.iloadN X0.here hx rfl (hb hby at_56) rfl ?_
      show Steps p.tables e below (T0.setTop (mkF m 57 #[.val (.int len), .val (.long q), .second, .val (.int nl), .val (.int (Int32.ofNat n)), .val (.ref b), .unset] [(.int nl), (.long q), (.int (2 : Int32)), (.ref b)])) _
      refine XS.iconst X0.here hx rfl (hb hby at_57) ?_
      show Steps p.tables e below (T0.setTop (mkF m 58 #[.val (.int len), .val (.long q), .second, .val (.int nl), .val (.int (Int32.ofNat n)), .val (.ref b), .unset] [(.int (2 : Int32)), (.int nl), (.long q), (.int (2 : Int32)), (.ref b)])) _
      refine st1 _ ?_
      show Steps p.tables e below (T1.setTop (mkF m 61 #[.val (.int len), .val (.long q), .second, .val (.int nl), .val (.int (Int32.ofNat n)), .val (.ref b), .unset] [(.int (own_at q nl (2 : Int32))), (.int (2 : Int32)), (.ref b)])) _
      refine st2 _ ?_
      exact kt
  · have hc : ¬ ((2 : Int32) < (Int32.ofNat n)) := fun y => hk ((own_lt (i := 2) (by omega) hn).mp y)
    refine ⟨T0, _, locs, X0, e0, N0, V.congr fun j hj => ?_, fun target kt => ?_⟩
    · unfold own_f
      rw [if_pos (by omega), if_pos (by omega)]
    · show Steps p.tables e below (T0.setTop (mkF m 46 #[.val (.int len), .val (.long q), .second, .val (.int nl), .val (.int (Int32.ofNat n)), .val (.ref b), .unset] [])) _
      refine XS.iload X0.here hx rfl (hb hby at_46) rfl ?_
      show Steps p.tables e below (T0.setTop (mkF m 48 #[.val (.int len), .val (.long q), .second, .val (.int nl), .val (.int (Int32.ofNat n)), .val (.ref b), .unset] [(.int (Int32.ofNat n))])) _
      refine XS.iconst X0.here hx rfl (hb hby at_48) ?_
      show Steps p.tables e below (T0.setTop (mkF m 49 #[.val (.int len), .val (.long q), .second, .val (.int nl), .val (.int (Int32.ofNat n)), .val (.ref b), .unset] [(.int (2 : Int32)), (.int (Int32.ofNat n))])) _
      refine XS.icmpYes X0.here hx rfl (pc0 := 49) (pc' := 62) rfl (hb hby at_49) rfl (flt hc).2.2.2 (by decide) (by decide) ?_
      exact kt
set_option maxRecDepth 65536 in
set_option maxHeartbeats 40000000 in
theorem seg3 {p : Program} {l : Launch} {e : Env} {s : State} {m : MethodId} {args : Array Value} {below : List Frame} {meth : Method} {c : Code} {T0 : State} {locs : List Loc} {Z : State} {a0 : Array Value} {h0 : Heap} (len : Int32) (q : Int64) (nl : Int32) (n : Nat) (b : Addr) (n0 : Nat) (X0 : Stand p l e room_1 s m args below meth c T0 locs 1 8) (hx : p.tables.exec = Jvm.exec) (hZ : Z.Warmed39 s.vm) (hw : ∀ d ∈ tables_1, d.before a0 Z = true) (hby : c.code = code) (hml : c.maxLocals = 7) (hown : s.vm.findClass "com/example/pathline/pathline/bench/TimeCommandLineCountPinLaw" = some m.cls) (e0 : T0.heap = h0) (V : Iar Z h0 b .byte n (own_f q nl 3)) (g : n0 ≤ b) (N0 : Fr n0 locs) :
    ∃ (T' : State) (h' : Heap) (locs' : List Loc), Stand p l e room_1 s m args below meth c T' locs' 1 8 ∧ T'.heap = h' ∧ Fr n0 locs' ∧ Iar Z h' b .byte n (own_f q nl 4) ∧ (∀ target, Steps p.tables e below (T'.setTop (mkF m 78 #[.val (.int len), .val (.long q), .second, .val (.int nl), .val (.int (Int32.ofNat n)), .val (.ref b), .unset] [])) target → Steps p.tables e below (T0.setTop (mkF m 62 #[.val (.int len), .val (.long q), .second, .val (.int nl), .val (.int (Int32.ofNat n)), .val (.ref b), .unset] [])) target) := by
  have hn : n < 2 ^ 31 := V.1
  by_cases hk : 3 < n
  · have hc : (3 : Int32) < (Int32.ofNat n) := (own_lt (i := 3) (by omega) hn).mpr hk
    obtain ⟨T1, X1, e1, st1⟩ := own_callR X0 hx hZ hown (hw _ (List.mem_of_getElem? (i := 10) rfl)) (hw _ (List.mem_of_getElem? (i := 11) rfl)) (hw _ (List.mem_of_getElem? (i := 4) rfl)) (hw _ (List.mem_of_getElem? (i := 12) rfl)) (by decide) (W := 2) (as' := [(.long q), (.int nl), (.int (3 : Int32))]) (F := (.int (own_at q nl (3 : Int32)))) (rm_at l Z a0 hw [] q nl (3 : Int32) h0) rfl rfl (by decide) (by decide) (by decide) (by decide) e0 (g := (mkF m 74 #[.val (.int len), .val (.long q), .second, .val (.int nl), .val (.int (Int32.ofNat n)), .val (.ref b), .unset] [(.int (3 : Int32)), (.int nl), (.long q), (.int (3 : Int32)), (.ref b)])) rfl (by rw [hml]; rfl) (lenOf pd_3 rfl) (rest := [(.int (3 : Int32)), (.ref b)]) rfl (Nat.le_of_eq rfl) (hb hby at_74)
    obtain ⟨T2, h2, X2, e2, W2, V2, st2⟩ := own_stB X1 hx hZ e1 V (j := (3 : Int32)) (i := 3) (by decide) (by decide) hk (g := (mkF m 77 #[.val (.int len), .val (.long q), .second, .val (.int nl), .val (.int (Int32.ofNat n)), .val (.ref b), .unset] [(.int (own_at q nl (3 : Int32))), (.int (3 : Int32)), (.ref b)])) rfl rfl (hb hby at_77)
    refine ⟨T2, _, _, X2, e2, Fr.snoc X2 N0 g, V2.congr fun j hj => ?_, fun target kt => ?_⟩
    · rw [own_at_nar]
      unfold own_f
      by_cases hj2 : j = 3
      · subst hj2; rw [if_pos rfl, if_pos (by omega)]; rfl
      · rw [if_neg hj2]
        by_cases hj3 : j < 3
        · rw [if_pos hj3, if_pos (by omega)]
        · rw [if_neg hj3, if_neg (by omega)]
    · show Steps p.tables e below (T0.setTop (mkF m 62 #[.val (.int len), .val (.long q), .second, .val (.int nl), .val (.int (Int32.ofNat n)), .val (.ref b), .unset] [])) _
      refine XS.iload X0.here hx rfl (hb hby at_62) rfl ?_
      show Steps p.tables e below (T0.setTop (mkF m 64 #[.val (.int len), .val (.long q), .second, .val (.int nl), .val (.int (Int32.ofNat n)), .val (.ref b), .unset] [(.int (Int32.ofNat n))])) _
      refine XS.iconst X0.here hx rfl (hb hby at_64) ?_
      show Steps p.tables e below (T0.setTop (mkF m 65 #[.val (.int len), .val (.long q), .second, .val (.int nl), .val (.int (Int32.ofNat n)), .val (.ref b), .unset] [(.int (3 : Int32)), (.int (Int32.ofNat n))])) _
      refine XS.icmpNo X0.here hx rfl (hb hby at_65) rfl (tlt hc).2.2.2 ?_
      show Steps p.tables e below (T0.setTop (mkF m 68 #[.val (.int len), .val (.long q), .second, .val (.int nl), .val (.int (Int32.ofNat n)), .val (.ref b), .unset] [])) _
      refine XS.aload X0.here hx rfl (hb hby at_68) rfl rfl ?_
      show Steps p.tables e below (T0.setTop (mkF m 70 #[.val (.int len), .val (.long q), .second, .val (.int nl), .val (.int (Int32.ofNat n)), .val (.ref b), .unset] [(.ref b)])) _
      refine XS.iconst X0.here hx rfl (hb hby at_70) ?_
      show Steps p.tables e below (T0.setTop (mkF m 71 #[.val (.int len), .val (.long q), .second, .val (.int nl), .val (.int (Int32.ofNat n)), .val (.ref b), .unset] [(.int (3 : Int32)), (.ref b)])) _
      refine XS.lloadN X0.here hx rfl (hb hby at_71) rfl ?_
      show Steps p.tables e below (T0.setTop (mkF m 72 #[.val (.int len), .val (.long q), .second, .val (.int nl), .val (.int (Int32.ofNat n)), .val (.ref b), .unset] [(.long q), (.int (3 : Int32)), (.ref b)])) _
      refine XS.iloadN X0.here hx rfl (hb hby at_72) rfl ?_
      show Steps p.tables e below (T0.setTop (mkF m 73 #[.val (.int len), .val (.long q), .second, .val (.int nl), .val (.int (Int32.ofNat n)), .val (.ref b), .unset] [(.int nl), (.long q), (.int (3 : Int32)), (.ref b)])) _
      refine XS.iconst X0.here hx rfl (hb hby at_73) ?_
      show Steps p.tables e below (T0.setTop (mkF m 74 #[.val (.int len), .val (.long q), .second, .val (.int nl), .val (.int (Int32.ofNat n)), .val (.ref b), .unset] [(.int (3 : Int32)), (.int nl), (.long q), (.int (3 : Int32)), (.ref b)])) _
      refine st1 _ ?_
      show Steps p.tables e below (T1.setTop (mkF m 77 #[.val (.int len), .val (.long q), .second, .val (.int nl), .val (.int (Int32.ofNat n)), .val (.ref b), .unset] [(.int (own_at q nl (3 : Int32))), (.int (3 : Int32)), (.ref b)])) _
      refine st2 _ ?_
      exact kt
  · have hc : ¬ ((3 : Int32) < (Int32.ofNat n)) := fun y => hk ((own_lt (i := 3) (by omega) hn).mp y)
    refine ⟨T0, _, locs, X0, e0, N0, V.congr fun j hj => ?_, fun target kt => ?_⟩
    · unfold own_f
      rw [if_pos (by omega), if_pos (by omega)]
    · show Steps p.tables e below (T0.setTop (mkF m 62 #[.val (.int len), .val (.long q), .second, .val (.int nl), .val (.int (Int32.ofNat n)), .val (.ref b), .unset] [])) _
      refine XS.iload X0.here hx rfl (hb hby at_62) rfl ?_
      show Steps p.tables e below (T0.setTop (mkF m 64 #[.val (.int len), .val (.long q), .second, .val (.int nl), .val (.int (Int32.ofNat n)), .val (.ref b), .unset] [(.int (Int32.ofNat n))])) _
      refine XS.iconst X0.here hx rfl (hb hby at_64) ?_
      show Steps p.tables e below (T0.setTop (mkF m 65 #[.val (.int len), .val (.long q), .second, .val (.int nl), .val (.int (Int32.ofNat n)), .val (.ref b), .unset] [(.int (3 : Int32)), (.int (Int32.ofNat n))])) _
      refine XS.icmpYes X0.here hx rfl (pc0 := 65) (pc' := 78) rfl (hb hby at_65) rfl (flt hc).2.2.2 (by decide) (by decide) ?_
      exact kt
set_option maxRecDepth 65536 in
set_option maxHeartbeats 40000000 in
theorem seg4 {p : Program} {l : Launch} {e : Env} {s : State} {m : MethodId} {args : Array Value} {below : List Frame} {meth : Method} {c : Code} {T0 : State} {locs : List Loc} {Z : State} {a0 : Array Value} {h0 : Heap} (len : Int32) (q : Int64) (nl : Int32) (n : Nat) (b : Addr) (n0 : Nat) (X0 : Stand p l e room_1 s m args below meth c T0 locs 1 8) (hx : p.tables.exec = Jvm.exec) (hZ : Z.Warmed39 s.vm) (hw : ∀ d ∈ tables_1, d.before a0 Z = true) (hby : c.code = code) (hml : c.maxLocals = 7) (hown : s.vm.findClass "com/example/pathline/pathline/bench/TimeCommandLineCountPinLaw" = some m.cls) (e0 : T0.heap = h0) (V : Iar Z h0 b .byte n (own_f q nl 4)) (g : n0 ≤ b) (N0 : Fr n0 locs) :
    ∃ (T' : State) (h' : Heap) (locs' : List Loc), Stand p l e room_1 s m args below meth c T' locs' 1 8 ∧ T'.heap = h' ∧ Fr n0 locs' ∧ Iar Z h' b .byte n (own_f q nl 5) ∧ (∀ target, Steps p.tables e below (T'.setTop (mkF m 94 #[.val (.int len), .val (.long q), .second, .val (.int nl), .val (.int (Int32.ofNat n)), .val (.ref b), .unset] [])) target → Steps p.tables e below (T0.setTop (mkF m 78 #[.val (.int len), .val (.long q), .second, .val (.int nl), .val (.int (Int32.ofNat n)), .val (.ref b), .unset] [])) target) := by
  have hn : n < 2 ^ 31 := V.1
  by_cases hk : 4 < n
  · have hc : (4 : Int32) < (Int32.ofNat n) := (own_lt (i := 4) (by omega) hn).mpr hk
    obtain ⟨T1, X1, e1, st1⟩ := own_callR X0 hx hZ hown (hw _ (List.mem_of_getElem? (i := 10) rfl)) (hw _ (List.mem_of_getElem? (i := 11) rfl)) (hw _ (List.mem_of_getElem? (i := 4) rfl)) (hw _ (List.mem_of_getElem? (i := 12) rfl)) (by decide) (W := 2) (as' := [(.long q), (.int nl), (.int (4 : Int32))]) (F := (.int (own_at q nl (4 : Int32)))) (rm_at l Z a0 hw [] q nl (4 : Int32) h0) rfl rfl (by decide) (by decide) (by decide) (by decide) e0 (g := (mkF m 90 #[.val (.int len), .val (.long q), .second, .val (.int nl), .val (.int (Int32.ofNat n)), .val (.ref b), .unset] [(.int (4 : Int32)), (.int nl), (.long q), (.int (4 : Int32)), (.ref b)])) rfl (by rw [hml]; rfl) (lenOf pd_3 rfl) (rest := [(.int (4 : Int32)), (.ref b)]) rfl (Nat.le_of_eq rfl) (hb hby at_90)
    obtain ⟨T2, h2, X2, e2, W2, V2, st2⟩ := own_stB X1 hx hZ e1 V (j := (4 : Int32)) (i := 4) (by decide) (by decide) hk (g := (mkF m 93 #[.val (.int len), .val (.long q), .second, .val (.int nl), .val (.int (Int32.ofNat n)), .val (.ref b), .unset] [(.int (own_at q nl (4 : Int32))), (.int (4 : Int32)), (.ref b)])) rfl rfl (hb hby at_93)
    refine ⟨T2, _, _, X2, e2, Fr.snoc X2 N0 g, V2.congr fun j hj => ?_, fun target kt => ?_⟩
    · rw [own_at_nar]
      unfold own_f
      by_cases hj2 : j = 4
      · subst hj2; rw [if_pos rfl, if_pos (by omega)]; rfl
      · rw [if_neg hj2]
        by_cases hj3 : j < 4
        · rw [if_pos hj3, if_pos (by omega)]
        · rw [if_neg hj3, if_neg (by omega)]
    · show Steps p.tables e below (T0.setTop (mkF m 78 #[.val (.int len), .val (.long q), .second, .val (.int nl), .val (.int (Int32.ofNat n)), .val (.ref b), .unset] [])) _
      refine XS.iload X0.here hx rfl (hb hby at_78) rfl ?_
      show Steps p.tables e below (T0.setTop (mkF m 80 #[.val (.int len), .val (.long q), .second, .val (.int nl), .val (.int (Int32.ofNat n)), .val (.ref b), .unset] [(.int (Int32.ofNat n))])) _
      refine XS.iconst X0.here hx rfl (hb hby at_80) ?_
      show Steps p.tables e below (T0.setTop (mkF m 81 #[.val (.int len), .val (.long q), .second, .val (.int nl), .val (.int (Int32.ofNat n)), .val (.ref b), .unset] [(.int (4 : Int32)), (.int (Int32.ofNat n))])) _
      refine XS.icmpNo X0.here hx rfl (hb hby at_81) rfl (tlt hc).2.2.2 ?_
      show Steps p.tables e below (T0.setTop (mkF m 84 #[.val (.int len), .val (.long q), .second, .val (.int nl), .val (.int (Int32.ofNat n)), .val (.ref b), .unset] [])) _
      refine XS.aload X0.here hx rfl (hb hby at_84) rfl rfl ?_
      show Steps p.tables e below (T0.setTop (mkF m 86 #[.val (.int len), .val (.long q), .second, .val (.int nl), .val (.int (Int32.ofNat n)), .val (.ref b), .unset] [(.ref b)])) _
      refine XS.iconst X0.here hx rfl (hb hby at_86) ?_
      show Steps p.tables e below (T0.setTop (mkF m 87 #[.val (.int len), .val (.long q), .second, .val (.int nl), .val (.int (Int32.ofNat n)), .val (.ref b), .unset] [(.int (4 : Int32)), (.ref b)])) _
      refine XS.lloadN X0.here hx rfl (hb hby at_87) rfl ?_
      show Steps p.tables e below (T0.setTop (mkF m 88 #[.val (.int len), .val (.long q), .second, .val (.int nl), .val (.int (Int32.ofNat n)), .val (.ref b), .unset] [(.long q), (.int (4 : Int32)), (.ref b)])) _
      refine XS.iloadN X0.here hx rfl (hb hby at_88) rfl ?_
      show Steps p.tables e below (T0.setTop (mkF m 89 #[.val (.int len), .val (.long q), .second, .val (.int nl), .val (.int (Int32.ofNat n)), .val (.ref b), .unset] [(.int nl), (.long q), (.int (4 : Int32)), (.ref b)])) _
      refine XS.iconst X0.here hx rfl (hb hby at_89) ?_
      show Steps p.tables e below (T0.setTop (mkF m 90 #[.val (.int len), .val (.long q), .second, .val (.int nl), .val (.int (Int32.ofNat n)), .val (.ref b), .unset] [(.int (4 : Int32)), (.int nl), (.long q), (.int (4 : Int32)), (.ref b)])) _
      refine st1 _ ?_
      show Steps p.tables e below (T1.setTop (mkF m 93 #[.val (.int len), .val (.long q), .second, .val (.int nl), .val (.int (Int32.ofNat n)), .val (.ref b), .unset] [(.int (own_at q nl (4 : Int32))), (.int (4 : Int32)), (.ref b)])) _
      refine st2 _ ?_
      exact kt
  · have hc : ¬ ((4 : Int32) < (Int32.ofNat n)) := fun y => hk ((own_lt (i := 4) (by omega) hn).mp y)
    refine ⟨T0, _, locs, X0, e0, N0, V.congr fun j hj => ?_, fun target kt => ?_⟩
    · unfold own_f
      rw [if_pos (by omega), if_pos (by omega)]
    · show Steps p.tables e below (T0.setTop (mkF m 78 #[.val (.int len), .val (.long q), .second, .val (.int nl), .val (.int (Int32.ofNat n)), .val (.ref b), .unset] [])) _
      refine XS.iload X0.here hx rfl (hb hby at_78) rfl ?_
      show Steps p.tables e below (T0.setTop (mkF m 80 #[.val (.int len), .val (.long q), .second, .val (.int nl), .val (.int (Int32.ofNat n)), .val (.ref b), .unset] [(.int (Int32.ofNat n))])) _
      refine XS.iconst X0.here hx rfl (hb hby at_80) ?_
      show Steps p.tables e below (T0.setTop (mkF m 81 #[.val (.int len), .val (.long q), .second, .val (.int nl), .val (.int (Int32.ofNat n)), .val (.ref b), .unset] [(.int (4 : Int32)), (.int (Int32.ofNat n))])) _
      refine XS.icmpYes X0.here hx rfl (pc0 := 81) (pc' := 94) rfl (hb hby at_81) rfl (flt hc).2.2.2 (by decide) (by decide) ?_
      exact kt
set_option maxRecDepth 65536 in
set_option maxHeartbeats 40000000 in
theorem seg5 {p : Program} {l : Launch} {e : Env} {s : State} {m : MethodId} {args : Array Value} {below : List Frame} {meth : Method} {c : Code} {T0 : State} {locs : List Loc} {Z : State} {a0 : Array Value} {h0 : Heap} (len : Int32) (q : Int64) (nl : Int32) (n : Nat) (b : Addr) (n0 : Nat) (X0 : Stand p l e room_1 s m args below meth c T0 locs 1 8) (hx : p.tables.exec = Jvm.exec) (hZ : Z.Warmed39 s.vm) (hw : ∀ d ∈ tables_1, d.before a0 Z = true) (hby : c.code = code) (hml : c.maxLocals = 7) (hown : s.vm.findClass "com/example/pathline/pathline/bench/TimeCommandLineCountPinLaw" = some m.cls) (e0 : T0.heap = h0) (V : Iar Z h0 b .byte n (own_f q nl 5)) (g : n0 ≤ b) (N0 : Fr n0 locs) :
    ∃ (T' : State) (h' : Heap) (locs' : List Loc), Stand p l e room_1 s m args below meth c T' locs' 1 8 ∧ T'.heap = h' ∧ Fr n0 locs' ∧ Iar Z h' b .byte n (own_f q nl 6) ∧ (∀ target, Steps p.tables e below (T'.setTop (mkF m 110 #[.val (.int len), .val (.long q), .second, .val (.int nl), .val (.int (Int32.ofNat n)), .val (.ref b), .unset] [])) target → Steps p.tables e below (T0.setTop (mkF m 94 #[.val (.int len), .val (.long q), .second, .val (.int nl), .val (.int (Int32.ofNat n)), .val (.ref b), .unset] [])) target) := by
  have hn : n < 2 ^ 31 := V.1
  by_cases hk : 5 < n
  · have hc : (5 : Int32) < (Int32.ofNat n) := (own_lt (i := 5) (by omega) hn).mpr hk
    obtain ⟨T1, X1, e1, st1⟩ := own_callR X0 hx hZ hown (hw _ (List.mem_of_getElem? (i := 10) rfl)) (hw _ (List.mem_of_getElem? (i := 11) rfl)) (hw _ (List.mem_of_getElem? (i := 4) rfl)) (hw _ (List.mem_of_getElem? (i := 12) rfl)) (by decide) (W := 2) (as' := [(.long q), (.int nl), (.int (5 : Int32))]) (F := (.int (own_at q nl (5 : Int32)))) (rm_at l Z a0 hw [] q nl (5 : Int32) h0) rfl rfl (by decide) (by decide) (by decide) (by decide) e0 (g := (mkF m 106 #[.val (.int len), .val (.long q), .second, .val (.int nl), .val (.int (Int32.ofNat n)), .val (.ref b), .unset] [(.int (5 : Int32)), (.int nl), (.long q), (.int (5 : Int32)), (.ref b)])) rfl (by rw [hml]; rfl) (lenOf pd_3 rfl) (rest := [(.int (5 : Int32)), (.ref b)]) rfl (Nat.le_of_eq rfl) (hb hby at_106)
    obtain ⟨T2, h2, X2, e2, W2, V2, st2⟩ := own_stB X1 hx hZ e1 V (j := (5 : Int32)) (i := 5) (by decide) (by decide) hk (g := (mkF m 109 #[.val (.int len), .val (.long q), .second, .val (.int nl), .val (.int (Int32.ofNat n)), .val (.ref b), .unset] [(.int (own_at q nl (5 : Int32))), (.int (5 : Int32)), (.ref b)])) rfl rfl (hb hby at_109)
    refine ⟨T2, _, _, X2, e2, Fr.snoc X2 N0 g, V2.congr fun j hj => ?_, fun target kt => ?_⟩
    · rw [own_at_nar]
      unfold own_f
      by_cases hj2 : j = 5
      · subst hj2; rw [if_pos rfl, if_pos (by omega)]; rfl
      · rw [if_neg hj2]
        by_cases hj3 : j < 5
        · rw [if_pos hj3, if_pos (by omega)]
        · rw [if_neg hj3, if_neg (by omega)]
    · show Steps p.tables e below (T0.setTop (mkF m 94 #[.val (.int len), .val (.long q), .second, .val (.int nl), .val (.int (Int32.ofNat n)), .val (.ref b), .unset] [])) _
      refine XS.iload X0.here hx rfl (hb hby at_94) rfl ?_
      show Steps p.tables e below (T0.setTop (mkF m 96 #[.val (.int len), .val (.long q), .second, .val (.int nl), .val (.int (Int32.ofNat n)), .val (.ref b), .unset] [(.int (Int32.ofNat n))])) _
      refine XS.iconst X0.here hx rfl (hb hby at_96) ?_
      show Steps p.tables e below (T0.setTop (mkF m 97 #[.val (.int len), .val (.long q), .second, .val (.int nl), .val (.int (Int32.ofNat n)), .val (.ref b), .unset] [(.int (5 : Int32)), (.int (Int32.ofNat n))])) _
      refine XS.icmpNo X0.here hx rfl (hb hby at_97) rfl (tlt hc).2.2.2 ?_
      show Steps p.tables e below (T0.setTop (mkF m 100 #[.val (.int len), .val (.long q), .second, .val (.int nl), .val (.int (Int32.ofNat n)), .val (.ref b), .unset] [])) _
      refine XS.aload X0.here hx rfl (hb hby at_100) rfl rfl ?_
      show Steps p.tables e below (T0.setTop (mkF m 102 #[.val (.int len), .val (.long q), .second, .val (.int nl), .val (.int (Int32.ofNat n)), .val (.ref b), .unset] [(.ref b)])) _
      refine XS.iconst X0.here hx rfl (hb hby at_102) ?_
      show Steps p.tables e below (T0.setTop (mkF m 103 #[.val (.int len), .val (.long q), .second, .val (.int nl), .val (.int (Int32.ofNat n)), .val (.ref b), .unset] [(.int (5 : Int32)), (.ref b)])) _
      refine XS.lloadN X0.here hx rfl (hb hby at_103) rfl ?_
      show Steps p.tables e below (T0.setTop (mkF m 104 #[.val (.int len), .val (.long q), .second, .val (.int nl), .val (.int (Int32.ofNat n)), .val (.ref b), .unset] [(.long q), (.int (5 : Int32)), (.ref b)])) _
      refine XS.iloadN X0.here hx rfl (hb hby at_104) rfl ?_
      show Steps p.tables e below (T0.setTop (mkF m 105 #[.val (.int len), .val (.long q), .second, .val (.int nl), .val (.int (Int32.ofNat n)), .val (.ref b), .unset] [(.int nl), (.long q), (.int (5 : Int32)), (.ref b)])) _
      refine XS.iconst X0.here hx rfl (hb hby at_105) ?_
      show Steps p.tables e below (T0.setTop (mkF m 106 #[.val (.int len), .val (.long q), .second, .val (.int nl), .val (.int (Int32.ofNat n)), .val (.ref b), .unset] [(.int (5 : Int32)), (.int nl), (.long q), (.int (5 : Int32)), (.ref b)])) _
      refine st1 _ ?_
      show Steps p.tables e below (T1.setTop (mkF m 109 #[.val (.int len), .val (.long q), .second, .val (.int nl), .val (.int (Int32.ofNat n)), .val (.ref b), .unset] [(.int (own_at q nl (5 : Int32))), (.int (5 : Int32)), (.ref b)])) _
      refine st2 _ ?_
      exact kt
  · have hc : ¬ ((5 : Int32) < (Int32.ofNat n)) := fun y => hk ((own_lt (i := 5) (by omega) hn).mp y)
    refine ⟨T0, _, locs, X0, e0, N0, V.congr fun j hj => ?_, fun target kt => ?_⟩
    · unfold own_f
      rw [if_pos (by omega), if_pos (by omega)]
    · show Steps p.tables e below (T0.setTop (mkF m 94 #[.val (.int len), .val (.long q), .second, .val (.int nl), .val (.int (Int32.ofNat n)), .val (.ref b), .unset] [])) _
      refine XS.iload X0.here hx rfl (hb hby at_94) rfl ?_
      show Steps p.tables e below (T0.setTop (mkF m 96 #[.val (.int len), .val (.long q), .second, .val (.int nl), .val (.int (Int32.ofNat n)), .val (.ref b), .unset] [(.int (Int32.ofNat n))])) _
      refine XS.iconst X0.here hx rfl (hb hby at_96) ?_
      show Steps p.tables e below (T0.setTop (mkF m 97 #[.val (.int len), .val (.long q), .second, .val (.int nl), .val (.int (Int32.ofNat n)), .val (.ref b), .unset] [(.int (5 : Int32)), (.int (Int32.ofNat n))])) _
      refine XS.icmpYes X0.here hx rfl (pc0 := 97) (pc' := 110) rfl (hb hby at_97) rfl (flt hc).2.2.2 (by decide) (by decide) ?_
      exact kt
set_option maxRecDepth 65536 in
set_option maxHeartbeats 40000000 in
theorem seg6 {p : Program} {l : Launch} {e : Env} {s : State} {m : MethodId} {args : Array Value} {below : List Frame} {meth : Method} {c : Code} {T0 : State} {locs : List Loc} {Z : State} {a0 : Array Value} {h0 : Heap} (len : Int32) (q : Int64) (nl : Int32) (n : Nat) (b : Addr) (n0 : Nat) (X0 : Stand p l e room_1 s m args below meth c T0 locs 1 8) (hx : p.tables.exec = Jvm.exec) (hZ : Z.Warmed39 s.vm) (hw : ∀ d ∈ tables_1, d.before a0 Z = true) (hby : c.code = code) (hml : c.maxLocals = 7) (hown : s.vm.findClass "com/example/pathline/pathline/bench/TimeCommandLineCountPinLaw" = some m.cls) (e0 : T0.heap = h0) (V : Iar Z h0 b .byte n (own_f q nl 6)) (g : n0 ≤ b) (N0 : Fr n0 locs) :
    ∃ (T' : State) (h' : Heap) (locs' : List Loc), Stand p l e room_1 s m args below meth c T' locs' 1 8 ∧ T'.heap = h' ∧ Fr n0 locs' ∧ Iar Z h' b .byte n (own_f q nl 7) ∧ (∀ target, Steps p.tables e below (T'.setTop (mkF m 129 #[.val (.int len), .val (.long q), .second, .val (.int nl), .val (.int (Int32.ofNat n)), .val (.ref b), .unset] [])) target → Steps p.tables e below (T0.setTop (mkF m 110 #[.val (.int len), .val (.long q), .second, .val (.int nl), .val (.int (Int32.ofNat n)), .val (.ref b), .unset] [])) target) := by
  have hn : n < 2 ^ 31 := V.1
  by_cases hk : 6 < n
  · have hc : (6 : Int32) < (Int32.ofNat n) := (own_lt (i := 6) (by omega) hn).mpr hk
    obtain ⟨T1, X1, e1, st1⟩ := own_callR X0 hx hZ hown (hw _ (List.mem_of_getElem? (i := 10) rfl)) (hw _ (List.mem_of_getElem? (i := 11) rfl)) (hw _ (List.mem_of_getElem? (i := 4) rfl)) (hw _ (List.mem_of_getElem? (i := 12) rfl)) (by decide) (W := 2) (as' := [(.long q), (.int nl), (.int (6 : Int32))]) (F := (.int (own_at q nl (6 : Int32)))) (rm_at l Z a0 hw [] q nl (6 : Int32) h0) rfl rfl (by decide) (by decide) (by decide) (by decide) e0 (g := (mkF m 125 #[.val (.int len), .val (.long q), .second, .val (.int nl), .val (.int (Int32.ofNat n)), .val (.ref b), .unset] [(.int (6 : Int32)), (.int nl), (.long q), (.int (6 : Int32)), (.ref b)])) rfl (by rw [hml]; rfl) (lenOf pd_3 rfl) (rest := [(.int (6 : Int32)), (.ref b)]) rfl (Nat.le_of_eq rfl) (hb hby at_125)
    obtain ⟨T2, h2, X2, e2, W2, V2, st2⟩ := own_stB X1 hx hZ e1 V (j := (6 : Int32)) (i := 6) (by decide) (by decide) hk (g := (mkF m 128 #[.val (.int len), .val (.long q), .second, .val (.int nl), .val (.int (Int32.ofNat n)), .val (.ref b), .unset] [(.int (own_at q nl (6 : Int32))), (.int (6 : Int32)), (.ref b)])) rfl rfl (hb hby at_128)
    refine ⟨T2, _, _, X2, e2, Fr.snoc X2 N0 g, V2.congr fun j hj => ?_, fun target kt => ?_⟩
    · rw [own_at_nar]
      unfold own_f
      by_cases hj2 : j = 6
      · subst hj2; rw [if_pos rfl, if_pos (by omega)]; rfl
      · rw [if_neg hj2]
        by_cases hj3 : j < 6
        · rw [if_pos hj3, if_pos (by omega)]
        · rw [if_neg hj3, if_neg (by omega)]
    · show Steps p.tables e below (T0.setTop (mkF m 110 #[.val (.int len), .val (.long q), .second, .val (.int nl), .val (.int (Int32.ofNat n)), .val (.ref b), .unset] [])) _
      refine XS.iload X0.here hx rfl (hb hby at_110) rfl ?_
      show Steps p.tables e below (T0.setTop (mkF m 112 #[.val (.int len), .val (.long q), .second, .val (.int nl), .val (.int (Int32.ofNat n)), .val (.ref b), .unset] [(.int (Int32.ofNat n))])) _
      refine XS.bipush X0.here hx rfl (hb hby at_112) ?_
      show Steps p.tables e below (T0.setTop (mkF m 114 #[.val (.int len), .val (.long q), .second, .val (.int nl), .val (.int (Int32.ofNat n)), .val (.ref b), .unset] [(.int (6 : Int32)), (.int (Int32.ofNat n))])) _
      refine XS.icmpNo X0.here hx rfl (hb hby at_114) rfl (tlt hc).2.2.2 ?_
      show Steps p.tables e below (T0.setTop (mkF m 117 #[.val (.int len), .val (.long q), .second, .val (.int nl), .val (.int (Int32.ofNat n)), .val (.ref b), .unset] [])) _
      refine XS.aload X0.here hx rfl (hb hby at_117) rfl rfl ?_
      show Steps p.tables e below (T0.setTop (mkF m 119 #[.val (.int len), .val (.long q), .second, .val (.int nl), .val (.int (Int32.ofNat n)), .val (.ref b), .unset] [(.ref b)])) _
      refine XS.bipush X0.here hx rfl (hb hby at_119) ?_
      show Steps p.tables e below (T0.setTop (mkF m 121 #[.val (.int len), .val (.long q), .second, .val (.int nl), .val (.int (Int32.ofNat n)), .val (.ref b), .unset] [(.int (6 : Int32)), (.ref b)])) _
      refine XS.lloadN X0.here hx rfl (hb hby at_121) rfl ?_
      show Steps p.tables e below (T0.setTop (mkF m 122 #[.val (.int len), .val (.long q), .second, .val (.int nl), .val (.int (Int32.ofNat n)), .val (.ref b), .unset] [(.long q), (.int (6 : Int32)), (.ref b)])) _
      refine XS.iloadN X0.here hx rfl (hb hby at_122) rfl ?_
      show Steps p.tables e below (T0.setTop (mkF m 123 #[.val (.int len), .val (.long q), .second, .val (.int nl), .val (.int (Int32.ofNat n)), .val (.ref b), .unset] [(.int nl), (.long q), (.int (6 : Int32)), (.ref b)])) _
      refine XS.bipush X0.here hx rfl (hb hby at_123) ?_
      show Steps p.tables e below (T0.setTop (mkF m 125 #[.val (.int len), .val (.long q), .second, .val (.int nl), .val (.int (Int32.ofNat n)), .val (.ref b), .unset] [(.int (6 : Int32)), (.int nl), (.long q), (.int (6 : Int32)), (.ref b)])) _
      refine st1 _ ?_
      show Steps p.tables e below (T1.setTop (mkF m 128 #[.val (.int len), .val (.long q), .second, .val (.int nl), .val (.int (Int32.ofNat n)), .val (.ref b), .unset] [(.int (own_at q nl (6 : Int32))), (.int (6 : Int32)), (.ref b)])) _
      refine st2 _ ?_
      exact kt
  · have hc : ¬ ((6 : Int32) < (Int32.ofNat n)) := fun y => hk ((own_lt (i := 6) (by omega) hn).mp y)
    refine ⟨T0, _, locs, X0, e0, N0, V.congr fun j hj => ?_, fun target kt => ?_⟩
    · unfold own_f
      rw [if_pos (by omega), if_pos (by omega)]
    · show Steps p.tables e below (T0.setTop (mkF m 110 #[.val (.int len), .val (.long q), .second, .val (.int nl), .val (.int (Int32.ofNat n)), .val (.ref b), .unset] [])) _
      refine XS.iload X0.here hx rfl (hb hby at_110) rfl ?_
      show Steps p.tables e below (T0.setTop (mkF m 112 #[.val (.int len), .val (.long q), .second, .val (.int nl), .val (.int (Int32.ofNat n)), .val (.ref b), .unset] [(.int (Int32.ofNat n))])) _
      refine XS.bipush X0.here hx rfl (hb hby at_112) ?_
      show Steps p.tables e below (T0.setTop (mkF m 114 #[.val (.int len), .val (.long q), .second, .val (.int nl), .val (.int (Int32.ofNat n)), .val (.ref b), .unset] [(.int (6 : Int32)), (.int (Int32.ofNat n))])) _
      refine XS.icmpYes X0.here hx rfl (pc0 := 114) (pc' := 129) rfl (hb hby at_114) rfl (flt hc).2.2.2 (by decide) (by decide) ?_
      exact kt
set_option maxRecDepth 65536 in
set_option maxHeartbeats 40000000 in
theorem seg7 {p : Program} {l : Launch} {e : Env} {s : State} {m : MethodId} {args : Array Value} {below : List Frame} {meth : Method} {c : Code} {T0 : State} {locs : List Loc} {Z : State} {a0 : Array Value} {h0 : Heap} (len : Int32) (q : Int64) (nl : Int32) (n : Nat) (b : Addr) (n0 : Nat) (X0 : Stand p l e room_1 s m args below meth c T0 locs 1 8) (hx : p.tables.exec = Jvm.exec) (hZ : Z.Warmed39 s.vm) (hw : ∀ d ∈ tables_1, d.before a0 Z = true) (hby : c.code = code) (hml : c.maxLocals = 7) (hown : s.vm.findClass "com/example/pathline/pathline/bench/TimeCommandLineCountPinLaw" = some m.cls) (e0 : T0.heap = h0) (V : Iar Z h0 b .byte n (own_f q nl 7)) (g : n0 ≤ b) (N0 : Fr n0 locs) :
    ∃ (T' : State) (h' : Heap) (locs' : List Loc), Stand p l e room_1 s m args below meth c T' locs' 1 8 ∧ T'.heap = h' ∧ Fr n0 locs' ∧ Iar Z h' b .byte n (own_f q nl 8) ∧ (∀ target, Steps p.tables e below (T'.setTop (mkF m 148 #[.val (.int len), .val (.long q), .second, .val (.int nl), .val (.int (Int32.ofNat n)), .val (.ref b), .unset] [])) target → Steps p.tables e below (T0.setTop (mkF m 129 #[.val (.int len), .val (.long q), .second, .val (.int nl), .val (.int (Int32.ofNat n)), .val (.ref b), .unset] [])) target) := by
  have hn : n < 2 ^ 31 := V.1
  by_cases hk : 7 < n
  · have hc : (7 : Int32) < (Int32.ofNat n) := (own_lt (i := 7) (by omega) hn).mpr hk
    obtain ⟨T1, X1, e1, st1⟩ := own_callR X0 hx hZ hown (hw _ (List.mem_of_getElem? (i := 10) rfl)) (hw _ (List.mem_of_getElem? (i := 11) rfl)) (hw _ (List.mem_of_getElem? (i := 4) rfl)) (hw _ (List.mem_of_getElem? (i := 12) rfl)) (by decide) (W := 2) (as' := [(.long q), (.int nl), (.int (7 : Int32))]) (F := (.int (own_at q nl (7 : Int32)))) (rm_at l Z a0 hw [] q nl (7 : Int32) h0) rfl rfl (by decide) (by decide) (by decide) (by decide) e0 (g := (mkF m 144 #[.val (.int len), .val (.long q), .second, .val (.int nl), .val (.int (Int32.ofNat n)), .val (.ref b), .unset] [(.int (7 : Int32)), (.int nl), (.long q), (.int (7 : Int32)), (.ref b)])) rfl (by rw [hml]; rfl) (lenOf pd_3 rfl) (rest := [(.int (7 : Int32)), (.ref b)]) rfl (Nat.le_of_eq rfl) (hb hby at_144)
    obtain ⟨T2, h2, X2, e2, W2, V2, st2⟩ := own_stB X1 hx hZ e1 V (j := (7 : Int32)) (i := 7) (by decide) (by decide) hk (g := (mkF m 147 #[.val (.int len), .val (.long q), .second, .val (.int nl), .val (.int (Int32.ofNat n)), .val (.ref b), .unset] [(.int (own_at q nl (7 : Int32))), (.int (7 : Int32)), (.ref b)])) rfl rfl (hb hby at_147)
    refine ⟨T2, _, _, X2, e2, Fr.snoc X2 N0 g, V2.congr fun j hj => ?_, fun target kt => ?_⟩
    · rw [own_at_nar]
      unfold own_f
      by_cases hj2 : j = 7
      · subst hj2; rw [if_pos rfl, if_pos (by omega)]; rfl
      · rw [if_neg hj2]
        by_cases hj3 : j < 7
        · rw [if_pos hj3, if_pos (by omega)]
        · rw [if_neg hj3, if_neg (by omega)]
    · show Steps p.tables e below (T0.setTop (mkF m 129 #[.val (.int len), .val (.long q), .second, .val (.int nl), .val (.int (Int32.ofNat n)), .val (.ref b), .unset] [])) _
      refine XS.iload X0.here hx rfl (hb hby at_129) rfl ?_
      show Steps p.tables e below (T0.setTop (mkF m 131 #[.val (.int len), .val (.long q), .second, .val (.int nl), .val (.int (Int32.ofNat n)), .val (.ref b), .unset] [(.int (Int32.ofNat n))])) _
      refine XS.bipush X0.here hx rfl (hb hby at_131) ?_
      show Steps p.tables e below (T0.setTop (mkF m 133 #[.val (.int len), .val (.long q), .second, .val (.int nl), .val (.int (Int32.ofNat n)), .val (.ref b), .unset] [(.int (7 : Int32)), (.int (Int32.ofNat n))])) _
      refine XS.icmpNo X0.here hx rfl (hb hby at_133) rfl (tlt hc).2.2.2 ?_
      show Steps p.tables e below (T0.setTop (mkF m 136 #[.val (.int len), .val (.long q), .second, .val (.int nl), .val (.int (Int32.ofNat n)), .val (.ref b), .unset] [])) _
      refine XS.aload X0.here hx rfl (hb hby at_136) rfl rfl ?_
      show Steps p.tables e below (T0.setTop (mkF m 138 #[.val (.int len), .val (.long q), .second, .val (.int nl), .val (.int (Int32.ofNat n)), .val (.ref b), .unset] [(.ref b)])) _
      refine XS.bipush X0.here hx rfl (hb hby at_138) ?_
      show Steps p.tables e below (T0.setTop (mkF m 140 #[.val (.int len), .val (.long q), .second, .val (.int nl), .val (.int (Int32.ofNat n)), .val (.ref b), .unset] [(.int (7 : Int32)), (.ref b)])) _
      refine XS.lloadN X0.here hx rfl (hb hby at_140) rfl ?_
      show Steps p.tables e below (T0.setTop (mkF m 141 #[.val (.int len), .val (.long q), .second, .val (.int nl), .val (.int (Int32.ofNat n)), .val (.ref b), .unset] [(.long q), (.int (7 : Int32)), (.ref b)])) _
      refine XS.iloadN X0.here hx rfl (hb hby at_141) rfl ?_
      show Steps p.tables e below (T0.setTop (mkF m 142 #[.val (.int len), .val (.long q), .second, .val (.int nl), .val (.int (Int32.ofNat n)), .val (.ref b), .unset] [(.int nl), (.long q), (.int (7 : Int32)), (.ref b)])) _
      refine XS.bipush X0.here hx rfl (hb hby at_142) ?_
      show Steps p.tables e below (T0.setTop (mkF m 144 #[.val (.int len), .val (.long q), .second, .val (.int nl), .val (.int (Int32.ofNat n)), .val (.ref b), .unset] [(.int (7 : Int32)), (.int nl), (.long q), (.int (7 : Int32)), (.ref b)])) _
      refine st1 _ ?_
      show Steps p.tables e below (T1.setTop (mkF m 147 #[.val (.int len), .val (.long q), .second, .val (.int nl), .val (.int (Int32.ofNat n)), .val (.ref b), .unset] [(.int (own_at q nl (7 : Int32))), (.int (7 : Int32)), (.ref b)])) _
      refine st2 _ ?_
      exact kt
  · have hc : ¬ ((7 : Int32) < (Int32.ofNat n)) := fun y => hk ((own_lt (i := 7) (by omega) hn).mp y)
    refine ⟨T0, _, locs, X0, e0, N0, V.congr fun j hj => ?_, fun target kt => ?_⟩
    · unfold own_f
      rw [if_pos (by omega), if_pos (by omega)]
    · show Steps p.tables e below (T0.setTop (mkF m 129 #[.val (.int len), .val (.long q), .second, .val (.int nl), .val (.int (Int32.ofNat n)), .val (.ref b), .unset] [])) _
      refine XS.iload X0.here hx rfl (hb hby at_129) rfl ?_
      show Steps p.tables e below (T0.setTop (mkF m 131 #[.val (.int len), .val (.long q), .second, .val (.int nl), .val (.int (Int32.ofNat n)), .val (.ref b), .unset] [(.int (Int32.ofNat n))])) _
      refine XS.bipush X0.here hx rfl (hb hby at_131) ?_
      show Steps p.tables e below (T0.setTop (mkF m 133 #[.val (.int len), .val (.long q), .second, .val (.int nl), .val (.int (Int32.ofNat n)), .val (.ref b), .unset] [(.int (7 : Int32)), (.int (Int32.ofNat n))])) _
      refine XS.icmpYes X0.here hx rfl (pc0 := 133) (pc' := 148) rfl (hb hby at_133) rfl (flt hc).2.2.2 (by decide) (by decide) ?_
      exact kt
theorem own_len9 (len : Int32) : ∃ n : Nat, n ≤ 8 ∧ (len &&& (2147483647 : Int32)) % (9 : Int32) = Int32.ofNat n := by
  have h1 := c_mask len 2147483647 31 (by omega) (by decide)
  have h2 := (c_irem (len &&& (2147483647 : Int32)) 9 9 rfl).1 (by omega)
  refine ⟨((len &&& (2147483647 : Int32)) % (9 : Int32)).toInt.toNat, by omega, ?_⟩
  rw [← Int32.toInt_inj, own_ti (by omega)]
  omega
theorem own_law (q : Int64) (nl : Int32) (n : Nat) (hn : n ≤ 8) : own_lc (own_f q nl 8) n = own_ends q nl (Int32.ofNat n) 0 + own_ends q nl (Int32.ofNat n) 1 + own_ends q nl (Int32.ofNat n) 2 + own_ends q nl (Int32.ofNat n) 3 + own_ends q nl (Int32.ofNat n) 4 + own_ends q nl (Int32.ofNat n) 5 + own_ends q nl (Int32.ofNat n) 6 + own_ends q nl (Int32.ofNat n) 7 := by
  have h0 : ∀ j, j < 8 → own_f q nl 8 j = own_at q nl (Int32.ofNat j) := fun j hj => if_pos hj
  obtain ⟨g, hg⟩ : ∃ g : Nat → Int32, ∀ j, g j = own_at q nl (Int32.ofNat j) := ⟨_, fun _ => rfl⟩
  have hE : ∀ j, own_ends q nl (Int32.ofNat n) (Int32.ofNat j) = if Int32.ofNat j < Int32.ofNat n then (if g j = (10 : Int32) then 1 else if Int32.ofNat j = Int32.ofNat n - (1 : Int32) then 1 else 0) else 0 := fun j => by rw [own_ends, hg]
  have hF : ∀ j, j < 8 → own_f q nl 8 j = g j := fun j hj => by rw [h0 j hj, hg]
  have e0 := hE 0; have e1 := hE 1; have e2 := hE 2; have e3 := hE 3; have e4 := hE 4; have e5 := hE 5; have e6 := hE 6; have e7 := hE 7
  have f0 := hF 0 (by omega); have f1 := hF 1 (by omega); have f2 := hF 2 (by omega); have f3 := hF 3 (by omega); have f4 := hF 4 (by omega); have f5 := hF 5 (by omega); have f6 := hF 6 (by omega); have f7 := hF 7 (by omega)
  change own_ends q nl (Int32.ofNat n) 0 = _ at e0
  change own_ends q nl (Int32.ofNat n) 1 = _ at e1
  change own_ends q nl (Int32.ofNat n) 2 = _ at e2
  change own_ends q nl (Int32.ofNat n) 3 = _ at e3
  change own_ends q nl (Int32.ofNat n) 4 = _ at e4
  change own_ends q nl (Int32.ofNat n) 5 = _ at e5
  change own_ends q nl (Int32.ofNat n) 6 = _ at e6
  change own_ends q nl (Int32.ofNat n) 7 = _ at e7
  rw [e0, e1, e2, e3, e4, e5, e6, e7]
  clear e0 e1 e2 e3 e4 e5 e6 e7 h0 hE hF hg
  match n, hn with
  | 0, _ => simp +decide [own_lc, own_cnt]
  | 1, _ => simp +decide [own_lc, own_cnt, f0]; try (split <;> simp_all)
  | 2, _ => simp +decide [own_lc, own_cnt, f0, f1]; by_cases q1 : g 1 = 10 <;> simp [q1, Int32.add_assoc]
  | 3, _ => simp +decide [own_lc, own_cnt, f0, f1, f2]; by_cases q1 : g 2 = 10 <;> simp [q1, Int32.add_assoc]
  | 4, _ => simp +decide [own_lc, own_cnt, f0, f1, f2, f3]; by_cases q1 : g 3 = 10 <;> simp [q1, Int32.add_assoc]
  | 5, _ => simp +decide [own_lc, own_cnt, f0, f1, f2, f3, f4]; by_cases q1 : g 4 = 10 <;> simp [q1, Int32.add_assoc]
  | 6, _ => simp +decide [own_lc, own_cnt, f0, f1, f2, f3, f4, f5]; by_cases q1 : g 5 = 10 <;> simp [q1, Int32.add_assoc]
  | 7, _ => simp +decide [own_lc, own_cnt, f0, f1, f2, f3, f4, f5, f6]; by_cases q1 : g 6 = 10 <;> simp [q1, Int32.add_assoc]
  | 8, _ => simp +decide [own_lc, own_cnt, f0, f1, f2, f3, f4, f5, f6, f7]; by_cases q1 : g 7 = 10 <;> simp [q1, Int32.add_assoc]
theorem ef_0 (m : MethodId) (len : Int32) (q : Int64) (nl : Int32) : entryFrame m #[(.int len), (.long q), (.int nl)] maxLocals = mkF m 0 #[.val (.int len), .val (.long q), .second, .val (.int nl), .unset, .unset, .unset] [] := by first | (simp [entryFrame, mkF, argsToLocals, Value.category, maxLocals]; done) | rfl
set_option maxRecDepth 65536 in
set_option maxHeartbeats 40000000 in
theorem rm0 (l : Launch) (Z : State) (a0 : Array Value) (hw : ∀ d ∈ tables_1, d.before a0 Z = true) (ws : List Jvm.Cond) (len : Int32) (q : Int64) (nl : Int32) (h0 : Heap) (n0 : Nat) (Z0 : n0 ≤ h0.size) :
    MetFree l x (head1 (Jvm.Cond.code x code maxLocals ret :: ws) room_1) (fun ar_ U => ar_ = #[(.int len), (.long q), (.int nl)] ∧ Z.Warmed39 U.vm ∧ U.heap = h0) (fun _ _ _ _ _ => True) (fun _ U o U' => ∃ v L, o = .returned v ∧ (v = some (.int (1 : Int32)) ∧ Fr n0 L) ∧ FrameEnd U o U' L room_1.cells room_1.slots) := by
  refine MetFree.of_bodySF (plainFor_of_name pn_0) hisR ?_
  intro p e s m args below meth c s₁ Bd hml0 hP hK
  obtain ⟨rfl, hZ, hh⟩ := hP
  have hx := Bd.exec
  have hby := Bd.bytes
  have hml : c.maxLocals = 7 := hml0
  have hown : s.vm.findClass "com/example/pathline/pathline/bench/TimeCommandLineCountPinLaw" = some m.cls := findClass_of_methodNamed Bd.named
  have hnm := (name_of_methodNamed Bd.named Bd.method).1
  have X0 : Stand p l e room_1 s m #[(.int len), (.long q), (.int nl)] below meth c s₁ [] 0 0 := Stand.of_body Bd
  have e0 : s₁.heap = h0 := by rw [← hh, Bd.state]; rfl
  have pre0 : ∀ t, Steps p.tables e below (s₁.setTop (mkF m 0 #[.val (.int len), .val (.long q), .second, .val (.int nl), .unset, .unset, .unset] [])) t → Steps p.tables e below (s₁.setTop (entryFrame m #[(.int len), (.long q), (.int nl)] maxLocals)) t := fun t_ k_ => castTop (ef_0 m len q nl) k_
  have N0 := Fr.nil n0
  obtain ⟨n, hn8, hm⟩ := own_len9 len
  obtain ⟨T1, h1, k1, X1, e1, E1, A1, st1⟩ := newP X0 hx hZ (hw _ (List.mem_of_getElem? (i := 1) rfl)) e0 (g := (mkF m 11 #[.val (.int len), .val (.long q), .second, .val (.int nl), .val (.int (Int32.ofNat n)), .unset, .unset] [(.int (Int32.ofNat n))])) rfl (hb hby at_11) rfl (own_nn (by omega)) (cap := 8) (by rw [own_n32 (by omega)]; exact hn8) (by decide) (by decide) (by decide)
  obtain ⟨b, gb⟩ : ∃ z, z = h0.size := ⟨_, rfl⟩
  rw [← gb] at A1 st1
  have g : n0 ≤ b := Nat.le_trans Z0 (Nat.le_of_eq gb.symm)
  have V1 : Iar Z h1 b .byte n (own_f q nl 0) := (Iar.new A1 rfl (by omega) rfl rfl).congr fun j hj => (if_neg (by omega)).symm
  obtain ⟨TS0, hS0, LS0, XS0, eS0, NS0, VS0, stS0⟩ := seg0 len q nl n b n0 X1 hx hZ hw hby hml hown e1 V1 g N0
  obtain ⟨TS1, hS1, LS1, XS1, eS1, NS1, VS1, stS1⟩ := seg1 len q nl n b n0 XS0 hx hZ hw hby hml hown eS0 VS0 g NS0
  obtain ⟨TS2, hS2, LS2, XS2, eS2, NS2, VS2, stS2⟩ := seg2 len q nl n b n0 XS1 hx hZ hw hby hml hown eS1 VS1 g NS1
  obtain ⟨TS3, hS3, LS3, XS3, eS3, NS3, VS3, stS3⟩ := seg3 len q nl n b n0 XS2 hx hZ hw hby hml hown eS2 VS2 g NS2
  obtain ⟨TS4, hS4, LS4, XS4, eS4, NS4, VS4, stS4⟩ := seg4 len q nl n b n0 XS3 hx hZ hw hby hml hown eS3 VS3 g NS3
  obtain ⟨TS5, hS5, LS5, XS5, eS5, NS5, VS5, stS5⟩ := seg5 len q nl n b n0 XS4 hx hZ hw hby hml hown eS4 VS4 g NS4
  obtain ⟨TS6, hS6, LS6, XS6, eS6, NS6, VS6, stS6⟩ := seg6 len q nl n b n0 XS5 hx hZ hw hby hml hown eS5 VS5 g NS5
  obtain ⟨TS7, hS7, LS7, XS7, eS7, NS7, VS7, stS7⟩ := seg7 len q nl n b n0 XS6 hx hZ hw hby hml hown eS6 VS6 g NS6
  obtain ⟨T2, X2, e2, st2⟩ := own_callR XS7 hx hZ hown (hw _ (List.mem_of_getElem? (i := 2) rfl)) (hw _ (List.mem_of_getElem? (i := 3) rfl)) (hw _ (List.mem_of_getElem? (i := 4) rfl)) (hw _ (List.mem_of_getElem? (i := 5) rfl)) (by decide) (W := 0) (as' := [(.long q), (.int nl), (.int (Int32.ofNat n)), (.int (0 : Int32))]) (F := (.int (own_ends q nl (Int32.ofNat n) (0 : Int32)))) (rm_ends l Z a0 hw [] q nl (Int32.ofNat n) (0 : Int32) hS7) rfl rfl (by decide) (by decide) (by decide) (by decide) eS7 (g := (mkF m 153 #[.val (.int len), .val (.long q), .second, .val (.int nl), .val (.int (Int32.ofNat n)), .val (.ref b), .unset] [(.int (0 : Int32)), (.int (Int32.ofNat n)), (.int nl), (.long q)])) rfl (by rw [hml]; rfl) (lenOf pd_1 rfl) (rest := []) rfl (Nat.le_of_eq rfl) (hb hby at_153)
  obtain ⟨T3, X3, e3, st3⟩ := own_callR X2 hx hZ hown (hw _ (List.mem_of_getElem? (i := 2) rfl)) (hw _ (List.mem_of_getElem? (i := 3) rfl)) (hw _ (List.mem_of_getElem? (i := 4) rfl)) (hw _ (List.mem_of_getElem? (i := 5) rfl)) (by decide) (W := 1) (as' := [(.long q), (.int nl), (.int (Int32.ofNat n)), (.int (1 : Int32))]) (F := (.int (own_ends q nl (Int32.ofNat n) (1 : Int32)))) (rm_ends l Z a0 hw [] q nl (Int32.ofNat n) (1 : Int32) hS7) rfl rfl (by decide) (by decide) (by decide) (by decide) e2 (g := (mkF m 161 #[.val (.int len), .val (.long q), .second, .val (.int nl), .val (.int (Int32.ofNat n)), .val (.ref b), .unset] [(.int (1 : Int32)), (.int (Int32.ofNat n)), (.int nl), (.long q), (.int (own_ends q nl (Int32.ofNat n) (0 : Int32)))])) rfl (by rw [hml]; rfl) (lenOf pd_1 rfl) (rest := [(.int (own_ends q nl (Int32.ofNat n) (0 : Int32)))]) rfl (Nat.le_of_eq rfl) (hb hby at_161)
  obtain ⟨T4, X4, e4, st4⟩ := own_callR X3 hx hZ hown (hw _ (List.mem_of_getElem? (i := 2) rfl)) (hw _ (List.mem_of_getElem? (i := 3) rfl)) (hw _ (List.mem_of_getElem? (i := 4) rfl)) (hw _ (List.mem_of_getElem? (i := 5) rfl)) (by decide) (W := 1) (as' := [(.long q), (.int nl), (.int (Int32.ofNat n)), (.int (2 : Int32))]) (F := (.int (own_ends q nl (Int32.ofNat n) (2 : Int32)))) (rm_ends l Z a0 hw [] q nl (Int32.ofNat n) (2 : Int32) hS7) rfl rfl (by decide) (by decide) (by decide) (by decide) e3 (g := (mkF m 170 #[.val (.int len), .val (.long q), .second, .val (.int nl), .val (.int (Int32.ofNat n)), .val (.ref b), .unset] [(.int (2 : Int32)), (.int (Int32.ofNat n)), (.int nl), (.long q), (.int ((own_ends q nl (Int32.ofNat n) (0 : Int32)) + (own_ends q nl (Int32.ofNat n) (1 : Int32))))])) rfl (by rw [hml]; rfl) (lenOf pd_1 rfl) (rest := [(.int ((own_ends q nl (Int32.ofNat n) (0 : Int32)) + (own_ends q nl (Int32.ofNat n) (1 : Int32))))]) rfl (Nat.le_of_eq rfl) (hb hby at_170)
  obtain ⟨T5, X5, e5, st5⟩ := own_callR X4 hx hZ hown (hw _ (List.mem_of_getElem? (i := 2) rfl)) (hw _ (List.mem_of_getElem? (i := 3) rfl)) (hw _ (List.mem_of_getElem? (i := 4) rfl)) (hw _ (List.mem_of_getElem? (i := 5) rfl)) (by decide) (W := 1) (as' := [(.long q), (.int nl), (.int (Int32.ofNat n)), (.int (3 : Int32))]) (F := (.int (own_ends q nl (Int32.ofNat n) (3 : Int32)))) (rm_ends l Z a0 hw [] q nl (Int32.ofNat n) (3 : Int32) hS7) rfl rfl (by decide) (by decide) (by decide) (by decide) e4 (g := (mkF m 179 #[.val (.int len), .val (.long q), .second, .val (.int nl), .val (.int (Int32.ofNat n)), .val (.ref b), .unset] [(.int (3 : Int32)), (.int (Int32.ofNat n)), (.int nl), (.long q), (.int (((own_ends q nl (Int32.ofNat n) (0 : Int32)) + (own_ends q nl (Int32.ofNat n) (1 : Int32))) + (own_ends q nl (Int32.ofNat n) (2 : Int32))))])) rfl (by rw [hml]; rfl) (lenOf pd_1 rfl) (rest := [(.int (((own_ends q nl (Int32.ofNat n) (0 : Int32)) + (own_ends q nl (Int32.ofNat n) (1 : Int32))) + (own_ends q nl (Int32.ofNat n) (2 : Int32))))]) rfl (Nat.le_of_eq rfl) (hb hby at_179)
  obtain ⟨T6, X6, e6, st6⟩ := own_callR X5 hx hZ hown (hw _ (List.mem_of_getElem? (i := 2) rfl)) (hw _ (List.mem_of_getElem? (i := 3) rfl)) (hw _ (List.mem_of_getElem? (i := 4) rfl)) (hw _ (List.mem_of_getElem? (i := 5) rfl)) (by decide) (W := 1) (as' := [(.long q), (.int nl), (.int (Int32.ofNat n)), (.int (4 : Int32))]) (F := (.int (own_ends q nl (Int32.ofNat n) (4 : Int32)))) (rm_ends l Z a0 hw [] q nl (Int32.ofNat n) (4 : Int32) hS7) rfl rfl (by decide) (by decide) (by decide) (by decide) e5 (g := (mkF m 188 #[.val (.int len), .val (.long q), .second, .val (.int nl), .val (.int (Int32.ofNat n)), .val (.ref b), .unset] [(.int (4 : Int32)), (.int (Int32.ofNat n)), (.int nl), (.long q), (.int ((((own_ends q nl (Int32.ofNat n) (0 : Int32)) + (own_ends q nl (Int32.ofNat n) (1 : Int32))) + (own_ends q nl (Int32.ofNat n) (2 : Int32))) + (own_ends q nl (Int32.ofNat n) (3 : Int32))))])) rfl (by rw [hml]; rfl) (lenOf pd_1 rfl) (rest := [(.int ((((own_ends q nl (Int32.ofNat n) (0 : Int32)) + (own_ends q nl (Int32.ofNat n) (1 : Int32))) + (own_ends q nl (Int32.ofNat n) (2 : Int32))) + (own_ends q nl (Int32.ofNat n) (3 : Int32))))]) rfl (Nat.le_of_eq rfl) (hb hby at_188)
  obtain ⟨T7, X7, e7, st7⟩ := own_callR X6 hx hZ hown (hw _ (List.mem_of_getElem? (i := 2) rfl)) (hw _ (List.mem_of_getElem? (i := 3) rfl)) (hw _ (List.mem_of_getElem? (i := 4) rfl)) (hw _ (List.mem_of_getElem? (i := 5) rfl)) (by decide) (W := 1) (as' := [(.long q), (.int nl), (.int (Int32.ofNat n)), (.int (5 : Int32))]) (F := (.int (own_ends q nl (Int32.ofNat n) (5 : Int32)))) (rm_ends l Z a0 hw [] q nl (Int32.ofNat n) (5 : Int32) hS7) rfl rfl (by decide) (by decide) (by decide) (by decide) e6 (g := (mkF m 197 #[.val (.int len), .val (.long q), .second, .val (.int nl), .val (.int (Int32.ofNat n)), .val (.ref b), .unset] [(.int (5 : Int32)), (.int (Int32.ofNat n)), (.int nl), (.long q), (.int (((((own_ends q nl (Int32.ofNat n) (0 : Int32)) + (own_ends q nl (Int32.ofNat n) (1 : Int32))) + (own_ends q nl (Int32.ofNat n) (2 : Int32))) + (own_ends q nl (Int32.ofNat n) (3 : Int32))) + (own_ends q nl (Int32.ofNat n) (4 : Int32))))])) rfl (by rw [hml]; rfl) (lenOf pd_1 rfl) (rest := [(.int (((((own_ends q nl (Int32.ofNat n) (0 : Int32)) + (own_ends q nl (Int32.ofNat n) (1 : Int32))) + (own_ends q nl (Int32.ofNat n) (2 : Int32))) + (own_ends q nl (Int32.ofNat n) (3 : Int32))) + (own_ends q nl (Int32.ofNat n) (4 : Int32))))]) rfl (Nat.le_of_eq rfl) (hb hby at_197)
  obtain ⟨T8, X8, e8, st8⟩ := own_callR X7 hx hZ hown (hw _ (List.mem_of_getElem? (i := 2) rfl)) (hw _ (List.mem_of_getElem? (i := 3) rfl)) (hw _ (List.mem_of_getElem? (i := 4) rfl)) (hw _ (List.mem_of_getElem? (i := 5) rfl)) (by decide) (W := 1) (as' := [(.long q), (.int nl), (.int (Int32.ofNat n)), (.int (6 : Int32))]) (F := (.int (own_ends q nl (Int32.ofNat n) (6 : Int32)))) (rm_ends l Z a0 hw [] q nl (Int32.ofNat n) (6 : Int32) hS7) rfl rfl (by decide) (by decide) (by decide) (by decide) e7 (g := (mkF m 207 #[.val (.int len), .val (.long q), .second, .val (.int nl), .val (.int (Int32.ofNat n)), .val (.ref b), .unset] [(.int (6 : Int32)), (.int (Int32.ofNat n)), (.int nl), (.long q), (.int ((((((own_ends q nl (Int32.ofNat n) (0 : Int32)) + (own_ends q nl (Int32.ofNat n) (1 : Int32))) + (own_ends q nl (Int32.ofNat n) (2 : Int32))) + (own_ends q nl (Int32.ofNat n) (3 : Int32))) + (own_ends q nl (Int32.ofNat n) (4 : Int32))) + (own_ends q nl (Int32.ofNat n) (5 : Int32))))])) rfl (by rw [hml]; rfl) (lenOf pd_1 rfl) (rest := [(.int ((((((own_ends q nl (Int32.ofNat n) (0 : Int32)) + (own_ends q nl (Int32.ofNat n) (1 : Int32))) + (own_ends q nl (Int32.ofNat n) (2 : Int32))) + (own_ends q nl (Int32.ofNat n) (3 : Int32))) + (own_ends q nl (Int32.ofNat n) (4 : Int32))) + (own_ends q nl (Int32.ofNat n) (5 : Int32))))]) rfl (Nat.le_of_eq rfl) (hb hby at_207)
  obtain ⟨T9, X9, e9, st9⟩ := own_callR X8 hx hZ hown (hw _ (List.mem_of_getElem? (i := 2) rfl)) (hw _ (List.mem_of_getElem? (i := 3) rfl)) (hw _ (List.mem_of_getElem? (i := 4) rfl)) (hw _ (List.mem_of_getElem? (i := 5) rfl)) (by decide) (W := 1) (as' := [(.long q), (.int nl), (.int (Int32.ofNat n)), (.int (7 : Int32))]) (F := (.int (own_ends q nl (Int32.ofNat n) (7 : Int32)))) (rm_ends l Z a0 hw [] q nl (Int32.ofNat n) (7 : Int32) hS7) rfl rfl (by decide) (by decide) (by decide) (by decide) e8 (g := (mkF m 217 #[.val (.int len), .val (.long q), .second, .val (.int nl), .val (.int (Int32.ofNat n)), .val (.ref b), .unset] [(.int (7 : Int32)), (.int (Int32.ofNat n)), (.int nl), (.long q), (.int (((((((own_ends q nl (Int32.ofNat n) (0 : Int32)) + (own_ends q nl (Int32.ofNat n) (1 : Int32))) + (own_ends q nl (Int32.ofNat n) (2 : Int32))) + (own_ends q nl (Int32.ofNat n) (3 : Int32))) + (own_ends q nl (Int32.ofNat n) (4 : Int32))) + (own_ends q nl (Int32.ofNat n) (5 : Int32))) + (own_ends q nl (Int32.ofNat n) (6 : Int32))))])) rfl (by rw [hml]; rfl) (lenOf pd_1 rfl) (rest := [(.int (((((((own_ends q nl (Int32.ofNat n) (0 : Int32)) + (own_ends q nl (Int32.ofNat n) (1 : Int32))) + (own_ends q nl (Int32.ofNat n) (2 : Int32))) + (own_ends q nl (Int32.ofNat n) (3 : Int32))) + (own_ends q nl (Int32.ofNat n) (4 : Int32))) + (own_ends q nl (Int32.ofNat n) (5 : Int32))) + (own_ends q nl (Int32.ofNat n) (6 : Int32))))]) rfl (Nat.le_of_eq rfl) (hb hby at_217)
  obtain ⟨T10, X10, e10, st10⟩ := own_callR X9 hx hZ hown (hw _ (List.mem_of_getElem? (i := 6) rfl)) (hw _ (List.mem_of_getElem? (i := 7) rfl)) (hw _ (List.mem_of_getElem? (i := 8) rfl)) (hw _ (List.mem_of_getElem? (i := 9) rfl)) (by decide) (W := 0) (as' := [(.ref b)]) (F := (.int (own_lc (own_f q nl 8) n))) (rm_lc l Z a0 hw [] b n (own_f q nl 8) hS7 VS7) rfl rfl (by decide) (by decide) (by decide) (by decide) e9 (g := (mkF m 225 #[.val (.int len), .val (.long q), .second, .val (.int nl), .val (.int (Int32.ofNat n)), .val (.ref b), .val (.int ((((((((own_ends q nl (Int32.ofNat n) (0 : Int32)) + (own_ends q nl (Int32.ofNat n) (1 : Int32))) + (own_ends q nl (Int32.ofNat n) (2 : Int32))) + (own_ends q nl (Int32.ofNat n) (3 : Int32))) + (own_ends q nl (Int32.ofNat n) (4 : Int32))) + (own_ends q nl (Int32.ofNat n) (5 : Int32))) + (own_ends q nl (Int32.ofNat n) (6 : Int32))) + (own_ends q nl (Int32.ofNat n) (7 : Int32))))] [(.ref b)])) rfl (by rw [hml]; rfl) (lenOf pd_2 rfl) (rest := []) rfl (Nat.le_of_eq rfl) (hb hby at_225)
  obtain ⟨fs, hr, hrun, hended, hW, hsame⟩ := X10.leave (v := some (.int (1 : Int32))) (fun h => by rw [Bd.returns] at h; cases h)
  refine ⟨_, _, pre0 _ ?_, hrun, hended, _, _, rfl, ?_, ⟨_, rfl⟩, hW, hsame.mono (by decide) (by decide)⟩
  · show Steps p.tables e below (s₁.setTop (mkF m 0 #[.val (.int len), .val (.long q), .second, .val (.int nl), .unset, .unset, .unset] [])) _
    refine XS.iloadN X0.here hx rfl (hb hby at_0) rfl ?_
    show Steps p.tables e below (s₁.setTop (mkF m 1 #[.val (.int len), .val (.long q), .second, .val (.int nl), .unset, .unset, .unset] [(.int len)])) _
    refine X0.ldcInt hx hown (mvT hZ (hw _ (List.mem_of_getElem? (i := 0) rfl))) (g := (mkF m 1 #[.val (.int len), .val (.long q), .second, .val (.int nl), .unset, .unset, .unset] [(.int len)])) rfl (hb hby at_1) _ ?_
    show Steps p.tables e below (s₁.setTop (mkF m 3 #[.val (.int len), .val (.long q), .second, .val (.int nl), .unset, .unset, .unset] [(.int (2147483647 : Int32)), (.int len)])) _
    refine XS.iand X0.here hx rfl (hb hby at_3) rfl ?_
    show Steps p.tables e below (s₁.setTop (mkF m 4 #[.val (.int len), .val (.long q), .second, .val (.int nl), .unset, .unset, .unset] [(.int (len &&& (2147483647 : Int32)))])) _
    refine XS.bipush X0.here hx rfl (hb hby at_4) ?_
    show Steps p.tables e below (s₁.setTop (mkF m 6 #[.val (.int len), .val (.long q), .second, .val (.int nl), .unset, .unset, .unset] [(.int (9 : Int32)), (.int (len &&& (2147483647 : Int32)))])) _
    refine iremM X0 hx rfl (hb hby at_6) rfl (by decide) ?_
    show Steps p.tables e below (s₁.setTop (mkF m 7 #[.val (.int len), .val (.long q), .second, .val (.int nl), .unset, .unset, .unset] [(.int ((len &&& (2147483647 : Int32)) % (9 : Int32)))])) _
    rw [hm]
    show Steps p.tables e below (s₁.setTop (mkF m 7 #[.val (.int len), .val (.long q), .second, .val (.int nl), .unset, .unset, .unset] [(.int (Int32.ofNat n))])) _
    refine XS.istore X0.here hx rfl (hb hby at_7) rfl (l' := #[.val (.int len), .val (.long q), .second, .val (.int nl), .val (.int (Int32.ofNat n)), .unset, .unset]) rfl ?_
    show Steps p.tables e below (s₁.setTop (mkF m 9 #[.val (.int len), .val (.long q), .second, .val (.int nl), .val (.int (Int32.ofNat n)), .unset, .unset] [])) _
    refine XS.iload X0.here hx rfl (hb hby at_9) rfl ?_
    show Steps p.tables e below (s₁.setTop (mkF m 11 #[.val (.int len), .val (.long q), .second, .val (.int nl), .val (.int (Int32.ofNat n)), .unset, .unset] [(.int (Int32.ofNat n))])) _
    refine st1 _ ?_
    show Steps p.tables e below (T1.setTop (mkF m 13 #[.val (.int len), .val (.long q), .second, .val (.int nl), .val (.int (Int32.ofNat n)), .unset, .unset] [(.ref b)])) _
    refine XS.astore X1.here hx rfl (hb hby at_13) rfl rfl (l' := #[.val (.int len), .val (.long q), .second, .val (.int nl), .val (.int (Int32.ofNat n)), .val (.ref b), .unset]) rfl ?_
    show Steps p.tables e below (T1.setTop (mkF m 15 #[.val (.int len), .val (.long q), .second, .val (.int nl), .val (.int (Int32.ofNat n)), .val (.ref b), .unset] [])) _
    refine stS0 _ ?_
    show Steps p.tables e below (TS0.setTop (mkF m 30 #[.val (.int len), .val (.long q), .second, .val (.int nl), .val (.int (Int32.ofNat n)), .val (.ref b), .unset] [])) _
    refine stS1 _ ?_
    show Steps p.tables e below (TS1.setTop (mkF m 46 #[.val (.int len), .val (.long q), .second, .val (.int nl), .val (.int (Int32.ofNat n)), .val (.ref b), .unset] [])) _
    refine stS2 _ ?_
    show Steps p.tables e below (TS2.setTop (mkF m 62 #[.val (.int len), .val (.long q), .second, .val (.int nl), .val (.int (Int32.ofNat n)), .val (.ref b), .unset] [])) _
    refine stS3 _ ?_
    show Steps p.tables e below (TS3.setTop (mkF m 78 #[.val (.int len), .val (.long q), .second, .val (.int nl), .val (.int (Int32.ofNat n)), .val (.ref b), .unset] [])) _
    refine stS4 _ ?_
    show Steps p.tables e below (TS4.setTop (mkF m 94 #[.val (.int len), .val (.long q), .second, .val (.int nl), .val (.int (Int32.ofNat n)), .val (.ref b), .unset] [])) _
    refine stS5 _ ?_
    show Steps p.tables e below (TS5.setTop (mkF m 110 #[.val (.int len), .val (.long q), .second, .val (.int nl), .val (.int (Int32.ofNat n)), .val (.ref b), .unset] [])) _
    refine stS6 _ ?_
    show Steps p.tables e below (TS6.setTop (mkF m 129 #[.val (.int len), .val (.long q), .second, .val (.int nl), .val (.int (Int32.ofNat n)), .val (.ref b), .unset] [])) _
    refine stS7 _ ?_
    show Steps p.tables e below (TS7.setTop (mkF m 148 #[.val (.int len), .val (.long q), .second, .val (.int nl), .val (.int (Int32.ofNat n)), .val (.ref b), .unset] [])) _
    refine XS.lloadN XS7.here hx rfl (hb hby at_148) rfl ?_
    show Steps p.tables e below (TS7.setTop (mkF m 149 #[.val (.int len), .val (.long q), .second, .val (.int nl), .val (.int (Int32.ofNat n)), .val (.ref b), .unset] [(.long q)])) _
    refine XS.iloadN XS7.here hx rfl (hb hby at_149) rfl ?_
    show Steps p.tables e below (TS7.setTop (mkF m 150 #[.val (.int len), .val (.long q), .second, .val (.int nl), .val (.int (Int32.ofNat n)), .val (.ref b), .unset] [(.int nl), (.long q)])) _
    refine XS.iload XS7.here hx rfl (hb hby at_150) rfl ?_
    show Steps p.tables e below (TS7.setTop (mkF m 152 #[.val (.int len), .val (.long q), .second, .val (.int nl), .val (.int (Int32.ofNat n)), .val (.ref b), .unset] [(.int (Int32.ofNat n)), (.int nl), (.long q)])) _
    refine XS.iconst XS7.here hx rfl (hb hby at_152) ?_
    show Steps p.tables e below (TS7.setTop (mkF m 153 #[.val (.int len), .val (.long q), .second, .val (.int nl), .val (.int (Int32.ofNat n)), .val (.ref b), .unset] [(.int (0 : Int32)), (.int (Int32.ofNat n)), (.int nl), (.long q)])) _
    refine st2 _ ?_
    show Steps p.tables e below (T2.setTop (mkF m 156 #[.val (.int len), .val (.long q), .second, .val (.int nl), .val (.int (Int32.ofNat n)), .val (.ref b), .unset] [(.int (own_ends q nl (Int32.ofNat n) (0 : Int32)))])) _
    refine XS.lloadN X2.here hx rfl (hb hby at_156) rfl ?_
    show Steps p.tables e below (T2.setTop (mkF m 157 #[.val (.int len), .val (.long q), .second, .val (.int nl), .val (.int (Int32.ofNat n)), .val (.ref b), .unset] [(.long q), (.int (own_ends q nl (Int32.ofNat n) (0 : Int32)))])) _
    refine XS.iloadN X2.here hx rfl (hb hby at_157) rfl ?_
    show Steps p.tables e below (T2.setTop (mkF m 158 #[.val (.int len), .val (.long q), .second, .val (.int nl), .val (.int (Int32.ofNat n)), .val (.ref b), .unset] [(.int nl), (.long q), (.int (own_ends q nl (Int32.ofNat n) (0 : Int32)))])) _
    refine XS.iload X2.here hx rfl (hb hby at_158) rfl ?_
    show Steps p.tables e below (T2.setTop (mkF m 160 #[.val (.int len), .val (.long q), .second, .val (.int nl), .val (.int (Int32.ofNat n)), .val (.ref b), .unset] [(.int (Int32.ofNat n)), (.int nl), (.long q), (.int (own_ends q nl (Int32.ofNat n) (0 : Int32)))])) _
    refine XS.iconst X2.here hx rfl (hb hby at_160) ?_
    show Steps p.tables e below (T2.setTop (mkF m 161 #[.val (.int len), .val (.long q), .second, .val (.int nl), .val (.int (Int32.ofNat n)), .val (.ref b), .unset] [(.int (1 : Int32)), (.int (Int32.ofNat n)), (.int nl), (.long q), (.int (own_ends q nl (Int32.ofNat n) (0 : Int32)))])) _
    refine st3 _ ?_
    show Steps p.tables e below (T3.setTop (mkF m 164 #[.val (.int len), .val (.long q), .second, .val (.int nl), .val (.int (Int32.ofNat n)), .val (.ref b), .unset] [(.int (own_ends q nl (Int32.ofNat n) (1 : Int32))), (.int (own_ends q nl (Int32.ofNat n) (0 : Int32)))])) _
    refine XS.iadd X3.here hx rfl (hb hby at_164) rfl ?_
    show Steps p.tables e below (T3.setTop (mkF m 165 #[.val (.int len), .val (.long q), .second, .val (.int nl), .val (.int (Int32.ofNat n)), .val (.ref b), .unset] [(.int ((own_ends q nl (Int32.ofNat n) (0 : Int32)) + (own_ends q nl (Int32.ofNat n) (1 : Int32))))])) _
    refine XS.lloadN X3.here hx rfl (hb hby at_165) rfl ?_
    show Steps p.tables e below (T3.setTop (mkF m 166 #[.val (.int len), .val (.long q), .second, .val (.int nl), .val (.int (Int32.ofNat n)), .val (.ref b), .unset] [(.long q), (.int ((own_ends q nl (Int32.ofNat n) (0 : Int32)) + (own_ends q nl (Int32.ofNat n) (1 : Int32))))])) _
    refine XS.iloadN X3.here hx rfl (hb hby at_166) rfl ?_
    show Steps p.tables e below (T3.setTop (mkF m 167 #[.val (.int len), .val (.long q), .second, .val (.int nl), .val (.int (Int32.ofNat n)), .val (.ref b), .unset] [(.int nl), (.long q), (.int ((own_ends q nl (Int32.ofNat n) (0 : Int32)) + (own_ends q nl (Int32.ofNat n) (1 : Int32))))])) _
    refine XS.iload X3.here hx rfl (hb hby at_167) rfl ?_
    show Steps p.tables e below (T3.setTop (mkF m 169 #[.val (.int len), .val (.long q), .second, .val (.int nl), .val (.int (Int32.ofNat n)), .val (.ref b), .unset] [(.int (Int32.ofNat n)), (.int nl), (.long q), (.int ((own_ends q nl (Int32.ofNat n) (0 : Int32)) + (own_ends q nl (Int32.ofNat n) (1 : Int32))))])) _
    refine XS.iconst X3.here hx rfl (hb hby at_169) ?_
    show Steps p.tables e below (T3.setTop (mkF m 170 #[.val (.int len), .val (.long q), .second, .val (.int nl), .val (.int (Int32.ofNat n)), .val (.ref b), .unset] [(.int (2 : Int32)), (.int (Int32.ofNat n)), (.int nl), (.long q), (.int ((own_ends q nl (Int32.ofNat n) (0 : Int32)) + (own_ends q nl (Int32.ofNat n) (1 : Int32))))])) _
    refine st4 _ ?_
    show Steps p.tables e below (T4.setTop (mkF m 173 #[.val (.int len), .val (.long q), .second, .val (.int nl), .val (.int (Int32.ofNat n)), .val (.ref b), .unset] [(.int (own_ends q nl (Int32.ofNat n) (2 : Int32))), (.int ((own_ends q nl (Int32.ofNat n) (0 : Int32)) + (own_ends q nl (Int32.ofNat n) (1 : Int32))))])) _
    refine XS.iadd X4.here hx rfl (hb hby at_173) rfl ?_
    show Steps p.tables e below (T4.setTop (mkF m 174 #[.val (.int len), .val (.long q), .second, .val (.int nl), .val (.int (Int32.ofNat n)), .val (.ref b), .unset] [(.int (((own_ends q nl (Int32.ofNat n) (0 : Int32)) + (own_ends q nl (Int32.ofNat n) (1 : Int32))) + (own_ends q nl (Int32.ofNat n) (2 : Int32))))])) _
    refine XS.lloadN X4.here hx rfl (hb hby at_174) rfl ?_
    show Steps p.tables e below (T4.setTop (mkF m 175 #[.val (.int len), .val (.long q), .second, .val (.int nl), .val (.int (Int32.ofNat n)), .val (.ref b), .unset] [(.long q), (.int (((own_ends q nl (Int32.ofNat n) (0 : Int32)) + (own_ends q nl (Int32.ofNat n) (1 : Int32))) + (own_ends q nl (Int32.ofNat n) (2 : Int32))))])) _
    refine XS.iloadN X4.here hx rfl (hb hby at_175) rfl ?_
    show Steps p.tables e below (T4.setTop (mkF m 176 #[.val (.int len), .val (.long q), .second, .val (.int nl), .val (.int (Int32.ofNat n)), .val (.ref b), .unset] [(.int nl), (.long q), (.int (((own_ends q nl (Int32.ofNat n) (0 : Int32)) + (own_ends q nl (Int32.ofNat n) (1 : Int32))) + (own_ends q nl (Int32.ofNat n) (2 : Int32))))])) _
    refine XS.iload X4.here hx rfl (hb hby at_176) rfl ?_
    show Steps p.tables e below (T4.setTop (mkF m 178 #[.val (.int len), .val (.long q), .second, .val (.int nl), .val (.int (Int32.ofNat n)), .val (.ref b), .unset] [(.int (Int32.ofNat n)), (.int nl), (.long q), (.int (((own_ends q nl (Int32.ofNat n) (0 : Int32)) + (own_ends q nl (Int32.ofNat n) (1 : Int32))) + (own_ends q nl (Int32.ofNat n) (2 : Int32))))])) _
    refine XS.iconst X4.here hx rfl (hb hby at_178) ?_
    show Steps p.tables e below (T4.setTop (mkF m 179 #[.val (.int len), .val (.long q), .second, .val (.int nl), .val (.int (Int32.ofNat n)), .val (.ref b), .unset] [(.int (3 : Int32)), (.int (Int32.ofNat n)), (.int nl), (.long q), (.int (((own_ends q nl (Int32.ofNat n) (0 : Int32)) + (own_ends q nl (Int32.ofNat n) (1 : Int32))) + (own_ends q nl (Int32.ofNat n) (2 : Int32))))])) _
    refine st5 _ ?_
    show Steps p.tables e below (T5.setTop (mkF m 182 #[.val (.int len), .val (.long q), .second, .val (.int nl), .val (.int (Int32.ofNat n)), .val (.ref b), .unset] [(.int (own_ends q nl (Int32.ofNat n) (3 : Int32))), (.int (((own_ends q nl (Int32.ofNat n) (0 : Int32)) + (own_ends q nl (Int32.ofNat n) (1 : Int32))) + (own_ends q nl (Int32.ofNat n) (2 : Int32))))])) _
    refine XS.iadd X5.here hx rfl (hb hby at_182) rfl ?_
    show Steps p.tables e below (T5.setTop (mkF m 183 #[.val (.int len), .val (.long q), .second, .val (.int nl), .val (.int (Int32.ofNat n)), .val (.ref b), .unset] [(.int ((((own_ends q nl (Int32.ofNat n) (0 : Int32)) + (own_ends q nl (Int32.ofNat n) (1 : Int32))) + (own_ends q nl (Int32.ofNat n) (2 : Int32))) + (own_ends q nl (Int32.ofNat n) (3 : Int32))))])) _
    refine XS.lloadN X5.here hx rfl (hb hby at_183) rfl ?_
    show Steps p.tables e below (T5.setTop (mkF m 184 #[.val (.int len), .val (.long q), .second, .val (.int nl), .val (.int (Int32.ofNat n)), .val (.ref b), .unset] [(.long q), (.int ((((own_ends q nl (Int32.ofNat n) (0 : Int32)) + (own_ends q nl (Int32.ofNat n) (1 : Int32))) + (own_ends q nl (Int32.ofNat n) (2 : Int32))) + (own_ends q nl (Int32.ofNat n) (3 : Int32))))])) _
    refine XS.iloadN X5.here hx rfl (hb hby at_184) rfl ?_
    show Steps p.tables e below (T5.setTop (mkF m 185 #[.val (.int len), .val (.long q), .second, .val (.int nl), .val (.int (Int32.ofNat n)), .val (.ref b), .unset] [(.int nl), (.long q), (.int ((((own_ends q nl (Int32.ofNat n) (0 : Int32)) + (own_ends q nl (Int32.ofNat n) (1 : Int32))) + (own_ends q nl (Int32.ofNat n) (2 : Int32))) + (own_ends q nl (Int32.ofNat n) (3 : Int32))))])) _
    refine XS.iload X5.here hx rfl (hb hby at_185) rfl ?_
    show Steps p.tables e below (T5.setTop (mkF m 187 #[.val (.int len), .val (.long q), .second, .val (.int nl), .val (.int (Int32.ofNat n)), .val (.ref b), .unset] [(.int (Int32.ofNat n)), (.int nl), (.long q), (.int ((((own_ends q nl (Int32.ofNat n) (0 : Int32)) + (own_ends q nl (Int32.ofNat n) (1 : Int32))) + (own_ends q nl (Int32.ofNat n) (2 : Int32))) + (own_ends q nl (Int32.ofNat n) (3 : Int32))))])) _
    refine XS.iconst X5.here hx rfl (hb hby at_187) ?_
    show Steps p.tables e below (T5.setTop (mkF m 188 #[.val (.int len), .val (.long q), .second, .val (.int nl), .val (.int (Int32.ofNat n)), .val (.ref b), .unset] [(.int (4 : Int32)), (.int (Int32.ofNat n)), (.int nl), (.long q), (.int ((((own_ends q nl (Int32.ofNat n) (0 : Int32)) + (own_ends q nl (Int32.ofNat n) (1 : Int32))) + (own_ends q nl (Int32.ofNat n) (2 : Int32))) + (own_ends q nl (Int32.ofNat n) (3 : Int32))))])) _
    refine st6 _ ?_
    show Steps p.tables e below (T6.setTop (mkF m 191 #[.val (.int len), .val (.long q), .second, .val (.int nl), .val (.int (Int32.ofNat n)), .val (.ref b), .unset] [(.int (own_ends q nl (Int32.ofNat n) (4 : Int32))), (.int ((((own_ends q nl (Int32.ofNat n) (0 : Int32)) + (own_ends q nl (Int32.ofNat n) (1 : Int32))) + (own_ends q nl (Int32.ofNat n) (2 : Int32))) + (own_ends q nl (Int32.ofNat n) (3 : Int32))))])) _
    refine XS.iadd X6.here hx rfl (hb hby at_191) rfl ?_
    show Steps p.tables e below (T6.setTop (mkF m 192 #[.val (.int len), .val (.long q), .second, .val (.int nl), .val (.int (Int32.ofNat n)), .val (.ref b), .unset] [(.int (((((own_ends q nl (Int32.ofNat n) (0 : Int32)) + (own_ends q nl (Int32.ofNat n) (1 : Int32))) + (own_ends q nl (Int32.ofNat n) (2 : Int32))) + (own_ends q nl (Int32.ofNat n) (3 : Int32))) + (own_ends q nl (Int32.ofNat n) (4 : Int32))))])) _
    refine XS.lloadN X6.here hx rfl (hb hby at_192) rfl ?_
    show Steps p.tables e below (T6.setTop (mkF m 193 #[.val (.int len), .val (.long q), .second, .val (.int nl), .val (.int (Int32.ofNat n)), .val (.ref b), .unset] [(.long q), (.int (((((own_ends q nl (Int32.ofNat n) (0 : Int32)) + (own_ends q nl (Int32.ofNat n) (1 : Int32))) + (own_ends q nl (Int32.ofNat n) (2 : Int32))) + (own_ends q nl (Int32.ofNat n) (3 : Int32))) + (own_ends q nl (Int32.ofNat n) (4 : Int32))))])) _
    refine XS.iloadN X6.here hx rfl (hb hby at_193) rfl ?_
    show Steps p.tables e below (T6.setTop (mkF m 194 #[.val (.int len), .val (.long q), .second, .val (.int nl), .val (.int (Int32.ofNat n)), .val (.ref b), .unset] [(.int nl), (.long q), (.int (((((own_ends q nl (Int32.ofNat n) (0 : Int32)) + (own_ends q nl (Int32.ofNat n) (1 : Int32))) + (own_ends q nl (Int32.ofNat n) (2 : Int32))) + (own_ends q nl (Int32.ofNat n) (3 : Int32))) + (own_ends q nl (Int32.ofNat n) (4 : Int32))))])) _
    refine XS.iload X6.here hx rfl (hb hby at_194) rfl ?_
    show Steps p.tables e below (T6.setTop (mkF m 196 #[.val (.int len), .val (.long q), .second, .val (.int nl), .val (.int (Int32.ofNat n)), .val (.ref b), .unset] [(.int (Int32.ofNat n)), (.int nl), (.long q), (.int (((((own_ends q nl (Int32.ofNat n) (0 : Int32)) + (own_ends q nl (Int32.ofNat n) (1 : Int32))) + (own_ends q nl (Int32.ofNat n) (2 : Int32))) + (own_ends q nl (Int32.ofNat n) (3 : Int32))) + (own_ends q nl (Int32.ofNat n) (4 : Int32))))])) _
    refine XS.iconst X6.here hx rfl (hb hby at_196) ?_
    show Steps p.tables e below (T6.setTop (mkF m 197 #[.val (.int len), .val (.long q), .second, .val (.int nl), .val (.int (Int32.ofNat n)), .val (.ref b), .unset] [(.int (5 : Int32)), (.int (Int32.ofNat n)), (.int nl), (.long q), (.int (((((own_ends q nl (Int32.ofNat n) (0 : Int32)) + (own_ends q nl (Int32.ofNat n) (1 : Int32))) + (own_ends q nl (Int32.ofNat n) (2 : Int32))) + (own_ends q nl (Int32.ofNat n) (3 : Int32))) + (own_ends q nl (Int32.ofNat n) (4 : Int32))))])) _
    refine st7 _ ?_
    show Steps p.tables e below (T7.setTop (mkF m 200 #[.val (.int len), .val (.long q), .second, .val (.int nl), .val (.int (Int32.ofNat n)), .val (.ref b), .unset] [(.int (own_ends q nl (Int32.ofNat n) (5 : Int32))), (.int (((((own_ends q nl (Int32.ofNat n) (0 : Int32)) + (own_ends q nl (Int32.ofNat n) (1 : Int32))) + (own_ends q nl (Int32.ofNat n) (2 : Int32))) + (own_ends q nl (Int32.ofNat n) (3 : Int32))) + (own_ends q nl (Int32.ofNat n) (4 : Int32))))])) _
    refine XS.iadd X7.here hx rfl (hb hby at_200) rfl ?_
    show Steps p.tables e below (T7.setTop (mkF m 201 #[.val (.int len), .val (.long q), .second, .val (.int nl), .val (.int (Int32.ofNat n)), .val (.ref b), .unset] [(.int ((((((own_ends q nl (Int32.ofNat n) (0 : Int32)) + (own_ends q nl (Int32.ofNat n) (1 : Int32))) + (own_ends q nl (Int32.ofNat n) (2 : Int32))) + (own_ends q nl (Int32.ofNat n) (3 : Int32))) + (own_ends q nl (Int32.ofNat n) (4 : Int32))) + (own_ends q nl (Int32.ofNat n) (5 : Int32))))])) _
    refine XS.lloadN X7.here hx rfl (hb hby at_201) rfl ?_
    show Steps p.tables e below (T7.setTop (mkF m 202 #[.val (.int len), .val (.long q), .second, .val (.int nl), .val (.int (Int32.ofNat n)), .val (.ref b), .unset] [(.long q), (.int ((((((own_ends q nl (Int32.ofNat n) (0 : Int32)) + (own_ends q nl (Int32.ofNat n) (1 : Int32))) + (own_ends q nl (Int32.ofNat n) (2 : Int32))) + (own_ends q nl (Int32.ofNat n) (3 : Int32))) + (own_ends q nl (Int32.ofNat n) (4 : Int32))) + (own_ends q nl (Int32.ofNat n) (5 : Int32))))])) _
    refine XS.iloadN X7.here hx rfl (hb hby at_202) rfl ?_
    show Steps p.tables e below (T7.setTop (mkF m 203 #[.val (.int len), .val (.long q), .second, .val (.int nl), .val (.int (Int32.ofNat n)), .val (.ref b), .unset] [(.int nl), (.long q), (.int ((((((own_ends q nl (Int32.ofNat n) (0 : Int32)) + (own_ends q nl (Int32.ofNat n) (1 : Int32))) + (own_ends q nl (Int32.ofNat n) (2 : Int32))) + (own_ends q nl (Int32.ofNat n) (3 : Int32))) + (own_ends q nl (Int32.ofNat n) (4 : Int32))) + (own_ends q nl (Int32.ofNat n) (5 : Int32))))])) _
    refine XS.iload X7.here hx rfl (hb hby at_203) rfl ?_
    show Steps p.tables e below (T7.setTop (mkF m 205 #[.val (.int len), .val (.long q), .second, .val (.int nl), .val (.int (Int32.ofNat n)), .val (.ref b), .unset] [(.int (Int32.ofNat n)), (.int nl), (.long q), (.int ((((((own_ends q nl (Int32.ofNat n) (0 : Int32)) + (own_ends q nl (Int32.ofNat n) (1 : Int32))) + (own_ends q nl (Int32.ofNat n) (2 : Int32))) + (own_ends q nl (Int32.ofNat n) (3 : Int32))) + (own_ends q nl (Int32.ofNat n) (4 : Int32))) + (own_ends q nl (Int32.ofNat n) (5 : Int32))))])) _
    refine XS.bipush X7.here hx rfl (hb hby at_205) ?_
    show Steps p.tables e below (T7.setTop (mkF m 207 #[.val (.int len), .val (.long q), .second, .val (.int nl), .val (.int (Int32.ofNat n)), .val (.ref b), .unset] [(.int (6 : Int32)), (.int (Int32.ofNat n)), (.int nl), (.long q), (.int ((((((own_ends q nl (Int32.ofNat n) (0 : Int32)) + (own_ends q nl (Int32.ofNat n) (1 : Int32))) + (own_ends q nl (Int32.ofNat n) (2 : Int32))) + (own_ends q nl (Int32.ofNat n) (3 : Int32))) + (own_ends q nl (Int32.ofNat n) (4 : Int32))) + (own_ends q nl (Int32.ofNat n) (5 : Int32))))])) _
    refine st8 _ ?_
    show Steps p.tables e below (T8.setTop (mkF m 210 #[.val (.int len), .val (.long q), .second, .val (.int nl), .val (.int (Int32.ofNat n)), .val (.ref b), .unset] [(.int (own_ends q nl (Int32.ofNat n) (6 : Int32))), (.int ((((((own_ends q nl (Int32.ofNat n) (0 : Int32)) + (own_ends q nl (Int32.ofNat n) (1 : Int32))) + (own_ends q nl (Int32.ofNat n) (2 : Int32))) + (own_ends q nl (Int32.ofNat n) (3 : Int32))) + (own_ends q nl (Int32.ofNat n) (4 : Int32))) + (own_ends q nl (Int32.ofNat n) (5 : Int32))))])) _
    refine XS.iadd X8.here hx rfl (hb hby at_210) rfl ?_
    show Steps p.tables e below (T8.setTop (mkF m 211 #[.val (.int len), .val (.long q), .second, .val (.int nl), .val (.int (Int32.ofNat n)), .val (.ref b), .unset] [(.int (((((((own_ends q nl (Int32.ofNat n) (0 : Int32)) + (own_ends q nl (Int32.ofNat n) (1 : Int32))) + (own_ends q nl (Int32.ofNat n) (2 : Int32))) + (own_ends q nl (Int32.ofNat n) (3 : Int32))) + (own_ends q nl (Int32.ofNat n) (4 : Int32))) + (own_ends q nl (Int32.ofNat n) (5 : Int32))) + (own_ends q nl (Int32.ofNat n) (6 : Int32))))])) _
    refine XS.lloadN X8.here hx rfl (hb hby at_211) rfl ?_
    show Steps p.tables e below (T8.setTop (mkF m 212 #[.val (.int len), .val (.long q), .second, .val (.int nl), .val (.int (Int32.ofNat n)), .val (.ref b), .unset] [(.long q), (.int (((((((own_ends q nl (Int32.ofNat n) (0 : Int32)) + (own_ends q nl (Int32.ofNat n) (1 : Int32))) + (own_ends q nl (Int32.ofNat n) (2 : Int32))) + (own_ends q nl (Int32.ofNat n) (3 : Int32))) + (own_ends q nl (Int32.ofNat n) (4 : Int32))) + (own_ends q nl (Int32.ofNat n) (5 : Int32))) + (own_ends q nl (Int32.ofNat n) (6 : Int32))))])) _
    refine XS.iloadN X8.here hx rfl (hb hby at_212) rfl ?_
    show Steps p.tables e below (T8.setTop (mkF m 213 #[.val (.int len), .val (.long q), .second, .val (.int nl), .val (.int (Int32.ofNat n)), .val (.ref b), .unset] [(.int nl), (.long q), (.int (((((((own_ends q nl (Int32.ofNat n) (0 : Int32)) + (own_ends q nl (Int32.ofNat n) (1 : Int32))) + (own_ends q nl (Int32.ofNat n) (2 : Int32))) + (own_ends q nl (Int32.ofNat n) (3 : Int32))) + (own_ends q nl (Int32.ofNat n) (4 : Int32))) + (own_ends q nl (Int32.ofNat n) (5 : Int32))) + (own_ends q nl (Int32.ofNat n) (6 : Int32))))])) _
    refine XS.iload X8.here hx rfl (hb hby at_213) rfl ?_
    show Steps p.tables e below (T8.setTop (mkF m 215 #[.val (.int len), .val (.long q), .second, .val (.int nl), .val (.int (Int32.ofNat n)), .val (.ref b), .unset] [(.int (Int32.ofNat n)), (.int nl), (.long q), (.int (((((((own_ends q nl (Int32.ofNat n) (0 : Int32)) + (own_ends q nl (Int32.ofNat n) (1 : Int32))) + (own_ends q nl (Int32.ofNat n) (2 : Int32))) + (own_ends q nl (Int32.ofNat n) (3 : Int32))) + (own_ends q nl (Int32.ofNat n) (4 : Int32))) + (own_ends q nl (Int32.ofNat n) (5 : Int32))) + (own_ends q nl (Int32.ofNat n) (6 : Int32))))])) _
    refine XS.bipush X8.here hx rfl (hb hby at_215) ?_
    show Steps p.tables e below (T8.setTop (mkF m 217 #[.val (.int len), .val (.long q), .second, .val (.int nl), .val (.int (Int32.ofNat n)), .val (.ref b), .unset] [(.int (7 : Int32)), (.int (Int32.ofNat n)), (.int nl), (.long q), (.int (((((((own_ends q nl (Int32.ofNat n) (0 : Int32)) + (own_ends q nl (Int32.ofNat n) (1 : Int32))) + (own_ends q nl (Int32.ofNat n) (2 : Int32))) + (own_ends q nl (Int32.ofNat n) (3 : Int32))) + (own_ends q nl (Int32.ofNat n) (4 : Int32))) + (own_ends q nl (Int32.ofNat n) (5 : Int32))) + (own_ends q nl (Int32.ofNat n) (6 : Int32))))])) _
    refine st9 _ ?_
    show Steps p.tables e below (T9.setTop (mkF m 220 #[.val (.int len), .val (.long q), .second, .val (.int nl), .val (.int (Int32.ofNat n)), .val (.ref b), .unset] [(.int (own_ends q nl (Int32.ofNat n) (7 : Int32))), (.int (((((((own_ends q nl (Int32.ofNat n) (0 : Int32)) + (own_ends q nl (Int32.ofNat n) (1 : Int32))) + (own_ends q nl (Int32.ofNat n) (2 : Int32))) + (own_ends q nl (Int32.ofNat n) (3 : Int32))) + (own_ends q nl (Int32.ofNat n) (4 : Int32))) + (own_ends q nl (Int32.ofNat n) (5 : Int32))) + (own_ends q nl (Int32.ofNat n) (6 : Int32))))])) _
    refine XS.iadd X9.here hx rfl (hb hby at_220) rfl ?_
    show Steps p.tables e below (T9.setTop (mkF m 221 #[.val (.int len), .val (.long q), .second, .val (.int nl), .val (.int (Int32.ofNat n)), .val (.ref b), .unset] [(.int ((((((((own_ends q nl (Int32.ofNat n) (0 : Int32)) + (own_ends q nl (Int32.ofNat n) (1 : Int32))) + (own_ends q nl (Int32.ofNat n) (2 : Int32))) + (own_ends q nl (Int32.ofNat n) (3 : Int32))) + (own_ends q nl (Int32.ofNat n) (4 : Int32))) + (own_ends q nl (Int32.ofNat n) (5 : Int32))) + (own_ends q nl (Int32.ofNat n) (6 : Int32))) + (own_ends q nl (Int32.ofNat n) (7 : Int32))))])) _
    refine XS.istore X9.here hx rfl (hb hby at_221) rfl (l' := #[.val (.int len), .val (.long q), .second, .val (.int nl), .val (.int (Int32.ofNat n)), .val (.ref b), .val (.int ((((((((own_ends q nl (Int32.ofNat n) (0 : Int32)) + (own_ends q nl (Int32.ofNat n) (1 : Int32))) + (own_ends q nl (Int32.ofNat n) (2 : Int32))) + (own_ends q nl (Int32.ofNat n) (3 : Int32))) + (own_ends q nl (Int32.ofNat n) (4 : Int32))) + (own_ends q nl (Int32.ofNat n) (5 : Int32))) + (own_ends q nl (Int32.ofNat n) (6 : Int32))) + (own_ends q nl (Int32.ofNat n) (7 : Int32))))]) rfl ?_
    show Steps p.tables e below (T9.setTop (mkF m 223 #[.val (.int len), .val (.long q), .second, .val (.int nl), .val (.int (Int32.ofNat n)), .val (.ref b), .val (.int ((((((((own_ends q nl (Int32.ofNat n) (0 : Int32)) + (own_ends q nl (Int32.ofNat n) (1 : Int32))) + (own_ends q nl (Int32.ofNat n) (2 : Int32))) + (own_ends q nl (Int32.ofNat n) (3 : Int32))) + (own_ends q nl (Int32.ofNat n) (4 : Int32))) + (own_ends q nl (Int32.ofNat n) (5 : Int32))) + (own_ends q nl (Int32.ofNat n) (6 : Int32))) + (own_ends q nl (Int32.ofNat n) (7 : Int32))))] [])) _
    refine XS.aload X9.here hx rfl (hb hby at_223) rfl rfl ?_
    show Steps p.tables e below (T9.setTop (mkF m 225 #[.val (.int len), .val (.long q), .second, .val (.int nl), .val (.int (Int32.ofNat n)), .val (.ref b), .val (.int ((((((((own_ends q nl (Int32.ofNat n) (0 : Int32)) + (own_ends q nl (Int32.ofNat n) (1 : Int32))) + (own_ends q nl (Int32.ofNat n) (2 : Int32))) + (own_ends q nl (Int32.ofNat n) (3 : Int32))) + (own_ends q nl (Int32.ofNat n) (4 : Int32))) + (own_ends q nl (Int32.ofNat n) (5 : Int32))) + (own_ends q nl (Int32.ofNat n) (6 : Int32))) + (own_ends q nl (Int32.ofNat n) (7 : Int32))))] [(.ref b)])) _
    refine st10 _ ?_
    show Steps p.tables e below (T10.setTop (mkF m 228 #[.val (.int len), .val (.long q), .second, .val (.int nl), .val (.int (Int32.ofNat n)), .val (.ref b), .val (.int ((((((((own_ends q nl (Int32.ofNat n) (0 : Int32)) + (own_ends q nl (Int32.ofNat n) (1 : Int32))) + (own_ends q nl (Int32.ofNat n) (2 : Int32))) + (own_ends q nl (Int32.ofNat n) (3 : Int32))) + (own_ends q nl (Int32.ofNat n) (4 : Int32))) + (own_ends q nl (Int32.ofNat n) (5 : Int32))) + (own_ends q nl (Int32.ofNat n) (6 : Int32))) + (own_ends q nl (Int32.ofNat n) (7 : Int32))))] [(.int (own_lc (own_f q nl 8) n))])) _
    refine XS.iload X10.here hx rfl (hb hby at_228) rfl ?_
    show Steps p.tables e below (T10.setTop (mkF m 230 #[.val (.int len), .val (.long q), .second, .val (.int nl), .val (.int (Int32.ofNat n)), .val (.ref b), .val (.int ((((((((own_ends q nl (Int32.ofNat n) (0 : Int32)) + (own_ends q nl (Int32.ofNat n) (1 : Int32))) + (own_ends q nl (Int32.ofNat n) (2 : Int32))) + (own_ends q nl (Int32.ofNat n) (3 : Int32))) + (own_ends q nl (Int32.ofNat n) (4 : Int32))) + (own_ends q nl (Int32.ofNat n) (5 : Int32))) + (own_ends q nl (Int32.ofNat n) (6 : Int32))) + (own_ends q nl (Int32.ofNat n) (7 : Int32))))] [(.int ((((((((own_ends q nl (Int32.ofNat n) (0 : Int32)) + (own_ends q nl (Int32.ofNat n) (1 : Int32))) + (own_ends q nl (Int32.ofNat n) (2 : Int32))) + (own_ends q nl (Int32.ofNat n) (3 : Int32))) + (own_ends q nl (Int32.ofNat n) (4 : Int32))) + (own_ends q nl (Int32.ofNat n) (5 : Int32))) + (own_ends q nl (Int32.ofNat n) (6 : Int32))) + (own_ends q nl (Int32.ofNat n) (7 : Int32)))), (.int (own_lc (own_f q nl 8) n))])) _
    refine XS.icmpNo X10.here hx rfl (hb hby at_230) rfl (teq (own_law q nl n hn8)).2 ?_
    show Steps p.tables e below (T10.setTop (mkF m 233 #[.val (.int len), .val (.long q), .second, .val (.int nl), .val (.int (Int32.ofNat n)), .val (.ref b), .val (.int ((((((((own_ends q nl (Int32.ofNat n) (0 : Int32)) + (own_ends q nl (Int32.ofNat n) (1 : Int32))) + (own_ends q nl (Int32.ofNat n) (2 : Int32))) + (own_ends q nl (Int32.ofNat n) (3 : Int32))) + (own_ends q nl (Int32.ofNat n) (4 : Int32))) + (own_ends q nl (Int32.ofNat n) (5 : Int32))) + (own_ends q nl (Int32.ofNat n) (6 : Int32))) + (own_ends q nl (Int32.ofNat n) (7 : Int32))))] [])) _
    refine XS.iconst X10.here hx rfl (hb hby at_233) ?_
    show Steps p.tables e below (T10.setTop (mkF m 234 #[.val (.int len), .val (.long q), .second, .val (.int nl), .val (.int (Int32.ofNat n)), .val (.ref b), .val (.int ((((((((own_ends q nl (Int32.ofNat n) (0 : Int32)) + (own_ends q nl (Int32.ofNat n) (1 : Int32))) + (own_ends q nl (Int32.ofNat n) (2 : Int32))) + (own_ends q nl (Int32.ofNat n) (3 : Int32))) + (own_ends q nl (Int32.ofNat n) (4 : Int32))) + (own_ends q nl (Int32.ofNat n) (5 : Int32))) + (own_ends q nl (Int32.ofNat n) (6 : Int32))) + (own_ends q nl (Int32.ofNat n) (7 : Int32))))] [(.int (1 : Int32))])) _
    refine XS.goto X10.here hx rfl (pc0 := 234) (pc' := 238) rfl (hb hby at_234) (by decide) (by decide) ?_
    show Steps p.tables e below (T10.setTop (mkF m 238 #[.val (.int len), .val (.long q), .second, .val (.int nl), .val (.int (Int32.ofNat n)), .val (.ref b), .val (.int ((((((((own_ends q nl (Int32.ofNat n) (0 : Int32)) + (own_ends q nl (Int32.ofNat n) (1 : Int32))) + (own_ends q nl (Int32.ofNat n) (2 : Int32))) + (own_ends q nl (Int32.ofNat n) (3 : Int32))) + (own_ends q nl (Int32.ofNat n) (4 : Int32))) + (own_ends q nl (Int32.ofNat n) (5 : Int32))) + (own_ends q nl (Int32.ofNat n) (6 : Int32))) + (own_ends q nl (Int32.ofNat n) (7 : Int32))))] [(.int (1 : Int32))])) _
    exact retN X10 hx (t := .boolean) Bd.returns (by simp) (hb hby at_238) hr
  · exact ⟨rfl, NS7⟩
set_option maxRecDepth 65536 in
set_option maxHeartbeats 40000000 in
theorem comes_1 {Post : Tables → Env → Array Value → State → Outcome → State → Prop} (hpost : ∀ tb e args s v u, (limb_1_1.after args s (.returned v) u = true ∧ limb_1_2.after args s (.returned v) u = true ∧ True) → FrameEnd s (.returned v) u (Jvm.fieldLocs frame_1_writes args s ++ Jvm.arrayLocs frame_1_arrays args s ++ Jvm.staticLocs frame_1_statics s) 16 128 → Post tb e args s (.returned v) u) :
    ArmFor flags0 classFile x code maxLocals ret World_1 tables_1 room_1 Calls_1 rest_1 Pre_1 Post := by
  intro l hfl _ _ p e ha hc hk s m args below hf hA hF happ hP
  obtain ⟨hcalls, hrest, hpre⟩ := hP
  obtain ⟨-, -, -, hnamed, -, -, -, hat⟩ := (Spec.applies_iff hf).mp happ
  obtain ⟨hg, hn⟩ := and_e (Cond.before_iff.mp (show (Jvm.Cond.and given_1 narrow_1).before args s = true from hpre))
  obtain ⟨hcnt, k0⟩ := and_e hg
  obtain ⟨v0, k1⟩ := and_e k0
  obtain ⟨v1, k2⟩ := and_e k1
  obtain ⟨w0, w1, w2, rfl⟩ : ∃ w0 w1 w2 : Value, args = #[w0, w1, w2] := by
    have hs : args.size = 3 := by simpa [Cond.value, given_1] using hcnt
    obtain ⟨L⟩ := args
    match L, hs with
    | [w0, w1, w2], _ => exact ⟨w0, w1, w2, rfl⟩
  have hw := fun d (hd : d ∈ tables_1) => atoms_spec (ws := Jvm.Cond.code x code maxLocals ret :: tables_1) hat d (List.mem_cons_of_mem _ hd)
  have hfit : Fit s := fun {y c} hc i hi => by
    obtain ⟨ha, rfl⟩ := Array.getElem?_eq_some_iff.mp hc
    have q := List.all_eq_true.mp ((Array.all_eq_true_iff_forall_mem.mp hF) _ (Array.getElem_mem ha)) i (List.mem_range.mpr hi)
    simpa [Array.getElem?_eq_getElem hi] using q
  obtain ⟨i0, ei0⟩ := is_v v0
  obtain rfl : w0 = (.int i0) := Option.some.inj ei0
  obtain ⟨i1, ei1⟩ := isL_v v1
  obtain rfl : w1 = (.long i1) := Option.some.inj ei1
  obtain ⟨i2, ei2⟩ := is_v k2
  obtain rfl : w2 = (.int i2) := Option.some.inj ei2
  obtain ⟨n, o, h1, h2, h3, _, L, rfl, ⟨rfl, N⟩, hq⟩ := rm0 l s _ hw tables_1 i0 i1 i2 s.heap s.heap.size (Nat.le_refl _) p e ha hc hk s m _ below hf ((Spec.applies_iff_loose hf).mp happ).1 ⟨rfl, State.Warmed39.refl s, rfl⟩ trivial
  refine ⟨n, _, h1, h2, h3, hpost _ _ _ _ _ _ ⟨Cond.after_iff.mpr rfl, Cond.after_iff.mpr (eq_i res_at (Term.int_eval (1)) rfl), trivial⟩ ⟨hq.1, hq.2.1, (hq.2.2.sift fun y hy => Or.inr (N y hy)).mono (by decide) (by decide)⟩⟩
theorem main_1_1 : Claimed_1_1 := comes_1 fun _ _ _ _ _ _ h hF => ⟨h.1, hF⟩
theorem main_1_2 : Claimed_1_2 := comes_1 fun _ _ _ _ _ _ h hF => ⟨h.2.1, hF⟩
end Jvm.Pilot.@@N@@
namespace Jvm.Pilot.@@N@@
open Jvm Jvm.ClassFile Sem Op Lib Jvm.Free Jvm.Stand Jvm.Pilot.@@N@@.Jvm.D
/-! MADE BY PROGRAM (witnessworld.py) out of the Statement's table words and the real class files: 10 classes; the members and pool entries that the words name. The judged class is class 1, her method 3. -/
namespace start1
open Jvm.ClassFile
def u (s : String) : CpInfo := .utf8 (stringToUtf16 s)
/-- a pool by its gaps: so many unusable entries, then the entry; so many at the end -/
def gap : Nat → List CpInfo → List CpInfo
  | 0, r => r
  | n + 1, r => .unusable :: gap n r
def poolList (es : List (Nat × CpInfo)) (last : Nat) : List CpInfo := es.foldr (fun e r => gap e.1 (e.2 :: r)) (gap last [])
def pool (es : List (Nat × CpInfo)) (last : Nat) : Array CpInfo := ⟨poolList es last⟩
def fileOf (pool : Array CpInfo) (this : Nat) (attrs : Array Attribute := #[]) (ms : Array MethodInfo := #[]) (fl : Nat := 33) (sup : Nat := 0) (ifs : Array Nat := #[]) (fds : Array FieldInfo := #[]) : ClassFile where
  minorVersion := 0
  majorVersion := 65
  constantPool := pool
  accessFlags := fl
  thisClass := this
  superClass := sup
  interfaces := ifs
  fields := fds
  methods := ms
  attributes := attrs
def plain (name : String) (sup : Option ClassId) : Class where
  name := name
  kind := .ordinary
  loader := none
  accessFlags := 33
  super := sup
  interfaces := #[]
  cf := none
  fields := #[]
  methods := #[]
  instanceTypes := #[]
  staticTypes := #[]
  resolved := #[]
  callSites := []
  init := .initialized
  statics := none
  mirror := none

def pool0 : Array CpInfo := pool [(5, u "<init>"), (0, u "()V"), (1, .class_ 10), (1, u "java/lang/Object")] 113

def k0m0 : Method := { name := "<init>", desc := "()V", sig := { parameters := [], returnType := none }, accessFlags := 1, code := none }
/-- java/lang/Object -/
def k0 : Class := { plain "java/lang/Object" none with
  accessFlags := 33
  interfaces := #[]
  cf := some (fileOf pool0 8 #[] #[{ accessFlags := 1, nameIndex := 5, descriptorIndex := 6, attributes := #[] }] 33 0 #[] #[])
  fields := #[]
  methods := #[k0m0]
  instanceTypes := #[]
  staticTypes := #[]
  resolved := Array.replicate 124 none
  statics := none }

def pool1 : Array CpInfo := pool [(2, .class_ 4), (1, u "java/lang/Object"), (0, u "<init>"), (0, u "()V"), (0, .methodref 8 9), (0, .class_ 10), (0, .nameAndType 11 12), (0, u "com/example/pathline/pathline/bench/TimeCommandLineCountPinLaw"), (0, u "at"), (0, u "(JII)B"), (0, .integer 2147483647), (0, .methodref 8 15), (0, .nameAndType 16 17), (0, u "ends"), (0, u "(JIII)I"), (0, .methodref 19 20), (0, .class_ 21), (0, .nameAndType 22 23), (0, u "com/example/pathline/pathline/bench/TimeCommand"), (0, u "lineCount"), (0, u "([B)I"), (3, u "law"), (0, u "(IJI)Z")] 4

def k1m0 : Method := { name := "<init>", desc := "()V", sig := { parameters := [], returnType := none }, accessFlags := 1, code := none }
def k1c1 : Code := { maxStack := 4, maxLocals := 4, code := method_2_code, exceptionTable := #[], attributes := #[] }
def k1m1 : Method := { name := "at", desc := "(JII)B", sig := { parameters := [.long, .int, .int], returnType := some .byte }, accessFlags := 10, code := some k1c1 }
def k1c2 : Code := { maxStack := 4, maxLocals := 5, code := method_3_code, exceptionTable := #[], attributes := #[] }
def k1m2 : Method := { name := "ends", desc := "(JIII)I", sig := { parameters := [.long, .int, .int, .int], returnType := some .int }, accessFlags := 10, code := some k1c2 }
def k1c3 : Code := { maxStack := 6, maxLocals := 7, code := code, exceptionTable := #[], attributes := #[] }
def k1m3 : Method := { name := "law", desc := "(IJI)Z", sig := { parameters := [.int, .long, .int], returnType := some .boolean }, accessFlags := 9, code := some k1c3 }
/-- com/example/pathline/pathline/bench/TimeCommandLineCountPinLaw -/
def k1 : Class := { plain "com/example/pathline/pathline/bench/TimeCommandLineCountPinLaw" (some 0) with
  accessFlags := 49
  interfaces := #[]
  cf := some (fileOf pool1 8 #[] #[{ accessFlags := 1, nameIndex := 5, descriptorIndex := 6, attributes := #[] }, { accessFlags := 10, nameIndex := 11, descriptorIndex := 12, attributes := #[] }, { accessFlags := 10, nameIndex := 16, descriptorIndex := 17, attributes := #[] }, { accessFlags := 9, nameIndex := 27, descriptorIndex := 28, attributes := #[] }] 49 2 #[] #[])
  fields := #[]
  methods := #[k1m0, k1m1, k1m2, k1m3]
  instanceTypes := #[]
  staticTypes := #[]
  resolved := Array.replicate 33 none
  statics := none }

def pool2 : Array CpInfo := pool [(1, .class_ 2), (0, u "com/example/pathline/pathline/cli/Command"), (0, .class_ 4), (0, u "java/lang/Object")] 13

/-- com/example/pathline/pathline/cli/Command -/
def k2 : Class := { plain "com/example/pathline/pathline/cli/Command" (some 0) with
  accessFlags := 1537
  interfaces := #[]
  cf := some (fileOf pool2 1 #[] #[] 1537 3 #[] #[])
  fields := #[]
  methods := #[]
  instanceTypes := #[]
  staticTypes := #[]
  resolved := Array.replicate 18 none
  statics := none }

def pool3 : Array CpInfo := pool [(2, .class_ 4), (1, u "java/lang/Object"), (0, u "<init>"), (0, u "()V"), (14, .class_ 23), (1, u "com/example/pathline/pathline/bench/TimeCommand"), (0, u "RUNS"), (0, u "Lcom/example/pathline/pathline/cli/Option;"), (6, u "COMMAND"), (2, u "OUTPUT"), (123, u "lineCount"), (0, u "([B)I"), (145, .class_ 307), (0, u "com/example/pathline/pathline/cli/Command"), (0, u "DEFAULT_RUNS"), (0, u "I")] 41

def k3m0 : Method := { name := "<init>", desc := "()V", sig := { parameters := [], returnType := none }, accessFlags := 1, code := none }
def k3c1 : Code := { maxStack := 3, maxLocals := 6, code := prog_48_method_5_code, exceptionTable := #[], attributes := #[] }
def k3m1 : Method := { name := "lineCount", desc := "([B)I", sig := { parameters := [(.array .byte)], returnType := some .int }, accessFlags := 8, code := some k3c1 }
/-- com/example/pathline/pathline/bench/TimeCommand -/
def k3 : Class := { plain "com/example/pathline/pathline/bench/TimeCommand" (some 0) with
  accessFlags := 49
  interfaces := #[2]
  cf := some (fileOf pool3 21 #[] #[{ accessFlags := 1, nameIndex := 5, descriptorIndex := 6, attributes := #[] }, { accessFlags := 8, nameIndex := 159, descriptorIndex := 160, attributes := #[] }] 49 2 #[306] #[{ accessFlags := 26, nameIndex := 308, descriptorIndex := 309, attributes := #[] }, { accessFlags := 26, nameIndex := 24, descriptorIndex := 25, attributes := #[] }, { accessFlags := 26, nameIndex := 32, descriptorIndex := 25, attributes := #[] }, { accessFlags := 26, nameIndex := 35, descriptorIndex := 25, attributes := #[] }])
  fields := #[{ name := "DEFAULT_RUNS", type := .int, accessFlags := 26, slot := 0, constantValue := 0 }, { name := "RUNS", type := (.object "com/example/pathline/pathline/cli/Option"), accessFlags := 26, slot := 1, constantValue := 0 }, { name := "COMMAND", type := (.object "com/example/pathline/pathline/cli/Option"), accessFlags := 26, slot := 2, constantValue := 0 }, { name := "OUTPUT", type := (.object "com/example/pathline/pathline/cli/Option"), accessFlags := 26, slot := 3, constantValue := 0 }]
  methods := #[k3m0, k3m1]
  instanceTypes := #[]
  staticTypes := #[.int, (.object "com/example/pathline/pathline/cli/Option"), (.object "com/example/pathline/pathline/cli/Option"), (.object "com/example/pathline/pathline/cli/Option")]
  resolved := Array.replicate 351 none
  statics := none }

def pool4 : Array CpInfo := pool [(1, u "java/lang/Cloneable"), (0, .class_ 1), (0, u "java/lang/Object"), (0, .class_ 3)] 3

/-- java/lang/Cloneable -/
def k4 : Class := { plain "java/lang/Cloneable" (some 0) with
  accessFlags := 1537
  interfaces := #[]
  cf := some (fileOf pool4 2 #[] #[] 1537 4 #[] #[])
  fields := #[]
  methods := #[]
  instanceTypes := #[]
  staticTypes := #[]
  resolved := Array.replicate 8 none
  statics := none }

def pool5 : Array CpInfo := pool [(1, u "java/io/Serializable"), (0, .class_ 1), (0, u "java/lang/Object"), (0, .class_ 3)] 3

/-- java/io/Serializable -/
def k5 : Class := { plain "java/io/Serializable" (some 0) with
  accessFlags := 1537
  interfaces := #[]
  cf := some (fileOf pool5 2 #[] #[] 1537 4 #[] #[])
  fields := #[]
  methods := #[]
  instanceTypes := #[]
  staticTypes := #[]
  resolved := Array.replicate 8 none
  statics := none }

/-- the primitive byte -/
def k6 : Class := { plain "byte" none with kind := .primitive 'B', accessFlags := 0x411 }
/-- [B -/
def k7 : Class := { plain "[B" (some 0) with kind := .array 6 .byte, interfaces := #[4, 5], accessFlags := 1041 }

/-- the primitive int -/
def k8 : Class := { plain "int" none with kind := .primitive 'I', accessFlags := 0x411 }
/-- [I -/
def k9 : Class := { plain "[I" (some 0) with kind := .array 8 .int, interfaces := #[4, 5], accessFlags := 1041 }

def heap : Heap := #[]
def classes : Array Class := #[k0, k1, k2, k3, k4, k5, k6, k7, k8, k9]
def interned : List (Array UInt16 × Addr) := []
def slotsUsed : Nat := 0
def theMethod : MethodId := ⟨1, 3⟩
def args0 : Array Value := #[.int 5, .long 70, .int 2]
def aboutOver (below : List Frame) : State where
  vm := { classes := classes, interned := interned.toArray }
  heap := heap
  slotsUsed := slotsUsed
  threads := #[{ frames := .invoking theMethod args0 :: below }]
def below0 : List Frame := [.native { method := ⟨0, 0⟩, args := #[] }]
def about1 : State := aboutOver below0
def p0 : Program := .bare "" "" ""
def e0 : Env := launch0.env 0 0 0
theorem w_frames : about1.frames = Frame.invoking theMethod args0 :: below0 := rfl
set_option maxRecDepth 65536 in
theorem w_args : argsFit about1.vm theMethod args0 = true := by decide +kernel
set_option maxRecDepth 65536 in
theorem w_heap : heapFits about1 = true := by decide +kernel
set_option maxRecDepth 65536 in
theorem w_runnable : about1.curStatus? = some .runnable := by decide +kernel
set_option maxRecDepth 65536 in
theorem w_alone : about1.alone = true := by decide +kernel
set_option maxRecDepth 65536 in
theorem w_named : about1.methodNamed? x = some theMethod := by decide +kernel
set_option maxRecDepth 65536 in
theorem w_hears : about1.hears theMethod below0 = true := by decide +kernel
set_option maxRecDepth 65536 in
theorem w_ripe : about1.ripe theMethod args0 below0 = true := by decide +kernel
theorem w_running : about1.status = .running := rfl
set_option maxRecDepth 65536 in
theorem w_room : about1.hasRoom e0.platform room_1 = true :=
  launch0.hasRoom_least _ room_1 (by decide +kernel) (by decide +kernel) (by decide +kernel) (by decide +kernel) (by decide +kernel) (by decide +kernel)
theorem allAtoms_all (ts : List Jvm.Cond) (a : Array Jvm.Value) (st : Jvm.State) : (allAtoms ts).before a st = ts.all (fun c => c.before a st) := by
  induction ts with
  | nil => rfl
  | cons c t ih =>
    show (Jvm.Cond.and c (allAtoms t)).before a st = _
    rw [Jvm.Cond.before_and, ih, List.all_cons]
def words1 : List Jvm.Cond := Jvm.Cond.code x code maxLocals ret :: tables_1
/-- a 'code' word, met by the world's own term for the bytes: nothing is compared byte by byte -/
theorem code_word {y : MethodName} {bytes : ByteArray} {mx : Nat} {rt : Option FieldType} {a : Array Value} {s : State} {m : MethodId} {meth : Method} {c : Code} (h1 : s.methodNamed? y = some m) (h2 : s.vm.method? m = some meth) (h3 : meth.code = some c) (h4 : c.code = bytes)
    (h5 : (c.maxLocals == mx && c.exceptionTable.isEmpty && decide (c.maxStack ≤ mostOperands) && decide (meth.sig.returnType = rt) && !meth.locks && decide (parseMethodDescriptor y.desc = some meth.sig)) = true) : (Jvm.Cond.code y bytes mx rt).before a s = true := by
  simp only [Bool.and_eq_true, beq_iff_eq, Bool.not_eq_true', decide_eq_true_eq] at h5
  obtain ⟨⟨⟨⟨⟨g1, g2⟩, g3⟩, g4⟩, g5⟩, g6⟩ := h5
  simp [Cond.before, Cond.holds, Cond.value, h1, h2, h3, h4, g1, g2, g3, g4, g5, g6]
def isCode : Jvm.Cond → Bool
  | .code _ _ _ _ => true
  | _ => false
theorem all_split {L : List Jvm.Cond} {P : Jvm.Cond → Bool} (h1 : L.all (fun c => isCode c || P c) = true) (h2 : ∀ c ∈ L.filter isCode, P c = true) : L.all P = true := by
  refine List.all_eq_true.mpr fun c hc => ?_
  have h := List.all_eq_true.mp h1 c hc
  rcases Bool.eq_false_or_eq_true (isCode c) with hi | hi
  · exact h2 c (List.mem_filter.mpr ⟨hc, hi⟩)
  · simpa [hi] using h
set_option maxRecDepth 65536 in
theorem w_c0 : (Jvm.Cond.code x code maxLocals ret).before args0 about1 = true := code_word (m := ⟨1, 3⟩) (meth := k1m3) (c := k1c3) (by decide +kernel) rfl rfl rfl (by decide +kernel)
set_option maxRecDepth 65536 in
theorem w_c1 : (Jvm.Cond.code ({ cls := "com/example/pathline/pathline/bench/TimeCommandLineCountPinLaw", name := "ends", desc := "(JIII)I" } : Jvm.MethodName) method_3_code (5 : Nat) (Option.some Jvm.ClassFile.FieldType.int)).before args0 about1 = true := code_word (m := ⟨1, 2⟩) (meth := k1m2) (c := k1c2) (by decide +kernel) rfl rfl rfl (by decide +kernel)
set_option maxRecDepth 65536 in
theorem w_c2 : (Jvm.Cond.code ({ cls := "com/example/pathline/pathline/bench/TimeCommand", name := "lineCount", desc := "([B)I" } : Jvm.MethodName) prog_48_method_5_code (6 : Nat) (Option.some Jvm.ClassFile.FieldType.int)).before args0 about1 = true := code_word (m := ⟨3, 1⟩) (meth := k3m1) (c := k3c1) (by decide +kernel) rfl rfl rfl (by decide +kernel)
set_option maxRecDepth 65536 in
theorem w_c3 : (Jvm.Cond.code ({ cls := "com/example/pathline/pathline/bench/TimeCommandLineCountPinLaw", name := "at", desc := "(JII)B" } : Jvm.MethodName) method_2_code (4 : Nat) (Option.some Jvm.ClassFile.FieldType.byte)).before args0 about1 = true := code_word (m := ⟨1, 1⟩) (meth := k1m1) (c := k1c1) (by decide +kernel) rfl rfl rfl (by decide +kernel)
def codes1 : List Jvm.Cond := [Jvm.Cond.code x code maxLocals ret, Jvm.Cond.code ({ cls := "com/example/pathline/pathline/bench/TimeCommandLineCountPinLaw", name := "ends", desc := "(JIII)I" } : Jvm.MethodName) method_3_code (5 : Nat) (Option.some Jvm.ClassFile.FieldType.int), Jvm.Cond.code ({ cls := "com/example/pathline/pathline/bench/TimeCommand", name := "lineCount", desc := "([B)I" } : Jvm.MethodName) prog_48_method_5_code (6 : Nat) (Option.some Jvm.ClassFile.FieldType.int), Jvm.Cond.code ({ cls := "com/example/pathline/pathline/bench/TimeCommandLineCountPinLaw", name := "at", desc := "(JII)B" } : Jvm.MethodName) method_2_code (4 : Nat) (Option.some Jvm.ClassFile.FieldType.byte)]
set_option maxRecDepth 65536 in
theorem codes_eq : words1.filter isCode = codes1 := rfl
theorem w_codes : ∀ c ∈ words1.filter isCode, c.before args0 about1 = true := by
  rw [codes_eq]
  intro c hc
  simp only [codes1, List.mem_cons, List.not_mem_nil, or_false] at hc
  rcases hc with rfl | rfl | rfl | rfl
  · exact w_c0
  · exact w_c1
  · exact w_c2
  · exact w_c3
set_option maxRecDepth 65536 in
theorem w_t1 : words1.all (fun c => isCode c || c.before args0 about1) = true := by decide +kernel
theorem w_tables : (allAtoms (Jvm.Cond.code x code maxLocals ret :: tables_1)).before args0 about1 = true := by
  rw [allAtoms_all]
  show words1.all (fun c => c.before args0 about1) = true
  refine all_split ?_ w_codes
  rw [w_t1]
set_option maxRecDepth 65536 in
theorem w_case : (Jvm.Cond.and given_1 narrow_1).before args0 about1 = true := by decide +kernel
theorem w_applies : (headSpec (Jvm.Cond.code x code maxLocals ret :: tables_1) room_1).applies x e0.platform about1 = true :=
  (Spec.applies_iff w_frames).mpr ⟨w_running, w_runnable, w_alone, w_named, w_hears, w_ripe, w_room, w_tables⟩
theorem atStart : AtStart classFile x code maxLocals ret World_1 tables_1 room_1 Calls_1 rest_1 Pre_1 launch0 p0 e0 about1 theMethod args0 below0 :=
  ⟨lists_1, trivial, launch0.admits_env _ _ _, launch0.least_env, fairChoices_fair.cas, fairChoices_fair.clock, w_frames, w_args, w_heap, w_applies, trivial, trivial, w_case⟩
end start1
theorem witness_1 : WitnessClaimed_1 := ⟨start1.p0, start1.e0, start1.about1, start1.theMethod, start1.args0, start1.below0, start1.atStart⟩
end Jvm.Pilot.@@N@@
