import JvmDerived
import JvmDerived.Pilot.@@N@@Statement
import JvmDerived.Pilot.@@N@@Code
set_option linter.unusedVariables false
set_option linter.unusedSimpArgs false
namespace Jvm.RoadKit
open Sem ClassFile Op Lib Jvm.Stand Jvm.Free Jvm.LawKit
section New
variable {p : Program} {l : Launch} {e : Env} {R : Room} {s : State} {m : MethodId} {args : Array Value} {below : List Frame} {meth : Method} {c : Code} {T : State} {locs : List Loc} {cells slots : Nat}
theorem retI (X : Stand p l e R s m args below meth c T locs cells slots) (hx : p.tables.exec = Jvm.exec) {pc : Nat} {Ls : Array Slot} {z : Int32} {rest : List Value} (hret : meth.sig.returnType = some .int) (hd : decode c.code pc = .ok (.ireturn, 1)) {fs : List Frame}
    (hl : ∀ (f : JFrame) (acts : List Action), f.method = m → f.locked = none → f.entered = [] → (doReturn e (T.setTop f) acts (some (.int z))).1 = T.setFrames fs) : Steps p.tables e below (T.setTop (mkF m pc Ls (.int z :: rest))) (T.setFrames fs) := by
  have hm' : T.vm.method? m = some meth := X.method'
  have hn : narrow .int (.int z) = .int z := rfl
  show Steps p.tables e below (T.setTop { method := m, pc := pc, locals := Ls, stack := _ :: rest, locked := none }) _
  jvm_step X.here [X.here.top, hx, hd, hm', hret, hn]
  first | (intro acts; rw [hl _ acts rfl rfl rfl]) | rw [hl _ _ rfl rfl rfl]
  exact Steps.refl _
end New
end Jvm.RoadKit
namespace Jvm.Pilot.@@N@@
open Jvm Jvm.ClassFile Sem Op Lib Jvm.Free Jvm.Stand Jvm.LawKit Jvm.RoadKit Bundle Jvm.Pilot.@@N@@.Jvm.D
section OwnCommon
variable {p : Program} {l : Launch} {e : Env} {R : Room} {s : State} {m : MethodId} {args : Array Value} {below : List Frame} {meth : Method} {c : Code} {T : State} {locs : List Loc} {cells slots : Nat} {Z : State} {a0 : Array Value} {h h' : Heap} {a b : Addr} {ty : FieldType} {n : Nat} {f f' : Nat → Int32}
theorem own_nn {i : Nat} (hi : i < 2 ^ 31) : ¬ Int32.ofNat i < 0 := by
  rw [Int32.lt_iff_toInt_lt, Int32.toInt_ofNat_of_lt (by omega), show (0 : Int32).toInt = 0 from rfl]; omega
theorem own_n32 {i : Nat} (hi : i < 2 ^ 31) : (Int32.ofNat i).toNatClampNeg = i := by
  rw [Int32.toNatClampNeg, Int32.toInt_ofNat_of_lt (by omega)]; rfl
theorem own_ti {i : Nat} (hi : i < 2 ^ 31) : (Int32.ofNat i).toInt = (i : Int) := Int32.toInt_ofNat_of_lt (by omega)
theorem own_lt {i j : Nat} (hi : i < 2 ^ 31) (hj : j < 2 ^ 31) : Int32.ofNat i < Int32.ofNat j ↔ i < j := by
  rw [Int32.lt_iff_toInt_lt, own_ti hi, own_ti hj]; omega
theorem own_one (i : Nat) : Int32.ofNat i + (1 : Int32) = Int32.ofNat (i + 1) := (Int32.ofNat_add i 1).symm
theorem own_eq {i j : Nat} (hi : i < 2 ^ 31) (hj : j < 2 ^ 31) : Int32.ofNat i = Int32.ofNat j ↔ i = j := by
  rw [← Int32.toInt_inj, own_ti hi, own_ti hj]; omega
/-- an array of ints (bytes, chars): n places, place j holds f j -/
def Iar (Z : State) (h : Heap) (a : Addr) (ty : FieldType) (n : Nat) (f : Nat → Int32) : Prop :=
  n < 2 ^ 31 ∧ ∃ c : Cell, Arr Z h a c ty ∧ c.slots.size = n ∧ (∀ j, j < n → c.slots[j]? = some (.int (f j))) ∧ ∀ j, j < n → fits ty (.int (f j)) = true
theorem Iar.lt (F : Iar Z h a ty n f) : a < h.size := by obtain ⟨-, c, A, -⟩ := F; exact A.lt
theorem Iar.ext (F : Iar Z h a ty n f) (E : Ext h h') : Iar Z h' a ty n f := by obtain ⟨q, c, A, r⟩ := F; exact ⟨q, c, A.ext E, r⟩
theorem Iar.other {sl : Nat} {v : Value} (F : Iar Z h b ty n f) (W : Wr h h' a sl v) (q : b ≠ a) : Iar Z h' b ty n f := by obtain ⟨z, c, A, r⟩ := F; exact ⟨z, c, A.other W q, r⟩
theorem Iar.keep {ws : List Addr} (F : Iar Z h a ty n f) (K : Keep h h' ws) (q : a ∉ ws) : Iar Z h' a ty n f := by obtain ⟨z, c, A, r⟩ := F; exact ⟨z, c, ⟨K.2.1 a c A.1 q, A.2⟩, r⟩
theorem Iar.congr (F : Iar Z h a ty n f) (q : ∀ j, j < n → f j = f' j) : Iar Z h a ty n f' := by
  obtain ⟨z, c, A, S, H, G⟩ := F
  exact ⟨z, c, A, S, fun j hj => by rw [← q j hj]; exact H j hj, fun j hj => by rw [← q j hj]; exact G j hj⟩
theorem Iar.new {z : Int32} {k : ClassId} (A : Arr Z h a (newA k ty z) ty) (hz : z = Int32.ofNat n) (hn : n < 2 ^ 31) (hd : defaultValue ty = .int 0) (hf : fits ty (.int 0) = true) : Iar Z h a ty n (fun _ => 0) := by
  have e1 : z.toNatClampNeg = n := by rw [hz]; exact own_n32 hn
  refine ⟨hn, _, A, by rw [sz_new]; exact e1, fun j hj => ?_, fun j hj => hf⟩
  show (Array.replicate z.toNatClampNeg (defaultValue ty))[j]? = _
  rw [e1, hd, Array.getElem?_replicate, if_pos hj]
theorem Iar.set (F : Iar Z h a ty n f) {j : Int32} {i : Nat} {v : Int32} (W : Wr h h' a j.toNatClampNeg (.int v)) (hj : j.toNatClampNeg = i) (hv : fits ty (.int v) = true) : Iar Z h' a ty n (fun k => if k = i then v else f k) := by
  obtain ⟨z, c, A, S, H, G⟩ := F
  refine ⟨z, _, A.same W, by rw [sz_set]; exact S, fun k hk => ?_, fun k hk => ?_⟩
  · show (c.slots.setIfInBounds j.toNatClampNeg (.int v))[k]? = some (.int (if k = i then v else f k))
    rw [hj, Array.getElem?_setIfInBounds]
    by_cases q : k = i
    · subst q; rw [if_pos rfl, if_pos (by omega), if_pos rfl]
    · rw [if_neg (fun y => q y.symm), if_neg q]; exact H k hk
  · by_cases q : k = i
    · simp only [q, if_true]; exact hv
    · simp only [q, if_false]; exact G k hk
theorem Iar.inb {j : Int32} {i : Nat} {cl : Cell} (S : cl.slots.size = n) (hj : j.toNatClampNeg = i) (h0 : ¬ j < 0) (hi : i < n) : ¬ (j < 0 ∨ cl.slots.size ≤ j.toNatClampNeg) := by
  rw [S, hj]; exact fun q => q.elim h0 (fun q => by omega)
theorem own_ldB {g : JFrame} {rest : List Value} {j : Int32} {i : Nat} (X : Stand p l e R s m args below meth c T locs cells slots) (hx : p.tables.exec = Jvm.exec) (hZ : Z.Warmed39 s.vm) (eT : T.heap = h) (F : Iar Z h a .byte n f) (hj : j.toNatClampNeg = i) (h0 : ¬ j < 0) (hi : i < n)
    (hg : g.method = m) (hs : g.stack = .int j :: .ref a :: rest) (hd : decode c.code g.pc = .ok (.baload, 1)) (target : State) (k : Steps p.tables e below (T.setTop { g with pc := g.pc + 1, stack := .int (f i) :: rest }) target) : Steps p.tables e below (T.setTop g) target := by
  obtain ⟨z, cl, A, S, H, G⟩ := F
  exact X.baloadBytes hx (by rw [eT]; exact A.1) (State.isArrayOf_alike hZ.alike A.2.1) A.2.2 (Iar.inb S hj h0 hi) (by rw [hj]; exact H i hi) hg hs hd _ k
theorem own_ldC {g : JFrame} {rest : List Value} {j : Int32} {i : Nat} (X : Stand p l e R s m args below meth c T locs cells slots) (hx : p.tables.exec = Jvm.exec) (hZ : Z.Warmed39 s.vm) (eT : T.heap = h) (F : Iar Z h a .char n f) (hj : j.toNatClampNeg = i) (h0 : ¬ j < 0) (hi : i < n)
    (hg : g.method = m) (hs : g.stack = .int j :: .ref a :: rest) (hd : decode c.code g.pc = .ok (.caload, 1)) (target : State) (k : Steps p.tables e below (T.setTop { g with pc := g.pc + 1, stack := .int (f i) :: rest }) target) : Steps p.tables e below (T.setTop g) target := by
  obtain ⟨z, cl, A, S, H, G⟩ := F
  exact X.caload hx (by rw [eT]; exact A.1) (State.isArrayOf_alike hZ.alike A.2.1) A.2.2 (Iar.inb S hj h0 hi) (by rw [hj]; exact H i hi) hg hs hd _ k
theorem own_ldI {g : JFrame} {rest : List Value} {j : Int32} {i : Nat} (X : Stand p l e R s m args below meth c T locs cells slots) (hx : p.tables.exec = Jvm.exec) (hZ : Z.Warmed39 s.vm) (eT : T.heap = h) (F : Iar Z h a .int n f) (hj : j.toNatClampNeg = i) (h0 : ¬ j < 0) (hi : i < n)
    (hg : g.method = m) (hs : g.stack = .int j :: .ref a :: rest) (hd : decode c.code g.pc = .ok (.iaload, 1)) (target : State) (k : Steps p.tables e below (T.setTop { g with pc := g.pc + 1, stack := .int (f i) :: rest }) target) : Steps p.tables e below (T.setTop g) target := by
  obtain ⟨z, cl, A, S, H, G⟩ := F
  exact X.iaload hx (by rw [eT]; exact A.1) (State.isArrayOf_alike hZ.alike A.2.1) A.2.2 (Iar.inb S hj h0 hi) (by rw [hj]; exact H i hi) hg hs hd _ k
theorem own_len {g : JFrame} {rest : List Value} (X : Stand p l e R s m args below meth c T locs cells slots) (hx : p.tables.exec = Jvm.exec) (hZ : Z.Warmed39 s.vm) (eT : T.heap = h) (F : Iar Z h a ty n f)
    (hg : g.method = m) (hs : g.stack = .ref a :: rest) (hd : decode c.code g.pc = .ok (.arraylength, 1)) (target : State) (k : Steps p.tables e below (T.setTop { g with pc := g.pc + 1, stack := .int (Int32.ofNat n) :: rest }) target) : Steps p.tables e below (T.setTop g) target := by
  obtain ⟨z, cl, A, S, H, G⟩ := F
  refine X.arraylength hx (by rw [eT]; exact A.1) (State.isArrayOf_alike hZ.alike A.2.1) hg hs hd _ ?_
  rw [S]; exact k
theorem own_stB {g : JFrame} {rest : List Value} {j x : Int32} {i : Nat} (X : Stand p l e R s m args below meth c T locs cells slots) (hx : p.tables.exec = Jvm.exec) (hZ : Z.Warmed39 s.vm) (eT : T.heap = h) (F : Iar Z h a .byte n f) (hj : j.toNatClampNeg = i) (h0 : ¬ j < 0) (hi : i < n)
    (hg : g.method = m) (hs : g.stack = .int x :: .int j :: .ref a :: rest) (hd : decode c.code g.pc = .ok (.bastore, 1)) :
    ∃ T' h', Stand p l e R s m args below meth c T' (locs ++ [⟨a, j.toNatClampNeg⟩]) cells slots ∧ T'.heap = h' ∧ Wr h h' a j.toNatClampNeg (.int (nar .byte x)) ∧ Iar Z h' a .byte n (fun k => if k = i then nar .byte x else f k) ∧
      ∀ target, Steps p.tables e below (T'.setTop { g with pc := g.pc + 1, stack := rest }) target → Steps p.tables e below (T.setTop g) target := by
  have F' := F
  obtain ⟨z, cl, A, S, H, G⟩ := F
  obtain ⟨T1, h1, X1, e1, W1, st1⟩ := stB X hx hZ eT A (Iar.inb S hj h0 hi) hg hs hd
  exact ⟨T1, h1, X1, e1, W1, F'.set W1 hj (fits_nar_byte x), st1⟩
theorem own_stC {g : JFrame} {rest : List Value} {j x : Int32} {i : Nat} (X : Stand p l e R s m args below meth c T locs cells slots) (hx : p.tables.exec = Jvm.exec) (hZ : Z.Warmed39 s.vm) (eT : T.heap = h) (F : Iar Z h a .char n f) (hj : j.toNatClampNeg = i) (h0 : ¬ j < 0) (hi : i < n)
    (hg : g.method = m) (hs : g.stack = .int x :: .int j :: .ref a :: rest) (hd : decode c.code g.pc = .ok (.castore, 1)) :
    ∃ T' h', Stand p l e R s m args below meth c T' (locs ++ [⟨a, j.toNatClampNeg⟩]) cells slots ∧ T'.heap = h' ∧ Wr h h' a j.toNatClampNeg (.int (nar .char x)) ∧ Iar Z h' a .char n (fun k => if k = i then nar .char x else f k) ∧
      ∀ target, Steps p.tables e below (T'.setTop { g with pc := g.pc + 1, stack := rest }) target → Steps p.tables e below (T.setTop g) target := by
  have F' := F
  obtain ⟨z, cl, A, S, H, G⟩ := F
  obtain ⟨T1, h1, X1, e1, W1, st1⟩ := stC X hx hZ eT A (Iar.inb S hj h0 hi) hg hs hd
  exact ⟨T1, h1, X1, e1, W1, F'.set W1 hj (fits_nar_char x), st1⟩
theorem own_stI {g : JFrame} {rest : List Value} {j x : Int32} {i : Nat} (X : Stand p l e R s m args below meth c T locs cells slots) (hx : p.tables.exec = Jvm.exec) (hZ : Z.Warmed39 s.vm) (eT : T.heap = h) (F : Iar Z h a .int n f) (hj : j.toNatClampNeg = i) (h0 : ¬ j < 0) (hi : i < n)
    (hg : g.method = m) (hs : g.stack = .int x :: .int j :: .ref a :: rest) (hd : decode c.code g.pc = .ok (.iastore, 1)) :
    ∃ T' h', Stand p l e R s m args below meth c T' (locs ++ [⟨a, j.toNatClampNeg⟩]) cells slots ∧ T'.heap = h' ∧ Wr h h' a j.toNatClampNeg (.int x) ∧ Iar Z h' a .int n (fun k => if k = i then x else f k) ∧
      ∀ target, Steps p.tables e below (T'.setTop { g with pc := g.pc + 1, stack := rest }) target → Steps p.tables e below (T.setTop g) target := by
  have F' := F
  obtain ⟨z, cl, A, S, H, G⟩ := F
  obtain ⟨T1, h1, X1, e1, W1, st1⟩ := stI X hx hZ eT A (Iar.inb S hj h0 hi) hg hs hd
  exact ⟨T1, h1, X1, e1, W1, F'.set W1 hj rfl, st1⟩
/-- a callee that only reads: what it returns; it writes nothing; the heap is as it was -/
def QR (F : Value) (h0 : Heap) (v : Option Value) (h : Heap) (L : List Loc) : Prop := v = some F ∧ L = [] ∧ h = h0
/-- ONE STATIC CALL OF A METHOD THAT ONLY READS: the walk stands where it stood, with the answer on the stack -/
theorem own_callR {own : String} {index : Nat} {y : MethodName} {bytes : ByteArray} {maxL : Nat} {ret : Option FieldType} {rm : Room} {W : Nat} {as' : List Value} {F : Value} {g : JFrame} {rest : List Value}
    (X : Stand p l e R s m args below meth c T locs cells slots) (hx : p.tables.exec = Jvm.exec) (hZ : Z.Warmed39 s.vm) (hown : s.vm.findClass own = some m.cls)
    (w1 : (Cond.methodLink own index y).before a0 Z = true) (w2 : (Cond.static y).before a0 Z = true) (w3 : (Cond.initialized y.cls).before a0 Z = true) (w4 : (Cond.code y bytes maxL ret).before a0 Z = true) (hy : y.cls ≠ "java/lang/invoke/MethodHandle" ∧ y.cls ≠ "java/lang/invoke/VarHandle")
    (hM : MetFree l y (head1 [Cond.code y bytes maxL ret] rm) (fun a U => a = as'.toArray ∧ Z.Warmed39 U.vm ∧ U.heap = h) (fun _ _ _ _ _ => True) (fun _ U o U' => ∃ v L, o = .returned v ∧ QR F h v U'.heap L ∧ FrameEnd U o U' L rm.cells rm.slots))
    (hrc : rm.cells = 0) (hrs : rm.slots = 0) (hf : rm.frames + 1 ≤ R.frames) (hl : W + (maxL + 11) + rm.locals ≤ R.locals) (hcc : cells ≤ R.cells) (hss : slots ≤ R.slots) (eT : T.heap = h)
    (hg : g.method = m) (hsize : g.locals.size = c.maxLocals) (hlen : ∀ sig, parseMethodDescriptor y.desc = some sig → as'.length = sig.parameters.length) (hstack : g.stack = as'.reverse ++ rest)
    (hW : 2 * g.monitorRoom + (rest.map fun v => v.category).sum ≤ W) (hdg : decode c.code g.pc = .ok (.invokestatic index, 3)) :
    ∃ T', Stand p l e R s m args below meth c T' locs cells slots ∧ T'.heap = h ∧
      ∀ target, Steps p.tables e below (T'.setTop { g with pc := g.pc + 3, stack := F :: rest }) target → Steps p.tables e below (T.setTop g) target := by
  obtain ⟨v, _, ⟨T4, L4, k4, n4⟩, -, X4, ⟨Lc4, hQ4, l4, y4, z4⟩, st4⟩ := Jvm.LawKit.callS X hx (y := y) hown (mvT hZ w1) (mvT hZ w2) (mvT hZ w3) (mvT hZ w4) hy (backOf (W := W) hM hZ w4 w3 hf hl) (g := g) hg hsize (argsL := as') (rest := rest) hlen hstack hW hdg
    (fun _ _ => ⟨rfl, eT, by rw [hrc]; exact hcc, by rw [hrs]; exact hss⟩)
  dsimp only [Pt.U, Pt.locs, Pt.cells, Pt.slots] at X4 l4 y4 z4 st4 hQ4
  obtain ⟨rfl, rfl, e4⟩ := hQ4
  rw [hrc, Nat.add_zero] at y4
  rw [hrs, Nat.add_zero] at z4
  rw [List.append_nil] at l4
  subst l4 y4 z4
  exact ⟨T4, X4, e4, st4⟩
end OwnCommon
theorem d1_0 : decode prog_200_method_4_code 0 = .ok (.aload_n 0, 1) := by decide +kernel
theorem d1_1 : decode prog_200_method_4_code 1 = .ok (.getfield 122, 3) := by decide +kernel
theorem d1_4 : decode prog_200_method_4_code 4 = .ok (.ifCond .ne 38, 3) := by decide +kernel
theorem d1_7 : decode prog_200_method_4_code 7 = .ok (.aload_n 0, 1) := by decide +kernel
theorem d1_8 : decode prog_200_method_4_code 8 = .ok (.getstatic 70, 3) := by decide +kernel
theorem d1_11 : decode prog_200_method_4_code 11 = .ok (.if_acmp .eq 31, 3) := by decide +kernel
theorem d1_14 : decode prog_200_method_4_code 14 = .ok (.aload_n 0, 1) := by decide +kernel
theorem d1_15 : decode prog_200_method_4_code 15 = .ok (.getstatic 76, 3) := by decide +kernel
theorem d1_18 : decode prog_200_method_4_code 18 = .ok (.if_acmp .eq 24, 3) := by decide +kernel
theorem d1_21 : decode prog_200_method_4_code 21 = .ok (.aload_n 0, 1) := by decide +kernel
theorem d1_22 : decode prog_200_method_4_code 22 = .ok (.getstatic 52, 3) := by decide +kernel
theorem d1_25 : decode prog_200_method_4_code 25 = .ok (.if_acmp .eq 17, 3) := by decide +kernel
theorem d1_28 : decode prog_200_method_4_code 28 = .ok (.aload_n 0, 1) := by decide +kernel
theorem d1_29 : decode prog_200_method_4_code 29 = .ok (.getstatic 58, 3) := by decide +kernel
theorem d1_32 : decode prog_200_method_4_code 32 = .ok (.if_acmp .eq 10, 3) := by decide +kernel
theorem d1_35 : decode prog_200_method_4_code 35 = .ok (.aload_n 0, 1) := by decide +kernel
theorem d1_36 : decode prog_200_method_4_code 36 = .ok (.getstatic 73, 3) := by decide +kernel
theorem d1_39 : decode prog_200_method_4_code 39 = .ok (.if_acmp .ne 7, 3) := by decide +kernel
theorem d1_42 : decode prog_200_method_4_code 42 = .ok (.iconst 1, 1) := by decide +kernel
theorem d1_43 : decode prog_200_method_4_code 43 = .ok (.goto 4, 3) := by decide +kernel
theorem d1_46 : decode prog_200_method_4_code 46 = .ok (.iconst 0, 1) := by decide +kernel
theorem d1_47 : decode prog_200_method_4_code 47 = .ok (.ireturn, 1) := by decide +kernel
theorem pd_1 : parseMethodDescriptor "()Z" = some ⟨[], some .boolean⟩ := by decide +kernel
theorem pn_1 : plainName "com/example/pathline/pathline/xpath/XPathLexer$TokenKind" = true := by first | (simp [plainName, overriddenIn]; done) | decide +kernel
theorem pn_0 : plainName "com/example/pathline/pathline/xpath/TokenKindPrecedesOperandPinLaw" = true := by first | (simp [plainName, overriddenIn]; done) | decide +kernel
def own_nm : List String := ["AT", "DOUBLE_COLON", "LEFT_PAREN", "LEFT_BRACKET", "COMMA", "AND", "OR", "MOD", "DIV", "MULTIPLY", "SLASH", "DOUBLE_SLASH", "PIPE", "PLUS", "MINUS", "EQUAL", "NOT_EQUAL", "LESS", "LESS_OR_EQUAL", "GREATER", "GREATER_OR_EQUAL", "RIGHT_PAREN", "RIGHT_BRACKET", "DOT", "DOUBLE_DOT", "LITERAL", "NUMBER", "VARIABLE", "NAME_TEST", "NODE_TYPE", "FUNCTION_NAME", "AXIS_NAME", "END"]
theorem own_33 {Q : Nat → Prop} (q0 : Q 0) (q1 : Q 1) (q2 : Q 2) (q3 : Q 3) (q4 : Q 4) (q5 : Q 5) (q6 : Q 6) (q7 : Q 7) (q8 : Q 8) (q9 : Q 9) (q10 : Q 10) (q11 : Q 11) (q12 : Q 12) (q13 : Q 13) (q14 : Q 14) (q15 : Q 15) (q16 : Q 16) (q17 : Q 17) (q18 : Q 18) (q19 : Q 19) (q20 : Q 20) (q21 : Q 21) (q22 : Q 22) (q23 : Q 23) (q24 : Q 24) (q25 : Q 25) (q26 : Q 26) (q27 : Q 27) (q28 : Q 28) (q29 : Q 29) (q30 : Q 30) (q31 : Q 31) (q32 : Q 32) : ∀ j, j < 33 → Q j := by
  intro j hj
  match j, hj with
  | 0, _ => exact q0
  | 1, _ => exact q1
  | 2, _ => exact q2
  | 3, _ => exact q3
  | 4, _ => exact q4
  | 5, _ => exact q5
  | 6, _ => exact q6
  | 7, _ => exact q7
  | 8, _ => exact q8
  | 9, _ => exact q9
  | 10, _ => exact q10
  | 11, _ => exact q11
  | 12, _ => exact q12
  | 13, _ => exact q13
  | 14, _ => exact q14
  | 15, _ => exact q15
  | 16, _ => exact q16
  | 17, _ => exact q17
  | 18, _ => exact q18
  | 19, _ => exact q19
  | 20, _ => exact q20
  | 21, _ => exact q21
  | 22, _ => exact q22
  | 23, _ => exact q23
  | 24, _ => exact q24
  | 25, _ => exact q25
  | 26, _ => exact q26
  | 27, _ => exact q27
  | 28, _ => exact q28
  | 29, _ => exact q29
  | 30, _ => exact q30
  | 31, _ => exact q31
  | 32, _ => exact q32
  | n + 33, h => exact absurd h (by omega)
theorem own_staKeep {Z : State} {h h' : Heap} {C n d : String} {w : Value} (K : Keep h h' []) (F : Sta Z h C n d w) : Sta Z h' C n d w := by
  obtain ⟨cf, i, k, f, st, cell, h1, h2, h3, h4, h5, r⟩ := F
  exact ⟨cf, i, k, f, st, cell, h1, h2, h3, h4, K.2.1 st cell h5 nin0, r⟩
/-- the array of kinds: its first k places hold theirs -/
def Rar (Z : State) (h : Heap) (b : Addr) (k : Nat) (w : Nat → Addr) : Prop := ∃ (c : Cell) (cA : ClassId), Arr Z h b c (.object "com/example/pathline/pathline/xpath/XPathLexer$TokenKind") ∧ c.cls = cA ∧ Ovr Z cA "com/example/pathline/pathline/xpath/XPathLexer$TokenKind" ∧ c.slots.size = 33 ∧ ∀ j, j < k → c.slots[j]? = some (.ref (w j))
theorem own_stR {p : Program} {l : Launch} {e : Env} {R : Room} {s : State} {m : MethodId} {args : Array Value} {below : List Frame} {meth : Method} {c : Code} {T : State} {locs : List Loc} {cells slots : Nat} {Z : State} {h : Heap} {b : Addr} {k : Nat} {w : Nat → Addr} {g : JFrame} {rest : List Value} {j : Int32} (X : Stand p l e R s m args below meth c T locs cells slots) (hx : p.tables.exec = Jvm.exec) (hZ : Z.Warmed39 s.vm) (eT : T.heap = h) (F : Rar Z h b k w) (I : Ins Z h (w k) "com/example/pathline/pathline/xpath/XPathLexer$TokenKind" true) (hj : j.toNatClampNeg = k) (h0 : ¬ j < 0) (hk : k < 33)
    (hg : g.method = m) (hs : g.stack = .ref (w k) :: .int j :: .ref b :: rest) (hd : decode c.code g.pc = .ok (.aastore, 1)) :
    ∃ T' h', Stand p l e R s m args below meth c T' (locs ++ [⟨b, j.toNatClampNeg⟩]) cells slots ∧ T'.heap = h' ∧ Wr h h' b j.toNatClampNeg (.ref (w k)) ∧ Rar Z h' b (k + 1) w ∧
      ∀ target, Steps p.tables e below (T'.setTop { g with pc := g.pc + 1, stack := rest }) target → Steps p.tables e below (T.setTop g) target := by
  obtain ⟨cl, cA, A, q, O, S, H⟩ := F
  obtain ⟨T1, h1, X1, e1, W1, st1⟩ := stR X hx hZ eT A (Iar.inb S hj h0 hk) rfl (Sto.ofV A q O I) hg hs hd
  refine ⟨T1, h1, X1, e1, W1, ⟨_, cA, A.same W1, q, O, by rw [sz_set]; exact S, fun i hi => ?_⟩, st1⟩
  show (cl.slots.setIfInBounds j.toNatClampNeg (.ref (w k)))[i]? = _
  rw [hj, Array.getElem?_setIfInBounds]
  by_cases y : k = i
  · subst y; rw [if_pos rfl, if_pos (by omega)]
  · rw [if_neg y]; exact H i (by omega)
def own_po (op : Int32) (a u0 u1 u2 u3 u4 : Addr) : Int32 := if op = 0 then (if a = u0 then 1 else if a = u1 then 1 else if a = u2 then 1 else if a = u3 then 1 else if a = u4 then 1 else 0) else 1
theorem ef_1 (m : MethodId) (a : Addr) : entryFrame m #[(.ref a)] 1 = mkF m 0 #[.val (.ref a)] [] := by first | (simp [entryFrame, mkF, argsToLocals, Value.category]; done) | rfl
set_option maxRecDepth 65536 in
set_option maxHeartbeats 40000000 in
theorem rm_po (l : Launch) (Z : State) (a0 : Array Value) (hw : ∀ d ∈ tables_1, d.before a0 Z = true) (ws : List Jvm.Cond) (a u0 u1 u2 u3 u4 : Addr) (op : Int32) (h0 : Heap) (F : Fld Z h0 a "com/example/pathline/pathline/xpath/XPathLexer$TokenKind" "operator" "Z" (.int op)) (S0 : Sta Z h0 "com/example/pathline/pathline/xpath/XPathLexer$TokenKind" "AT" "Lcom/example/pathline/pathline/xpath/XPathLexer$TokenKind;" (.ref u0)) (S1 : Sta Z h0 "com/example/pathline/pathline/xpath/XPathLexer$TokenKind" "DOUBLE_COLON" "Lcom/example/pathline/pathline/xpath/XPathLexer$TokenKind;" (.ref u1)) (S2 : Sta Z h0 "com/example/pathline/pathline/xpath/XPathLexer$TokenKind" "LEFT_PAREN" "Lcom/example/pathline/pathline/xpath/XPathLexer$TokenKind;" (.ref u2)) (S3 : Sta Z h0 "com/example/pathline/pathline/xpath/XPathLexer$TokenKind" "LEFT_BRACKET" "Lcom/example/pathline/pathline/xpath/XPathLexer$TokenKind;" (.ref u3)) (S4 : Sta Z h0 "com/example/pathline/pathline/xpath/XPathLexer$TokenKind" "COMMA" "Lcom/example/pathline/pathline/xpath/XPathLexer$TokenKind;" (.ref u4)) :
    MetFree l (⟨"com/example/pathline/pathline/xpath/XPathLexer$TokenKind", "precedesOperand", "()Z"⟩ : MethodName) (head1 (Jvm.Cond.code (⟨"com/example/pathline/pathline/xpath/XPathLexer$TokenKind", "precedesOperand", "()Z"⟩ : MethodName) prog_200_method_4_code 1 (some .boolean) :: ws) ({ frames := 0, cells := 0, slots := 0, locals := 0 } : Room)) (fun ar_ U => ar_ = #[(.ref a)] ∧ Z.Warmed39 U.vm ∧ U.heap = h0) (fun _ _ _ _ _ => True) (fun _ U o U' => ∃ v L, o = .returned v ∧ QR (.int (own_po op a u0 u1 u2 u3 u4)) h0 v U'.heap L ∧ FrameEnd U o U' L ({ frames := 0, cells := 0, slots := 0, locals := 0 } : Room).cells ({ frames := 0, cells := 0, slots := 0, locals := 0 } : Room).slots) := by
  refine MetFree.of_bodySF (plainFor_of_name pn_1) hisR ?_
  intro p e s m args below meth c s₁ Bd hml0 hP hK
  obtain ⟨rfl, hZ, hh⟩ := hP
  have hx := Bd.exec
  have hby := Bd.bytes
  have hml : c.maxLocals = 1 := hml0
  have hown : s.vm.findClass "com/example/pathline/pathline/xpath/XPathLexer$TokenKind" = some m.cls := findClass_of_methodNamed Bd.named
  have hnm := (name_of_methodNamed Bd.named Bd.method).1
  have X0 : Stand p l e ({ frames := 0, cells := 0, slots := 0, locals := 0 } : Room) s m #[(.ref a)] below meth c s₁ [] 0 0 := Stand.of_body Bd
  have e0 : s₁.heap = h0 := by rw [← hh, Bd.state]; rfl
  have pre0 : ∀ t, Steps p.tables e below (s₁.setTop (mkF m 0 #[.val (.ref a)] [])) t → Steps p.tables e below (s₁.setTop (entryFrame m #[(.ref a)] 1)) t := fun t_ k_ => castTop (ef_1 m a) k_
  by_cases hop : op = (0 : Int32)
  · by_cases ha0 : a = u0
    · obtain ⟨T1, X1, e1, st1⟩ := getF X0 hx hZ hown (host := "") (Or.inl (hw _ (List.mem_of_getElem? (i := 76) rfl))) Via.refl e0 F (g := (mkF m 1 #[.val (.ref a)] [(.ref a)])) rfl rfl (hb hby d1_1)
      obtain ⟨T2, X2, e2, st2⟩ := getS2 X1 hx hZ hown (host := "") (Or.inl (hw _ (List.mem_of_getElem? (i := 78) rfl))) Via.refl e1 S0 (g := (mkF m 8 #[.val (.ref a)] [(.ref a)])) rfl (hb hby d1_8)
      obtain ⟨fs, hr, hrun, hended, hW, hsame⟩ := X2.leave (v := some (.int (own_po op a u0 u1 u2 u3 u4))) (fun h => by rw [Bd.returns] at h; cases h)
      refine ⟨_, _, pre0 _ ?_, hrun, hended, _, _, rfl, ?_, ⟨_, rfl⟩, hW, hsame.mono (by decide) (by decide)⟩
      · show Steps p.tables e below (s₁.setTop (mkF m 0 #[.val (.ref a)] [])) _
        refine XS.aloadN X0.here hx rfl (hb hby d1_0) rfl rfl ?_
        show Steps p.tables e below (s₁.setTop (mkF m 1 #[.val (.ref a)] [(.ref a)])) _
        refine st1 _ ?_
        show Steps p.tables e below (T1.setTop (mkF m 4 #[.val (.ref a)] [(.int op)])) _
        refine XS.ifNo X1.here hx rfl (hb hby d1_4) rfl ((if0 _ _).trans (teq hop).2) ?_
        show Steps p.tables e below (T1.setTop (mkF m 7 #[.val (.ref a)] [])) _
        refine XS.aloadN X1.here hx rfl (hb hby d1_7) rfl rfl ?_
        show Steps p.tables e below (T1.setTop (mkF m 8 #[.val (.ref a)] [(.ref a)])) _
        refine st2 _ ?_
        show Steps p.tables e below (T2.setTop (mkF m 11 #[.val (.ref a)] [(.ref u0), (.ref a)])) _
        refine Jvm.RoadKit.acmp (g := (mkF m 11 #[.val (.ref a)] [(.ref u0), (.ref a)])) X2 hx rfl rfl rfl (pc0 := 11) (pc' := 42) (same := true) rfl (hb hby d1_11) rfl (decide_eq_true (congrArg Value.ref ha0)) (by decide) (by decide) ?_
        show Steps p.tables e below (T2.setTop (mkF m 42 #[.val (.ref a)] [])) _
        refine XS.iconst X2.here hx rfl (hb hby d1_42) ?_
        show Steps p.tables e below (T2.setTop (mkF m 43 #[.val (.ref a)] [(.int (1 : Int32))])) _
        refine XS.goto X2.here hx rfl (pc0 := 43) (pc' := 47) rfl (hb hby d1_43) (by decide) (by decide) ?_
        show Steps p.tables e below (T2.setTop (mkF m 47 #[.val (.ref a)] [(.int (1 : Int32))])) _
        have hF : own_po op a u0 u1 u2 u3 u4 = (1 : Int32) := by rw [own_po, if_pos hop, if_pos ha0]
        rw [hF] at hr
        exact retN X2 hx (t := .boolean) Bd.returns (by simp) (hb hby d1_47) hr
      · exact ⟨rfl, rfl, e2⟩
    · by_cases ha1 : a = u1
      · obtain ⟨T1, X1, e1, st1⟩ := getF X0 hx hZ hown (host := "") (Or.inl (hw _ (List.mem_of_getElem? (i := 76) rfl))) Via.refl e0 F (g := (mkF m 1 #[.val (.ref a)] [(.ref a)])) rfl rfl (hb hby d1_1)
        obtain ⟨T2, X2, e2, st2⟩ := getS2 X1 hx hZ hown (host := "") (Or.inl (hw _ (List.mem_of_getElem? (i := 78) rfl))) Via.refl e1 S0 (g := (mkF m 8 #[.val (.ref a)] [(.ref a)])) rfl (hb hby d1_8)
        obtain ⟨T3, X3, e3, st3⟩ := getS2 X2 hx hZ hown (host := "") (Or.inl (hw _ (List.mem_of_getElem? (i := 79) rfl))) Via.refl e2 S1 (g := (mkF m 15 #[.val (.ref a)] [(.ref a)])) rfl (hb hby d1_15)
        obtain ⟨fs, hr, hrun, hended, hW, hsame⟩ := X3.leave (v := some (.int (own_po op a u0 u1 u2 u3 u4))) (fun h => by rw [Bd.returns] at h; cases h)
        refine ⟨_, _, pre0 _ ?_, hrun, hended, _, _, rfl, ?_, ⟨_, rfl⟩, hW, hsame.mono (by decide) (by decide)⟩
        · show Steps p.tables e below (s₁.setTop (mkF m 0 #[.val (.ref a)] [])) _
          refine XS.aloadN X0.here hx rfl (hb hby d1_0) rfl rfl ?_
          show Steps p.tables e below (s₁.setTop (mkF m 1 #[.val (.ref a)] [(.ref a)])) _
          refine st1 _ ?_
          show Steps p.tables e below (T1.setTop (mkF m 4 #[.val (.ref a)] [(.int op)])) _
          refine XS.ifNo X1.here hx rfl (hb hby d1_4) rfl ((if0 _ _).trans (teq hop).2) ?_
          show Steps p.tables e below (T1.setTop (mkF m 7 #[.val (.ref a)] [])) _
          refine XS.aloadN X1.here hx rfl (hb hby d1_7) rfl rfl ?_
          show Steps p.tables e below (T1.setTop (mkF m 8 #[.val (.ref a)] [(.ref a)])) _
          refine st2 _ ?_
          show Steps p.tables e below (T2.setTop (mkF m 11 #[.val (.ref a)] [(.ref u0), (.ref a)])) _
          refine Jvm.RoadKit.acmp (g := (mkF m 11 #[.val (.ref a)] [(.ref u0), (.ref a)])) X2 hx rfl rfl rfl (pc0 := 11) (pc' := 14) (same := false) rfl (hb hby d1_11) rfl (decide_eq_false fun q => ha0 (Value.ref.inj q)) (by decide) (by decide) ?_
          show Steps p.tables e below (T2.setTop (mkF m 14 #[.val (.ref a)] [])) _
          refine XS.aloadN X2.here hx rfl (hb hby d1_14) rfl rfl ?_
          show Steps p.tables e below (T2.setTop (mkF m 15 #[.val (.ref a)] [(.ref a)])) _
          refine st3 _ ?_
          show Steps p.tables e below (T3.setTop (mkF m 18 #[.val (.ref a)] [(.ref u1), (.ref a)])) _
          refine Jvm.RoadKit.acmp (g := (mkF m 18 #[.val (.ref a)] [(.ref u1), (.ref a)])) X3 hx rfl rfl rfl (pc0 := 18) (pc' := 42) (same := true) rfl (hb hby d1_18) rfl (decide_eq_true (congrArg Value.ref ha1)) (by decide) (by decide) ?_
          show Steps p.tables e below (T3.setTop (mkF m 42 #[.val (.ref a)] [])) _
          refine XS.iconst X3.here hx rfl (hb hby d1_42) ?_
          show Steps p.tables e below (T3.setTop (mkF m 43 #[.val (.ref a)] [(.int (1 : Int32))])) _
          refine XS.goto X3.here hx rfl (pc0 := 43) (pc' := 47) rfl (hb hby d1_43) (by decide) (by decide) ?_
          show Steps p.tables e below (T3.setTop (mkF m 47 #[.val (.ref a)] [(.int (1 : Int32))])) _
          have hF : own_po op a u0 u1 u2 u3 u4 = (1 : Int32) := by rw [own_po, if_pos hop, if_neg ha0, if_pos ha1]
          rw [hF] at hr
          exact retN X3 hx (t := .boolean) Bd.returns (by simp) (hb hby d1_47) hr
        · exact ⟨rfl, rfl, e3⟩
      · by_cases ha2 : a = u2
        · obtain ⟨T1, X1, e1, st1⟩ := getF X0 hx hZ hown (host := "") (Or.inl (hw _ (List.mem_of_getElem? (i := 76) rfl))) Via.refl e0 F (g := (mkF m 1 #[.val (.ref a)] [(.ref a)])) rfl rfl (hb hby d1_1)
          obtain ⟨T2, X2, e2, st2⟩ := getS2 X1 hx hZ hown (host := "") (Or.inl (hw _ (List.mem_of_getElem? (i := 78) rfl))) Via.refl e1 S0 (g := (mkF m 8 #[.val (.ref a)] [(.ref a)])) rfl (hb hby d1_8)
          obtain ⟨T3, X3, e3, st3⟩ := getS2 X2 hx hZ hown (host := "") (Or.inl (hw _ (List.mem_of_getElem? (i := 79) rfl))) Via.refl e2 S1 (g := (mkF m 15 #[.val (.ref a)] [(.ref a)])) rfl (hb hby d1_15)
          obtain ⟨T4, X4, e4, st4⟩ := getS2 X3 hx hZ hown (host := "") (Or.inl (hw _ (List.mem_of_getElem? (i := 80) rfl))) Via.refl e3 S2 (g := (mkF m 22 #[.val (.ref a)] [(.ref a)])) rfl (hb hby d1_22)
          obtain ⟨fs, hr, hrun, hended, hW, hsame⟩ := X4.leave (v := some (.int (own_po op a u0 u1 u2 u3 u4))) (fun h => by rw [Bd.returns] at h; cases h)
          refine ⟨_, _, pre0 _ ?_, hrun, hended, _, _, rfl, ?_, ⟨_, rfl⟩, hW, hsame.mono (by decide) (by decide)⟩
          · show Steps p.tables e below (s₁.setTop (mkF m 0 #[.val (.ref a)] [])) _
            refine XS.aloadN X0.here hx rfl (hb hby d1_0) rfl rfl ?_
            show Steps p.tables e below (s₁.setTop (mkF m 1 #[.val (.ref a)] [(.ref a)])) _
            refine st1 _ ?_
            show Steps p.tables e below (T1.setTop (mkF m 4 #[.val (.ref a)] [(.int op)])) _
            refine XS.ifNo X1.here hx rfl (hb hby d1_4) rfl ((if0 _ _).trans (teq hop).2) ?_
            show Steps p.tables e below (T1.setTop (mkF m 7 #[.val (.ref a)] [])) _
            refine XS.aloadN X1.here hx rfl (hb hby d1_7) rfl rfl ?_
            show Steps p.tables e below (T1.setTop (mkF m 8 #[.val (.ref a)] [(.ref a)])) _
            refine st2 _ ?_
            show Steps p.tables e below (T2.setTop (mkF m 11 #[.val (.ref a)] [(.ref u0), (.ref a)])) _
            refine Jvm.RoadKit.acmp (g := (mkF m 11 #[.val (.ref a)] [(.ref u0), (.ref a)])) X2 hx rfl rfl rfl (pc0 := 11) (pc' := 14) (same := false) rfl (hb hby d1_11) rfl (decide_eq_false fun q => ha0 (Value.ref.inj q)) (by decide) (by decide) ?_
            show Steps p.tables e below (T2.setTop (mkF m 14 #[.val (.ref a)] [])) _
            refine XS.aloadN X2.here hx rfl (hb hby d1_14) rfl rfl ?_
            show Steps p.tables e below (T2.setTop (mkF m 15 #[.val (.ref a)] [(.ref a)])) _
            refine st3 _ ?_
            show Steps p.tables e below (T3.setTop (mkF m 18 #[.val (.ref a)] [(.ref u1), (.ref a)])) _
            refine Jvm.RoadKit.acmp (g := (mkF m 18 #[.val (.ref a)] [(.ref u1), (.ref a)])) X3 hx rfl rfl rfl (pc0 := 18) (pc' := 21) (same := false) rfl (hb hby d1_18) rfl (decide_eq_false fun q => ha1 (Value.ref.inj q)) (by decide) (by decide) ?_
            show Steps p.tables e below (T3.setTop (mkF m 21 #[.val (.ref a)] [])) _
            refine XS.aloadN X3.here hx rfl (hb hby d1_21) rfl rfl ?_
            show Steps p.tables e below (T3.setTop (mkF m 22 #[.val (.ref a)] [(.ref a)])) _
            refine st4 _ ?_
            show Steps p.tables e below (T4.setTop (mkF m 25 #[.val (.ref a)] [(.ref u2), (.ref a)])) _
            refine Jvm.RoadKit.acmp (g := (mkF m 25 #[.val (.ref a)] [(.ref u2), (.ref a)])) X4 hx rfl rfl rfl (pc0 := 25) (pc' := 42) (same := true) rfl (hb hby d1_25) rfl (decide_eq_true (congrArg Value.ref ha2)) (by decide) (by decide) ?_
            show Steps p.tables e below (T4.setTop (mkF m 42 #[.val (.ref a)] [])) _
            refine XS.iconst X4.here hx rfl (hb hby d1_42) ?_
            show Steps p.tables e below (T4.setTop (mkF m 43 #[.val (.ref a)] [(.int (1 : Int32))])) _
            refine XS.goto X4.here hx rfl (pc0 := 43) (pc' := 47) rfl (hb hby d1_43) (by decide) (by decide) ?_
            show Steps p.tables e below (T4.setTop (mkF m 47 #[.val (.ref a)] [(.int (1 : Int32))])) _
            have hF : own_po op a u0 u1 u2 u3 u4 = (1 : Int32) := by rw [own_po, if_pos hop, if_neg ha0, if_neg ha1, if_pos ha2]
            rw [hF] at hr
            exact retN X4 hx (t := .boolean) Bd.returns (by simp) (hb hby d1_47) hr
          · exact ⟨rfl, rfl, e4⟩
        · by_cases ha3 : a = u3
          · obtain ⟨T1, X1, e1, st1⟩ := getF X0 hx hZ hown (host := "") (Or.inl (hw _ (List.mem_of_getElem? (i := 76) rfl))) Via.refl e0 F (g := (mkF m 1 #[.val (.ref a)] [(.ref a)])) rfl rfl (hb hby d1_1)
            obtain ⟨T2, X2, e2, st2⟩ := getS2 X1 hx hZ hown (host := "") (Or.inl (hw _ (List.mem_of_getElem? (i := 78) rfl))) Via.refl e1 S0 (g := (mkF m 8 #[.val (.ref a)] [(.ref a)])) rfl (hb hby d1_8)
            obtain ⟨T3, X3, e3, st3⟩ := getS2 X2 hx hZ hown (host := "") (Or.inl (hw _ (List.mem_of_getElem? (i := 79) rfl))) Via.refl e2 S1 (g := (mkF m 15 #[.val (.ref a)] [(.ref a)])) rfl (hb hby d1_15)
            obtain ⟨T4, X4, e4, st4⟩ := getS2 X3 hx hZ hown (host := "") (Or.inl (hw _ (List.mem_of_getElem? (i := 80) rfl))) Via.refl e3 S2 (g := (mkF m 22 #[.val (.ref a)] [(.ref a)])) rfl (hb hby d1_22)
            obtain ⟨T5, X5, e5, st5⟩ := getS2 X4 hx hZ hown (host := "") (Or.inl (hw _ (List.mem_of_getElem? (i := 81) rfl))) Via.refl e4 S3 (g := (mkF m 29 #[.val (.ref a)] [(.ref a)])) rfl (hb hby d1_29)
            obtain ⟨fs, hr, hrun, hended, hW, hsame⟩ := X5.leave (v := some (.int (own_po op a u0 u1 u2 u3 u4))) (fun h => by rw [Bd.returns] at h; cases h)
            refine ⟨_, _, pre0 _ ?_, hrun, hended, _, _, rfl, ?_, ⟨_, rfl⟩, hW, hsame.mono (by decide) (by decide)⟩
            · show Steps p.tables e below (s₁.setTop (mkF m 0 #[.val (.ref a)] [])) _
              refine XS.aloadN X0.here hx rfl (hb hby d1_0) rfl rfl ?_
              show Steps p.tables e below (s₁.setTop (mkF m 1 #[.val (.ref a)] [(.ref a)])) _
              refine st1 _ ?_
              show Steps p.tables e below (T1.setTop (mkF m 4 #[.val (.ref a)] [(.int op)])) _
              refine XS.ifNo X1.here hx rfl (hb hby d1_4) rfl ((if0 _ _).trans (teq hop).2) ?_
              show Steps p.tables e below (T1.setTop (mkF m 7 #[.val (.ref a)] [])) _
              refine XS.aloadN X1.here hx rfl (hb hby d1_7) rfl rfl ?_
              show Steps p.tables e below (T1.setTop (mkF m 8 #[.val (.ref a)] [(.ref a)])) _
              refine st2 _ ?_
              show Steps p.tables e below (T2.setTop (mkF m 11 #[.val (.ref a)] [(.ref u0), (.ref a)])) _
              refine Jvm.RoadKit.acmp (g := (mkF m 11 #[.val (.ref a)] [(.ref u0), (.ref a)])) X2 hx rfl rfl rfl (pc0 := 11) (pc' := 14) (same := false) rfl (hb hby d1_11) rfl (decide_eq_false fun q => ha0 (Value.ref.inj q)) (by decide) (by decide) ?_
              show Steps p.tables e below (T2.setTop (mkF m 14 #[.val (.ref a)] [])) _
              refine XS.aloadN X2.here hx rfl (hb hby d1_14) rfl rfl ?_
              show Steps p.tables e below (T2.setTop (mkF m 15 #[.val (.ref a)] [(.ref a)])) _
              refine st3 _ ?_
              show Steps p.tables e below (T3.setTop (mkF m 18 #[.val (.ref a)] [(.ref u1), (.ref a)])) _
              refine Jvm.RoadKit.acmp (g := (mkF m 18 #[.val (.ref a)] [(.ref u1), (.ref a)])) X3 hx rfl rfl rfl (pc0 := 18) (pc' := 21) (same := false) rfl (hb hby d1_18) rfl (decide_eq_false fun q => ha1 (Value.ref.inj q)) (by decide) (by decide) ?_
              show Steps p.tables e below (T3.setTop (mkF m 21 #[.val (.ref a)] [])) _
              refine XS.aloadN X3.here hx rfl (hb hby d1_21) rfl rfl ?_
              show Steps p.tables e below (T3.setTop (mkF m 22 #[.val (.ref a)] [(.ref a)])) _
              refine st4 _ ?_
              show Steps p.tables e below (T4.setTop (mkF m 25 #[.val (.ref a)] [(.ref u2), (.ref a)])) _
              refine Jvm.RoadKit.acmp (g := (mkF m 25 #[.val (.ref a)] [(.ref u2), (.ref a)])) X4 hx rfl rfl rfl (pc0 := 25) (pc' := 28) (same := false) rfl (hb hby d1_25) rfl (decide_eq_false fun q => ha2 (Value.ref.inj q)) (by decide) (by decide) ?_
              show Steps p.tables e below (T4.setTop (mkF m 28 #[.val (.ref a)] [])) _
              refine XS.aloadN X4.here hx rfl (hb hby d1_28) rfl rfl ?_
              show Steps p.tables e below (T4.setTop (mkF m 29 #[.val (.ref a)] [(.ref a)])) _
              refine st5 _ ?_
              show Steps p.tables e below (T5.setTop (mkF m 32 #[.val (.ref a)] [(.ref u3), (.ref a)])) _
              refine Jvm.RoadKit.acmp (g := (mkF m 32 #[.val (.ref a)] [(.ref u3), (.ref a)])) X5 hx rfl rfl rfl (pc0 := 32) (pc' := 42) (same := true) rfl (hb hby d1_32) rfl (decide_eq_true (congrArg Value.ref ha3)) (by decide) (by decide) ?_
              show Steps p.tables e below (T5.setTop (mkF m 42 #[.val (.ref a)] [])) _
              refine XS.iconst X5.here hx rfl (hb hby d1_42) ?_
              show Steps p.tables e below (T5.setTop (mkF m 43 #[.val (.ref a)] [(.int (1 : Int32))])) _
              refine XS.goto X5.here hx rfl (pc0 := 43) (pc' := 47) rfl (hb hby d1_43) (by decide) (by decide) ?_
              show Steps p.tables e below (T5.setTop (mkF m 47 #[.val (.ref a)] [(.int (1 : Int32))])) _
              have hF : own_po op a u0 u1 u2 u3 u4 = (1 : Int32) := by rw [own_po, if_pos hop, if_neg ha0, if_neg ha1, if_neg ha2, if_pos ha3]
              rw [hF] at hr
              exact retN X5 hx (t := .boolean) Bd.returns (by simp) (hb hby d1_47) hr
            · exact ⟨rfl, rfl, e5⟩
          · by_cases ha4 : a = u4
            · obtain ⟨T1, X1, e1, st1⟩ := getF X0 hx hZ hown (host := "") (Or.inl (hw _ (List.mem_of_getElem? (i := 76) rfl))) Via.refl e0 F (g := (mkF m 1 #[.val (.ref a)] [(.ref a)])) rfl rfl (hb hby d1_1)
              obtain ⟨T2, X2, e2, st2⟩ := getS2 X1 hx hZ hown (host := "") (Or.inl (hw _ (List.mem_of_getElem? (i := 78) rfl))) Via.refl e1 S0 (g := (mkF m 8 #[.val (.ref a)] [(.ref a)])) rfl (hb hby d1_8)
              obtain ⟨T3, X3, e3, st3⟩ := getS2 X2 hx hZ hown (host := "") (Or.inl (hw _ (List.mem_of_getElem? (i := 79) rfl))) Via.refl e2 S1 (g := (mkF m 15 #[.val (.ref a)] [(.ref a)])) rfl (hb hby d1_15)
              obtain ⟨T4, X4, e4, st4⟩ := getS2 X3 hx hZ hown (host := "") (Or.inl (hw _ (List.mem_of_getElem? (i := 80) rfl))) Via.refl e3 S2 (g := (mkF m 22 #[.val (.ref a)] [(.ref a)])) rfl (hb hby d1_22)
              obtain ⟨T5, X5, e5, st5⟩ := getS2 X4 hx hZ hown (host := "") (Or.inl (hw _ (List.mem_of_getElem? (i := 81) rfl))) Via.refl e4 S3 (g := (mkF m 29 #[.val (.ref a)] [(.ref a)])) rfl (hb hby d1_29)
              obtain ⟨T6, X6, e6, st6⟩ := getS2 X5 hx hZ hown (host := "") (Or.inl (hw _ (List.mem_of_getElem? (i := 82) rfl))) Via.refl e5 S4 (g := (mkF m 36 #[.val (.ref a)] [(.ref a)])) rfl (hb hby d1_36)
              obtain ⟨fs, hr, hrun, hended, hW, hsame⟩ := X6.leave (v := some (.int (own_po op a u0 u1 u2 u3 u4))) (fun h => by rw [Bd.returns] at h; cases h)
              refine ⟨_, _, pre0 _ ?_, hrun, hended, _, _, rfl, ?_, ⟨_, rfl⟩, hW, hsame.mono (by decide) (by decide)⟩
              · show Steps p.tables e below (s₁.setTop (mkF m 0 #[.val (.ref a)] [])) _
                refine XS.aloadN X0.here hx rfl (hb hby d1_0) rfl rfl ?_
                show Steps p.tables e below (s₁.setTop (mkF m 1 #[.val (.ref a)] [(.ref a)])) _
                refine st1 _ ?_
                show Steps p.tables e below (T1.setTop (mkF m 4 #[.val (.ref a)] [(.int op)])) _
                refine XS.ifNo X1.here hx rfl (hb hby d1_4) rfl ((if0 _ _).trans (teq hop).2) ?_
                show Steps p.tables e below (T1.setTop (mkF m 7 #[.val (.ref a)] [])) _
                refine XS.aloadN X1.here hx rfl (hb hby d1_7) rfl rfl ?_
                show Steps p.tables e below (T1.setTop (mkF m 8 #[.val (.ref a)] [(.ref a)])) _
                refine st2 _ ?_
                show Steps p.tables e below (T2.setTop (mkF m 11 #[.val (.ref a)] [(.ref u0), (.ref a)])) _
                refine Jvm.RoadKit.acmp (g := (mkF m 11 #[.val (.ref a)] [(.ref u0), (.ref a)])) X2 hx rfl rfl rfl (pc0 := 11) (pc' := 14) (same := false) rfl (hb hby d1_11) rfl (decide_eq_false fun q => ha0 (Value.ref.inj q)) (by decide) (by decide) ?_
                show Steps p.tables e below (T2.setTop (mkF m 14 #[.val (.ref a)] [])) _
                refine XS.aloadN X2.here hx rfl (hb hby d1_14) rfl rfl ?_
                show Steps p.tables e below (T2.setTop (mkF m 15 #[.val (.ref a)] [(.ref a)])) _
                refine st3 _ ?_
                show Steps p.tables e below (T3.setTop (mkF m 18 #[.val (.ref a)] [(.ref u1), (.ref a)])) _
                refine Jvm.RoadKit.acmp (g := (mkF m 18 #[.val (.ref a)] [(.ref u1), (.ref a)])) X3 hx rfl rfl rfl (pc0 := 18) (pc' := 21) (same := false) rfl (hb hby d1_18) rfl (decide_eq_false fun q => ha1 (Value.ref.inj q)) (by decide) (by decide) ?_
                show Steps p.tables e below (T3.setTop (mkF m 21 #[.val (.ref a)] [])) _
                refine XS.aloadN X3.here hx rfl (hb hby d1_21) rfl rfl ?_
                show Steps p.tables e below (T3.setTop (mkF m 22 #[.val (.ref a)] [(.ref a)])) _
                refine st4 _ ?_
                show Steps p.tables e below (T4.setTop (mkF m 25 #[.val (.ref a)] [(.ref u2), (.ref a)])) _
                refine Jvm.RoadKit.acmp (g := (mkF m 25 #[.val (.ref a)] [(.ref u2), (.ref a)])) X4 hx rfl rfl rfl (pc0 := 25) (pc' := 28) (same := false) rfl (hb hby d1_25) rfl (decide_eq_false fun q => ha2 (Value.ref.inj q)) (by decide) (by decide) ?_
                show Steps p.tables e below (T4.setTop (mkF m 28 #[.val (.ref a)] [])) _
                refine XS.aloadN X4.here hx rfl (hb hby d1_28) rfl rfl ?_
                show Steps p.tables e below (T4.setTop (mkF m 29 #[.val (.ref a)] [(.ref a)])) _
                refine st5 _ ?_
                show Steps p.tables e below (T5.setTop (mkF m 32 #[.val (.ref a)] [(.ref u3), (.ref a)])) _
                refine Jvm.RoadKit.acmp (g := (mkF m 32 #[.val (.ref a)] [(.ref u3), (.ref a)])) X5 hx rfl rfl rfl (pc0 := 32) (pc' := 35) (same := false) rfl (hb hby d1_32) rfl (decide_eq_false fun q => ha3 (Value.ref.inj q)) (by decide) (by decide) ?_
                show Steps p.tables e below (T5.setTop (mkF m 35 #[.val (.ref a)] [])) _
                refine XS.aloadN X5.here hx rfl (hb hby d1_35) rfl rfl ?_
                show Steps p.tables e below (T5.setTop (mkF m 36 #[.val (.ref a)] [(.ref a)])) _
                refine st6 _ ?_
                show Steps p.tables e below (T6.setTop (mkF m 39 #[.val (.ref a)] [(.ref u4), (.ref a)])) _
                refine Jvm.RoadKit.acmp (g := (mkF m 39 #[.val (.ref a)] [(.ref u4), (.ref a)])) X6 hx rfl rfl rfl (pc0 := 39) (pc' := 42) (same := true) rfl (hb hby d1_39) rfl (decide_eq_true (congrArg Value.ref ha4)) (by decide) (by decide) ?_
                show Steps p.tables e below (T6.setTop (mkF m 42 #[.val (.ref a)] [])) _
                refine XS.iconst X6.here hx rfl (hb hby d1_42) ?_
                show Steps p.tables e below (T6.setTop (mkF m 43 #[.val (.ref a)] [(.int (1 : Int32))])) _
                refine XS.goto X6.here hx rfl (pc0 := 43) (pc' := 47) rfl (hb hby d1_43) (by decide) (by decide) ?_
                show Steps p.tables e below (T6.setTop (mkF m 47 #[.val (.ref a)] [(.int (1 : Int32))])) _
                have hF : own_po op a u0 u1 u2 u3 u4 = (1 : Int32) := by rw [own_po, if_pos hop, if_neg ha0, if_neg ha1, if_neg ha2, if_neg ha3, if_pos ha4]
                rw [hF] at hr
                exact retN X6 hx (t := .boolean) Bd.returns (by simp) (hb hby d1_47) hr
              · exact ⟨rfl, rfl, e6⟩
            · obtain ⟨T1, X1, e1, st1⟩ := getF X0 hx hZ hown (host := "") (Or.inl (hw _ (List.mem_of_getElem? (i := 76) rfl))) Via.refl e0 F (g := (mkF m 1 #[.val (.ref a)] [(.ref a)])) rfl rfl (hb hby d1_1)
              obtain ⟨T2, X2, e2, st2⟩ := getS2 X1 hx hZ hown (host := "") (Or.inl (hw _ (List.mem_of_getElem? (i := 78) rfl))) Via.refl e1 S0 (g := (mkF m 8 #[.val (.ref a)] [(.ref a)])) rfl (hb hby d1_8)
              obtain ⟨T3, X3, e3, st3⟩ := getS2 X2 hx hZ hown (host := "") (Or.inl (hw _ (List.mem_of_getElem? (i := 79) rfl))) Via.refl e2 S1 (g := (mkF m 15 #[.val (.ref a)] [(.ref a)])) rfl (hb hby d1_15)
              obtain ⟨T4, X4, e4, st4⟩ := getS2 X3 hx hZ hown (host := "") (Or.inl (hw _ (List.mem_of_getElem? (i := 80) rfl))) Via.refl e3 S2 (g := (mkF m 22 #[.val (.ref a)] [(.ref a)])) rfl (hb hby d1_22)
              obtain ⟨T5, X5, e5, st5⟩ := getS2 X4 hx hZ hown (host := "") (Or.inl (hw _ (List.mem_of_getElem? (i := 81) rfl))) Via.refl e4 S3 (g := (mkF m 29 #[.val (.ref a)] [(.ref a)])) rfl (hb hby d1_29)
              obtain ⟨T6, X6, e6, st6⟩ := getS2 X5 hx hZ hown (host := "") (Or.inl (hw _ (List.mem_of_getElem? (i := 82) rfl))) Via.refl e5 S4 (g := (mkF m 36 #[.val (.ref a)] [(.ref a)])) rfl (hb hby d1_36)
              obtain ⟨fs, hr, hrun, hended, hW, hsame⟩ := X6.leave (v := some (.int (own_po op a u0 u1 u2 u3 u4))) (fun h => by rw [Bd.returns] at h; cases h)
              refine ⟨_, _, pre0 _ ?_, hrun, hended, _, _, rfl, ?_, ⟨_, rfl⟩, hW, hsame.mono (by decide) (by decide)⟩
              · show Steps p.tables e below (s₁.setTop (mkF m 0 #[.val (.ref a)] [])) _
                refine XS.aloadN X0.here hx rfl (hb hby d1_0) rfl rfl ?_
                show Steps p.tables e below (s₁.setTop (mkF m 1 #[.val (.ref a)] [(.ref a)])) _
                refine st1 _ ?_
                show Steps p.tables e below (T1.setTop (mkF m 4 #[.val (.ref a)] [(.int op)])) _
                refine XS.ifNo X1.here hx rfl (hb hby d1_4) rfl ((if0 _ _).trans (teq hop).2) ?_
                show Steps p.tables e below (T1.setTop (mkF m 7 #[.val (.ref a)] [])) _
                refine XS.aloadN X1.here hx rfl (hb hby d1_7) rfl rfl ?_
                show Steps p.tables e below (T1.setTop (mkF m 8 #[.val (.ref a)] [(.ref a)])) _
                refine st2 _ ?_
                show Steps p.tables e below (T2.setTop (mkF m 11 #[.val (.ref a)] [(.ref u0), (.ref a)])) _
                refine Jvm.RoadKit.acmp (g := (mkF m 11 #[.val (.ref a)] [(.ref u0), (.ref a)])) X2 hx rfl rfl rfl (pc0 := 11) (pc' := 14) (same := false) rfl (hb hby d1_11) rfl (decide_eq_false fun q => ha0 (Value.ref.inj q)) (by decide) (by decide) ?_
                show Steps p.tables e below (T2.setTop (mkF m 14 #[.val (.ref a)] [])) _
                refine XS.aloadN X2.here hx rfl (hb hby d1_14) rfl rfl ?_
                show Steps p.tables e below (T2.setTop (mkF m 15 #[.val (.ref a)] [(.ref a)])) _
                refine st3 _ ?_
                show Steps p.tables e below (T3.setTop (mkF m 18 #[.val (.ref a)] [(.ref u1), (.ref a)])) _
                refine Jvm.RoadKit.acmp (g := (mkF m 18 #[.val (.ref a)] [(.ref u1), (.ref a)])) X3 hx rfl rfl rfl (pc0 := 18) (pc' := 21) (same := false) rfl (hb hby d1_18) rfl (decide_eq_false fun q => ha1 (Value.ref.inj q)) (by decide) (by decide) ?_
                show Steps p.tables e below (T3.setTop (mkF m 21 #[.val (.ref a)] [])) _
                refine XS.aloadN X3.here hx rfl (hb hby d1_21) rfl rfl ?_
                show Steps p.tables e below (T3.setTop (mkF m 22 #[.val (.ref a)] [(.ref a)])) _
                refine st4 _ ?_
                show Steps p.tables e below (T4.setTop (mkF m 25 #[.val (.ref a)] [(.ref u2), (.ref a)])) _
                refine Jvm.RoadKit.acmp (g := (mkF m 25 #[.val (.ref a)] [(.ref u2), (.ref a)])) X4 hx rfl rfl rfl (pc0 := 25) (pc' := 28) (same := false) rfl (hb hby d1_25) rfl (decide_eq_false fun q => ha2 (Value.ref.inj q)) (by decide) (by decide) ?_
                show Steps p.tables e below (T4.setTop (mkF m 28 #[.val (.ref a)] [])) _
                refine XS.aloadN X4.here hx rfl (hb hby d1_28) rfl rfl ?_
                show Steps p.tables e below (T4.setTop (mkF m 29 #[.val (.ref a)] [(.ref a)])) _
                refine st5 _ ?_
                show Steps p.tables e below (T5.setTop (mkF m 32 #[.val (.ref a)] [(.ref u3), (.ref a)])) _
                refine Jvm.RoadKit.acmp (g := (mkF m 32 #[.val (.ref a)] [(.ref u3), (.ref a)])) X5 hx rfl rfl rfl (pc0 := 32) (pc' := 35) (same := false) rfl (hb hby d1_32) rfl (decide_eq_false fun q => ha3 (Value.ref.inj q)) (by decide) (by decide) ?_
                show Steps p.tables e below (T5.setTop (mkF m 35 #[.val (.ref a)] [])) _
                refine XS.aloadN X5.here hx rfl (hb hby d1_35) rfl rfl ?_
                show Steps p.tables e below (T5.setTop (mkF m 36 #[.val (.ref a)] [(.ref a)])) _
                refine st6 _ ?_
                show Steps p.tables e below (T6.setTop (mkF m 39 #[.val (.ref a)] [(.ref u4), (.ref a)])) _
                refine Jvm.RoadKit.acmp (g := (mkF m 39 #[.val (.ref a)] [(.ref u4), (.ref a)])) X6 hx rfl rfl rfl (pc0 := 39) (pc' := 46) (same := false) rfl (hb hby d1_39) rfl (decide_eq_false fun q => ha4 (Value.ref.inj q)) (by decide) (by decide) ?_
                show Steps p.tables e below (T6.setTop (mkF m 46 #[.val (.ref a)] [])) _
                refine XS.iconst X6.here hx rfl (hb hby d1_46) ?_
                show Steps p.tables e below (T6.setTop (mkF m 47 #[.val (.ref a)] [(.int (0 : Int32))])) _
                have hF : own_po op a u0 u1 u2 u3 u4 = (0 : Int32) := by rw [own_po, if_pos hop, if_neg ha0, if_neg ha1, if_neg ha2, if_neg ha3, if_neg ha4]
                rw [hF] at hr
                exact retN X6 hx (t := .boolean) Bd.returns (by simp) (hb hby d1_47) hr
              · exact ⟨rfl, rfl, e6⟩
  · obtain ⟨T1, X1, e1, st1⟩ := getF X0 hx hZ hown (host := "") (Or.inl (hw _ (List.mem_of_getElem? (i := 76) rfl))) Via.refl e0 F (g := (mkF m 1 #[.val (.ref a)] [(.ref a)])) rfl rfl (hb hby d1_1)
    obtain ⟨fs, hr, hrun, hended, hW, hsame⟩ := X1.leave (v := some (.int (own_po op a u0 u1 u2 u3 u4))) (fun h => by rw [Bd.returns] at h; cases h)
    refine ⟨_, _, pre0 _ ?_, hrun, hended, _, _, rfl, ?_, ⟨_, rfl⟩, hW, hsame.mono (by decide) (by decide)⟩
    · show Steps p.tables e below (s₁.setTop (mkF m 0 #[.val (.ref a)] [])) _
      refine XS.aloadN X0.here hx rfl (hb hby d1_0) rfl rfl ?_
      show Steps p.tables e below (s₁.setTop (mkF m 1 #[.val (.ref a)] [(.ref a)])) _
      refine st1 _ ?_
      show Steps p.tables e below (T1.setTop (mkF m 4 #[.val (.ref a)] [(.int op)])) _
      refine XS.ifYes X1.here hx rfl (pc0 := 4) (pc' := 42) rfl (hb hby d1_4) rfl ((if0 _ _).trans (feq hop).2) (by decide) (by decide) ?_
      show Steps p.tables e below (T1.setTop (mkF m 42 #[.val (.ref a)] [])) _
      refine XS.iconst X1.here hx rfl (hb hby d1_42) ?_
      show Steps p.tables e below (T1.setTop (mkF m 43 #[.val (.ref a)] [(.int (1 : Int32))])) _
      refine XS.goto X1.here hx rfl (pc0 := 43) (pc' := 47) rfl (hb hby d1_43) (by decide) (by decide) ?_
      show Steps p.tables e below (T1.setTop (mkF m 47 #[.val (.ref a)] [(.int (1 : Int32))])) _
      have hF : own_po op a u0 u1 u2 u3 u4 = (1 : Int32) := by rw [own_po, if_neg hop]
      rw [hF] at hr
      exact retN X1 hx (t := .boolean) Bd.returns (by simp) (hb hby d1_47) hr
    · exact ⟨rfl, rfl, e1⟩
set_option maxRecDepth 65536 in
set_option maxHeartbeats 40000000 in
theorem arr {p : Program} {l : Launch} {e : Env} {s : State} {m : MethodId} {args : Array Value} {below : List Frame} {meth : Method} {c : Code} {T0 : State} {locs : List Loc} {Z : State} {a0 : Array Value} {h0 : Heap} (k : Int32) (w : Nat → Addr) (n0 : Nat) (Z0 : n0 ≤ h0.size) (N0 : Fr n0 locs) (X0 : Stand p l e room_1 s m args below meth c T0 locs 0 0) (hx : p.tables.exec = Jvm.exec) (hZ : Z.Warmed39 s.vm) (hw : ∀ d ∈ tables_1, d.before a0 Z = true) (hby : c.code = code) (hml : c.maxLocals = 4) (hown : s.vm.findClass "com/example/pathline/pathline/xpath/TokenKindPrecedesOperandPinLaw" = some m.cls) (e0 : T0.heap = h0) (hS : ∀ j, j < 33 → Sta Z h0 "com/example/pathline/pathline/xpath/XPathLexer$TokenKind" (own_nm.getD j "") "Lcom/example/pathline/pathline/xpath/XPathLexer$TokenKind;" (.ref (w j))) (hE : ∀ j, j < 33 → Exa Z h0 (w j) "com/example/pathline/pathline/xpath/XPathLexer$TokenKind") : ∃ (T' : State) (h' : Heap) (b : Addr) (locs' : List Loc), Stand p l e room_1 s m args below meth c T' locs' 1 33 ∧ T'.heap = h' ∧ Fr n0 locs' ∧ Keep h0 h' [] ∧ Rar Z h' b 33 w ∧ ∀ target, Steps p.tables e below (T'.setTop (mkF m 231 #[.val (.int k), .val (.ref b), .unset, .unset] [])) target → Steps p.tables e below (T0.setTop (mkF m 0 #[.val (.int k), .unset, .unset, .unset] [])) target := by
  obtain ⟨T1, h1, k1, X1, e1, E1, A1, O1, st1⟩ := newR X0 hx hZ hown (hw _ (List.mem_of_getElem? (i := 0) rfl)) (hw _ (List.mem_of_getElem? (i := 1) rfl)) e0 (g := (mkF m 2 #[.val (.int k), .unset, .unset, .unset] [(.int (33 : Int32))])) rfl (hb hby at_2) rfl (by decide) (cap := 33) (by decide) (by decide) (by decide) (by decide)
  obtain ⟨b, gb⟩ : ∃ z, z = h0.size := ⟨_, rfl⟩
  rw [← gb] at A1 st1
  have g : n0 ≤ b := Nat.le_trans Z0 (Nat.le_of_eq gb.symm)
  have gk : h0.size ≤ b := Nat.le_of_eq gb.symm
  have V1 : Rar Z h1 b 0 w := ⟨_, _, A1, rfl, O1, sz_new _ _ _, fun j hj => absurd hj (by omega)⟩
  have K1 : Keep h0 h1 [] := (Keep.refl h0 []).ext E1
  obtain ⟨T2, X2, e2, st2⟩ := getS2 X1 hx hZ hown (host := "") (Or.inl (hw _ (List.mem_of_getElem? (i := 2) rfl))) Via.refl e1 (own_staKeep K1 (hS 0 (by omega))) (g := (mkF m 7 #[.val (.int k), .unset, .unset, .unset] [(.int (0 : Int32)), (.ref b), (.ref b)])) rfl (hb hby at_7)
  obtain ⟨T3, h3, X3, e3, W3, V3, st3⟩ := own_stR X2 hx hZ e2 V1 (Ins.self ((hE 0 (by omega)).keep K1)) (j := (0 : Int32)) (by decide) (by decide) (by omega) (g := (mkF m 10 #[.val (.int k), .unset, .unset, .unset] [(.ref (w 0)), (.int (0 : Int32)), (.ref b), (.ref b)])) rfl rfl (hb hby at_10)
  have K3 : Keep h0 h3 [] := K1.wr W3 (Or.inr gk)
  have N3 := Fr.snoc X3 N0 g
  obtain ⟨T4, X4, e4, st4⟩ := getS2 X3 hx hZ hown (host := "") (Or.inl (hw _ (List.mem_of_getElem? (i := 6) rfl))) Via.refl e3 (own_staKeep K3 (hS 1 (by omega))) (g := (mkF m 13 #[.val (.int k), .unset, .unset, .unset] [(.int (1 : Int32)), (.ref b), (.ref b)])) rfl (hb hby at_13)
  obtain ⟨T5, h5, X5, e5, W5, V5, st5⟩ := own_stR X4 hx hZ e4 V3 (Ins.self ((hE 1 (by omega)).keep K3)) (j := (1 : Int32)) (by decide) (by decide) (by omega) (g := (mkF m 16 #[.val (.int k), .unset, .unset, .unset] [(.ref (w 1)), (.int (1 : Int32)), (.ref b), (.ref b)])) rfl rfl (hb hby at_16)
  have K5 : Keep h0 h5 [] := K3.wr W5 (Or.inr gk)
  have N5 := Fr.snoc X5 N3 g
  obtain ⟨T6, X6, e6, st6⟩ := getS2 X5 hx hZ hown (host := "") (Or.inl (hw _ (List.mem_of_getElem? (i := 8) rfl))) Via.refl e5 (own_staKeep K5 (hS 2 (by omega))) (g := (mkF m 19 #[.val (.int k), .unset, .unset, .unset] [(.int (2 : Int32)), (.ref b), (.ref b)])) rfl (hb hby at_19)
  obtain ⟨T7, h7, X7, e7, W7, V7, st7⟩ := own_stR X6 hx hZ e6 V5 (Ins.self ((hE 2 (by omega)).keep K5)) (j := (2 : Int32)) (by decide) (by decide) (by omega) (g := (mkF m 22 #[.val (.int k), .unset, .unset, .unset] [(.ref (w 2)), (.int (2 : Int32)), (.ref b), (.ref b)])) rfl rfl (hb hby at_22)
  have K7 : Keep h0 h7 [] := K5.wr W7 (Or.inr gk)
  have N7 := Fr.snoc X7 N5 g
  obtain ⟨T8, X8, e8, st8⟩ := getS2 X7 hx hZ hown (host := "") (Or.inl (hw _ (List.mem_of_getElem? (i := 10) rfl))) Via.refl e7 (own_staKeep K7 (hS 3 (by omega))) (g := (mkF m 25 #[.val (.int k), .unset, .unset, .unset] [(.int (3 : Int32)), (.ref b), (.ref b)])) rfl (hb hby at_25)
  obtain ⟨T9, h9, X9, e9, W9, V9, st9⟩ := own_stR X8 hx hZ e8 V7 (Ins.self ((hE 3 (by omega)).keep K7)) (j := (3 : Int32)) (by decide) (by decide) (by omega) (g := (mkF m 28 #[.val (.int k), .unset, .unset, .unset] [(.ref (w 3)), (.int (3 : Int32)), (.ref b), (.ref b)])) rfl rfl (hb hby at_28)
  have K9 : Keep h0 h9 [] := K7.wr W9 (Or.inr gk)
  have N9 := Fr.snoc X9 N7 g
  obtain ⟨T10, X10, e10, st10⟩ := getS2 X9 hx hZ hown (host := "") (Or.inl (hw _ (List.mem_of_getElem? (i := 12) rfl))) Via.refl e9 (own_staKeep K9 (hS 4 (by omega))) (g := (mkF m 31 #[.val (.int k), .unset, .unset, .unset] [(.int (4 : Int32)), (.ref b), (.ref b)])) rfl (hb hby at_31)
  obtain ⟨T11, h11, X11, e11, W11, V11, st11⟩ := own_stR X10 hx hZ e10 V9 (Ins.self ((hE 4 (by omega)).keep K9)) (j := (4 : Int32)) (by decide) (by decide) (by omega) (g := (mkF m 34 #[.val (.int k), .unset, .unset, .unset] [(.ref (w 4)), (.int (4 : Int32)), (.ref b), (.ref b)])) rfl rfl (hb hby at_34)
  have K11 : Keep h0 h11 [] := K9.wr W11 (Or.inr gk)
  have N11 := Fr.snoc X11 N9 g
  obtain ⟨T12, X12, e12, st12⟩ := getS2 X11 hx hZ hown (host := "") (Or.inl (hw _ (List.mem_of_getElem? (i := 14) rfl))) Via.refl e11 (own_staKeep K11 (hS 5 (by omega))) (g := (mkF m 37 #[.val (.int k), .unset, .unset, .unset] [(.int (5 : Int32)), (.ref b), (.ref b)])) rfl (hb hby at_37)
  obtain ⟨T13, h13, X13, e13, W13, V13, st13⟩ := own_stR X12 hx hZ e12 V11 (Ins.self ((hE 5 (by omega)).keep K11)) (j := (5 : Int32)) (by decide) (by decide) (by omega) (g := (mkF m 40 #[.val (.int k), .unset, .unset, .unset] [(.ref (w 5)), (.int (5 : Int32)), (.ref b), (.ref b)])) rfl rfl (hb hby at_40)
  have K13 : Keep h0 h13 [] := K11.wr W13 (Or.inr gk)
  have N13 := Fr.snoc X13 N11 g
  obtain ⟨T14, X14, e14, st14⟩ := getS2 X13 hx hZ hown (host := "") (Or.inl (hw _ (List.mem_of_getElem? (i := 16) rfl))) Via.refl e13 (own_staKeep K13 (hS 6 (by omega))) (g := (mkF m 44 #[.val (.int k), .unset, .unset, .unset] [(.int (6 : Int32)), (.ref b), (.ref b)])) rfl (hb hby at_44)
  obtain ⟨T15, h15, X15, e15, W15, V15, st15⟩ := own_stR X14 hx hZ e14 V13 (Ins.self ((hE 6 (by omega)).keep K13)) (j := (6 : Int32)) (by decide) (by decide) (by omega) (g := (mkF m 47 #[.val (.int k), .unset, .unset, .unset] [(.ref (w 6)), (.int (6 : Int32)), (.ref b), (.ref b)])) rfl rfl (hb hby at_47)
  have K15 : Keep h0 h15 [] := K13.wr W15 (Or.inr gk)
  have N15 := Fr.snoc X15 N13 g
  obtain ⟨T16, X16, e16, st16⟩ := getS2 X15 hx hZ hown (host := "") (Or.inl (hw _ (List.mem_of_getElem? (i := 18) rfl))) Via.refl e15 (own_staKeep K15 (hS 7 (by omega))) (g := (mkF m 51 #[.val (.int k), .unset, .unset, .unset] [(.int (7 : Int32)), (.ref b), (.ref b)])) rfl (hb hby at_51)
  obtain ⟨T17, h17, X17, e17, W17, V17, st17⟩ := own_stR X16 hx hZ e16 V15 (Ins.self ((hE 7 (by omega)).keep K15)) (j := (7 : Int32)) (by decide) (by decide) (by omega) (g := (mkF m 54 #[.val (.int k), .unset, .unset, .unset] [(.ref (w 7)), (.int (7 : Int32)), (.ref b), (.ref b)])) rfl rfl (hb hby at_54)
  have K17 : Keep h0 h17 [] := K15.wr W17 (Or.inr gk)
  have N17 := Fr.snoc X17 N15 g
  obtain ⟨T18, X18, e18, st18⟩ := getS2 X17 hx hZ hown (host := "") (Or.inl (hw _ (List.mem_of_getElem? (i := 20) rfl))) Via.refl e17 (own_staKeep K17 (hS 8 (by omega))) (g := (mkF m 58 #[.val (.int k), .unset, .unset, .unset] [(.int (8 : Int32)), (.ref b), (.ref b)])) rfl (hb hby at_58)
  obtain ⟨T19, h19, X19, e19, W19, V19, st19⟩ := own_stR X18 hx hZ e18 V17 (Ins.self ((hE 8 (by omega)).keep K17)) (j := (8 : Int32)) (by decide) (by decide) (by omega) (g := (mkF m 61 #[.val (.int k), .unset, .unset, .unset] [(.ref (w 8)), (.int (8 : Int32)), (.ref b), (.ref b)])) rfl rfl (hb hby at_61)
  have K19 : Keep h0 h19 [] := K17.wr W19 (Or.inr gk)
  have N19 := Fr.snoc X19 N17 g
  obtain ⟨T20, X20, e20, st20⟩ := getS2 X19 hx hZ hown (host := "") (Or.inl (hw _ (List.mem_of_getElem? (i := 22) rfl))) Via.refl e19 (own_staKeep K19 (hS 9 (by omega))) (g := (mkF m 65 #[.val (.int k), .unset, .unset, .unset] [(.int (9 : Int32)), (.ref b), (.ref b)])) rfl (hb hby at_65)
  obtain ⟨T21, h21, X21, e21, W21, V21, st21⟩ := own_stR X20 hx hZ e20 V19 (Ins.self ((hE 9 (by omega)).keep K19)) (j := (9 : Int32)) (by decide) (by decide) (by omega) (g := (mkF m 68 #[.val (.int k), .unset, .unset, .unset] [(.ref (w 9)), (.int (9 : Int32)), (.ref b), (.ref b)])) rfl rfl (hb hby at_68)
  have K21 : Keep h0 h21 [] := K19.wr W21 (Or.inr gk)
  have N21 := Fr.snoc X21 N19 g
  obtain ⟨T22, X22, e22, st22⟩ := getS2 X21 hx hZ hown (host := "") (Or.inl (hw _ (List.mem_of_getElem? (i := 24) rfl))) Via.refl e21 (own_staKeep K21 (hS 10 (by omega))) (g := (mkF m 72 #[.val (.int k), .unset, .unset, .unset] [(.int (10 : Int32)), (.ref b), (.ref b)])) rfl (hb hby at_72)
  obtain ⟨T23, h23, X23, e23, W23, V23, st23⟩ := own_stR X22 hx hZ e22 V21 (Ins.self ((hE 10 (by omega)).keep K21)) (j := (10 : Int32)) (by decide) (by decide) (by omega) (g := (mkF m 75 #[.val (.int k), .unset, .unset, .unset] [(.ref (w 10)), (.int (10 : Int32)), (.ref b), (.ref b)])) rfl rfl (hb hby at_75)
  have K23 : Keep h0 h23 [] := K21.wr W23 (Or.inr gk)
  have N23 := Fr.snoc X23 N21 g
  obtain ⟨T24, X24, e24, st24⟩ := getS2 X23 hx hZ hown (host := "") (Or.inl (hw _ (List.mem_of_getElem? (i := 26) rfl))) Via.refl e23 (own_staKeep K23 (hS 11 (by omega))) (g := (mkF m 79 #[.val (.int k), .unset, .unset, .unset] [(.int (11 : Int32)), (.ref b), (.ref b)])) rfl (hb hby at_79)
  obtain ⟨T25, h25, X25, e25, W25, V25, st25⟩ := own_stR X24 hx hZ e24 V23 (Ins.self ((hE 11 (by omega)).keep K23)) (j := (11 : Int32)) (by decide) (by decide) (by omega) (g := (mkF m 82 #[.val (.int k), .unset, .unset, .unset] [(.ref (w 11)), (.int (11 : Int32)), (.ref b), (.ref b)])) rfl rfl (hb hby at_82)
  have K25 : Keep h0 h25 [] := K23.wr W25 (Or.inr gk)
  have N25 := Fr.snoc X25 N23 g
  obtain ⟨T26, X26, e26, st26⟩ := getS2 X25 hx hZ hown (host := "") (Or.inl (hw _ (List.mem_of_getElem? (i := 28) rfl))) Via.refl e25 (own_staKeep K25 (hS 12 (by omega))) (g := (mkF m 86 #[.val (.int k), .unset, .unset, .unset] [(.int (12 : Int32)), (.ref b), (.ref b)])) rfl (hb hby at_86)
  obtain ⟨T27, h27, X27, e27, W27, V27, st27⟩ := own_stR X26 hx hZ e26 V25 (Ins.self ((hE 12 (by omega)).keep K25)) (j := (12 : Int32)) (by decide) (by decide) (by omega) (g := (mkF m 89 #[.val (.int k), .unset, .unset, .unset] [(.ref (w 12)), (.int (12 : Int32)), (.ref b), (.ref b)])) rfl rfl (hb hby at_89)
  have K27 : Keep h0 h27 [] := K25.wr W27 (Or.inr gk)
  have N27 := Fr.snoc X27 N25 g
  obtain ⟨T28, X28, e28, st28⟩ := getS2 X27 hx hZ hown (host := "") (Or.inl (hw _ (List.mem_of_getElem? (i := 30) rfl))) Via.refl e27 (own_staKeep K27 (hS 13 (by omega))) (g := (mkF m 93 #[.val (.int k), .unset, .unset, .unset] [(.int (13 : Int32)), (.ref b), (.ref b)])) rfl (hb hby at_93)
  obtain ⟨T29, h29, X29, e29, W29, V29, st29⟩ := own_stR X28 hx hZ e28 V27 (Ins.self ((hE 13 (by omega)).keep K27)) (j := (13 : Int32)) (by decide) (by decide) (by omega) (g := (mkF m 96 #[.val (.int k), .unset, .unset, .unset] [(.ref (w 13)), (.int (13 : Int32)), (.ref b), (.ref b)])) rfl rfl (hb hby at_96)
  have K29 : Keep h0 h29 [] := K27.wr W29 (Or.inr gk)
  have N29 := Fr.snoc X29 N27 g
  obtain ⟨T30, X30, e30, st30⟩ := getS2 X29 hx hZ hown (host := "") (Or.inl (hw _ (List.mem_of_getElem? (i := 32) rfl))) Via.refl e29 (own_staKeep K29 (hS 14 (by omega))) (g := (mkF m 100 #[.val (.int k), .unset, .unset, .unset] [(.int (14 : Int32)), (.ref b), (.ref b)])) rfl (hb hby at_100)
  obtain ⟨T31, h31, X31, e31, W31, V31, st31⟩ := own_stR X30 hx hZ e30 V29 (Ins.self ((hE 14 (by omega)).keep K29)) (j := (14 : Int32)) (by decide) (by decide) (by omega) (g := (mkF m 103 #[.val (.int k), .unset, .unset, .unset] [(.ref (w 14)), (.int (14 : Int32)), (.ref b), (.ref b)])) rfl rfl (hb hby at_103)
  have K31 : Keep h0 h31 [] := K29.wr W31 (Or.inr gk)
  have N31 := Fr.snoc X31 N29 g
  obtain ⟨T32, X32, e32, st32⟩ := getS2 X31 hx hZ hown (host := "") (Or.inl (hw _ (List.mem_of_getElem? (i := 34) rfl))) Via.refl e31 (own_staKeep K31 (hS 15 (by omega))) (g := (mkF m 107 #[.val (.int k), .unset, .unset, .unset] [(.int (15 : Int32)), (.ref b), (.ref b)])) rfl (hb hby at_107)
  obtain ⟨T33, h33, X33, e33, W33, V33, st33⟩ := own_stR X32 hx hZ e32 V31 (Ins.self ((hE 15 (by omega)).keep K31)) (j := (15 : Int32)) (by decide) (by decide) (by omega) (g := (mkF m 110 #[.val (.int k), .unset, .unset, .unset] [(.ref (w 15)), (.int (15 : Int32)), (.ref b), (.ref b)])) rfl rfl (hb hby at_110)
  have K33 : Keep h0 h33 [] := K31.wr W33 (Or.inr gk)
  have N33 := Fr.snoc X33 N31 g
  obtain ⟨T34, X34, e34, st34⟩ := getS2 X33 hx hZ hown (host := "") (Or.inl (hw _ (List.mem_of_getElem? (i := 36) rfl))) Via.refl e33 (own_staKeep K33 (hS 16 (by omega))) (g := (mkF m 114 #[.val (.int k), .unset, .unset, .unset] [(.int (16 : Int32)), (.ref b), (.ref b)])) rfl (hb hby at_114)
  obtain ⟨T35, h35, X35, e35, W35, V35, st35⟩ := own_stR X34 hx hZ e34 V33 (Ins.self ((hE 16 (by omega)).keep K33)) (j := (16 : Int32)) (by decide) (by decide) (by omega) (g := (mkF m 117 #[.val (.int k), .unset, .unset, .unset] [(.ref (w 16)), (.int (16 : Int32)), (.ref b), (.ref b)])) rfl rfl (hb hby at_117)
  have K35 : Keep h0 h35 [] := K33.wr W35 (Or.inr gk)
  have N35 := Fr.snoc X35 N33 g
  obtain ⟨T36, X36, e36, st36⟩ := getS2 X35 hx hZ hown (host := "") (Or.inl (hw _ (List.mem_of_getElem? (i := 38) rfl))) Via.refl e35 (own_staKeep K35 (hS 17 (by omega))) (g := (mkF m 121 #[.val (.int k), .unset, .unset, .unset] [(.int (17 : Int32)), (.ref b), (.ref b)])) rfl (hb hby at_121)
  obtain ⟨T37, h37, X37, e37, W37, V37, st37⟩ := own_stR X36 hx hZ e36 V35 (Ins.self ((hE 17 (by omega)).keep K35)) (j := (17 : Int32)) (by decide) (by decide) (by omega) (g := (mkF m 124 #[.val (.int k), .unset, .unset, .unset] [(.ref (w 17)), (.int (17 : Int32)), (.ref b), (.ref b)])) rfl rfl (hb hby at_124)
  have K37 : Keep h0 h37 [] := K35.wr W37 (Or.inr gk)
  have N37 := Fr.snoc X37 N35 g
  obtain ⟨T38, X38, e38, st38⟩ := getS2 X37 hx hZ hown (host := "") (Or.inl (hw _ (List.mem_of_getElem? (i := 40) rfl))) Via.refl e37 (own_staKeep K37 (hS 18 (by omega))) (g := (mkF m 128 #[.val (.int k), .unset, .unset, .unset] [(.int (18 : Int32)), (.ref b), (.ref b)])) rfl (hb hby at_128)
  obtain ⟨T39, h39, X39, e39, W39, V39, st39⟩ := own_stR X38 hx hZ e38 V37 (Ins.self ((hE 18 (by omega)).keep K37)) (j := (18 : Int32)) (by decide) (by decide) (by omega) (g := (mkF m 131 #[.val (.int k), .unset, .unset, .unset] [(.ref (w 18)), (.int (18 : Int32)), (.ref b), (.ref b)])) rfl rfl (hb hby at_131)
  have K39 : Keep h0 h39 [] := K37.wr W39 (Or.inr gk)
  have N39 := Fr.snoc X39 N37 g
  obtain ⟨T40, X40, e40, st40⟩ := getS2 X39 hx hZ hown (host := "") (Or.inl (hw _ (List.mem_of_getElem? (i := 42) rfl))) Via.refl e39 (own_staKeep K39 (hS 19 (by omega))) (g := (mkF m 135 #[.val (.int k), .unset, .unset, .unset] [(.int (19 : Int32)), (.ref b), (.ref b)])) rfl (hb hby at_135)
  obtain ⟨T41, h41, X41, e41, W41, V41, st41⟩ := own_stR X40 hx hZ e40 V39 (Ins.self ((hE 19 (by omega)).keep K39)) (j := (19 : Int32)) (by decide) (by decide) (by omega) (g := (mkF m 138 #[.val (.int k), .unset, .unset, .unset] [(.ref (w 19)), (.int (19 : Int32)), (.ref b), (.ref b)])) rfl rfl (hb hby at_138)
  have K41 : Keep h0 h41 [] := K39.wr W41 (Or.inr gk)
  have N41 := Fr.snoc X41 N39 g
  obtain ⟨T42, X42, e42, st42⟩ := getS2 X41 hx hZ hown (host := "") (Or.inl (hw _ (List.mem_of_getElem? (i := 44) rfl))) Via.refl e41 (own_staKeep K41 (hS 20 (by omega))) (g := (mkF m 142 #[.val (.int k), .unset, .unset, .unset] [(.int (20 : Int32)), (.ref b), (.ref b)])) rfl (hb hby at_142)
  obtain ⟨T43, h43, X43, e43, W43, V43, st43⟩ := own_stR X42 hx hZ e42 V41 (Ins.self ((hE 20 (by omega)).keep K41)) (j := (20 : Int32)) (by decide) (by decide) (by omega) (g := (mkF m 145 #[.val (.int k), .unset, .unset, .unset] [(.ref (w 20)), (.int (20 : Int32)), (.ref b), (.ref b)])) rfl rfl (hb hby at_145)
  have K43 : Keep h0 h43 [] := K41.wr W43 (Or.inr gk)
  have N43 := Fr.snoc X43 N41 g
  obtain ⟨T44, X44, e44, st44⟩ := getS2 X43 hx hZ hown (host := "") (Or.inl (hw _ (List.mem_of_getElem? (i := 46) rfl))) Via.refl e43 (own_staKeep K43 (hS 21 (by omega))) (g := (mkF m 149 #[.val (.int k), .unset, .unset, .unset] [(.int (21 : Int32)), (.ref b), (.ref b)])) rfl (hb hby at_149)
  obtain ⟨T45, h45, X45, e45, W45, V45, st45⟩ := own_stR X44 hx hZ e44 V43 (Ins.self ((hE 21 (by omega)).keep K43)) (j := (21 : Int32)) (by decide) (by decide) (by omega) (g := (mkF m 152 #[.val (.int k), .unset, .unset, .unset] [(.ref (w 21)), (.int (21 : Int32)), (.ref b), (.ref b)])) rfl rfl (hb hby at_152)
  have K45 : Keep h0 h45 [] := K43.wr W45 (Or.inr gk)
  have N45 := Fr.snoc X45 N43 g
  obtain ⟨T46, X46, e46, st46⟩ := getS2 X45 hx hZ hown (host := "") (Or.inl (hw _ (List.mem_of_getElem? (i := 48) rfl))) Via.refl e45 (own_staKeep K45 (hS 22 (by omega))) (g := (mkF m 156 #[.val (.int k), .unset, .unset, .unset] [(.int (22 : Int32)), (.ref b), (.ref b)])) rfl (hb hby at_156)
  obtain ⟨T47, h47, X47, e47, W47, V47, st47⟩ := own_stR X46 hx hZ e46 V45 (Ins.self ((hE 22 (by omega)).keep K45)) (j := (22 : Int32)) (by decide) (by decide) (by omega) (g := (mkF m 159 #[.val (.int k), .unset, .unset, .unset] [(.ref (w 22)), (.int (22 : Int32)), (.ref b), (.ref b)])) rfl rfl (hb hby at_159)
  have K47 : Keep h0 h47 [] := K45.wr W47 (Or.inr gk)
  have N47 := Fr.snoc X47 N45 g
  obtain ⟨T48, X48, e48, st48⟩ := getS2 X47 hx hZ hown (host := "") (Or.inl (hw _ (List.mem_of_getElem? (i := 50) rfl))) Via.refl e47 (own_staKeep K47 (hS 23 (by omega))) (g := (mkF m 163 #[.val (.int k), .unset, .unset, .unset] [(.int (23 : Int32)), (.ref b), (.ref b)])) rfl (hb hby at_163)
  obtain ⟨T49, h49, X49, e49, W49, V49, st49⟩ := own_stR X48 hx hZ e48 V47 (Ins.self ((hE 23 (by omega)).keep K47)) (j := (23 : Int32)) (by decide) (by decide) (by omega) (g := (mkF m 166 #[.val (.int k), .unset, .unset, .unset] [(.ref (w 23)), (.int (23 : Int32)), (.ref b), (.ref b)])) rfl rfl (hb hby at_166)
  have K49 : Keep h0 h49 [] := K47.wr W49 (Or.inr gk)
  have N49 := Fr.snoc X49 N47 g
  obtain ⟨T50, X50, e50, st50⟩ := getS2 X49 hx hZ hown (host := "") (Or.inl (hw _ (List.mem_of_getElem? (i := 52) rfl))) Via.refl e49 (own_staKeep K49 (hS 24 (by omega))) (g := (mkF m 170 #[.val (.int k), .unset, .unset, .unset] [(.int (24 : Int32)), (.ref b), (.ref b)])) rfl (hb hby at_170)
  obtain ⟨T51, h51, X51, e51, W51, V51, st51⟩ := own_stR X50 hx hZ e50 V49 (Ins.self ((hE 24 (by omega)).keep K49)) (j := (24 : Int32)) (by decide) (by decide) (by omega) (g := (mkF m 173 #[.val (.int k), .unset, .unset, .unset] [(.ref (w 24)), (.int (24 : Int32)), (.ref b), (.ref b)])) rfl rfl (hb hby at_173)
  have K51 : Keep h0 h51 [] := K49.wr W51 (Or.inr gk)
  have N51 := Fr.snoc X51 N49 g
  obtain ⟨T52, X52, e52, st52⟩ := getS2 X51 hx hZ hown (host := "") (Or.inl (hw _ (List.mem_of_getElem? (i := 54) rfl))) Via.refl e51 (own_staKeep K51 (hS 25 (by omega))) (g := (mkF m 177 #[.val (.int k), .unset, .unset, .unset] [(.int (25 : Int32)), (.ref b), (.ref b)])) rfl (hb hby at_177)
  obtain ⟨T53, h53, X53, e53, W53, V53, st53⟩ := own_stR X52 hx hZ e52 V51 (Ins.self ((hE 25 (by omega)).keep K51)) (j := (25 : Int32)) (by decide) (by decide) (by omega) (g := (mkF m 180 #[.val (.int k), .unset, .unset, .unset] [(.ref (w 25)), (.int (25 : Int32)), (.ref b), (.ref b)])) rfl rfl (hb hby at_180)
  have K53 : Keep h0 h53 [] := K51.wr W53 (Or.inr gk)
  have N53 := Fr.snoc X53 N51 g
  obtain ⟨T54, X54, e54, st54⟩ := getS2 X53 hx hZ hown (host := "") (Or.inl (hw _ (List.mem_of_getElem? (i := 56) rfl))) Via.refl e53 (own_staKeep K53 (hS 26 (by omega))) (g := (mkF m 184 #[.val (.int k), .unset, .unset, .unset] [(.int (26 : Int32)), (.ref b), (.ref b)])) rfl (hb hby at_184)
  obtain ⟨T55, h55, X55, e55, W55, V55, st55⟩ := own_stR X54 hx hZ e54 V53 (Ins.self ((hE 26 (by omega)).keep K53)) (j := (26 : Int32)) (by decide) (by decide) (by omega) (g := (mkF m 187 #[.val (.int k), .unset, .unset, .unset] [(.ref (w 26)), (.int (26 : Int32)), (.ref b), (.ref b)])) rfl rfl (hb hby at_187)
  have K55 : Keep h0 h55 [] := K53.wr W55 (Or.inr gk)
  have N55 := Fr.snoc X55 N53 g
  obtain ⟨T56, X56, e56, st56⟩ := getS2 X55 hx hZ hown (host := "") (Or.inl (hw _ (List.mem_of_getElem? (i := 58) rfl))) Via.refl e55 (own_staKeep K55 (hS 27 (by omega))) (g := (mkF m 191 #[.val (.int k), .unset, .unset, .unset] [(.int (27 : Int32)), (.ref b), (.ref b)])) rfl (hb hby at_191)
  obtain ⟨T57, h57, X57, e57, W57, V57, st57⟩ := own_stR X56 hx hZ e56 V55 (Ins.self ((hE 27 (by omega)).keep K55)) (j := (27 : Int32)) (by decide) (by decide) (by omega) (g := (mkF m 194 #[.val (.int k), .unset, .unset, .unset] [(.ref (w 27)), (.int (27 : Int32)), (.ref b), (.ref b)])) rfl rfl (hb hby at_194)
  have K57 : Keep h0 h57 [] := K55.wr W57 (Or.inr gk)
  have N57 := Fr.snoc X57 N55 g
  obtain ⟨T58, X58, e58, st58⟩ := getS2 X57 hx hZ hown (host := "") (Or.inl (hw _ (List.mem_of_getElem? (i := 60) rfl))) Via.refl e57 (own_staKeep K57 (hS 28 (by omega))) (g := (mkF m 198 #[.val (.int k), .unset, .unset, .unset] [(.int (28 : Int32)), (.ref b), (.ref b)])) rfl (hb hby at_198)
  obtain ⟨T59, h59, X59, e59, W59, V59, st59⟩ := own_stR X58 hx hZ e58 V57 (Ins.self ((hE 28 (by omega)).keep K57)) (j := (28 : Int32)) (by decide) (by decide) (by omega) (g := (mkF m 201 #[.val (.int k), .unset, .unset, .unset] [(.ref (w 28)), (.int (28 : Int32)), (.ref b), (.ref b)])) rfl rfl (hb hby at_201)
  have K59 : Keep h0 h59 [] := K57.wr W59 (Or.inr gk)
  have N59 := Fr.snoc X59 N57 g
  obtain ⟨T60, X60, e60, st60⟩ := getS2 X59 hx hZ hown (host := "") (Or.inl (hw _ (List.mem_of_getElem? (i := 62) rfl))) Via.refl e59 (own_staKeep K59 (hS 29 (by omega))) (g := (mkF m 205 #[.val (.int k), .unset, .unset, .unset] [(.int (29 : Int32)), (.ref b), (.ref b)])) rfl (hb hby at_205)
  obtain ⟨T61, h61, X61, e61, W61, V61, st61⟩ := own_stR X60 hx hZ e60 V59 (Ins.self ((hE 29 (by omega)).keep K59)) (j := (29 : Int32)) (by decide) (by decide) (by omega) (g := (mkF m 208 #[.val (.int k), .unset, .unset, .unset] [(.ref (w 29)), (.int (29 : Int32)), (.ref b), (.ref b)])) rfl rfl (hb hby at_208)
  have K61 : Keep h0 h61 [] := K59.wr W61 (Or.inr gk)
  have N61 := Fr.snoc X61 N59 g
  obtain ⟨T62, X62, e62, st62⟩ := getS2 X61 hx hZ hown (host := "") (Or.inl (hw _ (List.mem_of_getElem? (i := 64) rfl))) Via.refl e61 (own_staKeep K61 (hS 30 (by omega))) (g := (mkF m 212 #[.val (.int k), .unset, .unset, .unset] [(.int (30 : Int32)), (.ref b), (.ref b)])) rfl (hb hby at_212)
  obtain ⟨T63, h63, X63, e63, W63, V63, st63⟩ := own_stR X62 hx hZ e62 V61 (Ins.self ((hE 30 (by omega)).keep K61)) (j := (30 : Int32)) (by decide) (by decide) (by omega) (g := (mkF m 215 #[.val (.int k), .unset, .unset, .unset] [(.ref (w 30)), (.int (30 : Int32)), (.ref b), (.ref b)])) rfl rfl (hb hby at_215)
  have K63 : Keep h0 h63 [] := K61.wr W63 (Or.inr gk)
  have N63 := Fr.snoc X63 N61 g
  obtain ⟨T64, X64, e64, st64⟩ := getS2 X63 hx hZ hown (host := "") (Or.inl (hw _ (List.mem_of_getElem? (i := 66) rfl))) Via.refl e63 (own_staKeep K63 (hS 31 (by omega))) (g := (mkF m 219 #[.val (.int k), .unset, .unset, .unset] [(.int (31 : Int32)), (.ref b), (.ref b)])) rfl (hb hby at_219)
  obtain ⟨T65, h65, X65, e65, W65, V65, st65⟩ := own_stR X64 hx hZ e64 V63 (Ins.self ((hE 31 (by omega)).keep K63)) (j := (31 : Int32)) (by decide) (by decide) (by omega) (g := (mkF m 222 #[.val (.int k), .unset, .unset, .unset] [(.ref (w 31)), (.int (31 : Int32)), (.ref b), (.ref b)])) rfl rfl (hb hby at_222)
  have K65 : Keep h0 h65 [] := K63.wr W65 (Or.inr gk)
  have N65 := Fr.snoc X65 N63 g
  obtain ⟨T66, X66, e66, st66⟩ := getS2 X65 hx hZ hown (host := "") (Or.inl (hw _ (List.mem_of_getElem? (i := 68) rfl))) Via.refl e65 (own_staKeep K65 (hS 32 (by omega))) (g := (mkF m 226 #[.val (.int k), .unset, .unset, .unset] [(.int (32 : Int32)), (.ref b), (.ref b)])) rfl (hb hby at_226)
  obtain ⟨T67, h67, X67, e67, W67, V67, st67⟩ := own_stR X66 hx hZ e66 V65 (Ins.self ((hE 32 (by omega)).keep K65)) (j := (32 : Int32)) (by decide) (by decide) (by omega) (g := (mkF m 229 #[.val (.int k), .unset, .unset, .unset] [(.ref (w 32)), (.int (32 : Int32)), (.ref b), (.ref b)])) rfl rfl (hb hby at_229)
  have K67 : Keep h0 h67 [] := K65.wr W67 (Or.inr gk)
  have N67 := Fr.snoc X67 N65 g
  refine ⟨T67, _, b, _, X67, e67, N67, K67, V67, fun target kt => ?_⟩
  show Steps p.tables e below (T0.setTop (mkF m 0 #[.val (.int k), .unset, .unset, .unset] [])) _
  refine XS.bipush X0.here hx rfl (hb hby at_0) ?_
  show Steps p.tables e below (T0.setTop (mkF m 2 #[.val (.int k), .unset, .unset, .unset] [(.int (33 : Int32))])) _
  refine st1 _ ?_
  show Steps p.tables e below (T1.setTop (mkF m 5 #[.val (.int k), .unset, .unset, .unset] [(.ref b)])) _
  refine XS.dup X1.here hx rfl (hb hby at_5) rfl rfl ?_
  show Steps p.tables e below (T1.setTop (mkF m 6 #[.val (.int k), .unset, .unset, .unset] [(.ref b), (.ref b)])) _
  refine XS.iconst X1.here hx rfl (hb hby at_6) ?_
  show Steps p.tables e below (T1.setTop (mkF m 7 #[.val (.int k), .unset, .unset, .unset] [(.int (0 : Int32)), (.ref b), (.ref b)])) _
  refine st2 _ ?_
  show Steps p.tables e below (T2.setTop (mkF m 10 #[.val (.int k), .unset, .unset, .unset] [(.ref (w 0)), (.int (0 : Int32)), (.ref b), (.ref b)])) _
  refine st3 _ ?_
  show Steps p.tables e below (T3.setTop (mkF m 11 #[.val (.int k), .unset, .unset, .unset] [(.ref b)])) _
  refine XS.dup X3.here hx rfl (hb hby at_11) rfl rfl ?_
  show Steps p.tables e below (T3.setTop (mkF m 12 #[.val (.int k), .unset, .unset, .unset] [(.ref b), (.ref b)])) _
  refine XS.iconst X3.here hx rfl (hb hby at_12) ?_
  show Steps p.tables e below (T3.setTop (mkF m 13 #[.val (.int k), .unset, .unset, .unset] [(.int (1 : Int32)), (.ref b), (.ref b)])) _
  refine st4 _ ?_
  show Steps p.tables e below (T4.setTop (mkF m 16 #[.val (.int k), .unset, .unset, .unset] [(.ref (w 1)), (.int (1 : Int32)), (.ref b), (.ref b)])) _
  refine st5 _ ?_
  show Steps p.tables e below (T5.setTop (mkF m 17 #[.val (.int k), .unset, .unset, .unset] [(.ref b)])) _
  refine XS.dup X5.here hx rfl (hb hby at_17) rfl rfl ?_
  show Steps p.tables e below (T5.setTop (mkF m 18 #[.val (.int k), .unset, .unset, .unset] [(.ref b), (.ref b)])) _
  refine XS.iconst X5.here hx rfl (hb hby at_18) ?_
  show Steps p.tables e below (T5.setTop (mkF m 19 #[.val (.int k), .unset, .unset, .unset] [(.int (2 : Int32)), (.ref b), (.ref b)])) _
  refine st6 _ ?_
  show Steps p.tables e below (T6.setTop (mkF m 22 #[.val (.int k), .unset, .unset, .unset] [(.ref (w 2)), (.int (2 : Int32)), (.ref b), (.ref b)])) _
  refine st7 _ ?_
  show Steps p.tables e below (T7.setTop (mkF m 23 #[.val (.int k), .unset, .unset, .unset] [(.ref b)])) _
  refine XS.dup X7.here hx rfl (hb hby at_23) rfl rfl ?_
  show Steps p.tables e below (T7.setTop (mkF m 24 #[.val (.int k), .unset, .unset, .unset] [(.ref b), (.ref b)])) _
  refine XS.iconst X7.here hx rfl (hb hby at_24) ?_
  show Steps p.tables e below (T7.setTop (mkF m 25 #[.val (.int k), .unset, .unset, .unset] [(.int (3 : Int32)), (.ref b), (.ref b)])) _
  refine st8 _ ?_
  show Steps p.tables e below (T8.setTop (mkF m 28 #[.val (.int k), .unset, .unset, .unset] [(.ref (w 3)), (.int (3 : Int32)), (.ref b), (.ref b)])) _
  refine st9 _ ?_
  show Steps p.tables e below (T9.setTop (mkF m 29 #[.val (.int k), .unset, .unset, .unset] [(.ref b)])) _
  refine XS.dup X9.here hx rfl (hb hby at_29) rfl rfl ?_
  show Steps p.tables e below (T9.setTop (mkF m 30 #[.val (.int k), .unset, .unset, .unset] [(.ref b), (.ref b)])) _
  refine XS.iconst X9.here hx rfl (hb hby at_30) ?_
  show Steps p.tables e below (T9.setTop (mkF m 31 #[.val (.int k), .unset, .unset, .unset] [(.int (4 : Int32)), (.ref b), (.ref b)])) _
  refine st10 _ ?_
  show Steps p.tables e below (T10.setTop (mkF m 34 #[.val (.int k), .unset, .unset, .unset] [(.ref (w 4)), (.int (4 : Int32)), (.ref b), (.ref b)])) _
  refine st11 _ ?_
  show Steps p.tables e below (T11.setTop (mkF m 35 #[.val (.int k), .unset, .unset, .unset] [(.ref b)])) _
  refine XS.dup X11.here hx rfl (hb hby at_35) rfl rfl ?_
  show Steps p.tables e below (T11.setTop (mkF m 36 #[.val (.int k), .unset, .unset, .unset] [(.ref b), (.ref b)])) _
  refine XS.iconst X11.here hx rfl (hb hby at_36) ?_
  show Steps p.tables e below (T11.setTop (mkF m 37 #[.val (.int k), .unset, .unset, .unset] [(.int (5 : Int32)), (.ref b), (.ref b)])) _
  refine st12 _ ?_
  show Steps p.tables e below (T12.setTop (mkF m 40 #[.val (.int k), .unset, .unset, .unset] [(.ref (w 5)), (.int (5 : Int32)), (.ref b), (.ref b)])) _
  refine st13 _ ?_
  show Steps p.tables e below (T13.setTop (mkF m 41 #[.val (.int k), .unset, .unset, .unset] [(.ref b)])) _
  refine XS.dup X13.here hx rfl (hb hby at_41) rfl rfl ?_
  show Steps p.tables e below (T13.setTop (mkF m 42 #[.val (.int k), .unset, .unset, .unset] [(.ref b), (.ref b)])) _
  refine XS.bipush X13.here hx rfl (hb hby at_42) ?_
  show Steps p.tables e below (T13.setTop (mkF m 44 #[.val (.int k), .unset, .unset, .unset] [(.int (6 : Int32)), (.ref b), (.ref b)])) _
  refine st14 _ ?_
  show Steps p.tables e below (T14.setTop (mkF m 47 #[.val (.int k), .unset, .unset, .unset] [(.ref (w 6)), (.int (6 : Int32)), (.ref b), (.ref b)])) _
  refine st15 _ ?_
  show Steps p.tables e below (T15.setTop (mkF m 48 #[.val (.int k), .unset, .unset, .unset] [(.ref b)])) _
  refine XS.dup X15.here hx rfl (hb hby at_48) rfl rfl ?_
  show Steps p.tables e below (T15.setTop (mkF m 49 #[.val (.int k), .unset, .unset, .unset] [(.ref b), (.ref b)])) _
  refine XS.bipush X15.here hx rfl (hb hby at_49) ?_
  show Steps p.tables e below (T15.setTop (mkF m 51 #[.val (.int k), .unset, .unset, .unset] [(.int (7 : Int32)), (.ref b), (.ref b)])) _
  refine st16 _ ?_
  show Steps p.tables e below (T16.setTop (mkF m 54 #[.val (.int k), .unset, .unset, .unset] [(.ref (w 7)), (.int (7 : Int32)), (.ref b), (.ref b)])) _
  refine st17 _ ?_
  show Steps p.tables e below (T17.setTop (mkF m 55 #[.val (.int k), .unset, .unset, .unset] [(.ref b)])) _
  refine XS.dup X17.here hx rfl (hb hby at_55) rfl rfl ?_
  show Steps p.tables e below (T17.setTop (mkF m 56 #[.val (.int k), .unset, .unset, .unset] [(.ref b), (.ref b)])) _
  refine XS.bipush X17.here hx rfl (hb hby at_56) ?_
  show Steps p.tables e below (T17.setTop (mkF m 58 #[.val (.int k), .unset, .unset, .unset] [(.int (8 : Int32)), (.ref b), (.ref b)])) _
  refine st18 _ ?_
  show Steps p.tables e below (T18.setTop (mkF m 61 #[.val (.int k), .unset, .unset, .unset] [(.ref (w 8)), (.int (8 : Int32)), (.ref b), (.ref b)])) _
  refine st19 _ ?_
  show Steps p.tables e below (T19.setTop (mkF m 62 #[.val (.int k), .unset, .unset, .unset] [(.ref b)])) _
  refine XS.dup X19.here hx rfl (hb hby at_62) rfl rfl ?_
  show Steps p.tables e below (T19.setTop (mkF m 63 #[.val (.int k), .unset, .unset, .unset] [(.ref b), (.ref b)])) _
  refine XS.bipush X19.here hx rfl (hb hby at_63) ?_
  show Steps p.tables e below (T19.setTop (mkF m 65 #[.val (.int k), .unset, .unset, .unset] [(.int (9 : Int32)), (.ref b), (.ref b)])) _
  refine st20 _ ?_
  show Steps p.tables e below (T20.setTop (mkF m 68 #[.val (.int k), .unset, .unset, .unset] [(.ref (w 9)), (.int (9 : Int32)), (.ref b), (.ref b)])) _
  refine st21 _ ?_
  show Steps p.tables e below (T21.setTop (mkF m 69 #[.val (.int k), .unset, .unset, .unset] [(.ref b)])) _
  refine XS.dup X21.here hx rfl (hb hby at_69) rfl rfl ?_
  show Steps p.tables e below (T21.setTop (mkF m 70 #[.val (.int k), .unset, .unset, .unset] [(.ref b), (.ref b)])) _
  refine XS.bipush X21.here hx rfl (hb hby at_70) ?_
  show Steps p.tables e below (T21.setTop (mkF m 72 #[.val (.int k), .unset, .unset, .unset] [(.int (10 : Int32)), (.ref b), (.ref b)])) _
  refine st22 _ ?_
  show Steps p.tables e below (T22.setTop (mkF m 75 #[.val (.int k), .unset, .unset, .unset] [(.ref (w 10)), (.int (10 : Int32)), (.ref b), (.ref b)])) _
  refine st23 _ ?_
  show Steps p.tables e below (T23.setTop (mkF m 76 #[.val (.int k), .unset, .unset, .unset] [(.ref b)])) _
  refine XS.dup X23.here hx rfl (hb hby at_76) rfl rfl ?_
  show Steps p.tables e below (T23.setTop (mkF m 77 #[.val (.int k), .unset, .unset, .unset] [(.ref b), (.ref b)])) _
  refine XS.bipush X23.here hx rfl (hb hby at_77) ?_
  show Steps p.tables e below (T23.setTop (mkF m 79 #[.val (.int k), .unset, .unset, .unset] [(.int (11 : Int32)), (.ref b), (.ref b)])) _
  refine st24 _ ?_
  show Steps p.tables e below (T24.setTop (mkF m 82 #[.val (.int k), .unset, .unset, .unset] [(.ref (w 11)), (.int (11 : Int32)), (.ref b), (.ref b)])) _
  refine st25 _ ?_
  show Steps p.tables e below (T25.setTop (mkF m 83 #[.val (.int k), .unset, .unset, .unset] [(.ref b)])) _
  refine XS.dup X25.here hx rfl (hb hby at_83) rfl rfl ?_
  show Steps p.tables e below (T25.setTop (mkF m 84 #[.val (.int k), .unset, .unset, .unset] [(.ref b), (.ref b)])) _
  refine XS.bipush X25.here hx rfl (hb hby at_84) ?_
  show Steps p.tables e below (T25.setTop (mkF m 86 #[.val (.int k), .unset, .unset, .unset] [(.int (12 : Int32)), (.ref b), (.ref b)])) _
  refine st26 _ ?_
  show Steps p.tables e below (T26.setTop (mkF m 89 #[.val (.int k), .unset, .unset, .unset] [(.ref (w 12)), (.int (12 : Int32)), (.ref b), (.ref b)])) _
  refine st27 _ ?_
  show Steps p.tables e below (T27.setTop (mkF m 90 #[.val (.int k), .unset, .unset, .unset] [(.ref b)])) _
  refine XS.dup X27.here hx rfl (hb hby at_90) rfl rfl ?_
  show Steps p.tables e below (T27.setTop (mkF m 91 #[.val (.int k), .unset, .unset, .unset] [(.ref b), (.ref b)])) _
  refine XS.bipush X27.here hx rfl (hb hby at_91) ?_
  show Steps p.tables e below (T27.setTop (mkF m 93 #[.val (.int k), .unset, .unset, .unset] [(.int (13 : Int32)), (.ref b), (.ref b)])) _
  refine st28 _ ?_
  show Steps p.tables e below (T28.setTop (mkF m 96 #[.val (.int k), .unset, .unset, .unset] [(.ref (w 13)), (.int (13 : Int32)), (.ref b), (.ref b)])) _
  refine st29 _ ?_
  show Steps p.tables e below (T29.setTop (mkF m 97 #[.val (.int k), .unset, .unset, .unset] [(.ref b)])) _
  refine XS.dup X29.here hx rfl (hb hby at_97) rfl rfl ?_
  show Steps p.tables e below (T29.setTop (mkF m 98 #[.val (.int k), .unset, .unset, .unset] [(.ref b), (.ref b)])) _
  refine XS.bipush X29.here hx rfl (hb hby at_98) ?_
  show Steps p.tables e below (T29.setTop (mkF m 100 #[.val (.int k), .unset, .unset, .unset] [(.int (14 : Int32)), (.ref b), (.ref b)])) _
  refine st30 _ ?_
  show Steps p.tables e below (T30.setTop (mkF m 103 #[.val (.int k), .unset, .unset, .unset] [(.ref (w 14)), (.int (14 : Int32)), (.ref b), (.ref b)])) _
  refine st31 _ ?_
  show Steps p.tables e below (T31.setTop (mkF m 104 #[.val (.int k), .unset, .unset, .unset] [(.ref b)])) _
  refine XS.dup X31.here hx rfl (hb hby at_104) rfl rfl ?_
  show Steps p.tables e below (T31.setTop (mkF m 105 #[.val (.int k), .unset, .unset, .unset] [(.ref b), (.ref b)])) _
  refine XS.bipush X31.here hx rfl (hb hby at_105) ?_
  show Steps p.tables e below (T31.setTop (mkF m 107 #[.val (.int k), .unset, .unset, .unset] [(.int (15 : Int32)), (.ref b), (.ref b)])) _
  refine st32 _ ?_
  show Steps p.tables e below (T32.setTop (mkF m 110 #[.val (.int k), .unset, .unset, .unset] [(.ref (w 15)), (.int (15 : Int32)), (.ref b), (.ref b)])) _
  refine st33 _ ?_
  show Steps p.tables e below (T33.setTop (mkF m 111 #[.val (.int k), .unset, .unset, .unset] [(.ref b)])) _
  refine XS.dup X33.here hx rfl (hb hby at_111) rfl rfl ?_
  show Steps p.tables e below (T33.setTop (mkF m 112 #[.val (.int k), .unset, .unset, .unset] [(.ref b), (.ref b)])) _
  refine XS.bipush X33.here hx rfl (hb hby at_112) ?_
  show Steps p.tables e below (T33.setTop (mkF m 114 #[.val (.int k), .unset, .unset, .unset] [(.int (16 : Int32)), (.ref b), (.ref b)])) _
  refine st34 _ ?_
  show Steps p.tables e below (T34.setTop (mkF m 117 #[.val (.int k), .unset, .unset, .unset] [(.ref (w 16)), (.int (16 : Int32)), (.ref b), (.ref b)])) _
  refine st35 _ ?_
  show Steps p.tables e below (T35.setTop (mkF m 118 #[.val (.int k), .unset, .unset, .unset] [(.ref b)])) _
  refine XS.dup X35.here hx rfl (hb hby at_118) rfl rfl ?_
  show Steps p.tables e below (T35.setTop (mkF m 119 #[.val (.int k), .unset, .unset, .unset] [(.ref b), (.ref b)])) _
  refine XS.bipush X35.here hx rfl (hb hby at_119) ?_
  show Steps p.tables e below (T35.setTop (mkF m 121 #[.val (.int k), .unset, .unset, .unset] [(.int (17 : Int32)), (.ref b), (.ref b)])) _
  refine st36 _ ?_
  show Steps p.tables e below (T36.setTop (mkF m 124 #[.val (.int k), .unset, .unset, .unset] [(.ref (w 17)), (.int (17 : Int32)), (.ref b), (.ref b)])) _
  refine st37 _ ?_
  show Steps p.tables e below (T37.setTop (mkF m 125 #[.val (.int k), .unset, .unset, .unset] [(.ref b)])) _
  refine XS.dup X37.here hx rfl (hb hby at_125) rfl rfl ?_
  show Steps p.tables e below (T37.setTop (mkF m 126 #[.val (.int k), .unset, .unset, .unset] [(.ref b), (.ref b)])) _
  refine XS.bipush X37.here hx rfl (hb hby at_126) ?_
  show Steps p.tables e below (T37.setTop (mkF m 128 #[.val (.int k), .unset, .unset, .unset] [(.int (18 : Int32)), (.ref b), (.ref b)])) _
  refine st38 _ ?_
  show Steps p.tables e below (T38.setTop (mkF m 131 #[.val (.int k), .unset, .unset, .unset] [(.ref (w 18)), (.int (18 : Int32)), (.ref b), (.ref b)])) _
  refine st39 _ ?_
  show Steps p.tables e below (T39.setTop (mkF m 132 #[.val (.int k), .unset, .unset, .unset] [(.ref b)])) _
  refine XS.dup X39.here hx rfl (hb hby at_132) rfl rfl ?_
  show Steps p.tables e below (T39.setTop (mkF m 133 #[.val (.int k), .unset, .unset, .unset] [(.ref b), (.ref b)])) _
  refine XS.bipush X39.here hx rfl (hb hby at_133) ?_
  show Steps p.tables e below (T39.setTop (mkF m 135 #[.val (.int k), .unset, .unset, .unset] [(.int (19 : Int32)), (.ref b), (.ref b)])) _
  refine st40 _ ?_
  show Steps p.tables e below (T40.setTop (mkF m 138 #[.val (.int k), .unset, .unset, .unset] [(.ref (w 19)), (.int (19 : Int32)), (.ref b), (.ref b)])) _
  refine st41 _ ?_
  show Steps p.tables e below (T41.setTop (mkF m 139 #[.val (.int k), .unset, .unset, .unset] [(.ref b)])) _
  refine XS.dup X41.here hx rfl (hb hby at_139) rfl rfl ?_
  show Steps p.tables e below (T41.setTop (mkF m 140 #[.val (.int k), .unset, .unset, .unset] [(.ref b), (.ref b)])) _
  refine XS.bipush X41.here hx rfl (hb hby at_140) ?_
  show Steps p.tables e below (T41.setTop (mkF m 142 #[.val (.int k), .unset, .unset, .unset] [(.int (20 : Int32)), (.ref b), (.ref b)])) _
  refine st42 _ ?_
  show Steps p.tables e below (T42.setTop (mkF m 145 #[.val (.int k), .unset, .unset, .unset] [(.ref (w 20)), (.int (20 : Int32)), (.ref b), (.ref b)])) _
  refine st43 _ ?_
  show Steps p.tables e below (T43.setTop (mkF m 146 #[.val (.int k), .unset, .unset, .unset] [(.ref b)])) _
  refine XS.dup X43.here hx rfl (hb hby at_146) rfl rfl ?_
  show Steps p.tables e below (T43.setTop (mkF m 147 #[.val (.int k), .unset, .unset, .unset] [(.ref b), (.ref b)])) _
  refine XS.bipush X43.here hx rfl (hb hby at_147) ?_
  show Steps p.tables e below (T43.setTop (mkF m 149 #[.val (.int k), .unset, .unset, .unset] [(.int (21 : Int32)), (.ref b), (.ref b)])) _
  refine st44 _ ?_
  show Steps p.tables e below (T44.setTop (mkF m 152 #[.val (.int k), .unset, .unset, .unset] [(.ref (w 21)), (.int (21 : Int32)), (.ref b), (.ref b)])) _
  refine st45 _ ?_
  show Steps p.tables e below (T45.setTop (mkF m 153 #[.val (.int k), .unset, .unset, .unset] [(.ref b)])) _
  refine XS.dup X45.here hx rfl (hb hby at_153) rfl rfl ?_
  show Steps p.tables e below (T45.setTop (mkF m 154 #[.val (.int k), .unset, .unset, .unset] [(.ref b), (.ref b)])) _
  refine XS.bipush X45.here hx rfl (hb hby at_154) ?_
  show Steps p.tables e below (T45.setTop (mkF m 156 #[.val (.int k), .unset, .unset, .unset] [(.int (22 : Int32)), (.ref b), (.ref b)])) _
  refine st46 _ ?_
  show Steps p.tables e below (T46.setTop (mkF m 159 #[.val (.int k), .unset, .unset, .unset] [(.ref (w 22)), (.int (22 : Int32)), (.ref b), (.ref b)])) _
  refine st47 _ ?_
  show Steps p.tables e below (T47.setTop (mkF m 160 #[.val (.int k), .unset, .unset, .unset] [(.ref b)])) _
  refine XS.dup X47.here hx rfl (hb hby at_160) rfl rfl ?_
  show Steps p.tables e below (T47.setTop (mkF m 161 #[.val (.int k), .unset, .unset, .unset] [(.ref b), (.ref b)])) _
  refine XS.bipush X47.here hx rfl (hb hby at_161) ?_
  show Steps p.tables e below (T47.setTop (mkF m 163 #[.val (.int k), .unset, .unset, .unset] [(.int (23 : Int32)), (.ref b), (.ref b)])) _
  refine st48 _ ?_
  show Steps p.tables e below (T48.setTop (mkF m 166 #[.val (.int k), .unset, .unset, .unset] [(.ref (w 23)), (.int (23 : Int32)), (.ref b), (.ref b)])) _
  refine st49 _ ?_
  show Steps p.tables e below (T49.setTop (mkF m 167 #[.val (.int k), .unset, .unset, .unset] [(.ref b)])) _
  refine XS.dup X49.here hx rfl (hb hby at_167) rfl rfl ?_
  show Steps p.tables e below (T49.setTop (mkF m 168 #[.val (.int k), .unset, .unset, .unset] [(.ref b), (.ref b)])) _
  refine XS.bipush X49.here hx rfl (hb hby at_168) ?_
  show Steps p.tables e below (T49.setTop (mkF m 170 #[.val (.int k), .unset, .unset, .unset] [(.int (24 : Int32)), (.ref b), (.ref b)])) _
  refine st50 _ ?_
  show Steps p.tables e below (T50.setTop (mkF m 173 #[.val (.int k), .unset, .unset, .unset] [(.ref (w 24)), (.int (24 : Int32)), (.ref b), (.ref b)])) _
  refine st51 _ ?_
  show Steps p.tables e below (T51.setTop (mkF m 174 #[.val (.int k), .unset, .unset, .unset] [(.ref b)])) _
  refine XS.dup X51.here hx rfl (hb hby at_174) rfl rfl ?_
  show Steps p.tables e below (T51.setTop (mkF m 175 #[.val (.int k), .unset, .unset, .unset] [(.ref b), (.ref b)])) _
  refine XS.bipush X51.here hx rfl (hb hby at_175) ?_
  show Steps p.tables e below (T51.setTop (mkF m 177 #[.val (.int k), .unset, .unset, .unset] [(.int (25 : Int32)), (.ref b), (.ref b)])) _
  refine st52 _ ?_
  show Steps p.tables e below (T52.setTop (mkF m 180 #[.val (.int k), .unset, .unset, .unset] [(.ref (w 25)), (.int (25 : Int32)), (.ref b), (.ref b)])) _
  refine st53 _ ?_
  show Steps p.tables e below (T53.setTop (mkF m 181 #[.val (.int k), .unset, .unset, .unset] [(.ref b)])) _
  refine XS.dup X53.here hx rfl (hb hby at_181) rfl rfl ?_
  show Steps p.tables e below (T53.setTop (mkF m 182 #[.val (.int k), .unset, .unset, .unset] [(.ref b), (.ref b)])) _
  refine XS.bipush X53.here hx rfl (hb hby at_182) ?_
  show Steps p.tables e below (T53.setTop (mkF m 184 #[.val (.int k), .unset, .unset, .unset] [(.int (26 : Int32)), (.ref b), (.ref b)])) _
  refine st54 _ ?_
  show Steps p.tables e below (T54.setTop (mkF m 187 #[.val (.int k), .unset, .unset, .unset] [(.ref (w 26)), (.int (26 : Int32)), (.ref b), (.ref b)])) _
  refine st55 _ ?_
  show Steps p.tables e below (T55.setTop (mkF m 188 #[.val (.int k), .unset, .unset, .unset] [(.ref b)])) _
  refine XS.dup X55.here hx rfl (hb hby at_188) rfl rfl ?_
  show Steps p.tables e below (T55.setTop (mkF m 189 #[.val (.int k), .unset, .unset, .unset] [(.ref b), (.ref b)])) _
  refine XS.bipush X55.here hx rfl (hb hby at_189) ?_
  show Steps p.tables e below (T55.setTop (mkF m 191 #[.val (.int k), .unset, .unset, .unset] [(.int (27 : Int32)), (.ref b), (.ref b)])) _
  refine st56 _ ?_
  show Steps p.tables e below (T56.setTop (mkF m 194 #[.val (.int k), .unset, .unset, .unset] [(.ref (w 27)), (.int (27 : Int32)), (.ref b), (.ref b)])) _
  refine st57 _ ?_
  show Steps p.tables e below (T57.setTop (mkF m 195 #[.val (.int k), .unset, .unset, .unset] [(.ref b)])) _
  refine XS.dup X57.here hx rfl (hb hby at_195) rfl rfl ?_
  show Steps p.tables e below (T57.setTop (mkF m 196 #[.val (.int k), .unset, .unset, .unset] [(.ref b), (.ref b)])) _
  refine XS.bipush X57.here hx rfl (hb hby at_196) ?_
  show Steps p.tables e below (T57.setTop (mkF m 198 #[.val (.int k), .unset, .unset, .unset] [(.int (28 : Int32)), (.ref b), (.ref b)])) _
  refine st58 _ ?_
  show Steps p.tables e below (T58.setTop (mkF m 201 #[.val (.int k), .unset, .unset, .unset] [(.ref (w 28)), (.int (28 : Int32)), (.ref b), (.ref b)])) _
  refine st59 _ ?_
  show Steps p.tables e below (T59.setTop (mkF m 202 #[.val (.int k), .unset, .unset, .unset] [(.ref b)])) _
  refine XS.dup X59.here hx rfl (hb hby at_202) rfl rfl ?_
  show Steps p.tables e below (T59.setTop (mkF m 203 #[.val (.int k), .unset, .unset, .unset] [(.ref b), (.ref b)])) _
  refine XS.bipush X59.here hx rfl (hb hby at_203) ?_
  show Steps p.tables e below (T59.setTop (mkF m 205 #[.val (.int k), .unset, .unset, .unset] [(.int (29 : Int32)), (.ref b), (.ref b)])) _
  refine st60 _ ?_
  show Steps p.tables e below (T60.setTop (mkF m 208 #[.val (.int k), .unset, .unset, .unset] [(.ref (w 29)), (.int (29 : Int32)), (.ref b), (.ref b)])) _
  refine st61 _ ?_
  show Steps p.tables e below (T61.setTop (mkF m 209 #[.val (.int k), .unset, .unset, .unset] [(.ref b)])) _
  refine XS.dup X61.here hx rfl (hb hby at_209) rfl rfl ?_
  show Steps p.tables e below (T61.setTop (mkF m 210 #[.val (.int k), .unset, .unset, .unset] [(.ref b), (.ref b)])) _
  refine XS.bipush X61.here hx rfl (hb hby at_210) ?_
  show Steps p.tables e below (T61.setTop (mkF m 212 #[.val (.int k), .unset, .unset, .unset] [(.int (30 : Int32)), (.ref b), (.ref b)])) _
  refine st62 _ ?_
  show Steps p.tables e below (T62.setTop (mkF m 215 #[.val (.int k), .unset, .unset, .unset] [(.ref (w 30)), (.int (30 : Int32)), (.ref b), (.ref b)])) _
  refine st63 _ ?_
  show Steps p.tables e below (T63.setTop (mkF m 216 #[.val (.int k), .unset, .unset, .unset] [(.ref b)])) _
  refine XS.dup X63.here hx rfl (hb hby at_216) rfl rfl ?_
  show Steps p.tables e below (T63.setTop (mkF m 217 #[.val (.int k), .unset, .unset, .unset] [(.ref b), (.ref b)])) _
  refine XS.bipush X63.here hx rfl (hb hby at_217) ?_
  show Steps p.tables e below (T63.setTop (mkF m 219 #[.val (.int k), .unset, .unset, .unset] [(.int (31 : Int32)), (.ref b), (.ref b)])) _
  refine st64 _ ?_
  show Steps p.tables e below (T64.setTop (mkF m 222 #[.val (.int k), .unset, .unset, .unset] [(.ref (w 31)), (.int (31 : Int32)), (.ref b), (.ref b)])) _
  refine st65 _ ?_
  show Steps p.tables e below (T65.setTop (mkF m 223 #[.val (.int k), .unset, .unset, .unset] [(.ref b)])) _
  refine XS.dup X65.here hx rfl (hb hby at_223) rfl rfl ?_
  show Steps p.tables e below (T65.setTop (mkF m 224 #[.val (.int k), .unset, .unset, .unset] [(.ref b), (.ref b)])) _
  refine XS.bipush X65.here hx rfl (hb hby at_224) ?_
  show Steps p.tables e below (T65.setTop (mkF m 226 #[.val (.int k), .unset, .unset, .unset] [(.int (32 : Int32)), (.ref b), (.ref b)])) _
  refine st66 _ ?_
  show Steps p.tables e below (T66.setTop (mkF m 229 #[.val (.int k), .unset, .unset, .unset] [(.ref (w 32)), (.int (32 : Int32)), (.ref b), (.ref b)])) _
  refine st67 _ ?_
  show Steps p.tables e below (T67.setTop (mkF m 230 #[.val (.int k), .unset, .unset, .unset] [(.ref b)])) _
  refine XS.astoreN X67.here hx rfl (hb hby at_230) rfl rfl (l' := #[.val (.int k), .val (.ref b), .unset, .unset]) rfl ?_
  exact kt
theorem own_i33 (k : Int32) : ∃ n : Nat, n < 33 ∧ (k &&& (2147483647 : Int32)) % (33 : Int32) = Int32.ofNat n := by
  have h1 := c_mask k 2147483647 31 (by omega) (by decide)
  have h2 := (c_irem (k &&& (2147483647 : Int32)) 33 33 rfl).1 (by omega)
  refine ⟨((k &&& (2147483647 : Int32)) % (33 : Int32)).toInt.toNat, by omega, ?_⟩
  rw [← Int32.toInt_inj, own_ti (by omega)]
  omega
def own_op (j : Nat) : Int32 := if 5 ≤ j ∧ j < 21 then 1 else 0
theorem own_law (w : Nat → Addr) (i : Nat) (hi : i < 33) (hne : ∀ j, 21 ≤ j → j < 33 → ∀ t, t < 5 → w j ≠ w t) : own_po (own_op i) (w i) (w 0) (w 1) (w 2) (w 3) (w 4) = if i < 21 then 1 else 0 := by
  by_cases h5 : i < 5
  · rw [if_pos (by omega)]
    have e : own_op i = 0 := if_neg (by omega)
    rw [e]
    unfold own_po
    rw [if_pos rfl]
    match i, h5 with
    | 0, _ => rw [if_pos rfl]
    | 1, _ => rw [if_pos rfl]; split <;> rfl
    | 2, _ => rw [if_pos (c := w 2 = w 2) rfl]; split <;> (try rfl); split <;> rfl
    | 3, _ => rw [if_pos (c := w 3 = w 3) rfl]; split <;> (try rfl); split <;> (try rfl); split <;> rfl
    | 4, _ => rw [if_pos (c := w 4 = w 4) rfl]; split <;> (try rfl); split <;> (try rfl); split <;> (try rfl); split <;> rfl
  · by_cases h21 : i < 21
    · rw [if_pos h21]
      have e : own_op i = 1 := if_pos (by omega)
      rw [e]
      rfl
    · rw [if_neg h21]
      have e : own_op i = 0 := if_neg (by omega)
      rw [e]
      unfold own_po
      rw [if_pos rfl, if_neg (hne i (by omega) hi 0 (by omega)), if_neg (hne i (by omega) hi 1 (by omega)), if_neg (hne i (by omega) hi 2 (by omega)), if_neg (hne i (by omega) hi 3 (by omega)), if_neg (hne i (by omega) hi 4 (by omega))]
theorem ef_0 (m : MethodId) (k : Int32) : entryFrame m #[(.int k)] maxLocals = mkF m 0 #[.val (.int k), .unset, .unset, .unset] [] := by first | (simp [entryFrame, mkF, argsToLocals, Value.category, maxLocals]; done) | rfl
set_option maxRecDepth 65536 in
set_option maxHeartbeats 40000000 in
theorem rm0 (l : Launch) (Z : State) (a0 : Array Value) (hw : ∀ d ∈ tables_1, d.before a0 Z = true) (ws : List Jvm.Cond) (k : Int32) (w : Nat → Addr) (h0 : Heap) (n0 : Nat) (Z0 : n0 ≤ h0.size) (hS : ∀ j, j < 33 → Sta Z h0 "com/example/pathline/pathline/xpath/XPathLexer$TokenKind" (own_nm.getD j "") "Lcom/example/pathline/pathline/xpath/XPathLexer$TokenKind;" (.ref (w j))) (hE : ∀ j, j < 33 → Exa Z h0 (w j) "com/example/pathline/pathline/xpath/XPathLexer$TokenKind") (hO : ∀ j, j < 33 → Fld Z h0 (w j) "com/example/pathline/pathline/xpath/XPathLexer$TokenKind" "operator" "Z" (.int (own_op j))) (hne : ∀ j, 21 ≤ j → j < 33 → ∀ t, t < 5 → w j ≠ w t) :
    MetFree l x (head1 (Jvm.Cond.code x code maxLocals ret :: ws) room_1) (fun ar_ U => ar_ = #[(.int k)] ∧ Z.Warmed39 U.vm ∧ U.heap = h0) (fun _ _ _ _ _ => True) (fun _ U o U' => ∃ v L, o = .returned v ∧ (v = some (.int (1 : Int32)) ∧ Fr n0 L) ∧ FrameEnd U o U' L room_1.cells room_1.slots) := by
  refine MetFree.of_bodySF (plainFor_of_name pn_0) hisR ?_
  intro p e s m args below meth c s₁ Bd hml0 hP hK
  obtain ⟨rfl, hZ, hh⟩ := hP
  have hx := Bd.exec
  have hby := Bd.bytes
  have hml : c.maxLocals = 4 := hml0
  have hown : s.vm.findClass "com/example/pathline/pathline/xpath/TokenKindPrecedesOperandPinLaw" = some m.cls := findClass_of_methodNamed Bd.named
  have hnm := (name_of_methodNamed Bd.named Bd.method).1
  have X0 : Stand p l e room_1 s m #[(.int k)] below meth c s₁ [] 0 0 := Stand.of_body Bd
  have e0 : s₁.heap = h0 := by rw [← hh, Bd.state]; rfl
  have pre0 : ∀ t, Steps p.tables e below (s₁.setTop (mkF m 0 #[.val (.int k), .unset, .unset, .unset] [])) t → Steps p.tables e below (s₁.setTop (entryFrame m #[(.int k)] maxLocals)) t := fun t_ k_ => castTop (ef_0 m k) k_
  obtain ⟨TA, hA, b, LA, XA, eA, NA, KA, VA, stA⟩ := arr k w n0 Z0 (Fr.nil n0) X0 hx hZ hw hby hml hown e0 hS hE
  obtain ⟨i, hi, hm⟩ := own_i33 k
  obtain ⟨cl, cA, Ar, -, -, Sz, H⟩ := VA
  have E1 := (hE i hi).keep KA
  have law := own_law w i hi hne
  obtain ⟨cq, kq, qa, qb, qc⟩ := isOf hZ eA E1
  by_cases h21 : i < 21
  · rw [if_pos h21] at law
    have hc : (Int32.ofNat i) < (21 : Int32) := (own_lt (j := 21) (by omega) (by omega)).mpr h21
    obtain ⟨_, _, ⟨T1, L1, k1, n1⟩, -, X1, ⟨Lc1, hQ1, l1, y1, z1⟩, st1⟩ := XA.virtualBack hx (y := (⟨"com/example/pathline/pathline/xpath/XPathLexer$TokenKind", "precedesOperand", "()Z"⟩ : MethodName)) (z := (⟨"com/example/pathline/pathline/xpath/XPathLexer$TokenKind", "precedesOperand", "()Z"⟩ : MethodName)) hown (mvT hZ (hw _ (List.mem_of_getElem? (i := 71) rfl))) (mvT hZ (hw _ (List.mem_of_getElem? (i := 72) rfl))) (notFace_of_selects (args := #[]) (mvT hZ (hw _ (List.mem_of_getElem? (i := 74) rfl)))) (mvT hZ (hw _ (List.mem_of_getElem? (i := 74) rfl))) (mvT hZ (hw _ (List.mem_of_getElem? (i := 73) rfl))) (by decide) (backOf (W := 0) (rm_po l Z a0 hw [] (w i) (w 0) (w 1) (w 2) (w 3) (w 4) (own_op i) hA ((hO i hi).keep KA nin0) (own_staKeep KA (hS 0 (by omega))) (own_staKeep KA (hS 1 (by omega))) (own_staKeep KA (hS 2 (by omega))) (own_staKeep KA (hS 3 (by omega))) (own_staKeep KA (hS 4 (by omega)))) hZ (hw _ (List.mem_of_getElem? (i := 75) rfl)) (hw _ (List.mem_of_getElem? (i := 3) rfl)) (by decide) (by decide)) qa qc (g := (mkF m 254 #[.val (.int k), .val (.ref b), .val (.int (Int32.ofNat i)), .val (.int (1 : Int32))] [(.ref (w i))])) rfl (by rw [hml]; rfl) (Steps.refl _) (argsL := []) (rest := []) (lenOf pd_1 rfl) rfl (by show 2 * 0 + _ ≤ _; exact Nat.le_of_eq rfl) (hb hby at_254) (fun _ _ => ⟨rfl, eA, (by decide : 1 + 0 ≤ _), (by decide : 33 + 0 ≤ _)⟩)
    dsimp only [Pt.U, Pt.locs, Pt.cells, Pt.slots] at X1 l1 y1 z1 st1 hQ1
    subst l1 y1 z1
    obtain ⟨rfl, rfl, e1⟩ := hQ1
    obtain ⟨fs, hr, hrun, hended, hW, hsame⟩ := X1.leave (v := some (.int (1 : Int32))) (fun h => by rw [Bd.returns] at h; cases h)
    refine ⟨_, _, pre0 _ ?_, hrun, hended, _, _, rfl, ?_, ⟨_, rfl⟩, hW, hsame.mono (by decide) (by decide)⟩
    · refine stA _ ?_
      show Steps p.tables e below (TA.setTop (mkF m 231 #[.val (.int k), .val (.ref b), .unset, .unset] [])) _
      refine XS.iloadN XA.here hx rfl (hb hby at_231) rfl ?_
      show Steps p.tables e below (TA.setTop (mkF m 232 #[.val (.int k), .val (.ref b), .unset, .unset] [(.int k)])) _
      refine XA.ldcInt hx hown (mvT hZ (hw _ (List.mem_of_getElem? (i := 70) rfl))) (g := (mkF m 232 #[.val (.int k), .val (.ref b), .unset, .unset] [(.int k)])) rfl (hb hby at_232) _ ?_
      show Steps p.tables e below (TA.setTop (mkF m 234 #[.val (.int k), .val (.ref b), .unset, .unset] [(.int (2147483647 : Int32)), (.int k)])) _
      refine XS.iand XA.here hx rfl (hb hby at_234) rfl ?_
      show Steps p.tables e below (TA.setTop (mkF m 235 #[.val (.int k), .val (.ref b), .unset, .unset] [(.int (k &&& (2147483647 : Int32)))])) _
      refine XS.bipush XA.here hx rfl (hb hby at_235) ?_
      show Steps p.tables e below (TA.setTop (mkF m 237 #[.val (.int k), .val (.ref b), .unset, .unset] [(.int (33 : Int32)), (.int (k &&& (2147483647 : Int32)))])) _
      refine iremM XA hx rfl (hb hby at_237) rfl (by decide) ?_
      show Steps p.tables e below (TA.setTop (mkF m 238 #[.val (.int k), .val (.ref b), .unset, .unset] [(.int ((k &&& (2147483647 : Int32)) % (33 : Int32)))])) _
      rw [hm]
      show Steps p.tables e below (TA.setTop (mkF m 238 #[.val (.int k), .val (.ref b), .unset, .unset] [(.int (Int32.ofNat i))])) _
      refine XS.istoreN XA.here hx rfl (hb hby at_238) rfl (l' := #[.val (.int k), .val (.ref b), .val (.int (Int32.ofNat i)), .unset]) rfl ?_
      show Steps p.tables e below (TA.setTop (mkF m 239 #[.val (.int k), .val (.ref b), .val (.int (Int32.ofNat i)), .unset] [])) _
      refine XS.iloadN XA.here hx rfl (hb hby at_239) rfl ?_
      show Steps p.tables e below (TA.setTop (mkF m 240 #[.val (.int k), .val (.ref b), .val (.int (Int32.ofNat i)), .unset] [(.int (Int32.ofNat i))])) _
      refine XS.bipush XA.here hx rfl (hb hby at_240) ?_
      show Steps p.tables e below (TA.setTop (mkF m 242 #[.val (.int k), .val (.ref b), .val (.int (Int32.ofNat i)), .unset] [(.int (21 : Int32)), (.int (Int32.ofNat i))])) _
      refine XS.icmpNo XA.here hx rfl (hb hby at_242) rfl (tlt hc).2.1 ?_
      show Steps p.tables e below (TA.setTop (mkF m 245 #[.val (.int k), .val (.ref b), .val (.int (Int32.ofNat i)), .unset] [])) _
      refine XS.iconst XA.here hx rfl (hb hby at_245) ?_
      show Steps p.tables e below (TA.setTop (mkF m 246 #[.val (.int k), .val (.ref b), .val (.int (Int32.ofNat i)), .unset] [(.int (1 : Int32))])) _
      refine XS.goto XA.here hx rfl (pc0 := 246) (pc' := 250) rfl (hb hby at_246) (by decide) (by decide) ?_
      show Steps p.tables e below (TA.setTop (mkF m 250 #[.val (.int k), .val (.ref b), .val (.int (Int32.ofNat i)), .unset] [(.int (1 : Int32))])) _
      refine XS.istoreN XA.here hx rfl (hb hby at_250) rfl (l' := #[.val (.int k), .val (.ref b), .val (.int (Int32.ofNat i)), .val (.int (1 : Int32))]) rfl ?_
      show Steps p.tables e below (TA.setTop (mkF m 251 #[.val (.int k), .val (.ref b), .val (.int (Int32.ofNat i)), .val (.int (1 : Int32))] [])) _
      refine XS.aloadN XA.here hx rfl (hb hby at_251) rfl rfl ?_
      show Steps p.tables e below (TA.setTop (mkF m 252 #[.val (.int k), .val (.ref b), .val (.int (Int32.ofNat i)), .val (.int (1 : Int32))] [(.ref b)])) _
      refine XS.iloadN XA.here hx rfl (hb hby at_252) rfl ?_
      show Steps p.tables e below (TA.setTop (mkF m 253 #[.val (.int k), .val (.ref b), .val (.int (Int32.ofNat i)), .val (.int (1 : Int32))] [(.int (Int32.ofNat i)), (.ref b)])) _
      refine XA.aaload hx (j := (Int32.ofNat i)) (v := (.ref (w i))) (by rw [eA]; exact Ar.1) (State.isArrayOf_alike hZ.alike Ar.2.1) rfl Ar.2.2 (Iar.inb Sz (own_n32 (by omega)) (own_nn (by omega)) hi) (by rw [own_n32 (by omega)]; exact H i hi) (g := (mkF m 253 #[.val (.int k), .val (.ref b), .val (.int (Int32.ofNat i)), .val (.int (1 : Int32))] [(.int (Int32.ofNat i)), (.ref b)])) rfl rfl (hb hby at_253) _ ?_
      show Steps p.tables e below (TA.setTop (mkF m 254 #[.val (.int k), .val (.ref b), .val (.int (Int32.ofNat i)), .val (.int (1 : Int32))] [(.ref (w i))])) _
      refine st1.trans ?_
      show Steps p.tables e below (T1.setTop (mkF m 257 #[.val (.int k), .val (.ref b), .val (.int (Int32.ofNat i)), .val (.int (1 : Int32))] [(.int (own_po (own_op i) (w i) (w 0) (w 1) (w 2) (w 3) (w 4)))])) _
      refine XS.iloadN X1.here hx rfl (hb hby at_257) rfl ?_
      show Steps p.tables e below (T1.setTop (mkF m 258 #[.val (.int k), .val (.ref b), .val (.int (Int32.ofNat i)), .val (.int (1 : Int32))] [(.int (1 : Int32)), (.int (own_po (own_op i) (w i) (w 0) (w 1) (w 2) (w 3) (w 4)))])) _
      refine XS.icmpNo X1.here hx rfl (hb hby at_258) rfl (teq law).2 ?_
      show Steps p.tables e below (T1.setTop (mkF m 261 #[.val (.int k), .val (.ref b), .val (.int (Int32.ofNat i)), .val (.int (1 : Int32))] [])) _
      refine XS.iconst X1.here hx rfl (hb hby at_261) ?_
      show Steps p.tables e below (T1.setTop (mkF m 262 #[.val (.int k), .val (.ref b), .val (.int (Int32.ofNat i)), .val (.int (1 : Int32))] [(.int (1 : Int32))])) _
      refine XS.goto X1.here hx rfl (pc0 := 262) (pc' := 266) rfl (hb hby at_262) (by decide) (by decide) ?_
      show Steps p.tables e below (T1.setTop (mkF m 266 #[.val (.int k), .val (.ref b), .val (.int (Int32.ofNat i)), .val (.int (1 : Int32))] [(.int (1 : Int32))])) _
      exact retN X1 hx (t := .boolean) Bd.returns (by simp) (hb hby at_266) hr
    · exact ⟨rfl, Fr.app NA (Fr.nil n0)⟩
  · rw [if_neg h21] at law
    have hc : ¬ ((Int32.ofNat i) < (21 : Int32)) := fun q => h21 ((own_lt (j := 21) (by omega) (by omega)).mp q)
    obtain ⟨_, _, ⟨T1, L1, k1, n1⟩, -, X1, ⟨Lc1, hQ1, l1, y1, z1⟩, st1⟩ := XA.virtualBack hx (y := (⟨"com/example/pathline/pathline/xpath/XPathLexer$TokenKind", "precedesOperand", "()Z"⟩ : MethodName)) (z := (⟨"com/example/pathline/pathline/xpath/XPathLexer$TokenKind", "precedesOperand", "()Z"⟩ : MethodName)) hown (mvT hZ (hw _ (List.mem_of_getElem? (i := 71) rfl))) (mvT hZ (hw _ (List.mem_of_getElem? (i := 72) rfl))) (notFace_of_selects (args := #[]) (mvT hZ (hw _ (List.mem_of_getElem? (i := 74) rfl)))) (mvT hZ (hw _ (List.mem_of_getElem? (i := 74) rfl))) (mvT hZ (hw _ (List.mem_of_getElem? (i := 73) rfl))) (by decide) (backOf (W := 0) (rm_po l Z a0 hw [] (w i) (w 0) (w 1) (w 2) (w 3) (w 4) (own_op i) hA ((hO i hi).keep KA nin0) (own_staKeep KA (hS 0 (by omega))) (own_staKeep KA (hS 1 (by omega))) (own_staKeep KA (hS 2 (by omega))) (own_staKeep KA (hS 3 (by omega))) (own_staKeep KA (hS 4 (by omega)))) hZ (hw _ (List.mem_of_getElem? (i := 75) rfl)) (hw _ (List.mem_of_getElem? (i := 3) rfl)) (by decide) (by decide)) qa qc (g := (mkF m 254 #[.val (.int k), .val (.ref b), .val (.int (Int32.ofNat i)), .val (.int (0 : Int32))] [(.ref (w i))])) rfl (by rw [hml]; rfl) (Steps.refl _) (argsL := []) (rest := []) (lenOf pd_1 rfl) rfl (by show 2 * 0 + _ ≤ _; exact Nat.le_of_eq rfl) (hb hby at_254) (fun _ _ => ⟨rfl, eA, (by decide : 1 + 0 ≤ _), (by decide : 33 + 0 ≤ _)⟩)
    dsimp only [Pt.U, Pt.locs, Pt.cells, Pt.slots] at X1 l1 y1 z1 st1 hQ1
    subst l1 y1 z1
    obtain ⟨rfl, rfl, e1⟩ := hQ1
    obtain ⟨fs, hr, hrun, hended, hW, hsame⟩ := X1.leave (v := some (.int (1 : Int32))) (fun h => by rw [Bd.returns] at h; cases h)
    refine ⟨_, _, pre0 _ ?_, hrun, hended, _, _, rfl, ?_, ⟨_, rfl⟩, hW, hsame.mono (by decide) (by decide)⟩
    · refine stA _ ?_
      show Steps p.tables e below (TA.setTop (mkF m 231 #[.val (.int k), .val (.ref b), .unset, .unset] [])) _
      refine XS.iloadN XA.here hx rfl (hb hby at_231) rfl ?_
      show Steps p.tables e below (TA.setTop (mkF m 232 #[.val (.int k), .val (.ref b), .unset, .unset] [(.int k)])) _
      refine XA.ldcInt hx hown (mvT hZ (hw _ (List.mem_of_getElem? (i := 70) rfl))) (g := (mkF m 232 #[.val (.int k), .val (.ref b), .unset, .unset] [(.int k)])) rfl (hb hby at_232) _ ?_
      show Steps p.tables e below (TA.setTop (mkF m 234 #[.val (.int k), .val (.ref b), .unset, .unset] [(.int (2147483647 : Int32)), (.int k)])) _
      refine XS.iand XA.here hx rfl (hb hby at_234) rfl ?_
      show Steps p.tables e below (TA.setTop (mkF m 235 #[.val (.int k), .val (.ref b), .unset, .unset] [(.int (k &&& (2147483647 : Int32)))])) _
      refine XS.bipush XA.here hx rfl (hb hby at_235) ?_
      show Steps p.tables e below (TA.setTop (mkF m 237 #[.val (.int k), .val (.ref b), .unset, .unset] [(.int (33 : Int32)), (.int (k &&& (2147483647 : Int32)))])) _
      refine iremM XA hx rfl (hb hby at_237) rfl (by decide) ?_
      show Steps p.tables e below (TA.setTop (mkF m 238 #[.val (.int k), .val (.ref b), .unset, .unset] [(.int ((k &&& (2147483647 : Int32)) % (33 : Int32)))])) _
      rw [hm]
      show Steps p.tables e below (TA.setTop (mkF m 238 #[.val (.int k), .val (.ref b), .unset, .unset] [(.int (Int32.ofNat i))])) _
      refine XS.istoreN XA.here hx rfl (hb hby at_238) rfl (l' := #[.val (.int k), .val (.ref b), .val (.int (Int32.ofNat i)), .unset]) rfl ?_
      show Steps p.tables e below (TA.setTop (mkF m 239 #[.val (.int k), .val (.ref b), .val (.int (Int32.ofNat i)), .unset] [])) _
      refine XS.iloadN XA.here hx rfl (hb hby at_239) rfl ?_
      show Steps p.tables e below (TA.setTop (mkF m 240 #[.val (.int k), .val (.ref b), .val (.int (Int32.ofNat i)), .unset] [(.int (Int32.ofNat i))])) _
      refine XS.bipush XA.here hx rfl (hb hby at_240) ?_
      show Steps p.tables e below (TA.setTop (mkF m 242 #[.val (.int k), .val (.ref b), .val (.int (Int32.ofNat i)), .unset] [(.int (21 : Int32)), (.int (Int32.ofNat i))])) _
      refine XS.icmpYes XA.here hx rfl (pc0 := 242) (pc' := 249) rfl (hb hby at_242) rfl (flt hc).2.1 (by decide) (by decide) ?_
      show Steps p.tables e below (TA.setTop (mkF m 249 #[.val (.int k), .val (.ref b), .val (.int (Int32.ofNat i)), .unset] [])) _
      refine XS.iconst XA.here hx rfl (hb hby at_249) ?_
      show Steps p.tables e below (TA.setTop (mkF m 250 #[.val (.int k), .val (.ref b), .val (.int (Int32.ofNat i)), .unset] [(.int (0 : Int32))])) _
      refine XS.istoreN XA.here hx rfl (hb hby at_250) rfl (l' := #[.val (.int k), .val (.ref b), .val (.int (Int32.ofNat i)), .val (.int (0 : Int32))]) rfl ?_
      show Steps p.tables e below (TA.setTop (mkF m 251 #[.val (.int k), .val (.ref b), .val (.int (Int32.ofNat i)), .val (.int (0 : Int32))] [])) _
      refine XS.aloadN XA.here hx rfl (hb hby at_251) rfl rfl ?_
      show Steps p.tables e below (TA.setTop (mkF m 252 #[.val (.int k), .val (.ref b), .val (.int (Int32.ofNat i)), .val (.int (0 : Int32))] [(.ref b)])) _
      refine XS.iloadN XA.here hx rfl (hb hby at_252) rfl ?_
      show Steps p.tables e below (TA.setTop (mkF m 253 #[.val (.int k), .val (.ref b), .val (.int (Int32.ofNat i)), .val (.int (0 : Int32))] [(.int (Int32.ofNat i)), (.ref b)])) _
      refine XA.aaload hx (j := (Int32.ofNat i)) (v := (.ref (w i))) (by rw [eA]; exact Ar.1) (State.isArrayOf_alike hZ.alike Ar.2.1) rfl Ar.2.2 (Iar.inb Sz (own_n32 (by omega)) (own_nn (by omega)) hi) (by rw [own_n32 (by omega)]; exact H i hi) (g := (mkF m 253 #[.val (.int k), .val (.ref b), .val (.int (Int32.ofNat i)), .val (.int (0 : Int32))] [(.int (Int32.ofNat i)), (.ref b)])) rfl rfl (hb hby at_253) _ ?_
      show Steps p.tables e below (TA.setTop (mkF m 254 #[.val (.int k), .val (.ref b), .val (.int (Int32.ofNat i)), .val (.int (0 : Int32))] [(.ref (w i))])) _
      refine st1.trans ?_
      show Steps p.tables e below (T1.setTop (mkF m 257 #[.val (.int k), .val (.ref b), .val (.int (Int32.ofNat i)), .val (.int (0 : Int32))] [(.int (own_po (own_op i) (w i) (w 0) (w 1) (w 2) (w 3) (w 4)))])) _
      refine XS.iloadN X1.here hx rfl (hb hby at_257) rfl ?_
      show Steps p.tables e below (T1.setTop (mkF m 258 #[.val (.int k), .val (.ref b), .val (.int (Int32.ofNat i)), .val (.int (0 : Int32))] [(.int (0 : Int32)), (.int (own_po (own_op i) (w i) (w 0) (w 1) (w 2) (w 3) (w 4)))])) _
      refine XS.icmpNo X1.here hx rfl (hb hby at_258) rfl (teq law).2 ?_
      show Steps p.tables e below (T1.setTop (mkF m 261 #[.val (.int k), .val (.ref b), .val (.int (Int32.ofNat i)), .val (.int (0 : Int32))] [])) _
      refine XS.iconst X1.here hx rfl (hb hby at_261) ?_
      show Steps p.tables e below (T1.setTop (mkF m 262 #[.val (.int k), .val (.ref b), .val (.int (Int32.ofNat i)), .val (.int (0 : Int32))] [(.int (1 : Int32))])) _
      refine XS.goto X1.here hx rfl (pc0 := 262) (pc' := 266) rfl (hb hby at_262) (by decide) (by decide) ?_
      show Steps p.tables e below (T1.setTop (mkF m 266 #[.val (.int k), .val (.ref b), .val (.int (Int32.ofNat i)), .val (.int (0 : Int32))] [(.int (1 : Int32))])) _
      exact retN X1 hx (t := .boolean) Bd.returns (by simp) (hb hby at_266) hr
    · exact ⟨rfl, Fr.app NA (Fr.nil n0)⟩
set_option maxRecDepth 65536 in
set_option maxHeartbeats 40000000 in
theorem own_narrow {args : Array Value} {s : State} (hn : narrow_1.value args s none s [] = some true) (hw : ∀ d ∈ tables_1, d.before args s = true) : ∃ w : Nat → Addr, (∀ j, j < 33 → Sta s s.heap "com/example/pathline/pathline/xpath/XPathLexer$TokenKind" (own_nm.getD j "") "Lcom/example/pathline/pathline/xpath/XPathLexer$TokenKind;" (.ref (w j))) ∧ (∀ j, j < 33 → Exa s s.heap (w j) "com/example/pathline/pathline/xpath/XPathLexer$TokenKind") ∧ (∀ j, j < 33 → Fld s s.heap (w j) "com/example/pathline/pathline/xpath/XPathLexer$TokenKind" "operator" "Z" (.int (own_op j))) ∧ (∀ j, 21 ≤ j → j < 33 → ∀ t, t < 5 → w j ≠ w t) := by
  obtain ⟨g0, hn⟩ := and_e hn
  obtain ⟨g1, hn⟩ := and_e hn
  obtain ⟨g2, hn⟩ := and_e hn
  obtain ⟨g3, hn⟩ := and_e hn
  obtain ⟨g4, hn⟩ := and_e hn
  obtain ⟨g5, hn⟩ := and_e hn
  obtain ⟨g6, hn⟩ := and_e hn
  obtain ⟨g7, hn⟩ := and_e hn
  obtain ⟨g8, hn⟩ := and_e hn
  obtain ⟨g9, hn⟩ := and_e hn
  obtain ⟨g10, hn⟩ := and_e hn
  obtain ⟨g11, hn⟩ := and_e hn
  obtain ⟨g12, hn⟩ := and_e hn
  obtain ⟨g13, hn⟩ := and_e hn
  obtain ⟨g14, hn⟩ := and_e hn
  obtain ⟨g15, hn⟩ := and_e hn
  obtain ⟨g16, hn⟩ := and_e hn
  obtain ⟨g17, hn⟩ := and_e hn
  obtain ⟨g18, hn⟩ := and_e hn
  obtain ⟨g19, hn⟩ := and_e hn
  obtain ⟨g20, hn⟩ := and_e hn
  obtain ⟨g21, hn⟩ := and_e hn
  obtain ⟨g22, hn⟩ := and_e hn
  obtain ⟨g23, hn⟩ := and_e hn
  obtain ⟨g24, hn⟩ := and_e hn
  obtain ⟨g25, hn⟩ := and_e hn
  obtain ⟨g26, hn⟩ := and_e hn
  obtain ⟨g27, hn⟩ := and_e hn
  obtain ⟨g28, hn⟩ := and_e hn
  obtain ⟨g29, hn⟩ := and_e hn
  obtain ⟨g30, hn⟩ := and_e hn
  obtain ⟨g31, hn⟩ := and_e hn
  obtain ⟨g32, hn⟩ := and_e hn
  obtain ⟨g33, hn⟩ := and_e hn
  obtain ⟨g34, hn⟩ := and_e hn
  obtain ⟨g35, hn⟩ := and_e hn
  obtain ⟨g36, hn⟩ := and_e hn
  obtain ⟨g37, hn⟩ := and_e hn
  obtain ⟨g38, hn⟩ := and_e hn
  obtain ⟨g39, hn⟩ := and_e hn
  obtain ⟨g40, hn⟩ := and_e hn
  obtain ⟨g41, hn⟩ := and_e hn
  obtain ⟨g42, hn⟩ := and_e hn
  obtain ⟨g43, hn⟩ := and_e hn
  obtain ⟨g44, hn⟩ := and_e hn
  obtain ⟨g45, hn⟩ := and_e hn
  obtain ⟨g46, hn⟩ := and_e hn
  obtain ⟨g47, hn⟩ := and_e hn
  obtain ⟨g48, hn⟩ := and_e hn
  obtain ⟨g49, hn⟩ := and_e hn
  obtain ⟨g50, hn⟩ := and_e hn
  obtain ⟨g51, hn⟩ := and_e hn
  obtain ⟨g52, hn⟩ := and_e hn
  obtain ⟨g53, hn⟩ := and_e hn
  obtain ⟨g54, hn⟩ := and_e hn
  obtain ⟨g55, hn⟩ := and_e hn
  obtain ⟨g56, hn⟩ := and_e hn
  obtain ⟨g57, hn⟩ := and_e hn
  obtain ⟨g58, hn⟩ := and_e hn
  obtain ⟨g59, hn⟩ := and_e hn
  obtain ⟨g60, hn⟩ := and_e hn
  obtain ⟨g61, hn⟩ := and_e hn
  obtain ⟨g62, hn⟩ := and_e hn
  obtain ⟨g63, hn⟩ := and_e hn
  obtain ⟨g64, hn⟩ := and_e hn
  obtain ⟨g65, hn⟩ := and_e hn
  obtain ⟨g66, hn⟩ := and_e hn
  obtain ⟨g67, hn⟩ := and_e hn
  obtain ⟨g68, hn⟩ := and_e hn
  obtain ⟨g69, hn⟩ := and_e hn
  obtain ⟨g70, hn⟩ := and_e hn
  obtain ⟨g71, hn⟩ := and_e hn
  obtain ⟨g72, hn⟩ := and_e hn
  obtain ⟨g73, hn⟩ := and_e hn
  obtain ⟨g74, hn⟩ := and_e hn
  obtain ⟨g75, hn⟩ := and_e hn
  obtain ⟨g76, hn⟩ := and_e hn
  obtain ⟨g77, hn⟩ := and_e hn
  obtain ⟨g78, hn⟩ := and_e hn
  obtain ⟨g79, hn⟩ := and_e hn
  obtain ⟨g80, hn⟩ := and_e hn
  obtain ⟨g81, hn⟩ := and_e hn
  obtain ⟨a0, ev0⟩ := exa_v g0
  have x0 := Exa.start ev0 g0
  have s0 := Sta.start ev0 (Or.inr ⟨(hw _ (List.mem_of_getElem? (i := 3) rfl)), (hw _ (List.mem_of_getElem? (i := 4) rfl))⟩)
  have o0 := Fld.start ((fld_at ev0).symm.trans (eqv_i (Term.int_eval 0) g33))
  have r0 := Fld.start ((fld_at ev0).symm.trans (eqv_i (Term.int_eval 22) g36))
  obtain ⟨a1, ev1⟩ := exa_v g1
  have x1 := Exa.start ev1 g1
  have s1 := Sta.start ev1 (Or.inr ⟨(hw _ (List.mem_of_getElem? (i := 3) rfl)), (hw _ (List.mem_of_getElem? (i := 7) rfl))⟩)
  have o1 := Fld.start ((fld_at ev1).symm.trans (eqv_i (Term.int_eval 0) g48))
  have r1 := Fld.start ((fld_at ev1).symm.trans (eqv_i (Term.int_eval 24) g37))
  obtain ⟨a2, ev2⟩ := exa_v g2
  have x2 := Exa.start ev2 g2
  have s2 := Sta.start ev2 (Or.inr ⟨(hw _ (List.mem_of_getElem? (i := 3) rfl)), (hw _ (List.mem_of_getElem? (i := 9) rfl))⟩)
  have o2 := Fld.start ((fld_at ev2).symm.trans (eqv_i (Term.int_eval 0) g46))
  have r2 := Fld.start ((fld_at ev2).symm.trans (eqv_i (Term.int_eval 16) g38))
  obtain ⟨a3, ev3⟩ := exa_v g3
  have x3 := Exa.start ev3 g3
  have s3 := Sta.start ev3 (Or.inr ⟨(hw _ (List.mem_of_getElem? (i := 3) rfl)), (hw _ (List.mem_of_getElem? (i := 11) rfl))⟩)
  have o3 := Fld.start ((fld_at ev3).symm.trans (eqv_i (Term.int_eval 0) g34))
  have r3 := Fld.start ((fld_at ev3).symm.trans (eqv_i (Term.int_eval 18) g35))
  obtain ⟨a4, ev4⟩ := exa_v g4
  have x4 := Exa.start ev4 g4
  have s4 := Sta.start ev4 (Or.inr ⟨(hw _ (List.mem_of_getElem? (i := 3) rfl)), (hw _ (List.mem_of_getElem? (i := 13) rfl))⟩)
  have o4 := Fld.start ((fld_at ev4).symm.trans (eqv_i (Term.int_eval 0) g76))
  have r4 := Fld.start ((fld_at ev4).symm.trans (eqv_i (Term.int_eval 23) g42))
  obtain ⟨a5, ev5⟩ := exa_v g5
  have x5 := Exa.start ev5 g5
  have s5 := Sta.start ev5 (Or.inr ⟨(hw _ (List.mem_of_getElem? (i := 3) rfl)), (hw _ (List.mem_of_getElem? (i := 15) rfl))⟩)
  have o5 := Fld.start ((fld_at ev5).symm.trans (eqv_i (Term.int_eval 1) g56))
  obtain ⟨a6, ev6⟩ := exa_v g6
  have x6 := Exa.start ev6 g6
  have s6 := Sta.start ev6 (Or.inr ⟨(hw _ (List.mem_of_getElem? (i := 3) rfl)), (hw _ (List.mem_of_getElem? (i := 17) rfl))⟩)
  have o6 := Fld.start ((fld_at ev6).symm.trans (eqv_i (Term.int_eval 1) g74))
  obtain ⟨a7, ev7⟩ := exa_v g7
  have x7 := Exa.start ev7 g7
  have s7 := Sta.start ev7 (Or.inr ⟨(hw _ (List.mem_of_getElem? (i := 3) rfl)), (hw _ (List.mem_of_getElem? (i := 19) rfl))⟩)
  have o7 := Fld.start ((fld_at ev7).symm.trans (eqv_i (Term.int_eval 1) g45))
  obtain ⟨a8, ev8⟩ := exa_v g8
  have x8 := Exa.start ev8 g8
  have s8 := Sta.start ev8 (Or.inr ⟨(hw _ (List.mem_of_getElem? (i := 3) rfl)), (hw _ (List.mem_of_getElem? (i := 21) rfl))⟩)
  have o8 := Fld.start ((fld_at ev8).symm.trans (eqv_i (Term.int_eval 1) g44))
  obtain ⟨a9, ev9⟩ := exa_v g9
  have x9 := Exa.start ev9 g9
  have s9 := Sta.start ev9 (Or.inr ⟨(hw _ (List.mem_of_getElem? (i := 3) rfl)), (hw _ (List.mem_of_getElem? (i := 23) rfl))⟩)
  have o9 := Fld.start ((fld_at ev9).symm.trans (eqv_i (Term.int_eval 1) g75))
  obtain ⟨a10, ev10⟩ := exa_v g10
  have x10 := Exa.start ev10 g10
  have s10 := Sta.start ev10 (Or.inr ⟨(hw _ (List.mem_of_getElem? (i := 3) rfl)), (hw _ (List.mem_of_getElem? (i := 25) rfl))⟩)
  have o10 := Fld.start ((fld_at ev10).symm.trans (eqv_i (Term.int_eval 1) g47))
  obtain ⟨a11, ev11⟩ := exa_v g11
  have x11 := Exa.start ev11 g11
  have s11 := Sta.start ev11 (Or.inr ⟨(hw _ (List.mem_of_getElem? (i := 3) rfl)), (hw _ (List.mem_of_getElem? (i := 27) rfl))⟩)
  have o11 := Fld.start ((fld_at ev11).symm.trans (eqv_i (Term.int_eval 1) g39))
  obtain ⟨a12, ev12⟩ := exa_v g12
  have x12 := Exa.start ev12 g12
  have s12 := Sta.start ev12 (Or.inr ⟨(hw _ (List.mem_of_getElem? (i := 3) rfl)), (hw _ (List.mem_of_getElem? (i := 29) rfl))⟩)
  have o12 := Fld.start ((fld_at ev12).symm.trans (eqv_i (Term.int_eval 1) g55))
  obtain ⟨a13, ev13⟩ := exa_v g13
  have x13 := Exa.start ev13 g13
  have s13 := Sta.start ev13 (Or.inr ⟨(hw _ (List.mem_of_getElem? (i := 3) rfl)), (hw _ (List.mem_of_getElem? (i := 31) rfl))⟩)
  have o13 := Fld.start ((fld_at ev13).symm.trans (eqv_i (Term.int_eval 1) g78))
  obtain ⟨a14, ev14⟩ := exa_v g14
  have x14 := Exa.start ev14 g14
  have s14 := Sta.start ev14 (Or.inr ⟨(hw _ (List.mem_of_getElem? (i := 3) rfl)), (hw _ (List.mem_of_getElem? (i := 33) rfl))⟩)
  have o14 := Fld.start ((fld_at ev14).symm.trans (eqv_i (Term.int_eval 1) g73))
  obtain ⟨a15, ev15⟩ := exa_v g15
  have x15 := Exa.start ev15 g15
  have s15 := Sta.start ev15 (Or.inr ⟨(hw _ (List.mem_of_getElem? (i := 3) rfl)), (hw _ (List.mem_of_getElem? (i := 35) rfl))⟩)
  have o15 := Fld.start ((fld_at ev15).symm.trans (eqv_i (Term.int_eval 1) g64))
  obtain ⟨a16, ev16⟩ := exa_v g16
  have x16 := Exa.start ev16 g16
  have s16 := Sta.start ev16 (Or.inr ⟨(hw _ (List.mem_of_getElem? (i := 3) rfl)), (hw _ (List.mem_of_getElem? (i := 37) rfl))⟩)
  have o16 := Fld.start ((fld_at ev16).symm.trans (eqv_i (Term.int_eval 1) g50))
  obtain ⟨a17, ev17⟩ := exa_v g17
  have x17 := Exa.start ev17 g17
  have s17 := Sta.start ev17 (Or.inr ⟨(hw _ (List.mem_of_getElem? (i := 3) rfl)), (hw _ (List.mem_of_getElem? (i := 39) rfl))⟩)
  have o17 := Fld.start ((fld_at ev17).symm.trans (eqv_i (Term.int_eval 1) g77))
  obtain ⟨a18, ev18⟩ := exa_v g18
  have x18 := Exa.start ev18 g18
  have s18 := Sta.start ev18 (Or.inr ⟨(hw _ (List.mem_of_getElem? (i := 3) rfl)), (hw _ (List.mem_of_getElem? (i := 41) rfl))⟩)
  have o18 := Fld.start ((fld_at ev18).symm.trans (eqv_i (Term.int_eval 1) g43))
  obtain ⟨a19, ev19⟩ := exa_v g19
  have x19 := Exa.start ev19 g19
  have s19 := Sta.start ev19 (Or.inr ⟨(hw _ (List.mem_of_getElem? (i := 3) rfl)), (hw _ (List.mem_of_getElem? (i := 43) rfl))⟩)
  have o19 := Fld.start ((fld_at ev19).symm.trans (eqv_i (Term.int_eval 1) g63))
  obtain ⟨a20, ev20⟩ := exa_v g20
  have x20 := Exa.start ev20 g20
  have s20 := Sta.start ev20 (Or.inr ⟨(hw _ (List.mem_of_getElem? (i := 3) rfl)), (hw _ (List.mem_of_getElem? (i := 45) rfl))⟩)
  have o20 := Fld.start ((fld_at ev20).symm.trans (eqv_i (Term.int_eval 1) g49))
  obtain ⟨a21, ev21⟩ := exa_v g21
  have x21 := Exa.start ev21 g21
  have s21 := Sta.start ev21 (Or.inr ⟨(hw _ (List.mem_of_getElem? (i := 3) rfl)), (hw _ (List.mem_of_getElem? (i := 47) rfl))⟩)
  have o21 := Fld.start ((fld_at ev21).symm.trans (eqv_i (Term.int_eval 0) g69))
  have r21 := Fld.start ((fld_at ev21).symm.trans (eqv_i (Term.int_eval 17) g70))
  obtain ⟨a22, ev22⟩ := exa_v g22
  have x22 := Exa.start ev22 g22
  have s22 := Sta.start ev22 (Or.inr ⟨(hw _ (List.mem_of_getElem? (i := 3) rfl)), (hw _ (List.mem_of_getElem? (i := 49) rfl))⟩)
  have o22 := Fld.start ((fld_at ev22).symm.trans (eqv_i (Term.int_eval 0) g79))
  have r22 := Fld.start ((fld_at ev22).symm.trans (eqv_i (Term.int_eval 19) g80))
  obtain ⟨a23, ev23⟩ := exa_v g23
  have x23 := Exa.start ev23 g23
  have s23 := Sta.start ev23 (Or.inr ⟨(hw _ (List.mem_of_getElem? (i := 3) rfl)), (hw _ (List.mem_of_getElem? (i := 51) rfl))⟩)
  have o23 := Fld.start ((fld_at ev23).symm.trans (eqv_i (Term.int_eval 0) g71))
  have r23 := Fld.start ((fld_at ev23).symm.trans (eqv_i (Term.int_eval 20) g72))
  obtain ⟨a24, ev24⟩ := exa_v g24
  have x24 := Exa.start ev24 g24
  have s24 := Sta.start ev24 (Or.inr ⟨(hw _ (List.mem_of_getElem? (i := 3) rfl)), (hw _ (List.mem_of_getElem? (i := 53) rfl))⟩)
  have o24 := Fld.start ((fld_at ev24).symm.trans (eqv_i (Term.int_eval 0) g61))
  have r24 := Fld.start ((fld_at ev24).symm.trans (eqv_i (Term.int_eval 21) g62))
  obtain ⟨a25, ev25⟩ := exa_v g25
  have x25 := Exa.start ev25 g25
  have s25 := Sta.start ev25 (Or.inr ⟨(hw _ (List.mem_of_getElem? (i := 3) rfl)), (hw _ (List.mem_of_getElem? (i := 55) rfl))⟩)
  have o25 := Fld.start ((fld_at ev25).symm.trans (eqv_i (Term.int_eval 0) g40))
  have r25 := Fld.start ((fld_at ev25).symm.trans (eqv_i (Term.int_eval 25) g41))
  obtain ⟨a26, ev26⟩ := exa_v g26
  have x26 := Exa.start ev26 g26
  have s26 := Sta.start ev26 (Or.inr ⟨(hw _ (List.mem_of_getElem? (i := 3) rfl)), (hw _ (List.mem_of_getElem? (i := 57) rfl))⟩)
  have o26 := Fld.start ((fld_at ev26).symm.trans (eqv_i (Term.int_eval 0) g65))
  have r26 := Fld.start ((fld_at ev26).symm.trans (eqv_i (Term.int_eval 26) g66))
  obtain ⟨a27, ev27⟩ := exa_v g27
  have x27 := Exa.start ev27 g27
  have s27 := Sta.start ev27 (Or.inr ⟨(hw _ (List.mem_of_getElem? (i := 3) rfl)), (hw _ (List.mem_of_getElem? (i := 59) rfl))⟩)
  have o27 := Fld.start ((fld_at ev27).symm.trans (eqv_i (Term.int_eval 0) g51))
  have r27 := Fld.start ((fld_at ev27).symm.trans (eqv_i (Term.int_eval 27) g52))
  obtain ⟨a28, ev28⟩ := exa_v g28
  have x28 := Exa.start ev28 g28
  have s28 := Sta.start ev28 (Or.inr ⟨(hw _ (List.mem_of_getElem? (i := 3) rfl)), (hw _ (List.mem_of_getElem? (i := 61) rfl))⟩)
  have o28 := Fld.start ((fld_at ev28).symm.trans (eqv_i (Term.int_eval 0) g53))
  have r28 := Fld.start ((fld_at ev28).symm.trans (eqv_i (Term.int_eval 28) g54))
  obtain ⟨a29, ev29⟩ := exa_v g29
  have x29 := Exa.start ev29 g29
  have s29 := Sta.start ev29 (Or.inr ⟨(hw _ (List.mem_of_getElem? (i := 3) rfl)), (hw _ (List.mem_of_getElem? (i := 63) rfl))⟩)
  have o29 := Fld.start ((fld_at ev29).symm.trans (eqv_i (Term.int_eval 0) g59))
  have r29 := Fld.start ((fld_at ev29).symm.trans (eqv_i (Term.int_eval 29) g60))
  obtain ⟨a30, ev30⟩ := exa_v g30
  have x30 := Exa.start ev30 g30
  have s30 := Sta.start ev30 (Or.inr ⟨(hw _ (List.mem_of_getElem? (i := 3) rfl)), (hw _ (List.mem_of_getElem? (i := 65) rfl))⟩)
  have o30 := Fld.start ((fld_at ev30).symm.trans (eqv_i (Term.int_eval 0) g57))
  have r30 := Fld.start ((fld_at ev30).symm.trans (eqv_i (Term.int_eval 30) g58))
  obtain ⟨a31, ev31⟩ := exa_v g31
  have x31 := Exa.start ev31 g31
  have s31 := Sta.start ev31 (Or.inr ⟨(hw _ (List.mem_of_getElem? (i := 3) rfl)), (hw _ (List.mem_of_getElem? (i := 67) rfl))⟩)
  have o31 := Fld.start ((fld_at ev31).symm.trans (eqv_i (Term.int_eval 0) g81))
  have r31 := Fld.start ((fld_at ev31).symm.trans (eqv_i (Term.int_eval 31) hn))
  obtain ⟨a32, ev32⟩ := exa_v g32
  have x32 := Exa.start ev32 g32
  have s32 := Sta.start ev32 (Or.inr ⟨(hw _ (List.mem_of_getElem? (i := 3) rfl)), (hw _ (List.mem_of_getElem? (i := 69) rfl))⟩)
  have o32 := Fld.start ((fld_at ev32).symm.trans (eqv_i (Term.int_eval 0) g67))
  have r32 := Fld.start ((fld_at ev32).symm.trans (eqv_i (Term.int_eval 32) g68))
  refine ⟨fun j => [a0, a1, a2, a3, a4, a5, a6, a7, a8, a9, a10, a11, a12, a13, a14, a15, a16, a17, a18, a19, a20, a21, a22, a23, a24, a25, a26, a27, a28, a29, a30, a31, a32].getD j 0, own_33 s0 s1 s2 s3 s4 s5 s6 s7 s8 s9 s10 s11 s12 s13 s14 s15 s16 s17 s18 s19 s20 s21 s22 s23 s24 s25 s26 s27 s28 s29 s30 s31 s32, own_33 x0 x1 x2 x3 x4 x5 x6 x7 x8 x9 x10 x11 x12 x13 x14 x15 x16 x17 x18 x19 x20 x21 x22 x23 x24 x25 x26 x27 x28 x29 x30 x31 x32, own_33 o0 o1 o2 o3 o4 o5 o6 o7 o8 o9 o10 o11 o12 o13 o14 o15 o16 o17 o18 o19 o20 o21 o22 o23 o24 o25 o26 o27 o28 o29 o30 o31 o32, ?_⟩
  intro j h1 h2 t h3
  have key : ∀ j, 21 ≤ j → j < 33 → ∃ v : Int32, Fld s s.heap ([a0, a1, a2, a3, a4, a5, a6, a7, a8, a9, a10, a11, a12, a13, a14, a15, a16, a17, a18, a19, a20, a21, a22, a23, a24, a25, a26, a27, a28, a29, a30, a31, a32].getD j 0) "java/lang/Enum" "ordinal" "I" (.int v) ∧ v ∉ [18, 22, 24, 16, 23] := by
    intro j h1 h2
    match j, h1, h2 with
    | 21, _, _ => exact ⟨_, r21, by decide⟩
    | 22, _, _ => exact ⟨_, r22, by decide⟩
    | 23, _, _ => exact ⟨_, r23, by decide⟩
    | 24, _, _ => exact ⟨_, r24, by decide⟩
    | 25, _, _ => exact ⟨_, r25, by decide⟩
    | 26, _, _ => exact ⟨_, r26, by decide⟩
    | 27, _, _ => exact ⟨_, r27, by decide⟩
    | 28, _, _ => exact ⟨_, r28, by decide⟩
    | 29, _, _ => exact ⟨_, r29, by decide⟩
    | 30, _, _ => exact ⟨_, r30, by decide⟩
    | 31, _, _ => exact ⟨_, r31, by decide⟩
    | 32, _, _ => exact ⟨_, r32, by decide⟩
    | n + 33, _, h => exact absurd h (by omega)
  have key2 : ∀ t, t < 5 → ∃ v : Int32, Fld s s.heap ([a0, a1, a2, a3, a4, a5, a6, a7, a8, a9, a10, a11, a12, a13, a14, a15, a16, a17, a18, a19, a20, a21, a22, a23, a24, a25, a26, a27, a28, a29, a30, a31, a32].getD t 0) "java/lang/Enum" "ordinal" "I" (.int v) ∧ v ∈ [18, 22, 24, 16, 23] := by
    intro j h1
    match j, h1 with
    | 0, _ => exact ⟨_, r0, by decide⟩
    | 1, _ => exact ⟨_, r1, by decide⟩
    | 2, _ => exact ⟨_, r2, by decide⟩
    | 3, _ => exact ⟨_, r3, by decide⟩
    | 4, _ => exact ⟨_, r4, by decide⟩
  obtain ⟨v1, f1, m1⟩ := key j h1 h2
  obtain ⟨v2, f2, m2⟩ := key2 t h3
  exact Fld.ne f1 f2 fun q => m1 (by rw [Value.int.inj q]; exact m2)
set_option maxRecDepth 65536 in
set_option maxHeartbeats 40000000 in
theorem comes_1 {Post : Tables → Env → Array Value → State → Outcome → State → Prop} (hpost : ∀ tb e args s v u, (limb_1_1.after args s (.returned v) u = true ∧ limb_1_2.after args s (.returned v) u = true ∧ True) → FrameEnd s (.returned v) u (Jvm.fieldLocs frame_1_writes args s ++ Jvm.arrayLocs frame_1_arrays args s ++ Jvm.staticLocs frame_1_statics s) 16 192 → Post tb e args s (.returned v) u) :
    ArmFor flags0 classFile x code maxLocals ret World_1 tables_1 room_1 Calls_1 rest_1 Pre_1 Post := by
  intro l hfl _ _ p e ha hc hk s m args below hf hA hF happ hP
  obtain ⟨hcalls, hrest, hpre⟩ := hP
  obtain ⟨-, -, -, hnamed, -, -, -, hat⟩ := (Spec.applies_iff hf).mp happ
  obtain ⟨hg, hn⟩ := and_e (Cond.before_iff.mp (show (Jvm.Cond.and given_1 narrow_1).before args s = true from hpre))
  obtain ⟨hcnt, k0⟩ := and_e hg
  obtain ⟨w0, rfl⟩ : ∃ w0 : Value, args = #[w0] := by
    have hs : args.size = 1 := by simpa [Cond.value, given_1] using hcnt
    obtain ⟨L⟩ := args
    match L, hs with
    | [w0], _ => exact ⟨w0, rfl⟩
  have hw := fun d (hd : d ∈ tables_1) => atoms_spec (ws := Jvm.Cond.code x code maxLocals ret :: tables_1) hat d (List.mem_cons_of_mem _ hd)
  have hfit : Fit s := fun {y c} hc i hi => by
    obtain ⟨ha, rfl⟩ := Array.getElem?_eq_some_iff.mp hc
    have q := List.all_eq_true.mp ((Array.all_eq_true_iff_forall_mem.mp hF) _ (Array.getElem_mem ha)) i (List.mem_range.mpr hi)
    simpa [Array.getElem?_eq_getElem hi] using q
  obtain ⟨i0, ei0⟩ := is_v k0
  obtain rfl : w0 = (.int i0) := Option.some.inj ei0
  obtain ⟨w, hS, hE, hO, hne⟩ := own_narrow hn hw
  obtain ⟨n, o, h1, h2, h3, _, L, rfl, ⟨rfl, N⟩, hq⟩ := rm0 l s _ hw tables_1 i0 w s.heap s.heap.size (Nat.le_refl _) hS hE hO hne p e ha hc hk s m _ below hf ((Spec.applies_iff_loose hf).mp happ).1 ⟨rfl, State.Warmed39.refl s, rfl⟩ trivial
  refine ⟨n, _, h1, h2, h3, hpost _ _ _ _ _ _ ⟨Cond.after_iff.mpr rfl, Cond.after_iff.mpr (eq_i res_at (Term.int_eval (1)) rfl), trivial⟩ ⟨hq.1, hq.2.1, (hq.2.2.sift fun y hy => Or.inr (N y hy)).mono (by decide) (by decide)⟩⟩
theorem main_1_1 : Claimed_1_1 := comes_1 fun _ _ _ _ _ _ h hF => ⟨h.1, hF⟩
theorem main_1_2 : Claimed_1_2 := comes_1 fun _ _ _ _ _ _ h hF => ⟨h.2.1, hF⟩
end Jvm.Pilot.@@N@@
namespace Jvm.Pilot.@@N@@
open Jvm Jvm.ClassFile Sem Op Lib Jvm.Free Jvm.Stand Jvm.Pilot.@@N@@.Jvm.D
/-! MADE BY PROGRAM (witnessworld.py) out of the Statement's table words and the real class files: 13 classes; the members and pool entries that the words name. The judged class is class 1, her method 1. -/
namespace start1
open Jvm.ClassFile
def u (s : String) : CpInfo := .utf8 (stringToUtf16 s)
/-- a pool by its gaps: so many unusable entries, then the entry; so many at the end -/
def gap : Nat → List CpInfo → List CpInfo
  | 0, r => r
  | n + 1, r => .unusable :: gap n r
def poolList (es : List (Nat × CpInfo)) (last : Nat) : List CpInfo := es.foldr (fun e r => gap e.1 (e.2 :: r)) (gap last [])
def pool (es : List (Nat × CpInfo)) (last : Nat) : Array CpInfo := ⟨poolList es last⟩
def fileOf (pool : Array CpInfo) (this : Nat) (attrs : Array Attribute := #[]) (ms : Array MethodInfo := #[]) (fl : Nat := 33) (sup : Nat := 0) (ifs : Array Nat := #[]) (fds : Array FieldInfo := #[]) : ClassFile where
  minorVersion := 0
  majorVersion := 65
  constantPool := pool
  accessFlags := fl
  thisClass := this
  superClass := sup
  interfaces := ifs
  fields := fds
  methods := ms
  attributes := attrs
def plain (name : String) (sup : Option ClassId) : Class where
  name := name
  kind := .ordinary
  loader := none
  accessFlags := 33
  super := sup
  interfaces := #[]
  cf := none
  fields := #[]
  methods := #[]
  instanceTypes := #[]
  staticTypes := #[]
  resolved := #[]
  callSites := []
  init := .initialized
  statics := none
  mirror := none

def pool0 : Array CpInfo := pool [(5, u "<init>"), (0, u "()V"), (1, .class_ 10), (1, u "java/lang/Object")] 113

def k0m0 : Method := { name := "<init>", desc := "()V", sig := { parameters := [], returnType := none }, accessFlags := 1, code := none }
/-- java/lang/Object -/
def k0 : Class := { plain "java/lang/Object" none with
  accessFlags := 33
  interfaces := #[]
  cf := some (fileOf pool0 8 #[] #[{ accessFlags := 1, nameIndex := 5, descriptorIndex := 6, attributes := #[] }] 33 0 #[] #[])
  fields := #[]
  methods := #[k0m0]
  instanceTypes := #[]
  staticTypes := #[]
  resolved := Array.replicate 124 none
  statics := none }

def pool1 : Array CpInfo := pool [(2, .class_ 4), (1, u "java/lang/Object"), (0, u "<init>"), (0, u "()V"), (0, .class_ 8), (0, u "com/example/pathline/pathline/xpath/XPathLexer$TokenKind"), (0, .fieldref 7 10), (0, .nameAndType 11 12), (0, u "AT"), (0, u "Lcom/example/pathline/pathline/xpath/XPathLexer$TokenKind;"), (0, .fieldref 7 14), (0, .nameAndType 15 12), (0, u "DOUBLE_COLON"), (0, .fieldref 7 17), (0, .nameAndType 18 12), (0, u "LEFT_PAREN"), (0, .fieldref 7 20), (0, .nameAndType 21 12), (0, u "LEFT_BRACKET"), (0, .fieldref 7 23), (0, .nameAndType 24 12), (0, u "COMMA"), (0, .fieldref 7 26), (0, .nameAndType 27 12), (0, u "AND"), (0, .fieldref 7 29), (0, .nameAndType 30 12), (0, u "OR"), (0, .fieldref 7 32), (0, .nameAndType 33 12), (0, u "MOD"), (0, .fieldref 7 35), (0, .nameAndType 36 12), (0, u "DIV"), (0, .fieldref 7 38), (0, .nameAndType 39 12), (0, u "MULTIPLY"), (0, .fieldref 7 41), (0, .nameAndType 42 12), (0, u "SLASH"), (0, .fieldref 7 44), (0, .nameAndType 45 12), (0, u "DOUBLE_SLASH"), (0, .fieldref 7 47), (0, .nameAndType 48 12), (0, u "PIPE"), (0, .fieldref 7 50), (0, .nameAndType 51 12), (0, u "PLUS"), (0, .fieldref 7 53), (0, .nameAndType 54 12), (0, u "MINUS"), (0, .fieldref 7 56), (0, .nameAndType 57 12), (0, u "EQUAL"), (0, .fieldref 7 59), (0, .nameAndType 60 12), (0, u "NOT_EQUAL"), (0, .fieldref 7 62), (0, .nameAndType 63 12), (0, u "LESS"), (0, .fieldref 7 65), (0, .nameAndType 66 12), (0, u "LESS_OR_EQUAL"), (0, .fieldref 7 68), (0, .nameAndType 69 12), (0, u "GREATER"), (0, .fieldref 7 71), (0, .nameAndType 72 12), (0, u "GREATER_OR_EQUAL"), (0, .fieldref 7 74), (0, .nameAndType 75 12), (0, u "RIGHT_PAREN"), (0, .fieldref 7 77), (0, .nameAndType 78 12), (0, u "RIGHT_BRACKET"), (0, .fieldref 7 80), (0, .nameAndType 81 12), (0, u "DOT"), (0, .fieldref 7 83), (0, .nameAndType 84 12), (0, u "DOUBLE_DOT"), (0, .fieldref 7 86), (0, .nameAndType 87 12), (0, u "LITERAL"), (0, .fieldref 7 89), (0, .nameAndType 90 12), (0, u "NUMBER"), (0, .fieldref 7 92), (0, .nameAndType 93 12), (0, u "VARIABLE"), (0, .fieldref 7 95), (0, .nameAndType 96 12), (0, u "NAME_TEST"), (0, .fieldref 7 98), (0, .nameAndType 99 12), (0, u "NODE_TYPE"), (0, .fieldref 7 101), (0, .nameAndType 102 12), (0, u "FUNCTION_NAME"), (0, .fieldref 7 104), (0, .nameAndType 105 12), (0, u "AXIS_NAME"), (0, .fieldref 7 107), (0, .nameAndType 108 12), (0, u "END"), (0, .integer 2147483647), (0, .methodref 7 111), (0, .nameAndType 112 113), (0, u "precedesOperand"), (0, u "()Z"), (0, .class_ 115), (0, u "com/example/pathline/pathline/xpath/TokenKindPrecedesOperandPinLaw"), (2, u "law"), (0, u "(I)Z")] 9

def k1m0 : Method := { name := "<init>", desc := "()V", sig := { parameters := [], returnType := none }, accessFlags := 2, code := none }
def k1c1 : Code := { maxStack := 4, maxLocals := 4, code := code, exceptionTable := #[], attributes := #[] }
def k1m1 : Method := { name := "law", desc := "(I)Z", sig := { parameters := [.int], returnType := some .boolean }, accessFlags := 9, code := some k1c1 }
/-- com/example/pathline/pathline/xpath/TokenKindPrecedesOperandPinLaw -/
def k1 : Class := { plain "com/example/pathline/pathline/xpath/TokenKindPrecedesOperandPinLaw" (some 0) with
  accessFlags := 49
  interfaces := #[]
  cf := some (fileOf pool1 114 #[] #[{ accessFlags := 2, nameIndex := 5, descriptorIndex := 6, attributes := #[] }, { accessFlags := 9, nameIndex := 118, descriptorIndex := 119, attributes := #[] }] 49 2 #[] #[])
  fields := #[]
  methods := #[k1m0, k1m1]
  instanceTypes := #[]
  staticTypes := #[]
  resolved := Array.replicate 129 none
  statics := none }

def pool2 : Array CpInfo := pool [(1, .class_ 2), (0, u "java/lang/constant/Constable"), (0, .class_ 4), (0, u "java/lang/Object")] 6

/-- java/lang/constant/Constable -/
def k2 : Class := { plain "java/lang/constant/Constable" (some 0) with
  accessFlags := 1537
  interfaces := #[]
  cf := some (fileOf pool2 1 #[] #[] 1537 3 #[] #[])
  fields := #[]
  methods := #[]
  instanceTypes := #[]
  staticTypes := #[]
  resolved := Array.replicate 11 none
  statics := none }

def pool3 : Array CpInfo := pool [(1, .class_ 2), (0, u "java/lang/Comparable"), (0, .class_ 4), (0, u "java/lang/Object")] 7

/-- java/lang/Comparable -/
def k3 : Class := { plain "java/lang/Comparable" (some 0) with
  accessFlags := 1537
  interfaces := #[]
  cf := some (fileOf pool3 1 #[] #[] 1537 3 #[] #[])
  fields := #[]
  methods := #[]
  instanceTypes := #[]
  staticTypes := #[]
  resolved := Array.replicate 12 none
  statics := none }

def pool4 : Array CpInfo := pool [(1, .class_ 2), (0, u "java/io/Serializable"), (0, .class_ 4), (0, u "java/lang/Object")] 2

/-- java/io/Serializable -/
def k4 : Class := { plain "java/io/Serializable" (some 0) with
  accessFlags := 1537
  interfaces := #[]
  cf := some (fileOf pool4 1 #[] #[] 1537 3 #[] #[])
  fields := #[]
  methods := #[]
  instanceTypes := #[]
  staticTypes := #[]
  resolved := Array.replicate 7 none
  statics := none }

def pool5 : Array CpInfo := pool [(2, .class_ 4), (1, u "java/lang/Enum"), (0, u "name"), (0, u "Ljava/lang/String;"), (2, u "ordinal"), (0, u "I"), (1, .class_ 14), (1, u "java/lang/Object"), (4, u "hash"), (86, .class_ 108), (1, u "java/lang/Enum$EnumDesc"), (2, .class_ 112), (0, u "java/lang/constant/Constable"), (0, .class_ 114), (0, u "java/lang/Comparable"), (0, .class_ 116), (0, u "java/io/Serializable")] 87

/-- java/lang/Enum -/
def k5 : Class := { plain "java/lang/Enum" (some 0) with
  accessFlags := 1057
  interfaces := #[2, 3, 4]
  cf := some (fileOf pool5 2 #[.nestMembers #[106]] #[] 1057 12 #[111, 113, 115] #[{ accessFlags := 18, nameIndex := 5, descriptorIndex := 6, attributes := #[] }, { accessFlags := 18, nameIndex := 9, descriptorIndex := 10, attributes := #[] }, { accessFlags := 2, nameIndex := 19, descriptorIndex := 10, attributes := #[] }])
  fields := #[{ name := "name", type := (.object "java/lang/String"), accessFlags := 18, slot := 0, constantValue := 0 }, { name := "ordinal", type := .int, accessFlags := 18, slot := 1, constantValue := 0 }, { name := "hash", type := .int, accessFlags := 2, slot := 2, constantValue := 0 }]
  methods := #[]
  instanceTypes := #[(.object "java/lang/String"), .int, .int]
  staticTypes := #[]
  resolved := Array.replicate 204 none
  statics := none }

def pool6 : Array CpInfo := pool [(1, .class_ 2), (0, u "com/example/pathline/pathline/xpath/XPathLexer$TokenKind"), (2, u "SLASH"), (0, u "Lcom/example/pathline/pathline/xpath/XPathLexer$TokenKind;"), (2, u "DOUBLE_SLASH"), (2, u "PIPE"), (2, u "PLUS"), (2, u "MINUS"), (2, u "EQUAL"), (2, u "NOT_EQUAL"), (2, u "LESS"), (2, u "LESS_OR_EQUAL"), (2, u "GREATER"), (2, u "GREATER_OR_EQUAL"), (2, u "MULTIPLY"), (2, u "AND"), (2, u "OR"), (2, u "DIV"), (2, u "MOD"), (0, .fieldref 1 53), (0, .nameAndType 54 6), (0, u "LEFT_PAREN"), (2, u "RIGHT_PAREN"), (0, .fieldref 1 59), (0, .nameAndType 60 6), (0, u "LEFT_BRACKET"), (2, u "RIGHT_BRACKET"), (2, u "DOT"), (2, u "DOUBLE_DOT"), (0, .fieldref 1 71), (0, .nameAndType 72 6), (0, u "AT"), (0, .fieldref 1 74), (0, .nameAndType 75 6), (0, u "COMMA"), (0, .fieldref 1 77), (0, .nameAndType 78 6), (0, u "DOUBLE_COLON"), (2, u "LITERAL"), (2, u "NUMBER"), (2, u "VARIABLE"), (2, u "NAME_TEST"), (2, u "NODE_TYPE"), (2, u "FUNCTION_NAME"), (2, u "AXIS_NAME"), (2, u "END"), (2, u "$VALUES"), (0, u "[Lcom/example/pathline/pathline/xpath/XPathLexer$TokenKind;"), (6, .class_ 115), (1, u "java/lang/Enum"), (6, .fieldref 1 123), (0, .nameAndType 124 125), (0, u "operator"), (0, u "Z"), (47, u "precedesOperand"), (0, u "()Z"), (7, .class_ 183), (0, u "com/example/pathline/pathline/xpath/XPathLexer")] 2

def k6c0 : Code := { maxStack := 2, maxLocals := 1, code := prog_200_method_4_code, exceptionTable := #[], attributes := #[] }
def k6m0 : Method := { name := "precedesOperand", desc := "()Z", sig := { parameters := [], returnType := some .boolean }, accessFlags := 0, code := some k6c0 }
/-- com/example/pathline/pathline/xpath/XPathLexer$TokenKind -/
def k6 : Class := { plain "com/example/pathline/pathline/xpath/XPathLexer$TokenKind" (some 5) with
  accessFlags := 16432
  interfaces := #[]
  cf := some (fileOf pool6 1 #[.nestHost 182] #[{ accessFlags := 0, nameIndex := 173, descriptorIndex := 174, attributes := #[] }] 16432 113 #[] #[{ accessFlags := 16409, nameIndex := 5, descriptorIndex := 6, attributes := #[] }, { accessFlags := 16409, nameIndex := 9, descriptorIndex := 6, attributes := #[] }, { accessFlags := 16409, nameIndex := 12, descriptorIndex := 6, attributes := #[] }, { accessFlags := 16409, nameIndex := 15, descriptorIndex := 6, attributes := #[] }, { accessFlags := 16409, nameIndex := 18, descriptorIndex := 6, attributes := #[] }, { accessFlags := 16409, nameIndex := 21, descriptorIndex := 6, attributes := #[] }, { accessFlags := 16409, nameIndex := 24, descriptorIndex := 6, attributes := #[] }, { accessFlags := 16409, nameIndex := 27, descriptorIndex := 6, attributes := #[] }, { accessFlags := 16409, nameIndex := 30, descriptorIndex := 6, attributes := #[] }, { accessFlags := 16409, nameIndex := 33, descriptorIndex := 6, attributes := #[] }, { accessFlags := 16409, nameIndex := 36, descriptorIndex := 6, attributes := #[] }, { accessFlags := 16409, nameIndex := 39, descriptorIndex := 6, attributes := #[] }, { accessFlags := 16409, nameIndex := 42, descriptorIndex := 6, attributes := #[] }, { accessFlags := 16409, nameIndex := 45, descriptorIndex := 6, attributes := #[] }, { accessFlags := 16409, nameIndex := 48, descriptorIndex := 6, attributes := #[] }, { accessFlags := 16409, nameIndex := 51, descriptorIndex := 6, attributes := #[] }, { accessFlags := 16409, nameIndex := 54, descriptorIndex := 6, attributes := #[] }, { accessFlags := 16409, nameIndex := 57, descriptorIndex := 6, attributes := #[] }, { accessFlags := 16409, nameIndex := 60, descriptorIndex := 6, attributes := #[] }, { accessFlags := 16409, nameIndex := 63, descriptorIndex := 6, attributes := #[] }, { accessFlags := 16409, nameIndex := 66, descriptorIndex := 6, attributes := #[] }, { accessFlags := 16409, nameIndex := 69, descriptorIndex := 6, attributes := #[] }, { accessFlags := 16409, nameIndex := 72, descriptorIndex := 6, attributes := #[] }, { accessFlags := 16409, nameIndex := 75, descriptorIndex := 6, attributes := #[] }, { accessFlags := 16409, nameIndex := 78, descriptorIndex := 6, attributes := #[] }, { accessFlags := 16409, nameIndex := 81, descriptorIndex := 6, attributes := #[] }, { accessFlags := 16409, nameIndex := 84, descriptorIndex := 6, attributes := #[] }, { accessFlags := 16409, nameIndex := 87, descriptorIndex := 6, attributes := #[] }, { accessFlags := 16409, nameIndex := 90, descriptorIndex := 6, attributes := #[] }, { accessFlags := 16409, nameIndex := 93, descriptorIndex := 6, attributes := #[] }, { accessFlags := 16409, nameIndex := 96, descriptorIndex := 6, attributes := #[] }, { accessFlags := 16409, nameIndex := 99, descriptorIndex := 6, attributes := #[] }, { accessFlags := 16409, nameIndex := 102, descriptorIndex := 6, attributes := #[] }, { accessFlags := 18, nameIndex := 124, descriptorIndex := 125, attributes := #[] }, { accessFlags := 4122, nameIndex := 105, descriptorIndex := 106, attributes := #[] }])
  fields := #[{ name := "SLASH", type := (.object "com/example/pathline/pathline/xpath/XPathLexer$TokenKind"), accessFlags := 16409, slot := 0, constantValue := 0 }, { name := "DOUBLE_SLASH", type := (.object "com/example/pathline/pathline/xpath/XPathLexer$TokenKind"), accessFlags := 16409, slot := 1, constantValue := 0 }, { name := "PIPE", type := (.object "com/example/pathline/pathline/xpath/XPathLexer$TokenKind"), accessFlags := 16409, slot := 2, constantValue := 0 }, { name := "PLUS", type := (.object "com/example/pathline/pathline/xpath/XPathLexer$TokenKind"), accessFlags := 16409, slot := 3, constantValue := 0 }, { name := "MINUS", type := (.object "com/example/pathline/pathline/xpath/XPathLexer$TokenKind"), accessFlags := 16409, slot := 4, constantValue := 0 }, { name := "EQUAL", type := (.object "com/example/pathline/pathline/xpath/XPathLexer$TokenKind"), accessFlags := 16409, slot := 5, constantValue := 0 }, { name := "NOT_EQUAL", type := (.object "com/example/pathline/pathline/xpath/XPathLexer$TokenKind"), accessFlags := 16409, slot := 6, constantValue := 0 }, { name := "LESS", type := (.object "com/example/pathline/pathline/xpath/XPathLexer$TokenKind"), accessFlags := 16409, slot := 7, constantValue := 0 }, { name := "LESS_OR_EQUAL", type := (.object "com/example/pathline/pathline/xpath/XPathLexer$TokenKind"), accessFlags := 16409, slot := 8, constantValue := 0 }, { name := "GREATER", type := (.object "com/example/pathline/pathline/xpath/XPathLexer$TokenKind"), accessFlags := 16409, slot := 9, constantValue := 0 }, { name := "GREATER_OR_EQUAL", type := (.object "com/example/pathline/pathline/xpath/XPathLexer$TokenKind"), accessFlags := 16409, slot := 10, constantValue := 0 }, { name := "MULTIPLY", type := (.object "com/example/pathline/pathline/xpath/XPathLexer$TokenKind"), accessFlags := 16409, slot := 11, constantValue := 0 }, { name := "AND", type := (.object "com/example/pathline/pathline/xpath/XPathLexer$TokenKind"), accessFlags := 16409, slot := 12, constantValue := 0 }, { name := "OR", type := (.object "com/example/pathline/pathline/xpath/XPathLexer$TokenKind"), accessFlags := 16409, slot := 13, constantValue := 0 }, { name := "DIV", type := (.object "com/example/pathline/pathline/xpath/XPathLexer$TokenKind"), accessFlags := 16409, slot := 14, constantValue := 0 }, { name := "MOD", type := (.object "com/example/pathline/pathline/xpath/XPathLexer$TokenKind"), accessFlags := 16409, slot := 15, constantValue := 0 }, { name := "LEFT_PAREN", type := (.object "com/example/pathline/pathline/xpath/XPathLexer$TokenKind"), accessFlags := 16409, slot := 16, constantValue := 0 }, { name := "RIGHT_PAREN", type := (.object "com/example/pathline/pathline/xpath/XPathLexer$TokenKind"), accessFlags := 16409, slot := 17, constantValue := 0 }, { name := "LEFT_BRACKET", type := (.object "com/example/pathline/pathline/xpath/XPathLexer$TokenKind"), accessFlags := 16409, slot := 18, constantValue := 0 }, { name := "RIGHT_BRACKET", type := (.object "com/example/pathline/pathline/xpath/XPathLexer$TokenKind"), accessFlags := 16409, slot := 19, constantValue := 0 }, { name := "DOT", type := (.object "com/example/pathline/pathline/xpath/XPathLexer$TokenKind"), accessFlags := 16409, slot := 20, constantValue := 0 }, { name := "DOUBLE_DOT", type := (.object "com/example/pathline/pathline/xpath/XPathLexer$TokenKind"), accessFlags := 16409, slot := 21, constantValue := 0 }, { name := "AT", type := (.object "com/example/pathline/pathline/xpath/XPathLexer$TokenKind"), accessFlags := 16409, slot := 22, constantValue := 0 }, { name := "COMMA", type := (.object "com/example/pathline/pathline/xpath/XPathLexer$TokenKind"), accessFlags := 16409, slot := 23, constantValue := 0 }, { name := "DOUBLE_COLON", type := (.object "com/example/pathline/pathline/xpath/XPathLexer$TokenKind"), accessFlags := 16409, slot := 24, constantValue := 0 }, { name := "LITERAL", type := (.object "com/example/pathline/pathline/xpath/XPathLexer$TokenKind"), accessFlags := 16409, slot := 25, constantValue := 0 }, { name := "NUMBER", type := (.object "com/example/pathline/pathline/xpath/XPathLexer$TokenKind"), accessFlags := 16409, slot := 26, constantValue := 0 }, { name := "VARIABLE", type := (.object "com/example/pathline/pathline/xpath/XPathLexer$TokenKind"), accessFlags := 16409, slot := 27, constantValue := 0 }, { name := "NAME_TEST", type := (.object "com/example/pathline/pathline/xpath/XPathLexer$TokenKind"), accessFlags := 16409, slot := 28, constantValue := 0 }, { name := "NODE_TYPE", type := (.object "com/example/pathline/pathline/xpath/XPathLexer$TokenKind"), accessFlags := 16409, slot := 29, constantValue := 0 }, { name := "FUNCTION_NAME", type := (.object "com/example/pathline/pathline/xpath/XPathLexer$TokenKind"), accessFlags := 16409, slot := 30, constantValue := 0 }, { name := "AXIS_NAME", type := (.object "com/example/pathline/pathline/xpath/XPathLexer$TokenKind"), accessFlags := 16409, slot := 31, constantValue := 0 }, { name := "END", type := (.object "com/example/pathline/pathline/xpath/XPathLexer$TokenKind"), accessFlags := 16409, slot := 32, constantValue := 0 }, { name := "operator", type := .boolean, accessFlags := 18, slot := 3, constantValue := 0 }, { name := "$VALUES", type := (.array (.object "com/example/pathline/pathline/xpath/XPathLexer$TokenKind")), accessFlags := 4122, slot := 33, constantValue := 0 }]
  methods := #[k6m0]
  instanceTypes := #[(.object "java/lang/String"), .int, .int, .boolean]
  staticTypes := #[(.object "com/example/pathline/pathline/xpath/XPathLexer$TokenKind"), (.object "com/example/pathline/pathline/xpath/XPathLexer$TokenKind"), (.object "com/example/pathline/pathline/xpath/XPathLexer$TokenKind"), (.object "com/example/pathline/pathline/xpath/XPathLexer$TokenKind"), (.object "com/example/pathline/pathline/xpath/XPathLexer$TokenKind"), (.object "com/example/pathline/pathline/xpath/XPathLexer$TokenKind"), (.object "com/example/pathline/pathline/xpath/XPathLexer$TokenKind"), (.object "com/example/pathline/pathline/xpath/XPathLexer$TokenKind"), (.object "com/example/pathline/pathline/xpath/XPathLexer$TokenKind"), (.object "com/example/pathline/pathline/xpath/XPathLexer$TokenKind"), (.object "com/example/pathline/pathline/xpath/XPathLexer$TokenKind"), (.object "com/example/pathline/pathline/xpath/XPathLexer$TokenKind"), (.object "com/example/pathline/pathline/xpath/XPathLexer$TokenKind"), (.object "com/example/pathline/pathline/xpath/XPathLexer$TokenKind"), (.object "com/example/pathline/pathline/xpath/XPathLexer$TokenKind"), (.object "com/example/pathline/pathline/xpath/XPathLexer$TokenKind"), (.object "com/example/pathline/pathline/xpath/XPathLexer$TokenKind"), (.object "com/example/pathline/pathline/xpath/XPathLexer$TokenKind"), (.object "com/example/pathline/pathline/xpath/XPathLexer$TokenKind"), (.object "com/example/pathline/pathline/xpath/XPathLexer$TokenKind"), (.object "com/example/pathline/pathline/xpath/XPathLexer$TokenKind"), (.object "com/example/pathline/pathline/xpath/XPathLexer$TokenKind"), (.object "com/example/pathline/pathline/xpath/XPathLexer$TokenKind"), (.object "com/example/pathline/pathline/xpath/XPathLexer$TokenKind"), (.object "com/example/pathline/pathline/xpath/XPathLexer$TokenKind"), (.object "com/example/pathline/pathline/xpath/XPathLexer$TokenKind"), (.object "com/example/pathline/pathline/xpath/XPathLexer$TokenKind"), (.object "com/example/pathline/pathline/xpath/XPathLexer$TokenKind"), (.object "com/example/pathline/pathline/xpath/XPathLexer$TokenKind"), (.object "com/example/pathline/pathline/xpath/XPathLexer$TokenKind"), (.object "com/example/pathline/pathline/xpath/XPathLexer$TokenKind"), (.object "com/example/pathline/pathline/xpath/XPathLexer$TokenKind"), (.object "com/example/pathline/pathline/xpath/XPathLexer$TokenKind"), (.array (.object "com/example/pathline/pathline/xpath/XPathLexer$TokenKind"))]
  resolved := Array.replicate 186 none
  statics := some 0 }

def pool7 : Array CpInfo := pool [(1, u "java/lang/Cloneable"), (0, .class_ 1), (0, u "java/lang/Object"), (0, .class_ 3)] 3

/-- java/lang/Cloneable -/
def k7 : Class := { plain "java/lang/Cloneable" (some 0) with
  accessFlags := 1537
  interfaces := #[]
  cf := some (fileOf pool7 2 #[] #[] 1537 4 #[] #[])
  fields := #[]
  methods := #[]
  instanceTypes := #[]
  staticTypes := #[]
  resolved := Array.replicate 8 none
  statics := none }

/-- the primitive byte -/
def k8 : Class := { plain "byte" none with kind := .primitive 'B', accessFlags := 0x411 }
/-- [B -/
def k9 : Class := { plain "[B" (some 0) with kind := .array 8 .byte, interfaces := #[7, 4], accessFlags := 1041 }

/-- the primitive int -/
def k10 : Class := { plain "int" none with kind := .primitive 'I', accessFlags := 0x411 }
/-- [I -/
def k11 : Class := { plain "[I" (some 0) with kind := .array 10 .int, interfaces := #[7, 4], accessFlags := 1041 }

/-- [Lcom/example/pathline/pathline/xpath/XPathLexer$TokenKind; -/
def k12 : Class := { plain "[Lcom/example/pathline/pathline/xpath/XPathLexer$TokenKind;" (some 0) with kind := .array 6 (.object "com/example/pathline/pathline/xpath/XPathLexer$TokenKind"), interfaces := #[7, 4], accessFlags := 1041 }

def heap : Heap := #[{ cls := 6, slots := #[.ref 11, .ref 12, .ref 13, .ref 14, .ref 15, .ref 16, .ref 17, .ref 18, .ref 19, .ref 20, .ref 21, .ref 10, .ref 6, .ref 7, .ref 9, .ref 8, .ref 3, .ref 22, .ref 4, .ref 23, .ref 24, .ref 25, .ref 1, .ref 5, .ref 2, .ref 26, .ref 27, .ref 28, .ref 29, .ref 30, .ref 31, .ref 32, .ref 33, .null], vm := .statics 6 },
  { cls := 6, slots := #[.null, .int 22, .int 0, .int 0], vm := .none },
  { cls := 6, slots := #[.null, .int 24, .int 0, .int 0], vm := .none },
  { cls := 6, slots := #[.null, .int 16, .int 0, .int 0], vm := .none },
  { cls := 6, slots := #[.null, .int 18, .int 0, .int 0], vm := .none },
  { cls := 6, slots := #[.null, .int 23, .int 0, .int 0], vm := .none },
  { cls := 6, slots := #[.null, .int 0, .int 0, .int 1], vm := .none },
  { cls := 6, slots := #[.null, .int 1, .int 0, .int 1], vm := .none },
  { cls := 6, slots := #[.null, .int 2, .int 0, .int 1], vm := .none },
  { cls := 6, slots := #[.null, .int 3, .int 0, .int 1], vm := .none },
  { cls := 6, slots := #[.null, .int 4, .int 0, .int 1], vm := .none },
  { cls := 6, slots := #[.null, .int 5, .int 0, .int 1], vm := .none },
  { cls := 6, slots := #[.null, .int 6, .int 0, .int 1], vm := .none },
  { cls := 6, slots := #[.null, .int 7, .int 0, .int 1], vm := .none },
  { cls := 6, slots := #[.null, .int 8, .int 0, .int 1], vm := .none },
  { cls := 6, slots := #[.null, .int 9, .int 0, .int 1], vm := .none },
  { cls := 6, slots := #[.null, .int 10, .int 0, .int 1], vm := .none },
  { cls := 6, slots := #[.null, .int 11, .int 0, .int 1], vm := .none },
  { cls := 6, slots := #[.null, .int 12, .int 0, .int 1], vm := .none },
  { cls := 6, slots := #[.null, .int 13, .int 0, .int 1], vm := .none },
  { cls := 6, slots := #[.null, .int 14, .int 0, .int 1], vm := .none },
  { cls := 6, slots := #[.null, .int 15, .int 0, .int 1], vm := .none },
  { cls := 6, slots := #[.null, .int 17, .int 0, .int 0], vm := .none },
  { cls := 6, slots := #[.null, .int 19, .int 0, .int 0], vm := .none },
  { cls := 6, slots := #[.null, .int 20, .int 0, .int 0], vm := .none },
  { cls := 6, slots := #[.null, .int 21, .int 0, .int 0], vm := .none },
  { cls := 6, slots := #[.null, .int 25, .int 0, .int 0], vm := .none },
  { cls := 6, slots := #[.null, .int 26, .int 0, .int 0], vm := .none },
  { cls := 6, slots := #[.null, .int 27, .int 0, .int 0], vm := .none },
  { cls := 6, slots := #[.null, .int 28, .int 0, .int 0], vm := .none },
  { cls := 6, slots := #[.null, .int 29, .int 0, .int 0], vm := .none },
  { cls := 6, slots := #[.null, .int 30, .int 0, .int 0], vm := .none },
  { cls := 6, slots := #[.null, .int 31, .int 0, .int 0], vm := .none },
  { cls := 6, slots := #[.null, .int 32, .int 0, .int 0], vm := .none }]
def classes : Array Class := #[k0, k1, k2, k3, k4, k5, k6, k7, k8, k9, k10, k11, k12]
def interned : List (Array UInt16 × Addr) := []
def slotsUsed : Nat := 166
def theMethod : MethodId := ⟨1, 1⟩
def args0 : Array Value := #[.int 7]
def aboutOver (below : List Frame) : State where
  vm := { classes := classes, interned := interned.toArray }
  heap := heap
  slotsUsed := slotsUsed
  threads := #[{ frames := .invoking theMethod args0 :: below }]
def below0 : List Frame := [.native { method := ⟨0, 0⟩, args := #[] }]
def about1 : State := aboutOver below0
def p0 : Program := .bare "" "" ""
def e0 : Env := launch0.env 0 0 0
theorem w_frames : about1.frames = Frame.invoking theMethod args0 :: below0 := rfl
set_option maxRecDepth 65536 in
theorem w_args : argsFit about1.vm theMethod args0 = true := by decide +kernel
set_option maxRecDepth 65536 in
theorem w_heap : heapFits about1 = true := by decide +kernel
set_option maxRecDepth 65536 in
theorem w_runnable : about1.curStatus? = some .runnable := by decide +kernel
set_option maxRecDepth 65536 in
theorem w_alone : about1.alone = true := by decide +kernel
set_option maxRecDepth 65536 in
theorem w_named : about1.methodNamed? x = some theMethod := by decide +kernel
set_option maxRecDepth 65536 in
theorem w_hears : about1.hears theMethod below0 = true := by decide +kernel
set_option maxRecDepth 65536 in
theorem w_ripe : about1.ripe theMethod args0 below0 = true := by decide +kernel
theorem w_running : about1.status = .running := rfl
set_option maxRecDepth 65536 in
theorem w_room : about1.hasRoom e0.platform room_1 = true :=
  launch0.hasRoom_least _ room_1 (by decide +kernel) (by decide +kernel) (by decide +kernel) (by decide +kernel) (by decide +kernel) (by decide +kernel)
theorem allAtoms_all (ts : List Jvm.Cond) (a : Array Jvm.Value) (st : Jvm.State) : (allAtoms ts).before a st = ts.all (fun c => c.before a st) := by
  induction ts with
  | nil => rfl
  | cons c t ih =>
    show (Jvm.Cond.and c (allAtoms t)).before a st = _
    rw [Jvm.Cond.before_and, ih, List.all_cons]
def words1 : List Jvm.Cond := Jvm.Cond.code x code maxLocals ret :: tables_1
/-- a 'code' word, met by the world's own term for the bytes: nothing is compared byte by byte -/
theorem code_word {y : MethodName} {bytes : ByteArray} {mx : Nat} {rt : Option FieldType} {a : Array Value} {s : State} {m : MethodId} {meth : Method} {c : Code} (h1 : s.methodNamed? y = some m) (h2 : s.vm.method? m = some meth) (h3 : meth.code = some c) (h4 : c.code = bytes)
    (h5 : (c.maxLocals == mx && c.exceptionTable.isEmpty && decide (c.maxStack ≤ mostOperands) && decide (meth.sig.returnType = rt) && !meth.locks && decide (parseMethodDescriptor y.desc = some meth.sig)) = true) : (Jvm.Cond.code y bytes mx rt).before a s = true := by
  simp only [Bool.and_eq_true, beq_iff_eq, Bool.not_eq_true', decide_eq_true_eq] at h5
  obtain ⟨⟨⟨⟨⟨g1, g2⟩, g3⟩, g4⟩, g5⟩, g6⟩ := h5
  simp [Cond.before, Cond.holds, Cond.value, h1, h2, h3, h4, g1, g2, g3, g4, g5, g6]
def isCode : Jvm.Cond → Bool
  | .code _ _ _ _ => true
  | _ => false
theorem all_split {L : List Jvm.Cond} {P : Jvm.Cond → Bool} (h1 : L.all (fun c => isCode c || P c) = true) (h2 : ∀ c ∈ L.filter isCode, P c = true) : L.all P = true := by
  refine List.all_eq_true.mpr fun c hc => ?_
  have h := List.all_eq_true.mp h1 c hc
  rcases Bool.eq_false_or_eq_true (isCode c) with hi | hi
  · exact h2 c (List.mem_filter.mpr ⟨hc, hi⟩)
  · simpa [hi] using h
set_option maxRecDepth 65536 in
theorem w_c0 : (Jvm.Cond.code x code maxLocals ret).before args0 about1 = true := code_word (m := ⟨1, 1⟩) (meth := k1m1) (c := k1c1) (by decide +kernel) rfl rfl rfl (by decide +kernel)
set_option maxRecDepth 65536 in
theorem w_c1 : (Jvm.Cond.code ({ cls := "com/example/pathline/pathline/xpath/XPathLexer$TokenKind", name := "precedesOperand", desc := "()Z" } : Jvm.MethodName) prog_200_method_4_code (1 : Nat) (Option.some Jvm.ClassFile.FieldType.boolean)).before args0 about1 = true := code_word (m := ⟨6, 0⟩) (meth := k6m0) (c := k6c0) (by decide +kernel) rfl rfl rfl (by decide +kernel)
def codes1 : List Jvm.Cond := [Jvm.Cond.code x code maxLocals ret, Jvm.Cond.code ({ cls := "com/example/pathline/pathline/xpath/XPathLexer$TokenKind", name := "precedesOperand", desc := "()Z" } : Jvm.MethodName) prog_200_method_4_code (1 : Nat) (Option.some Jvm.ClassFile.FieldType.boolean)]
set_option maxRecDepth 65536 in
theorem codes_eq : words1.filter isCode = codes1 := rfl
theorem w_codes : ∀ c ∈ words1.filter isCode, c.before args0 about1 = true := by
  rw [codes_eq]
  intro c hc
  simp only [codes1, List.mem_cons, List.not_mem_nil, or_false] at hc
  rcases hc with rfl | rfl
  · exact w_c0
  · exact w_c1
set_option maxRecDepth 65536 in
theorem w_t1 : (words1.take 24).all (fun c => isCode c || c.before args0 about1) = true := by decide +kernel
set_option maxRecDepth 65536 in
theorem w_t2 : ((words1.drop 24).take 24).all (fun c => isCode c || c.before args0 about1) = true := by decide +kernel
set_option maxRecDepth 65536 in
theorem w_t3 : (((words1.drop 24).drop 24).take 24).all (fun c => isCode c || c.before args0 about1) = true := by decide +kernel
set_option maxRecDepth 65536 in
theorem w_t4 : (((words1.drop 24).drop 24).drop 24).all (fun c => isCode c || c.before args0 about1) = true := by decide +kernel
theorem w_tables : (allAtoms (Jvm.Cond.code x code maxLocals ret :: tables_1)).before args0 about1 = true := by
  rw [allAtoms_all]
  show words1.all (fun c => c.before args0 about1) = true
  refine all_split ?_ w_codes
  rw [← List.take_append_drop 24 words1, List.all_append, w_t1, ← List.take_append_drop 24 (words1.drop 24), List.all_append, w_t2, ← List.take_append_drop 24 ((words1.drop 24).drop 24), List.all_append, w_t3, w_t4]
  rfl
set_option maxRecDepth 65536 in
theorem w_case : (Jvm.Cond.and given_1 narrow_1).before args0 about1 = true := by decide +kernel
theorem w_applies : (headSpec (Jvm.Cond.code x code maxLocals ret :: tables_1) room_1).applies x e0.platform about1 = true :=
  (Spec.applies_iff w_frames).mpr ⟨w_running, w_runnable, w_alone, w_named, w_hears, w_ripe, w_room, w_tables⟩
theorem atStart : AtStart classFile x code maxLocals ret World_1 tables_1 room_1 Calls_1 rest_1 Pre_1 launch0 p0 e0 about1 theMethod args0 below0 :=
  ⟨lists_1, trivial, launch0.admits_env _ _ _, launch0.least_env, fairChoices_fair.cas, fairChoices_fair.clock, w_frames, w_args, w_heap, w_applies, trivial, trivial, w_case⟩
end start1
theorem witness_1 : WitnessClaimed_1 := ⟨start1.p0, start1.e0, start1.about1, start1.theMethod, start1.args0, start1.below0, start1.atStart⟩
end Jvm.Pilot.@@N@@
