import JvmDerived
import JvmDerived.Pilot.@@N@@Statement
import JvmDerived.Pilot.@@N@@Code
set_option linter.unusedVariables false
set_option linter.unusedSimpArgs false
namespace Jvm.RoadKit
open Sem ClassFile Op Lib Jvm.Stand Jvm.Free Jvm.LawKit
section New
variable {p : Program} {l : Launch} {e : Env} {R : Room} {s : State} {m : MethodId} {args : Array Value} {below : List Frame} {meth : Method} {c : Code} {T : State} {locs : List Loc} {cells slots : Nat}
theorem retI (X : Stand p l e R s m args below meth c T locs cells slots) (hx : p.tables.exec = Jvm.exec) {pc : Nat} {Ls : Array Slot} {z : Int32} {rest : List Value} (hret : meth.sig.returnType = some .int) (hd : decode c.code pc = .ok (.ireturn, 1)) {fs : List Frame}
    (hl : ∀ (f : JFrame) (acts : List Action), f.method = m → f.locked = none → f.entered = [] → (doReturn e (T.setTop f) acts (some (.int z))).1 = T.setFrames fs) : Steps p.tables e below (T.setTop (mkF m pc Ls (.int z :: rest))) (T.setFrames fs) := by
  have hm' : T.vm.method? m = some meth := X.method'
  have hn : narrow .int (.int z) = .int z := rfl
  show Steps p.tables e below (T.setTop { method := m, pc := pc, locals := Ls, stack := _ :: rest, locked := none }) _
  jvm_step X.here [X.here.top, hx, hd, hm', hret, hn]
  first | (intro acts; rw [hl _ acts rfl rfl rfl]) | rw [hl _ _ rfl rfl rfl]
  exact Steps.refl _
end New
end Jvm.RoadKit
namespace Jvm.Pilot.@@N@@
open Jvm Jvm.ClassFile Sem Op Lib Jvm.Free Jvm.Stand Jvm.LawKit Jvm.RoadKit Bundle Jvm.Pilot.@@N@@.Jvm.D
section OwnCommon
variable {p : Program} {l : Launch} {e : Env} {R : Room} {s : State} {m : MethodId} {args : Array Value} {below : List Frame} {meth : Method} {c : Code} {T : State} {locs : List Loc} {cells slots : Nat} {Z : State} {a0 : Array Value} {h h' : Heap} {a b : Addr} {ty : FieldType} {n : Nat} {f f' : Nat → Int32}
theorem own_nn {i : Nat} (hi : i < 2 ^ 31) : ¬ Int32.ofNat i < 0 := by
  rw [Int32.lt_iff_toInt_lt, Int32.toInt_ofNat_of_lt (by omega), show (0 : Int32).toInt = 0 from rfl]; omega
theorem own_n32 {i : Nat} (hi : i < 2 ^ 31) : (Int32.ofNat i).toNatClampNeg = i := by
  rw [Int32.toNatClampNeg, Int32.toInt_ofNat_of_lt (by omega)]; rfl
theorem own_ti {i : Nat} (hi : i < 2 ^ 31) : (Int32.ofNat i).toInt = (i : Int) := Int32.toInt_ofNat_of_lt (by omega)
theorem own_lt {i j : Nat} (hi : i < 2 ^ 31) (hj : j < 2 ^ 31) : Int32.ofNat i < Int32.ofNat j ↔ i < j := by
  rw [Int32.lt_iff_toInt_lt, own_ti hi, own_ti hj]; omega
theorem own_one (i : Nat) : Int32.ofNat i + (1 : Int32) = Int32.ofNat (i + 1) := (Int32.ofNat_add i 1).symm
theorem own_eq {i j : Nat} (hi : i < 2 ^ 31) (hj : j < 2 ^ 31) : Int32.ofNat i = Int32.ofNat j ↔ i = j := by
  rw [← Int32.toInt_inj, own_ti hi, own_ti hj]; omega
/-- an array of ints (bytes, chars): n places, place j holds f j -/
def Iar (Z : State) (h : Heap) (a : Addr) (ty : FieldType) (n : Nat) (f : Nat → Int32) : Prop :=
  n < 2 ^ 31 ∧ ∃ c : Cell, Arr Z h a c ty ∧ c.slots.size = n ∧ (∀ j, j < n → c.slots[j]? = some (.int (f j))) ∧ ∀ j, j < n → fits ty (.int (f j)) = true
theorem Iar.lt (F : Iar Z h a ty n f) : a < h.size := by obtain ⟨-, c, A, -⟩ := F; exact A.lt
theorem Iar.ext (F : Iar Z h a ty n f) (E : Ext h h') : Iar Z h' a ty n f := by obtain ⟨q, c, A, r⟩ := F; exact ⟨q, c, A.ext E, r⟩
theorem Iar.other {sl : Nat} {v : Value} (F : Iar Z h b ty n f) (W : Wr h h' a sl v) (q : b ≠ a) : Iar Z h' b ty n f := by obtain ⟨z, c, A, r⟩ := F; exact ⟨z, c, A.other W q, r⟩
theorem Iar.keep {ws : List Addr} (F : Iar Z h a ty n f) (K : Keep h h' ws) (q : a ∉ ws) : Iar Z h' a ty n f := by obtain ⟨z, c, A, r⟩ := F; exact ⟨z, c, ⟨K.2.1 a c A.1 q, A.2⟩, r⟩
theorem Iar.congr (F : Iar Z h a ty n f) (q : ∀ j, j < n → f j = f' j) : Iar Z h a ty n f' := by
  obtain ⟨z, c, A, S, H, G⟩ := F
  exact ⟨z, c, A, S, fun j hj => by rw [← q j hj]; exact H j hj, fun j hj => by rw [← q j hj]; exact G j hj⟩
theorem Iar.new {z : Int32} {k : ClassId} (A : Arr Z h a (newA k ty z) ty) (hz : z = Int32.ofNat n) (hn : n < 2 ^ 31) (hd : defaultValue ty = .int 0) (hf : fits ty (.int 0) = true) : Iar Z h a ty n (fun _ => 0) := by
  have e1 : z.toNatClampNeg = n := by rw [hz]; exact own_n32 hn
  refine ⟨hn, _, A, by rw [sz_new]; exact e1, fun j hj => ?_, fun j hj => hf⟩
  show (Array.replicate z.toNatClampNeg (defaultValue ty))[j]? = _
  rw [e1, hd, Array.getElem?_replicate, if_pos hj]
theorem Iar.set (F : Iar Z h a ty n f) {j : Int32} {i : Nat} {v : Int32} (W : Wr h h' a j.toNatClampNeg (.int v)) (hj : j.toNatClampNeg = i) (hv : fits ty (.int v) = true) : Iar Z h' a ty n (fun k => if k = i then v else f k) := by
  obtain ⟨z, c, A, S, H, G⟩ := F
  refine ⟨z, _, A.same W, by rw [sz_set]; exact S, fun k hk => ?_, fun k hk => ?_⟩
  · show (c.slots.setIfInBounds j.toNatClampNeg (.int v))[k]? = some (.int (if k = i then v else f k))
    rw [hj, Array.getElem?_setIfInBounds]
    by_cases q : k = i
    · subst q; rw [if_pos rfl, if_pos (by omega), if_pos rfl]
    · rw [if_neg (fun y => q y.symm), if_neg q]; exact H k hk
  · by_cases q : k = i
    · simp only [q, if_true]; exact hv
    · simp only [q, if_false]; exact G k hk
theorem Iar.inb {j : Int32} {i : Nat} {cl : Cell} (S : cl.slots.size = n) (hj : j.toNatClampNeg = i) (h0 : ¬ j < 0) (hi : i < n) : ¬ (j < 0 ∨ cl.slots.size ≤ j.toNatClampNeg) := by
  rw [S, hj]; exact fun q => q.elim h0 (fun q => by omega)
theorem own_ldB {g : JFrame} {rest : List Value} {j : Int32} {i : Nat} (X : Stand p l e R s m args below meth c T locs cells slots) (hx : p.tables.exec = Jvm.exec) (hZ : Z.Warmed39 s.vm) (eT : T.heap = h) (F : Iar Z h a .byte n f) (hj : j.toNatClampNeg = i) (h0 : ¬ j < 0) (hi : i < n)
    (hg : g.method = m) (hs : g.stack = .int j :: .ref a :: rest) (hd : decode c.code g.pc = .ok (.baload, 1)) (target : State) (k : Steps p.tables e below (T.setTop { g with pc := g.pc + 1, stack := .int (f i) :: rest }) target) : Steps p.tables e below (T.setTop g) target := by
  obtain ⟨z, cl, A, S, H, G⟩ := F
  exact X.baloadBytes hx (by rw [eT]; exact A.1) (State.isArrayOf_alike hZ.alike A.2.1) A.2.2 (Iar.inb S hj h0 hi) (by rw [hj]; exact H i hi) hg hs hd _ k
theorem own_ldC {g : JFrame} {rest : List Value} {j : Int32} {i : Nat} (X : Stand p l e R s m args below meth c T locs cells slots) (hx : p.tables.exec = Jvm.exec) (hZ : Z.Warmed39 s.vm) (eT : T.heap = h) (F : Iar Z h a .char n f) (hj : j.toNatClampNeg = i) (h0 : ¬ j < 0) (hi : i < n)
    (hg : g.method = m) (hs : g.stack = .int j :: .ref a :: rest) (hd : decode c.code g.pc = .ok (.caload, 1)) (target : State) (k : Steps p.tables e below (T.setTop { g with pc := g.pc + 1, stack := .int (f i) :: rest }) target) : Steps p.tables e below (T.setTop g) target := by
  obtain ⟨z, cl, A, S, H, G⟩ := F
  exact X.caload hx (by rw [eT]; exact A.1) (State.isArrayOf_alike hZ.alike A.2.1) A.2.2 (Iar.inb S hj h0 hi) (by rw [hj]; exact H i hi) hg hs hd _ k
theorem own_ldI {g : JFrame} {rest : List Value} {j : Int32} {i : Nat} (X : Stand p l e R s m args below meth c T locs cells slots) (hx : p.tables.exec = Jvm.exec) (hZ : Z.Warmed39 s.vm) (eT : T.heap = h) (F : Iar Z h a .int n f) (hj : j.toNatClampNeg = i) (h0 : ¬ j < 0) (hi : i < n)
    (hg : g.method = m) (hs : g.stack = .int j :: .ref a :: rest) (hd : decode c.code g.pc = .ok (.iaload, 1)) (target : State) (k : Steps p.tables e below (T.setTop { g with pc := g.pc + 1, stack := .int (f i) :: rest }) target) : Steps p.tables e below (T.setTop g) target := by
  obtain ⟨z, cl, A, S, H, G⟩ := F
  exact X.iaload hx (by rw [eT]; exact A.1) (State.isArrayOf_alike hZ.alike A.2.1) A.2.2 (Iar.inb S hj h0 hi) (by rw [hj]; exact H i hi) hg hs hd _ k
theorem own_len {g : JFrame} {rest : List Value} (X : Stand p l e R s m args below meth c T locs cells slots) (hx : p.tables.exec = Jvm.exec) (hZ : Z.Warmed39 s.vm) (eT : T.heap = h) (F : Iar Z h a ty n f)
    (hg : g.method = m) (hs : g.stack = .ref a :: rest) (hd : decode c.code g.pc = .ok (.arraylength, 1)) (target : State) (k : Steps p.tables e below (T.setTop { g with pc := g.pc + 1, stack := .int (Int32.ofNat n) :: rest }) target) : Steps p.tables e below (T.setTop g) target := by
  obtain ⟨z, cl, A, S, H, G⟩ := F
  refine X.arraylength hx (by rw [eT]; exact A.1) (State.isArrayOf_alike hZ.alike A.2.1) hg hs hd _ ?_
  rw [S]; exact k
theorem own_stB {g : JFrame} {rest : List Value} {j x : Int32} {i : Nat} (X : Stand p l e R s m args below meth c T locs cells slots) (hx : p.tables.exec = Jvm.exec) (hZ : Z.Warmed39 s.vm) (eT : T.heap = h) (F : Iar Z h a .byte n f) (hj : j.toNatClampNeg = i) (h0 : ¬ j < 0) (hi : i < n)
    (hg : g.method = m) (hs : g.stack = .int x :: .int j :: .ref a :: rest) (hd : decode c.code g.pc = .ok (.bastore, 1)) :
    ∃ T' h', Stand p l e R s m args below meth c T' (locs ++ [⟨a, j.toNatClampNeg⟩]) cells slots ∧ T'.heap = h' ∧ Wr h h' a j.toNatClampNeg (.int (nar .byte x)) ∧ Iar Z h' a .byte n (fun k => if k = i then nar .byte x else f k) ∧
      ∀ target, Steps p.tables e below (T'.setTop { g with pc := g.pc + 1, stack := rest }) target → Steps p.tables e below (T.setTop g) target := by
  have F' := F
  obtain ⟨z, cl, A, S, H, G⟩ := F
  obtain ⟨T1, h1, X1, e1, W1, st1⟩ := stB X hx hZ eT A (Iar.inb S hj h0 hi) hg hs hd
  exact ⟨T1, h1, X1, e1, W1, F'.set W1 hj (fits_nar_byte x), st1⟩
theorem own_stC {g : JFrame} {rest : List Value} {j x : Int32} {i : Nat} (X : Stand p l e R s m args below meth c T locs cells slots) (hx : p.tables.exec = Jvm.exec) (hZ : Z.Warmed39 s.vm) (eT : T.heap = h) (F : Iar Z h a .char n f) (hj : j.toNatClampNeg = i) (h0 : ¬ j < 0) (hi : i < n)
    (hg : g.method = m) (hs : g.stack = .int x :: .int j :: .ref a :: rest) (hd : decode c.code g.pc = .ok (.castore, 1)) :
    ∃ T' h', Stand p l e R s m args below meth c T' (locs ++ [⟨a, j.toNatClampNeg⟩]) cells slots ∧ T'.heap = h' ∧ Wr h h' a j.toNatClampNeg (.int (nar .char x)) ∧ Iar Z h' a .char n (fun k => if k = i then nar .char x else f k) ∧
      ∀ target, Steps p.tables e below (T'.setTop { g with pc := g.pc + 1, stack := rest }) target → Steps p.tables e below (T.setTop g) target := by
  have F' := F
  obtain ⟨z, cl, A, S, H, G⟩ := F
  obtain ⟨T1, h1, X1, e1, W1, st1⟩ := stC X hx hZ eT A (Iar.inb S hj h0 hi) hg hs hd
  exact ⟨T1, h1, X1, e1, W1, F'.set W1 hj (fits_nar_char x), st1⟩
theorem own_stI {g : JFrame} {rest : List Value} {j x : Int32} {i : Nat} (X : Stand p l e R s m args below meth c T locs cells slots) (hx : p.tables.exec = Jvm.exec) (hZ : Z.Warmed39 s.vm) (eT : T.heap = h) (F : Iar Z h a .int n f) (hj : j.toNatClampNeg = i) (h0 : ¬ j < 0) (hi : i < n)
    (hg : g.method = m) (hs : g.stack = .int x :: .int j :: .ref a :: rest) (hd : decode c.code g.pc = .ok (.iastore, 1)) :
    ∃ T' h', Stand p l e R s m args below meth c T' (locs ++ [⟨a, j.toNatClampNeg⟩]) cells slots ∧ T'.heap = h' ∧ Wr h h' a j.toNatClampNeg (.int x) ∧ Iar Z h' a .int n (fun k => if k = i then x else f k) ∧
      ∀ target, Steps p.tables e below (T'.setTop { g with pc := g.pc + 1, stack := rest }) target → Steps p.tables e below (T.setTop g) target := by
  have F' := F
  obtain ⟨z, cl, A, S, H, G⟩ := F
  obtain ⟨T1, h1, X1, e1, W1, st1⟩ := stI X hx hZ eT A (Iar.inb S hj h0 hi) hg hs hd
  exact ⟨T1, h1, X1, e1, W1, F'.set W1 hj rfl, st1⟩
/-- a callee that only reads: what it returns; it writes nothing; the heap is as it was -/
def QR (F : Value) (h0 : Heap) (v : Option Value) (h : Heap) (L : List Loc) : Prop := v = some F ∧ L = [] ∧ h = h0
/-- ONE STATIC CALL OF A METHOD THAT ONLY READS: the walk stands where it stood, with the answer on the stack -/
theorem own_callR {own : String} {index : Nat} {y : MethodName} {bytes : ByteArray} {maxL : Nat} {ret : Option FieldType} {rm : Room} {W : Nat} {as' : List Value} {F : Value} {g : JFrame} {rest : List Value}
    (X : Stand p l e R s m args below meth c T locs cells slots) (hx : p.tables.exec = Jvm.exec) (hZ : Z.Warmed39 s.vm) (hown : s.vm.findClass own = some m.cls)
    (w1 : (Cond.methodLink own index y).before a0 Z = true) (w2 : (Cond.static y).before a0 Z = true) (w3 : (Cond.initialized y.cls).before a0 Z = true) (w4 : (Cond.code y bytes maxL ret).before a0 Z = true) (hy : y.cls ≠ "java/lang/invoke/MethodHandle" ∧ y.cls ≠ "java/lang/invoke/VarHandle")
    (hM : MetFree l y (head1 [Cond.code y bytes maxL ret] rm) (fun a U => a = as'.toArray ∧ Z.Warmed39 U.vm ∧ U.heap = h) (fun _ _ _ _ _ => True) (fun _ U o U' => ∃ v L, o = .returned v ∧ QR F h v U'.heap L ∧ FrameEnd U o U' L rm.cells rm.slots))
    (hrc : rm.cells = 0) (hrs : rm.slots = 0) (hf : rm.frames + 1 ≤ R.frames) (hl : W + (maxL + 11) + rm.locals ≤ R.locals) (hcc : cells ≤ R.cells) (hss : slots ≤ R.slots) (eT : T.heap = h)
    (hg : g.method = m) (hsize : g.locals.size = c.maxLocals) (hlen : ∀ sig, parseMethodDescriptor y.desc = some sig → as'.length = sig.parameters.length) (hstack : g.stack = as'.reverse ++ rest)
    (hW : 2 * g.monitorRoom + (rest.map fun v => v.category).sum ≤ W) (hdg : decode c.code g.pc = .ok (.invokestatic index, 3)) :
    ∃ T', Stand p l e R s m args below meth c T' locs cells slots ∧ T'.heap = h ∧
      ∀ target, Steps p.tables e below (T'.setTop { g with pc := g.pc + 3, stack := F :: rest }) target → Steps p.tables e below (T.setTop g) target := by
  obtain ⟨v, _, ⟨T4, L4, k4, n4⟩, -, X4, ⟨Lc4, hQ4, l4, y4, z4⟩, st4⟩ := Jvm.LawKit.callS X hx (y := y) hown (mvT hZ w1) (mvT hZ w2) (mvT hZ w3) (mvT hZ w4) hy (backOf (W := W) hM hZ w4 w3 hf hl) (g := g) hg hsize (argsL := as') (rest := rest) hlen hstack hW hdg
    (fun _ _ => ⟨rfl, eT, by rw [hrc]; exact hcc, by rw [hrs]; exact hss⟩)
  dsimp only [Pt.U, Pt.locs, Pt.cells, Pt.slots] at X4 l4 y4 z4 st4 hQ4
  obtain ⟨rfl, rfl, e4⟩ := hQ4
  rw [hrc, Nat.add_zero] at y4
  rw [hrs, Nat.add_zero] at z4
  rw [List.append_nil] at l4
  subst l4 y4 z4
  exact ⟨T4, X4, e4, st4⟩
end OwnCommon
theorem d1_0 : decode prog_190_method_11_code 0 = .ok (.iload_n 0, 1) := by decide +kernel
theorem d1_1 : decode prog_190_method_11_code 1 = .ok (.bipush 32, 2) := by decide +kernel
theorem d1_3 : decode prog_190_method_11_code 3 = .ok (.if_icmp .eq 21, 3) := by decide +kernel
theorem d1_6 : decode prog_190_method_11_code 6 = .ok (.iload_n 0, 1) := by decide +kernel
theorem d1_7 : decode prog_190_method_11_code 7 = .ok (.bipush 9, 2) := by decide +kernel
theorem d1_9 : decode prog_190_method_11_code 9 = .ok (.if_icmp .eq 15, 3) := by decide +kernel
theorem d1_12 : decode prog_190_method_11_code 12 = .ok (.iload_n 0, 1) := by decide +kernel
theorem d1_13 : decode prog_190_method_11_code 13 = .ok (.bipush 10, 2) := by decide +kernel
theorem d1_15 : decode prog_190_method_11_code 15 = .ok (.if_icmp .eq 9, 3) := by decide +kernel
theorem d1_18 : decode prog_190_method_11_code 18 = .ok (.iload_n 0, 1) := by decide +kernel
theorem d1_19 : decode prog_190_method_11_code 19 = .ok (.bipush 13, 2) := by decide +kernel
theorem d1_21 : decode prog_190_method_11_code 21 = .ok (.if_icmp .ne 7, 3) := by decide +kernel
theorem d1_24 : decode prog_190_method_11_code 24 = .ok (.iconst 1, 1) := by decide +kernel
theorem d1_25 : decode prog_190_method_11_code 25 = .ok (.goto 4, 3) := by decide +kernel
theorem d1_28 : decode prog_190_method_11_code 28 = .ok (.iconst 0, 1) := by decide +kernel
theorem d1_29 : decode prog_190_method_11_code 29 = .ok (.ireturn, 1) := by decide +kernel
theorem pd_1 : parseMethodDescriptor "(I)Z" = some ⟨[.int], some .boolean⟩ := by decide +kernel
theorem pn_1 : plainName "com/example/pathline/pathline/xpath/Values" = true := by first | (simp [plainName, overriddenIn]; done) | decide +kernel
theorem pn_0 : plainName "com/example/pathline/pathline/xpath/ValuesIsSpacePinLaw" = true := by first | (simp [plainName, overriddenIn]; done) | decide +kernel
def own_sp (x : Int32) : Int32 := if x = 32 then 1 else if x = 9 then 1 else if x = 10 then 1 else if x = 13 then 1 else 0
theorem ef_1 (m : MethodId) (x : Int32) : entryFrame m #[(.int x)] 1 = mkF m 0 #[.val (.int x)] [] := by first | (simp [entryFrame, mkF, argsToLocals, Value.category]; done) | rfl
set_option maxRecDepth 65536 in
set_option maxHeartbeats 40000000 in
theorem rm_sp (l : Launch) (Z : State) (a0 : Array Value) (hw : ∀ d ∈ tables_1, d.before a0 Z = true) (ws : List Jvm.Cond) (x : Int32) (h0 : Heap) :
    MetFree l (⟨"com/example/pathline/pathline/xpath/Values", "isSpace", "(I)Z"⟩ : MethodName) (head1 (Jvm.Cond.code (⟨"com/example/pathline/pathline/xpath/Values", "isSpace", "(I)Z"⟩ : MethodName) prog_190_method_11_code 1 (some .boolean) :: ws) ({ frames := 0, cells := 0, slots := 0, locals := 0 } : Room)) (fun a U => a = #[(.int x)] ∧ Z.Warmed39 U.vm ∧ U.heap = h0) (fun _ _ _ _ _ => True) (fun _ U o U' => ∃ v L, o = .returned v ∧ QR (.int (own_sp x)) h0 v U'.heap L ∧ FrameEnd U o U' L ({ frames := 0, cells := 0, slots := 0, locals := 0 } : Room).cells ({ frames := 0, cells := 0, slots := 0, locals := 0 } : Room).slots) := by
  refine MetFree.of_bodySF (plainFor_of_name pn_1) hisR ?_
  intro p e s m args below meth c s₁ Bd hml0 hP hK
  obtain ⟨rfl, hZ, hh⟩ := hP
  have hx := Bd.exec
  have hby := Bd.bytes
  have hml : c.maxLocals = 1 := hml0
  have hown : s.vm.findClass "com/example/pathline/pathline/xpath/Values" = some m.cls := findClass_of_methodNamed Bd.named
  have hnm := (name_of_methodNamed Bd.named Bd.method).1
  have X0 : Stand p l e ({ frames := 0, cells := 0, slots := 0, locals := 0 } : Room) s m #[(.int x)] below meth c s₁ [] 0 0 := Stand.of_body Bd
  have e0 : s₁.heap = h0 := by rw [← hh, Bd.state]; rfl
  have pre0 : ∀ t, Steps p.tables e below (s₁.setTop (mkF m 0 #[.val (.int x)] [])) t → Steps p.tables e below (s₁.setTop (entryFrame m #[(.int x)] 1)) t := fun t k => castTop (ef_1 m x) k
  obtain ⟨fs, hr, hrun, hended, hW, hsame⟩ := X0.leave (v := some (.int (own_sp x))) (fun h => by rw [Bd.returns] at h; cases h)
  refine ⟨_, _, pre0 _ ?_, hrun, hended, _, _, rfl, ?_, ⟨_, rfl⟩, hW, hsame.mono (by decide) (by decide)⟩
  · show Steps p.tables e below (s₁.setTop (mkF m 0 #[.val (.int x)] [])) _
    refine XS.iloadN X0.here hx rfl (hb hby d1_0) rfl ?_
    show Steps p.tables e below (s₁.setTop (mkF m 1 #[.val (.int x)] [(.int x)])) _
    refine XS.bipush X0.here hx rfl (hb hby d1_1) ?_
    by_cases hc3 : x = (32 : Int32)
    · show Steps p.tables e below (s₁.setTop (mkF m 3 #[.val (.int x)] [(.int (32 : Int32)), (.int x)])) _
      refine XS.icmpYes X0.here hx rfl (pc0 := 3) (pc' := 24) rfl (hb hby d1_3) rfl (teq hc3).1 (by decide) (by decide) ?_
      show Steps p.tables e below (s₁.setTop (mkF m 24 #[.val (.int x)] [])) _
      refine XS.iconst X0.here hx rfl (hb hby d1_24) ?_
      show Steps p.tables e below (s₁.setTop (mkF m 25 #[.val (.int x)] [(.int (1 : Int32))])) _
      refine XS.goto X0.here hx rfl (pc0 := 25) (pc' := 29) rfl (hb hby d1_25) (by decide) (by decide) ?_
      show Steps p.tables e below (s₁.setTop (mkF m 29 #[.val (.int x)] [(.int (1 : Int32))])) _
      have hF : own_sp x = (1 : Int32) := by rw [own_sp, if_pos hc3]
      rw [hF] at hr
      exact retN X0 hx (t := .boolean) Bd.returns (by simp) (hb hby d1_29) hr
    · show Steps p.tables e below (s₁.setTop (mkF m 3 #[.val (.int x)] [(.int (32 : Int32)), (.int x)])) _
      refine XS.icmpNo X0.here hx rfl (hb hby d1_3) rfl (feq hc3).1 ?_
      show Steps p.tables e below (s₁.setTop (mkF m 6 #[.val (.int x)] [])) _
      refine XS.iloadN X0.here hx rfl (hb hby d1_6) rfl ?_
      show Steps p.tables e below (s₁.setTop (mkF m 7 #[.val (.int x)] [(.int x)])) _
      refine XS.bipush X0.here hx rfl (hb hby d1_7) ?_
      by_cases hc9 : x = (9 : Int32)
      · show Steps p.tables e below (s₁.setTop (mkF m 9 #[.val (.int x)] [(.int (9 : Int32)), (.int x)])) _
        refine XS.icmpYes X0.here hx rfl (pc0 := 9) (pc' := 24) rfl (hb hby d1_9) rfl (teq hc9).1 (by decide) (by decide) ?_
        show Steps p.tables e below (s₁.setTop (mkF m 24 #[.val (.int x)] [])) _
        refine XS.iconst X0.here hx rfl (hb hby d1_24) ?_
        show Steps p.tables e below (s₁.setTop (mkF m 25 #[.val (.int x)] [(.int (1 : Int32))])) _
        refine XS.goto X0.here hx rfl (pc0 := 25) (pc' := 29) rfl (hb hby d1_25) (by decide) (by decide) ?_
        show Steps p.tables e below (s₁.setTop (mkF m 29 #[.val (.int x)] [(.int (1 : Int32))])) _
        have hF : own_sp x = (1 : Int32) := by rw [own_sp, if_neg hc3, if_pos hc9]
        rw [hF] at hr
        exact retN X0 hx (t := .boolean) Bd.returns (by simp) (hb hby d1_29) hr
      · show Steps p.tables e below (s₁.setTop (mkF m 9 #[.val (.int x)] [(.int (9 : Int32)), (.int x)])) _
        refine XS.icmpNo X0.here hx rfl (hb hby d1_9) rfl (feq hc9).1 ?_
        show Steps p.tables e below (s₁.setTop (mkF m 12 #[.val (.int x)] [])) _
        refine XS.iloadN X0.here hx rfl (hb hby d1_12) rfl ?_
        show Steps p.tables e below (s₁.setTop (mkF m 13 #[.val (.int x)] [(.int x)])) _
        refine XS.bipush X0.here hx rfl (hb hby d1_13) ?_
        by_cases hc15 : x = (10 : Int32)
        · show Steps p.tables e below (s₁.setTop (mkF m 15 #[.val (.int x)] [(.int (10 : Int32)), (.int x)])) _
          refine XS.icmpYes X0.here hx rfl (pc0 := 15) (pc' := 24) rfl (hb hby d1_15) rfl (teq hc15).1 (by decide) (by decide) ?_
          show Steps p.tables e below (s₁.setTop (mkF m 24 #[.val (.int x)] [])) _
          refine XS.iconst X0.here hx rfl (hb hby d1_24) ?_
          show Steps p.tables e below (s₁.setTop (mkF m 25 #[.val (.int x)] [(.int (1 : Int32))])) _
          refine XS.goto X0.here hx rfl (pc0 := 25) (pc' := 29) rfl (hb hby d1_25) (by decide) (by decide) ?_
          show Steps p.tables e below (s₁.setTop (mkF m 29 #[.val (.int x)] [(.int (1 : Int32))])) _
          have hF : own_sp x = (1 : Int32) := by rw [own_sp, if_neg hc3, if_neg hc9, if_pos hc15]
          rw [hF] at hr
          exact retN X0 hx (t := .boolean) Bd.returns (by simp) (hb hby d1_29) hr
        · show Steps p.tables e below (s₁.setTop (mkF m 15 #[.val (.int x)] [(.int (10 : Int32)), (.int x)])) _
          refine XS.icmpNo X0.here hx rfl (hb hby d1_15) rfl (feq hc15).1 ?_
          show Steps p.tables e below (s₁.setTop (mkF m 18 #[.val (.int x)] [])) _
          refine XS.iloadN X0.here hx rfl (hb hby d1_18) rfl ?_
          show Steps p.tables e below (s₁.setTop (mkF m 19 #[.val (.int x)] [(.int x)])) _
          refine XS.bipush X0.here hx rfl (hb hby d1_19) ?_
          by_cases hc21 : x = (13 : Int32)
          · show Steps p.tables e below (s₁.setTop (mkF m 21 #[.val (.int x)] [(.int (13 : Int32)), (.int x)])) _
            refine XS.icmpNo X0.here hx rfl (hb hby d1_21) rfl (teq hc21).2 ?_
            show Steps p.tables e below (s₁.setTop (mkF m 24 #[.val (.int x)] [])) _
            refine XS.iconst X0.here hx rfl (hb hby d1_24) ?_
            show Steps p.tables e below (s₁.setTop (mkF m 25 #[.val (.int x)] [(.int (1 : Int32))])) _
            refine XS.goto X0.here hx rfl (pc0 := 25) (pc' := 29) rfl (hb hby d1_25) (by decide) (by decide) ?_
            show Steps p.tables e below (s₁.setTop (mkF m 29 #[.val (.int x)] [(.int (1 : Int32))])) _
            have hF : own_sp x = (1 : Int32) := by rw [own_sp, if_neg hc3, if_neg hc9, if_neg hc15, if_pos hc21]
            rw [hF] at hr
            exact retN X0 hx (t := .boolean) Bd.returns (by simp) (hb hby d1_29) hr
          · show Steps p.tables e below (s₁.setTop (mkF m 21 #[.val (.int x)] [(.int (13 : Int32)), (.int x)])) _
            refine XS.icmpYes X0.here hx rfl (pc0 := 21) (pc' := 28) rfl (hb hby d1_21) rfl (feq hc21).2 (by decide) (by decide) ?_
            show Steps p.tables e below (s₁.setTop (mkF m 28 #[.val (.int x)] [])) _
            refine XS.iconst X0.here hx rfl (hb hby d1_28) ?_
            show Steps p.tables e below (s₁.setTop (mkF m 29 #[.val (.int x)] [(.int (0 : Int32))])) _
            have hF : own_sp x = (0 : Int32) := by rw [own_sp, if_neg hc3, if_neg hc9, if_neg hc15, if_neg hc21]
            rw [hF] at hr
            exact retN X0 hx (t := .boolean) Bd.returns (by simp) (hb hby d1_29) hr
  · exact ⟨rfl, rfl, e0⟩
set_option maxRecDepth 65536 in
set_option maxHeartbeats 40000000 in
theorem sel {p : Program} {l : Launch} {e : Env} {R : Room} {s : State} {m : MethodId} {args : Array Value} {below : List Frame} {meth : Method} {c : Code} {T0 : State} {locs : List Loc} {cells slots : Nat} {Z : State} {a0 : Array Value} {h0 : Heap} (ch pick : Int32) (X0 : Stand p l e R s m args below meth c T0 locs cells slots) (hx : p.tables.exec = Jvm.exec) (hZ : Z.Warmed39 s.vm) (hw : ∀ d ∈ tables_1, d.before a0 Z = true) (hby : c.code = code) (hml : c.maxLocals = 6) (hown : s.vm.findClass "com/example/pathline/pathline/xpath/ValuesIsSpacePinLaw" = some m.cls) (e0 : T0.heap = h0) : ∃ x : Int32, ∀ target, Steps p.tables e below (T0.setTop (mkF m 15 #[.val (.int ch), .val (.int pick), .val (.int x), .unset, .unset, .unset] [])) target → Steps p.tables e below (T0.setTop (mkF m 0 #[.val (.int ch), .val (.int pick), .unset, .unset, .unset, .unset] [])) target := by
  by_cases hc3 : (pick &&& (1 : Int32)) = (0 : Int32)
  · refine ⟨ch, fun target kt => ?_⟩
    show Steps p.tables e below (T0.setTop (mkF m 0 #[.val (.int ch), .val (.int pick), .unset, .unset, .unset, .unset] [])) _
    refine XS.iloadN X0.here hx rfl (hb hby at_0) rfl ?_
    show Steps p.tables e below (T0.setTop (mkF m 1 #[.val (.int ch), .val (.int pick), .unset, .unset, .unset, .unset] [(.int pick)])) _
    refine XS.iconst X0.here hx rfl (hb hby at_1) ?_
    show Steps p.tables e below (T0.setTop (mkF m 2 #[.val (.int ch), .val (.int pick), .unset, .unset, .unset, .unset] [(.int (1 : Int32)), (.int pick)])) _
    refine XS.iand X0.here hx rfl (hb hby at_2) rfl ?_
    show Steps p.tables e below (T0.setTop (mkF m 3 #[.val (.int ch), .val (.int pick), .unset, .unset, .unset, .unset] [(.int (pick &&& (1 : Int32)))])) _
    refine XS.ifNo X0.here hx rfl (hb hby at_3) rfl ((if0 _ _).trans (teq hc3).2) ?_
    show Steps p.tables e below (T0.setTop (mkF m 6 #[.val (.int ch), .val (.int pick), .unset, .unset, .unset, .unset] [])) _
    refine XS.iloadN X0.here hx rfl (hb hby at_6) rfl ?_
    show Steps p.tables e below (T0.setTop (mkF m 7 #[.val (.int ch), .val (.int pick), .unset, .unset, .unset, .unset] [(.int ch)])) _
    refine XS.goto X0.here hx rfl (pc0 := 7) (pc' := 14) rfl (hb hby at_7) (by decide) (by decide) ?_
    show Steps p.tables e below (T0.setTop (mkF m 14 #[.val (.int ch), .val (.int pick), .unset, .unset, .unset, .unset] [(.int ch)])) _
    refine XS.istoreN X0.here hx rfl (hb hby at_14) rfl (l' := #[.val (.int ch), .val (.int pick), .val (.int ch), .unset, .unset, .unset]) rfl ?_
    exact kt
  · refine ⟨(ch &&& (63 : Int32)), fun target kt => ?_⟩
    show Steps p.tables e below (T0.setTop (mkF m 0 #[.val (.int ch), .val (.int pick), .unset, .unset, .unset, .unset] [])) _
    refine XS.iloadN X0.here hx rfl (hb hby at_0) rfl ?_
    show Steps p.tables e below (T0.setTop (mkF m 1 #[.val (.int ch), .val (.int pick), .unset, .unset, .unset, .unset] [(.int pick)])) _
    refine XS.iconst X0.here hx rfl (hb hby at_1) ?_
    show Steps p.tables e below (T0.setTop (mkF m 2 #[.val (.int ch), .val (.int pick), .unset, .unset, .unset, .unset] [(.int (1 : Int32)), (.int pick)])) _
    refine XS.iand X0.here hx rfl (hb hby at_2) rfl ?_
    show Steps p.tables e below (T0.setTop (mkF m 3 #[.val (.int ch), .val (.int pick), .unset, .unset, .unset, .unset] [(.int (pick &&& (1 : Int32)))])) _
    refine XS.ifYes X0.here hx rfl (pc0 := 3) (pc' := 10) rfl (hb hby at_3) rfl ((if0 _ _).trans (feq hc3).2) (by decide) (by decide) ?_
    show Steps p.tables e below (T0.setTop (mkF m 10 #[.val (.int ch), .val (.int pick), .unset, .unset, .unset, .unset] [])) _
    refine XS.iloadN X0.here hx rfl (hb hby at_10) rfl ?_
    show Steps p.tables e below (T0.setTop (mkF m 11 #[.val (.int ch), .val (.int pick), .unset, .unset, .unset, .unset] [(.int ch)])) _
    refine XS.bipush X0.here hx rfl (hb hby at_11) ?_
    show Steps p.tables e below (T0.setTop (mkF m 13 #[.val (.int ch), .val (.int pick), .unset, .unset, .unset, .unset] [(.int (63 : Int32)), (.int ch)])) _
    refine XS.iand X0.here hx rfl (hb hby at_13) rfl ?_
    show Steps p.tables e below (T0.setTop (mkF m 14 #[.val (.int ch), .val (.int pick), .unset, .unset, .unset, .unset] [(.int (ch &&& (63 : Int32)))])) _
    refine XS.istoreN X0.here hx rfl (hb hby at_14) rfl (l' := #[.val (.int ch), .val (.int pick), .val (.int (ch &&& (63 : Int32))), .unset, .unset, .unset]) rfl ?_
    exact kt
theorem own_64 : ∀ n : Fin 64, if (lcmpW ((((4294977024 : Int64).toUInt64 >>> (Int32.ofNat n.1 &&& 0x3f).toInt64.toUInt64).toInt64) &&& (1 : Int64)) (0 : Int64)) = (0 : Int32) then own_sp (Int32.ofNat n.1) = 0 else own_sp (Int32.ofNat n.1) = 1 := by decide +kernel
theorem own_in {x : Int32} (h0 : ¬ x < 0) (h1 : x < 64) : if (lcmpW ((((4294977024 : Int64).toUInt64 >>> (x &&& 0x3f).toInt64.toUInt64).toInt64) &&& (1 : Int64)) (0 : Int64)) = (0 : Int32) then own_sp x = 0 else own_sp x = 1 := by
  have q1 := nat_of h0
  rw [Int32.lt_iff_toInt_lt, show (64 : Int32).toInt = 64 from rfl] at h1
  have e : Int32.ofNat x.toNatClampNeg = x := by rw [← Int32.toInt_inj, own_ti (by omega)]; omega
  have r := own_64 ⟨x.toNatClampNeg, by omega⟩
  rw [e] at r
  exact r
theorem own_out {x : Int32} (h : x < 0 ∨ ¬ x < 64) : own_sp x = 0 := by
  have k : ∀ y : Int32, (¬ y < 0 ∧ y < 64) → x ≠ y := fun y hy e => by subst e; exact h.elim hy.1 (fun q => q hy.2)
  unfold own_sp
  rw [if_neg (k 32 (by decide)), if_neg (k 9 (by decide)), if_neg (k 10 (by decide)), if_neg (k 13 (by decide))]
theorem ef_0 (m : MethodId) (ch : Int32) (pick : Int32) : entryFrame m #[(.int ch), (.int pick)] maxLocals = mkF m 0 #[.val (.int ch), .val (.int pick), .unset, .unset, .unset, .unset] [] := by first | (simp [entryFrame, mkF, argsToLocals, Value.category, maxLocals]; done) | rfl
set_option maxRecDepth 65536 in
set_option maxHeartbeats 40000000 in
theorem rm0 (l : Launch) (Z : State) (a0 : Array Value) (hw : ∀ d ∈ tables_1, d.before a0 Z = true) (ws : List Jvm.Cond) (ch pick : Int32) (h0 : Heap) (n0 : Nat) (Z0 : n0 ≤ h0.size) :
    MetFree l x (head1 (Jvm.Cond.code x code maxLocals ret :: ws) room_1) (fun a U => a = #[(.int ch), (.int pick)] ∧ Z.Warmed39 U.vm ∧ U.heap = h0) (fun _ _ _ _ _ => True) (fun _ U o U' => ∃ v L, o = .returned v ∧ (v = some (.int (1 : Int32)) ∧ Fr n0 L) ∧ FrameEnd U o U' L room_1.cells room_1.slots) := by
  refine MetFree.of_bodySF (plainFor_of_name pn_0) hisR ?_
  intro p e s m args below meth c s₁ Bd hml0 hP hK
  obtain ⟨rfl, hZ, hh⟩ := hP
  have hx := Bd.exec
  have hby := Bd.bytes
  have hml : c.maxLocals = 6 := hml0
  have hown : s.vm.findClass "com/example/pathline/pathline/xpath/ValuesIsSpacePinLaw" = some m.cls := findClass_of_methodNamed Bd.named
  have hnm := (name_of_methodNamed Bd.named Bd.method).1
  have X0 : Stand p l e room_1 s m #[(.int ch), (.int pick)] below meth c s₁ [] 0 0 := Stand.of_body Bd
  have e0 : s₁.heap = h0 := by rw [← hh, Bd.state]; rfl
  have pre0 : ∀ t, Steps p.tables e below (s₁.setTop (mkF m 0 #[.val (.int ch), .val (.int pick), .unset, .unset, .unset, .unset] [])) t → Steps p.tables e below (s₁.setTop (entryFrame m #[(.int ch), (.int pick)] maxLocals)) t := fun t k => castTop (ef_0 m ch pick) k
  obtain ⟨x, stX⟩ := sel ch pick X0 hx hZ hw hby hml hown e0
  by_cases hc20 : x < (0 : Int32)
  · obtain ⟨T1, X1, e1, st1⟩ := own_callR X0 hx hZ hown (hw _ (List.mem_of_getElem? (i := 1) rfl)) (hw _ (List.mem_of_getElem? (i := 2) rfl)) (hw _ (List.mem_of_getElem? (i := 3) rfl)) (hw _ (List.mem_of_getElem? (i := 4) rfl)) (by decide) (W := 0) (as' := [(.int x)]) (F := (.int (own_sp x))) (rm_sp l Z a0 hw [] x h0) rfl rfl (by decide) (by decide) (by decide) (by decide) e0 (g := (mkF m 47 #[.val (.int ch), .val (.int pick), .val (.int x), .val (.long (4294977024 : Int64)), .second, .val (.int (0 : Int32))] [(.int x)])) rfl (by rw [hml]; rfl) (lenOf pd_1 rfl) (rest := []) rfl (Nat.le_of_eq rfl) (hb hby at_47)
    obtain ⟨fs, hr, hrun, hended, hW, hsame⟩ := X1.leave (v := some (.int (1 : Int32))) (fun h => by rw [Bd.returns] at h; cases h)
    refine ⟨_, _, pre0 _ ?_, hrun, hended, _, _, rfl, ?_, ⟨_, rfl⟩, hW, hsame.mono (by decide) (by decide)⟩
    · refine stX _ ?_
      show Steps p.tables e below (s₁.setTop (mkF m 15 #[.val (.int ch), .val (.int pick), .val (.int x), .unset, .unset, .unset] [])) _
      refine X0.ldc2Long hx hown (mvT hZ (hw _ (List.mem_of_getElem? (i := 0) rfl))) (g := (mkF m 15 #[.val (.int ch), .val (.int pick), .val (.int x), .unset, .unset, .unset] [])) rfl (hb hby at_15) _ ?_
      show Steps p.tables e below (s₁.setTop (mkF m 18 #[.val (.int ch), .val (.int pick), .val (.int x), .unset, .unset, .unset] [(.long (4294977024 : Int64))])) _
      refine XS.lstoreN X0.here hx rfl (hb hby at_18) rfl (l' := #[.val (.int ch), .val (.int pick), .val (.int x), .val (.long (4294977024 : Int64)), .second, .unset]) rfl ?_
      show Steps p.tables e below (s₁.setTop (mkF m 19 #[.val (.int ch), .val (.int pick), .val (.int x), .val (.long (4294977024 : Int64)), .second, .unset] [])) _
      refine XS.iloadN X0.here hx rfl (hb hby at_19) rfl ?_
      show Steps p.tables e below (s₁.setTop (mkF m 20 #[.val (.int ch), .val (.int pick), .val (.int x), .val (.long (4294977024 : Int64)), .second, .unset] [(.int x)])) _
      refine XS.ifYes X0.here hx rfl (pc0 := 20) (pc' := 43) rfl (hb hby at_20) rfl ((if0 _ _).trans (tlt hc20).1) (by decide) (by decide) ?_
      show Steps p.tables e below (s₁.setTop (mkF m 43 #[.val (.int ch), .val (.int pick), .val (.int x), .val (.long (4294977024 : Int64)), .second, .unset] [])) _
      refine XS.iconst X0.here hx rfl (hb hby at_43) ?_
      show Steps p.tables e below (s₁.setTop (mkF m 44 #[.val (.int ch), .val (.int pick), .val (.int x), .val (.long (4294977024 : Int64)), .second, .unset] [(.int (0 : Int32))])) _
      refine XS.istore X0.here hx rfl (hb hby at_44) rfl (l' := #[.val (.int ch), .val (.int pick), .val (.int x), .val (.long (4294977024 : Int64)), .second, .val (.int (0 : Int32))]) rfl ?_
      show Steps p.tables e below (s₁.setTop (mkF m 46 #[.val (.int ch), .val (.int pick), .val (.int x), .val (.long (4294977024 : Int64)), .second, .val (.int (0 : Int32))] [])) _
      refine XS.iloadN X0.here hx rfl (hb hby at_46) rfl ?_
      show Steps p.tables e below (s₁.setTop (mkF m 47 #[.val (.int ch), .val (.int pick), .val (.int x), .val (.long (4294977024 : Int64)), .second, .val (.int (0 : Int32))] [(.int x)])) _
      refine st1 _ ?_
      show Steps p.tables e below (T1.setTop (mkF m 50 #[.val (.int ch), .val (.int pick), .val (.int x), .val (.long (4294977024 : Int64)), .second, .val (.int (0 : Int32))] [(.int (own_sp x))])) _
      refine XS.iload X1.here hx rfl (hb hby at_50) rfl ?_
      show Steps p.tables e below (T1.setTop (mkF m 52 #[.val (.int ch), .val (.int pick), .val (.int x), .val (.long (4294977024 : Int64)), .second, .val (.int (0 : Int32))] [(.int (0 : Int32)), (.int (own_sp x))])) _
      refine XS.icmpNo X1.here hx rfl (hb hby at_52) rfl (teq (own_out (Or.inl hc20))).2 ?_
      show Steps p.tables e below (T1.setTop (mkF m 55 #[.val (.int ch), .val (.int pick), .val (.int x), .val (.long (4294977024 : Int64)), .second, .val (.int (0 : Int32))] [])) _
      refine XS.iconst X1.here hx rfl (hb hby at_55) ?_
      show Steps p.tables e below (T1.setTop (mkF m 56 #[.val (.int ch), .val (.int pick), .val (.int x), .val (.long (4294977024 : Int64)), .second, .val (.int (0 : Int32))] [(.int (1 : Int32))])) _
      refine XS.goto X1.here hx rfl (pc0 := 56) (pc' := 60) rfl (hb hby at_56) (by decide) (by decide) ?_
      show Steps p.tables e below (T1.setTop (mkF m 60 #[.val (.int ch), .val (.int pick), .val (.int x), .val (.long (4294977024 : Int64)), .second, .val (.int (0 : Int32))] [(.int (1 : Int32))])) _
      exact retN X1 hx (t := .boolean) Bd.returns (by simp) (hb hby at_60) hr
    · exact ⟨rfl, Fr.nil n0⟩
  · by_cases hc26 : x < (64 : Int32)
    · have hin := own_in hc20 hc26
      by_cases hc36 : (lcmpW ((((4294977024 : Int64).toUInt64 >>> (x &&& 0x3f).toInt64.toUInt64).toInt64) &&& (1 : Int64)) (0 : Int64)) = (0 : Int32)
      · rw [if_pos hc36] at hin
        obtain ⟨T1, X1, e1, st1⟩ := own_callR X0 hx hZ hown (hw _ (List.mem_of_getElem? (i := 1) rfl)) (hw _ (List.mem_of_getElem? (i := 2) rfl)) (hw _ (List.mem_of_getElem? (i := 3) rfl)) (hw _ (List.mem_of_getElem? (i := 4) rfl)) (by decide) (W := 0) (as' := [(.int x)]) (F := (.int (own_sp x))) (rm_sp l Z a0 hw [] x h0) rfl rfl (by decide) (by decide) (by decide) (by decide) e0 (g := (mkF m 47 #[.val (.int ch), .val (.int pick), .val (.int x), .val (.long (4294977024 : Int64)), .second, .val (.int (0 : Int32))] [(.int x)])) rfl (by rw [hml]; rfl) (lenOf pd_1 rfl) (rest := []) rfl (Nat.le_of_eq rfl) (hb hby at_47)
        obtain ⟨fs, hr, hrun, hended, hW, hsame⟩ := X1.leave (v := some (.int (1 : Int32))) (fun h => by rw [Bd.returns] at h; cases h)
        refine ⟨_, _, pre0 _ ?_, hrun, hended, _, _, rfl, ?_, ⟨_, rfl⟩, hW, hsame.mono (by decide) (by decide)⟩
        · refine stX _ ?_
          show Steps p.tables e below (s₁.setTop (mkF m 15 #[.val (.int ch), .val (.int pick), .val (.int x), .unset, .unset, .unset] [])) _
          refine X0.ldc2Long hx hown (mvT hZ (hw _ (List.mem_of_getElem? (i := 0) rfl))) (g := (mkF m 15 #[.val (.int ch), .val (.int pick), .val (.int x), .unset, .unset, .unset] [])) rfl (hb hby at_15) _ ?_
          show Steps p.tables e below (s₁.setTop (mkF m 18 #[.val (.int ch), .val (.int pick), .val (.int x), .unset, .unset, .unset] [(.long (4294977024 : Int64))])) _
          refine XS.lstoreN X0.here hx rfl (hb hby at_18) rfl (l' := #[.val (.int ch), .val (.int pick), .val (.int x), .val (.long (4294977024 : Int64)), .second, .unset]) rfl ?_
          show Steps p.tables e below (s₁.setTop (mkF m 19 #[.val (.int ch), .val (.int pick), .val (.int x), .val (.long (4294977024 : Int64)), .second, .unset] [])) _
          refine XS.iloadN X0.here hx rfl (hb hby at_19) rfl ?_
          show Steps p.tables e below (s₁.setTop (mkF m 20 #[.val (.int ch), .val (.int pick), .val (.int x), .val (.long (4294977024 : Int64)), .second, .unset] [(.int x)])) _
          refine XS.ifNo X0.here hx rfl (hb hby at_20) rfl ((if0 _ _).trans (flt hc20).1) ?_
          show Steps p.tables e below (s₁.setTop (mkF m 23 #[.val (.int ch), .val (.int pick), .val (.int x), .val (.long (4294977024 : Int64)), .second, .unset] [])) _
          refine XS.iloadN X0.here hx rfl (hb hby at_23) rfl ?_
          show Steps p.tables e below (s₁.setTop (mkF m 24 #[.val (.int ch), .val (.int pick), .val (.int x), .val (.long (4294977024 : Int64)), .second, .unset] [(.int x)])) _
          refine XS.bipush X0.here hx rfl (hb hby at_24) ?_
          show Steps p.tables e below (s₁.setTop (mkF m 26 #[.val (.int ch), .val (.int pick), .val (.int x), .val (.long (4294977024 : Int64)), .second, .unset] [(.int (64 : Int32)), (.int x)])) _
          refine XS.icmpNo X0.here hx rfl (hb hby at_26) rfl (tlt hc26).2.1 ?_
          show Steps p.tables e below (s₁.setTop (mkF m 29 #[.val (.int ch), .val (.int pick), .val (.int x), .val (.long (4294977024 : Int64)), .second, .unset] [])) _
          refine XS.lloadN X0.here hx rfl (hb hby at_29) rfl ?_
          show Steps p.tables e below (s₁.setTop (mkF m 30 #[.val (.int ch), .val (.int pick), .val (.int x), .val (.long (4294977024 : Int64)), .second, .unset] [(.long (4294977024 : Int64))])) _
          refine XS.iloadN X0.here hx rfl (hb hby at_30) rfl ?_
          show Steps p.tables e below (s₁.setTop (mkF m 31 #[.val (.int ch), .val (.int pick), .val (.int x), .val (.long (4294977024 : Int64)), .second, .unset] [(.int x), (.long (4294977024 : Int64))])) _
          refine XS.lushr X0.here hx rfl (hb hby at_31) rfl ?_
          show Steps p.tables e below (s₁.setTop (mkF m 32 #[.val (.int ch), .val (.int pick), .val (.int x), .val (.long (4294977024 : Int64)), .second, .unset] [(.long (((4294977024 : Int64).toUInt64 >>> (x &&& 0x3f).toInt64.toUInt64).toInt64))])) _
          refine XS.lconst X0.here hx rfl (hb hby at_32) ?_
          show Steps p.tables e below (s₁.setTop (mkF m 33 #[.val (.int ch), .val (.int pick), .val (.int x), .val (.long (4294977024 : Int64)), .second, .unset] [(.long (1 : Int64)), (.long (((4294977024 : Int64).toUInt64 >>> (x &&& 0x3f).toInt64.toUInt64).toInt64))])) _
          refine XS.land X0.here hx rfl (hb hby at_33) rfl ?_
          show Steps p.tables e below (s₁.setTop (mkF m 34 #[.val (.int ch), .val (.int pick), .val (.int x), .val (.long (4294977024 : Int64)), .second, .unset] [(.long ((((4294977024 : Int64).toUInt64 >>> (x &&& 0x3f).toInt64.toUInt64).toInt64) &&& (1 : Int64)))])) _
          refine XS.lconst X0.here hx rfl (hb hby at_34) ?_
          show Steps p.tables e below (s₁.setTop (mkF m 35 #[.val (.int ch), .val (.int pick), .val (.int x), .val (.long (4294977024 : Int64)), .second, .unset] [(.long (0 : Int64)), (.long ((((4294977024 : Int64).toUInt64 >>> (x &&& 0x3f).toInt64.toUInt64).toInt64) &&& (1 : Int64)))])) _
          refine XS.lcmp X0.here hx rfl (hb hby at_35) rfl ?_
          show Steps p.tables e below (s₁.setTop (mkF m 36 #[.val (.int ch), .val (.int pick), .val (.int x), .val (.long (4294977024 : Int64)), .second, .unset] [(.int (lcmpW ((((4294977024 : Int64).toUInt64 >>> (x &&& 0x3f).toInt64.toUInt64).toInt64) &&& (1 : Int64)) (0 : Int64)))])) _
          refine XS.ifYes X0.here hx rfl (pc0 := 36) (pc' := 43) rfl (hb hby at_36) rfl ((if0 _ _).trans (teq hc36).1) (by decide) (by decide) ?_
          show Steps p.tables e below (s₁.setTop (mkF m 43 #[.val (.int ch), .val (.int pick), .val (.int x), .val (.long (4294977024 : Int64)), .second, .unset] [])) _
          refine XS.iconst X0.here hx rfl (hb hby at_43) ?_
          show Steps p.tables e below (s₁.setTop (mkF m 44 #[.val (.int ch), .val (.int pick), .val (.int x), .val (.long (4294977024 : Int64)), .second, .unset] [(.int (0 : Int32))])) _
          refine XS.istore X0.here hx rfl (hb hby at_44) rfl (l' := #[.val (.int ch), .val (.int pick), .val (.int x), .val (.long (4294977024 : Int64)), .second, .val (.int (0 : Int32))]) rfl ?_
          show Steps p.tables e below (s₁.setTop (mkF m 46 #[.val (.int ch), .val (.int pick), .val (.int x), .val (.long (4294977024 : Int64)), .second, .val (.int (0 : Int32))] [])) _
          refine XS.iloadN X0.here hx rfl (hb hby at_46) rfl ?_
          show Steps p.tables e below (s₁.setTop (mkF m 47 #[.val (.int ch), .val (.int pick), .val (.int x), .val (.long (4294977024 : Int64)), .second, .val (.int (0 : Int32))] [(.int x)])) _
          refine st1 _ ?_
          show Steps p.tables e below (T1.setTop (mkF m 50 #[.val (.int ch), .val (.int pick), .val (.int x), .val (.long (4294977024 : Int64)), .second, .val (.int (0 : Int32))] [(.int (own_sp x))])) _
          refine XS.iload X1.here hx rfl (hb hby at_50) rfl ?_
          show Steps p.tables e below (T1.setTop (mkF m 52 #[.val (.int ch), .val (.int pick), .val (.int x), .val (.long (4294977024 : Int64)), .second, .val (.int (0 : Int32))] [(.int (0 : Int32)), (.int (own_sp x))])) _
          refine XS.icmpNo X1.here hx rfl (hb hby at_52) rfl (teq hin).2 ?_
          show Steps p.tables e below (T1.setTop (mkF m 55 #[.val (.int ch), .val (.int pick), .val (.int x), .val (.long (4294977024 : Int64)), .second, .val (.int (0 : Int32))] [])) _
          refine XS.iconst X1.here hx rfl (hb hby at_55) ?_
          show Steps p.tables e below (T1.setTop (mkF m 56 #[.val (.int ch), .val (.int pick), .val (.int x), .val (.long (4294977024 : Int64)), .second, .val (.int (0 : Int32))] [(.int (1 : Int32))])) _
          refine XS.goto X1.here hx rfl (pc0 := 56) (pc' := 60) rfl (hb hby at_56) (by decide) (by decide) ?_
          show Steps p.tables e below (T1.setTop (mkF m 60 #[.val (.int ch), .val (.int pick), .val (.int x), .val (.long (4294977024 : Int64)), .second, .val (.int (0 : Int32))] [(.int (1 : Int32))])) _
          exact retN X1 hx (t := .boolean) Bd.returns (by simp) (hb hby at_60) hr
        · exact ⟨rfl, Fr.nil n0⟩
      · rw [if_neg hc36] at hin
        obtain ⟨T1, X1, e1, st1⟩ := own_callR X0 hx hZ hown (hw _ (List.mem_of_getElem? (i := 1) rfl)) (hw _ (List.mem_of_getElem? (i := 2) rfl)) (hw _ (List.mem_of_getElem? (i := 3) rfl)) (hw _ (List.mem_of_getElem? (i := 4) rfl)) (by decide) (W := 0) (as' := [(.int x)]) (F := (.int (own_sp x))) (rm_sp l Z a0 hw [] x h0) rfl rfl (by decide) (by decide) (by decide) (by decide) e0 (g := (mkF m 47 #[.val (.int ch), .val (.int pick), .val (.int x), .val (.long (4294977024 : Int64)), .second, .val (.int (1 : Int32))] [(.int x)])) rfl (by rw [hml]; rfl) (lenOf pd_1 rfl) (rest := []) rfl (Nat.le_of_eq rfl) (hb hby at_47)
        obtain ⟨fs, hr, hrun, hended, hW, hsame⟩ := X1.leave (v := some (.int (1 : Int32))) (fun h => by rw [Bd.returns] at h; cases h)
        refine ⟨_, _, pre0 _ ?_, hrun, hended, _, _, rfl, ?_, ⟨_, rfl⟩, hW, hsame.mono (by decide) (by decide)⟩
        · refine stX _ ?_
          show Steps p.tables e below (s₁.setTop (mkF m 15 #[.val (.int ch), .val (.int pick), .val (.int x), .unset, .unset, .unset] [])) _
          refine X0.ldc2Long hx hown (mvT hZ (hw _ (List.mem_of_getElem? (i := 0) rfl))) (g := (mkF m 15 #[.val (.int ch), .val (.int pick), .val (.int x), .unset, .unset, .unset] [])) rfl (hb hby at_15) _ ?_
          show Steps p.tables e below (s₁.setTop (mkF m 18 #[.val (.int ch), .val (.int pick), .val (.int x), .unset, .unset, .unset] [(.long (4294977024 : Int64))])) _
          refine XS.lstoreN X0.here hx rfl (hb hby at_18) rfl (l' := #[.val (.int ch), .val (.int pick), .val (.int x), .val (.long (4294977024 : Int64)), .second, .unset]) rfl ?_
          show Steps p.tables e below (s₁.setTop (mkF m 19 #[.val (.int ch), .val (.int pick), .val (.int x), .val (.long (4294977024 : Int64)), .second, .unset] [])) _
          refine XS.iloadN X0.here hx rfl (hb hby at_19) rfl ?_
          show Steps p.tables e below (s₁.setTop (mkF m 20 #[.val (.int ch), .val (.int pick), .val (.int x), .val (.long (4294977024 : Int64)), .second, .unset] [(.int x)])) _
          refine XS.ifNo X0.here hx rfl (hb hby at_20) rfl ((if0 _ _).trans (flt hc20).1) ?_
          show Steps p.tables e below (s₁.setTop (mkF m 23 #[.val (.int ch), .val (.int pick), .val (.int x), .val (.long (4294977024 : Int64)), .second, .unset] [])) _
          refine XS.iloadN X0.here hx rfl (hb hby at_23) rfl ?_
          show Steps p.tables e below (s₁.setTop (mkF m 24 #[.val (.int ch), .val (.int pick), .val (.int x), .val (.long (4294977024 : Int64)), .second, .unset] [(.int x)])) _
          refine XS.bipush X0.here hx rfl (hb hby at_24) ?_
          show Steps p.tables e below (s₁.setTop (mkF m 26 #[.val (.int ch), .val (.int pick), .val (.int x), .val (.long (4294977024 : Int64)), .second, .unset] [(.int (64 : Int32)), (.int x)])) _
          refine XS.icmpNo X0.here hx rfl (hb hby at_26) rfl (tlt hc26).2.1 ?_
          show Steps p.tables e below (s₁.setTop (mkF m 29 #[.val (.int ch), .val (.int pick), .val (.int x), .val (.long (4294977024 : Int64)), .second, .unset] [])) _
          refine XS.lloadN X0.here hx rfl (hb hby at_29) rfl ?_
          show Steps p.tables e below (s₁.setTop (mkF m 30 #[.val (.int ch), .val (.int pick), .val (.int x), .val (.long (4294977024 : Int64)), .second, .unset] [(.long (4294977024 : Int64))])) _
          refine XS.iloadN X0.here hx rfl (hb hby at_30) rfl ?_
          show Steps p.tables e below (s₁.setTop (mkF m 31 #[.val (.int ch), .val (.int pick), .val (.int x), .val (.long (4294977024 : Int64)), .second, .unset] [(.int x), (.long (4294977024 : Int64))])) _
          refine XS.lushr X0.here hx rfl (hb hby at_31) rfl ?_
          show Steps p.tables e below (s₁.setTop (mkF m 32 #[.val (.int ch), .val (.int pick), .val (.int x), .val (.long (4294977024 : Int64)), .second, .unset] [(.long (((4294977024 : Int64).toUInt64 >>> (x &&& 0x3f).toInt64.toUInt64).toInt64))])) _
          refine XS.lconst X0.here hx rfl (hb hby at_32) ?_
          show Steps p.tables e below (s₁.setTop (mkF m 33 #[.val (.int ch), .val (.int pick), .val (.int x), .val (.long (4294977024 : Int64)), .second, .unset] [(.long (1 : Int64)), (.long (((4294977024 : Int64).toUInt64 >>> (x &&& 0x3f).toInt64.toUInt64).toInt64))])) _
          refine XS.land X0.here hx rfl (hb hby at_33) rfl ?_
          show Steps p.tables e below (s₁.setTop (mkF m 34 #[.val (.int ch), .val (.int pick), .val (.int x), .val (.long (4294977024 : Int64)), .second, .unset] [(.long ((((4294977024 : Int64).toUInt64 >>> (x &&& 0x3f).toInt64.toUInt64).toInt64) &&& (1 : Int64)))])) _
          refine XS.lconst X0.here hx rfl (hb hby at_34) ?_
          show Steps p.tables e below (s₁.setTop (mkF m 35 #[.val (.int ch), .val (.int pick), .val (.int x), .val (.long (4294977024 : Int64)), .second, .unset] [(.long (0 : Int64)), (.long ((((4294977024 : Int64).toUInt64 >>> (x &&& 0x3f).toInt64.toUInt64).toInt64) &&& (1 : Int64)))])) _
          refine XS.lcmp X0.here hx rfl (hb hby at_35) rfl ?_
          show Steps p.tables e below (s₁.setTop (mkF m 36 #[.val (.int ch), .val (.int pick), .val (.int x), .val (.long (4294977024 : Int64)), .second, .unset] [(.int (lcmpW ((((4294977024 : Int64).toUInt64 >>> (x &&& 0x3f).toInt64.toUInt64).toInt64) &&& (1 : Int64)) (0 : Int64)))])) _
          refine XS.ifNo X0.here hx rfl (hb hby at_36) rfl ((if0 _ _).trans (feq hc36).1) ?_
          show Steps p.tables e below (s₁.setTop (mkF m 39 #[.val (.int ch), .val (.int pick), .val (.int x), .val (.long (4294977024 : Int64)), .second, .unset] [])) _
          refine XS.iconst X0.here hx rfl (hb hby at_39) ?_
          show Steps p.tables e below (s₁.setTop (mkF m 40 #[.val (.int ch), .val (.int pick), .val (.int x), .val (.long (4294977024 : Int64)), .second, .unset] [(.int (1 : Int32))])) _
          refine XS.goto X0.here hx rfl (pc0 := 40) (pc' := 44) rfl (hb hby at_40) (by decide) (by decide) ?_
          show Steps p.tables e below (s₁.setTop (mkF m 44 #[.val (.int ch), .val (.int pick), .val (.int x), .val (.long (4294977024 : Int64)), .second, .unset] [(.int (1 : Int32))])) _
          refine XS.istore X0.here hx rfl (hb hby at_44) rfl (l' := #[.val (.int ch), .val (.int pick), .val (.int x), .val (.long (4294977024 : Int64)), .second, .val (.int (1 : Int32))]) rfl ?_
          show Steps p.tables e below (s₁.setTop (mkF m 46 #[.val (.int ch), .val (.int pick), .val (.int x), .val (.long (4294977024 : Int64)), .second, .val (.int (1 : Int32))] [])) _
          refine XS.iloadN X0.here hx rfl (hb hby at_46) rfl ?_
          show Steps p.tables e below (s₁.setTop (mkF m 47 #[.val (.int ch), .val (.int pick), .val (.int x), .val (.long (4294977024 : Int64)), .second, .val (.int (1 : Int32))] [(.int x)])) _
          refine st1 _ ?_
          show Steps p.tables e below (T1.setTop (mkF m 50 #[.val (.int ch), .val (.int pick), .val (.int x), .val (.long (4294977024 : Int64)), .second, .val (.int (1 : Int32))] [(.int (own_sp x))])) _
          refine XS.iload X1.here hx rfl (hb hby at_50) rfl ?_
          show Steps p.tables e below (T1.setTop (mkF m 52 #[.val (.int ch), .val (.int pick), .val (.int x), .val (.long (4294977024 : Int64)), .second, .val (.int (1 : Int32))] [(.int (1 : Int32)), (.int (own_sp x))])) _
          refine XS.icmpNo X1.here hx rfl (hb hby at_52) rfl (teq hin).2 ?_
          show Steps p.tables e below (T1.setTop (mkF m 55 #[.val (.int ch), .val (.int pick), .val (.int x), .val (.long (4294977024 : Int64)), .second, .val (.int (1 : Int32))] [])) _
          refine XS.iconst X1.here hx rfl (hb hby at_55) ?_
          show Steps p.tables e below (T1.setTop (mkF m 56 #[.val (.int ch), .val (.int pick), .val (.int x), .val (.long (4294977024 : Int64)), .second, .val (.int (1 : Int32))] [(.int (1 : Int32))])) _
          refine XS.goto X1.here hx rfl (pc0 := 56) (pc' := 60) rfl (hb hby at_56) (by decide) (by decide) ?_
          show Steps p.tables e below (T1.setTop (mkF m 60 #[.val (.int ch), .val (.int pick), .val (.int x), .val (.long (4294977024 : Int64)), .second, .val (.int (1 : Int32))] [(.int (1 : Int32))])) _
          exact retN X1 hx (t := .boolean) Bd.returns (by simp) (hb hby at_60) hr
        · exact ⟨rfl, Fr.nil n0⟩
    · obtain ⟨T1, X1, e1, st1⟩ := own_callR X0 hx hZ hown (hw _ (List.mem_of_getElem? (i := 1) rfl)) (hw _ (List.mem_of_getElem? (i := 2) rfl)) (hw _ (List.mem_of_getElem? (i := 3) rfl)) (hw _ (List.mem_of_getElem? (i := 4) rfl)) (by decide) (W := 0) (as' := [(.int x)]) (F := (.int (own_sp x))) (rm_sp l Z a0 hw [] x h0) rfl rfl (by decide) (by decide) (by decide) (by decide) e0 (g := (mkF m 47 #[.val (.int ch), .val (.int pick), .val (.int x), .val (.long (4294977024 : Int64)), .second, .val (.int (0 : Int32))] [(.int x)])) rfl (by rw [hml]; rfl) (lenOf pd_1 rfl) (rest := []) rfl (Nat.le_of_eq rfl) (hb hby at_47)
      obtain ⟨fs, hr, hrun, hended, hW, hsame⟩ := X1.leave (v := some (.int (1 : Int32))) (fun h => by rw [Bd.returns] at h; cases h)
      refine ⟨_, _, pre0 _ ?_, hrun, hended, _, _, rfl, ?_, ⟨_, rfl⟩, hW, hsame.mono (by decide) (by decide)⟩
      · refine stX _ ?_
        show Steps p.tables e below (s₁.setTop (mkF m 15 #[.val (.int ch), .val (.int pick), .val (.int x), .unset, .unset, .unset] [])) _
        refine X0.ldc2Long hx hown (mvT hZ (hw _ (List.mem_of_getElem? (i := 0) rfl))) (g := (mkF m 15 #[.val (.int ch), .val (.int pick), .val (.int x), .unset, .unset, .unset] [])) rfl (hb hby at_15) _ ?_
        show Steps p.tables e below (s₁.setTop (mkF m 18 #[.val (.int ch), .val (.int pick), .val (.int x), .unset, .unset, .unset] [(.long (4294977024 : Int64))])) _
        refine XS.lstoreN X0.here hx rfl (hb hby at_18) rfl (l' := #[.val (.int ch), .val (.int pick), .val (.int x), .val (.long (4294977024 : Int64)), .second, .unset]) rfl ?_
        show Steps p.tables e below (s₁.setTop (mkF m 19 #[.val (.int ch), .val (.int pick), .val (.int x), .val (.long (4294977024 : Int64)), .second, .unset] [])) _
        refine XS.iloadN X0.here hx rfl (hb hby at_19) rfl ?_
        show Steps p.tables e below (s₁.setTop (mkF m 20 #[.val (.int ch), .val (.int pick), .val (.int x), .val (.long (4294977024 : Int64)), .second, .unset] [(.int x)])) _
        refine XS.ifNo X0.here hx rfl (hb hby at_20) rfl ((if0 _ _).trans (flt hc20).1) ?_
        show Steps p.tables e below (s₁.setTop (mkF m 23 #[.val (.int ch), .val (.int pick), .val (.int x), .val (.long (4294977024 : Int64)), .second, .unset] [])) _
        refine XS.iloadN X0.here hx rfl (hb hby at_23) rfl ?_
        show Steps p.tables e below (s₁.setTop (mkF m 24 #[.val (.int ch), .val (.int pick), .val (.int x), .val (.long (4294977024 : Int64)), .second, .unset] [(.int x)])) _
        refine XS.bipush X0.here hx rfl (hb hby at_24) ?_
        show Steps p.tables e below (s₁.setTop (mkF m 26 #[.val (.int ch), .val (.int pick), .val (.int x), .val (.long (4294977024 : Int64)), .second, .unset] [(.int (64 : Int32)), (.int x)])) _
        refine XS.icmpYes X0.here hx rfl (pc0 := 26) (pc' := 43) rfl (hb hby at_26) rfl (flt hc26).2.1 (by decide) (by decide) ?_
        show Steps p.tables e below (s₁.setTop (mkF m 43 #[.val (.int ch), .val (.int pick), .val (.int x), .val (.long (4294977024 : Int64)), .second, .unset] [])) _
        refine XS.iconst X0.here hx rfl (hb hby at_43) ?_
        show Steps p.tables e below (s₁.setTop (mkF m 44 #[.val (.int ch), .val (.int pick), .val (.int x), .val (.long (4294977024 : Int64)), .second, .unset] [(.int (0 : Int32))])) _
        refine XS.istore X0.here hx rfl (hb hby at_44) rfl (l' := #[.val (.int ch), .val (.int pick), .val (.int x), .val (.long (4294977024 : Int64)), .second, .val (.int (0 : Int32))]) rfl ?_
        show Steps p.tables e below (s₁.setTop (mkF m 46 #[.val (.int ch), .val (.int pick), .val (.int x), .val (.long (4294977024 : Int64)), .second, .val (.int (0 : Int32))] [])) _
        refine XS.iloadN X0.here hx rfl (hb hby at_46) rfl ?_
        show Steps p.tables e below (s₁.setTop (mkF m 47 #[.val (.int ch), .val (.int pick), .val (.int x), .val (.long (4294977024 : Int64)), .second, .val (.int (0 : Int32))] [(.int x)])) _
        refine st1 _ ?_
        show Steps p.tables e below (T1.setTop (mkF m 50 #[.val (.int ch), .val (.int pick), .val (.int x), .val (.long (4294977024 : Int64)), .second, .val (.int (0 : Int32))] [(.int (own_sp x))])) _
        refine XS.iload X1.here hx rfl (hb hby at_50) rfl ?_
        show Steps p.tables e below (T1.setTop (mkF m 52 #[.val (.int ch), .val (.int pick), .val (.int x), .val (.long (4294977024 : Int64)), .second, .val (.int (0 : Int32))] [(.int (0 : Int32)), (.int (own_sp x))])) _
        refine XS.icmpNo X1.here hx rfl (hb hby at_52) rfl (teq (own_out (Or.inr hc26))).2 ?_
        show Steps p.tables e below (T1.setTop (mkF m 55 #[.val (.int ch), .val (.int pick), .val (.int x), .val (.long (4294977024 : Int64)), .second, .val (.int (0 : Int32))] [])) _
        refine XS.iconst X1.here hx rfl (hb hby at_55) ?_
        show Steps p.tables e below (T1.setTop (mkF m 56 #[.val (.int ch), .val (.int pick), .val (.int x), .val (.long (4294977024 : Int64)), .second, .val (.int (0 : Int32))] [(.int (1 : Int32))])) _
        refine XS.goto X1.here hx rfl (pc0 := 56) (pc' := 60) rfl (hb hby at_56) (by decide) (by decide) ?_
        show Steps p.tables e below (T1.setTop (mkF m 60 #[.val (.int ch), .val (.int pick), .val (.int x), .val (.long (4294977024 : Int64)), .second, .val (.int (0 : Int32))] [(.int (1 : Int32))])) _
        exact retN X1 hx (t := .boolean) Bd.returns (by simp) (hb hby at_60) hr
      · exact ⟨rfl, Fr.nil n0⟩
set_option maxRecDepth 65536 in
set_option maxHeartbeats 40000000 in
theorem comes_1 {Post : Tables → Env → Array Value → State → Outcome → State → Prop} (hpost : ∀ tb e args s v u, (limb_1_1.after args s (.returned v) u = true ∧ limb_1_2.after args s (.returned v) u = true ∧ True) → FrameEnd s (.returned v) u (Jvm.fieldLocs frame_1_writes args s ++ Jvm.arrayLocs frame_1_arrays args s ++ Jvm.staticLocs frame_1_statics s) 0 0 → Post tb e args s (.returned v) u) :
    ArmFor flags0 classFile x code maxLocals ret World_1 tables_1 room_1 Calls_1 rest_1 Pre_1 Post := by
  intro l hfl _ _ p e ha hc hk s m args below hf hA hF happ hP
  obtain ⟨hcalls, hrest, hpre⟩ := hP
  obtain ⟨-, -, -, hnamed, -, -, -, hat⟩ := (Spec.applies_iff hf).mp happ
  obtain ⟨hg, hn⟩ := and_e (Cond.before_iff.mp (show (Jvm.Cond.and given_1 narrow_1).before args s = true from hpre))
  obtain ⟨hcnt, k0⟩ := and_e hg
  obtain ⟨v0, k1⟩ := and_e k0
  obtain ⟨w0, w1, rfl⟩ : ∃ w0 w1 : Value, args = #[w0, w1] := by
    have hs : args.size = 2 := by simpa [Cond.value, given_1] using hcnt
    obtain ⟨L⟩ := args
    match L, hs with
    | [w0, w1], _ => exact ⟨w0, w1, rfl⟩
  have hw := fun d (hd : d ∈ tables_1) => atoms_spec (ws := Jvm.Cond.code x code maxLocals ret :: tables_1) hat d (List.mem_cons_of_mem _ hd)
  have hfit : Fit s := fun {y c} hc i hi => by
    obtain ⟨ha, rfl⟩ := Array.getElem?_eq_some_iff.mp hc
    have q := List.all_eq_true.mp ((Array.all_eq_true_iff_forall_mem.mp hF) _ (Array.getElem_mem ha)) i (List.mem_range.mpr hi)
    simpa [Array.getElem?_eq_getElem hi] using q
  obtain ⟨i0, ei0⟩ := is_v v0
  obtain rfl : w0 = (.int i0) := Option.some.inj ei0
  obtain ⟨i1, ei1⟩ := is_v k1
  obtain rfl : w1 = (.int i1) := Option.some.inj ei1
  obtain ⟨n, o, h1, h2, h3, _, L, rfl, ⟨rfl, N⟩, hq⟩ := rm0 l s _ hw tables_1 i0 i1 s.heap s.heap.size (Nat.le_refl _) p e ha hc hk s m _ below hf ((Spec.applies_iff_loose hf).mp happ).1 ⟨rfl, State.Warmed39.refl s, rfl⟩ trivial
  refine ⟨n, _, h1, h2, h3, hpost _ _ _ _ _ _ ⟨Cond.after_iff.mpr rfl, Cond.after_iff.mpr (eq_i res_at (Term.int_eval (1)) rfl), trivial⟩ ⟨hq.1, hq.2.1, (hq.2.2.sift fun y hy => Or.inr (N y hy)).mono (by decide) (by decide)⟩⟩
theorem main_1_1 : Claimed_1_1 := comes_1 fun _ _ _ _ _ _ h hF => ⟨h.1, hF⟩
theorem main_1_2 : Claimed_1_2 := comes_1 fun _ _ _ _ _ _ h hF => ⟨h.2.1, hF⟩
end Jvm.Pilot.@@N@@
namespace Jvm.Pilot.@@N@@
open Jvm Jvm.ClassFile Sem Op Lib Jvm.Free Jvm.Stand Jvm.Pilot.@@N@@.Jvm.D
/-! MADE BY PROGRAM (witnessworld.py) out of the Statement's table words and the real class files: 9 classes; the members and pool entries that the words name. The judged class is class 1, her method 1. -/
namespace start1
open Jvm.ClassFile
def u (s : String) : CpInfo := .utf8 (stringToUtf16 s)
/-- a pool by its gaps: so many unusable entries, then the entry; so many at the end -/
def gap : Nat → List CpInfo → List CpInfo
  | 0, r => r
  | n + 1, r => .unusable :: gap n r
def poolList (es : List (Nat × CpInfo)) (last : Nat) : List CpInfo := es.foldr (fun e r => gap e.1 (e.2 :: r)) (gap last [])
def pool (es : List (Nat × CpInfo)) (last : Nat) : Array CpInfo := ⟨poolList es last⟩
def fileOf (pool : Array CpInfo) (this : Nat) (attrs : Array Attribute := #[]) (ms : Array MethodInfo := #[]) (fl : Nat := 33) (sup : Nat := 0) (ifs : Array Nat := #[]) (fds : Array FieldInfo := #[]) : ClassFile where
  minorVersion := 0
  majorVersion := 65
  constantPool := pool
  accessFlags := fl
  thisClass := this
  superClass := sup
  interfaces := ifs
  fields := fds
  methods := ms
  attributes := attrs
def plain (name : String) (sup : Option ClassId) : Class where
  name := name
  kind := .ordinary
  loader := none
  accessFlags := 33
  super := sup
  interfaces := #[]
  cf := none
  fields := #[]
  methods := #[]
  instanceTypes := #[]
  staticTypes := #[]
  resolved := #[]
  callSites := []
  init := .initialized
  statics := none
  mirror := none

def pool0 : Array CpInfo := pool [(5, u "<init>"), (0, u "()V"), (1, .class_ 10), (1, u "java/lang/Object")] 113

def k0m0 : Method := { name := "<init>", desc := "()V", sig := { parameters := [], returnType := none }, accessFlags := 1, code := none }
/-- java/lang/Object -/
def k0 : Class := { plain "java/lang/Object" none with
  accessFlags := 33
  interfaces := #[]
  cf := some (fileOf pool0 8 #[] #[{ accessFlags := 1, nameIndex := 5, descriptorIndex := 6, attributes := #[] }] 33 0 #[] #[])
  fields := #[]
  methods := #[k0m0]
  instanceTypes := #[]
  staticTypes := #[]
  resolved := Array.replicate 124 none
  statics := none }

def pool1 : Array CpInfo := pool [(2, .class_ 4), (1, u "java/lang/Object"), (0, u "<init>"), (0, u "()V"), (0, .long 4294977024), (1, .methodref 10 11), (0, .class_ 12), (0, .nameAndType 13 14), (0, u "com/example/pathline/pathline/xpath/Values"), (0, u "isSpace"), (0, u "(I)Z"), (0, .class_ 16), (0, u "com/example/pathline/pathline/xpath/ValuesIsSpacePinLaw"), (2, u "law"), (0, u "(II)Z")] 3

def k1m0 : Method := { name := "<init>", desc := "()V", sig := { parameters := [], returnType := none }, accessFlags := 2, code := none }
def k1c1 : Code := { maxStack := 4, maxLocals := 6, code := code, exceptionTable := #[], attributes := #[] }
def k1m1 : Method := { name := "law", desc := "(II)Z", sig := { parameters := [.int, .int], returnType := some .boolean }, accessFlags := 9, code := some k1c1 }
/-- com/example/pathline/pathline/xpath/ValuesIsSpacePinLaw -/
def k1 : Class := { plain "com/example/pathline/pathline/xpath/ValuesIsSpacePinLaw" (some 0) with
  accessFlags := 49
  interfaces := #[]
  cf := some (fileOf pool1 15 #[] #[{ accessFlags := 2, nameIndex := 5, descriptorIndex := 6, attributes := #[] }, { accessFlags := 9, nameIndex := 19, descriptorIndex := 20, attributes := #[] }] 49 2 #[] #[])
  fields := #[]
  methods := #[k1m0, k1m1]
  instanceTypes := #[]
  staticTypes := #[]
  resolved := Array.replicate 24 none
  statics := none }

def pool2 : Array CpInfo := pool [(2, .class_ 4), (1, u "java/lang/Object"), (0, u "<init>"), (0, u "()V"), (17, .class_ 26), (1, u "com/example/pathline/pathline/xpath/Values"), (84, u "isSpace"), (0, u "(I)Z"), (46, .class_ 161), (1, u "com/example/pathline/pathline/xpath/Values$1"), (16, u "MAX_DIGITS"), (0, u "I")] 29

def k2m0 : Method := { name := "<init>", desc := "()V", sig := { parameters := [], returnType := none }, accessFlags := 2, code := none }
def k2c1 : Code := { maxStack := 2, maxLocals := 1, code := prog_190_method_11_code, exceptionTable := #[], attributes := #[] }
def k2m1 : Method := { name := "isSpace", desc := "(I)Z", sig := { parameters := [.int], returnType := some .boolean }, accessFlags := 8, code := some k2c1 }
/-- com/example/pathline/pathline/xpath/Values -/
def k2 : Class := { plain "com/example/pathline/pathline/xpath/Values" (some 0) with
  accessFlags := 48
  interfaces := #[]
  cf := some (fileOf pool2 24 #[.nestMembers #[159]] #[{ accessFlags := 2, nameIndex := 5, descriptorIndex := 6, attributes := #[] }, { accessFlags := 8, nameIndex := 111, descriptorIndex := 112, attributes := #[] }] 48 2 #[] #[{ accessFlags := 26, nameIndex := 178, descriptorIndex := 179, attributes := #[] }])
  fields := #[{ name := "MAX_DIGITS", type := .int, accessFlags := 26, slot := 0, constantValue := 0 }]
  methods := #[k2m0, k2m1]
  instanceTypes := #[]
  staticTypes := #[.int]
  resolved := Array.replicate 209 none
  statics := none }

def pool3 : Array CpInfo := pool [(1, u "java/lang/Cloneable"), (0, .class_ 1), (0, u "java/lang/Object"), (0, .class_ 3)] 3

/-- java/lang/Cloneable -/
def k3 : Class := { plain "java/lang/Cloneable" (some 0) with
  accessFlags := 1537
  interfaces := #[]
  cf := some (fileOf pool3 2 #[] #[] 1537 4 #[] #[])
  fields := #[]
  methods := #[]
  instanceTypes := #[]
  staticTypes := #[]
  resolved := Array.replicate 8 none
  statics := none }

def pool4 : Array CpInfo := pool [(1, u "java/io/Serializable"), (0, .class_ 1), (0, u "java/lang/Object"), (0, .class_ 3)] 3

/-- java/io/Serializable -/
def k4 : Class := { plain "java/io/Serializable" (some 0) with
  accessFlags := 1537
  interfaces := #[]
  cf := some (fileOf pool4 2 #[] #[] 1537 4 #[] #[])
  fields := #[]
  methods := #[]
  instanceTypes := #[]
  staticTypes := #[]
  resolved := Array.replicate 8 none
  statics := none }

/-- the primitive byte -/
def k5 : Class := { plain "byte" none with kind := .primitive 'B', accessFlags := 0x411 }
/-- [B -/
def k6 : Class := { plain "[B" (some 0) with kind := .array 5 .byte, interfaces := #[3, 4], accessFlags := 1041 }

/-- the primitive int -/
def k7 : Class := { plain "int" none with kind := .primitive 'I', accessFlags := 0x411 }
/-- [I -/
def k8 : Class := { plain "[I" (some 0) with kind := .array 7 .int, interfaces := #[3, 4], accessFlags := 1041 }

def heap : Heap := #[]
def classes : Array Class := #[k0, k1, k2, k3, k4, k5, k6, k7, k8]
def interned : List (Array UInt16 × Addr) := []
def slotsUsed : Nat := 0
def theMethod : MethodId := ⟨1, 1⟩
def args0 : Array Value := #[.int 32, .int 0]
def aboutOver (below : List Frame) : State where
  vm := { classes := classes, interned := interned.toArray }
  heap := heap
  slotsUsed := slotsUsed
  threads := #[{ frames := .invoking theMethod args0 :: below }]
def below0 : List Frame := [.native { method := ⟨0, 0⟩, args := #[] }]
def about1 : State := aboutOver below0
def p0 : Program := .bare "" "" ""
def e0 : Env := launch0.env 0 0 0
theorem w_frames : about1.frames = Frame.invoking theMethod args0 :: below0 := rfl
set_option maxRecDepth 65536 in
theorem w_args : argsFit about1.vm theMethod args0 = true := by decide +kernel
set_option maxRecDepth 65536 in
theorem w_heap : heapFits about1 = true := by decide +kernel
set_option maxRecDepth 65536 in
theorem w_runnable : about1.curStatus? = some .runnable := by decide +kernel
set_option maxRecDepth 65536 in
theorem w_alone : about1.alone = true := by decide +kernel
set_option maxRecDepth 65536 in
theorem w_named : about1.methodNamed? x = some theMethod := by decide +kernel
set_option maxRecDepth 65536 in
theorem w_hears : about1.hears theMethod below0 = true := by decide +kernel
set_option maxRecDepth 65536 in
theorem w_ripe : about1.ripe theMethod args0 below0 = true := by decide +kernel
theorem w_running : about1.status = .running := rfl
set_option maxRecDepth 65536 in
theorem w_room : about1.hasRoom e0.platform room_1 = true :=
  launch0.hasRoom_least _ room_1 (by decide +kernel) (by decide +kernel) (by decide +kernel) (by decide +kernel) (by decide +kernel) (by decide +kernel)
theorem allAtoms_all (ts : List Jvm.Cond) (a : Array Jvm.Value) (st : Jvm.State) : (allAtoms ts).before a st = ts.all (fun c => c.before a st) := by
  induction ts with
  | nil => rfl
  | cons c t ih =>
    show (Jvm.Cond.and c (allAtoms t)).before a st = _
    rw [Jvm.Cond.before_and, ih, List.all_cons]
def words1 : List Jvm.Cond := Jvm.Cond.code x code maxLocals ret :: tables_1
/-- a 'code' word, met by the world's own term for the bytes: nothing is compared byte by byte -/
theorem code_word {y : MethodName} {bytes : ByteArray} {mx : Nat} {rt : Option FieldType} {a : Array Value} {s : State} {m : MethodId} {meth : Method} {c : Code} (h1 : s.methodNamed? y = some m) (h2 : s.vm.method? m = some meth) (h3 : meth.code = some c) (h4 : c.code = bytes)
    (h5 : (c.maxLocals == mx && c.exceptionTable.isEmpty && decide (c.maxStack ≤ mostOperands) && decide (meth.sig.returnType = rt) && !meth.locks && decide (parseMethodDescriptor y.desc = some meth.sig)) = true) : (Jvm.Cond.code y bytes mx rt).before a s = true := by
  simp only [Bool.and_eq_true, beq_iff_eq, Bool.not_eq_true', decide_eq_true_eq] at h5
  obtain ⟨⟨⟨⟨⟨g1, g2⟩, g3⟩, g4⟩, g5⟩, g6⟩ := h5
  simp [Cond.before, Cond.holds, Cond.value, h1, h2, h3, h4, g1, g2, g3, g4, g5, g6]
def isCode : Jvm.Cond → Bool
  | .code _ _ _ _ => true
  | _ => false
theorem all_split {L : List Jvm.Cond} {P : Jvm.Cond → Bool} (h1 : L.all (fun c => isCode c || P c) = true) (h2 : ∀ c ∈ L.filter isCode, P c = true) : L.all P = true := by
  refine List.all_eq_true.mpr fun c hc => ?_
  have h := List.all_eq_true.mp h1 c hc
  rcases Bool.eq_false_or_eq_true (isCode c) with hi | hi
  · exact h2 c (List.mem_filter.mpr ⟨hc, hi⟩)
  · simpa [hi] using h
set_option maxRecDepth 65536 in
theorem w_c0 : (Jvm.Cond.code x code maxLocals ret).before args0 about1 = true := code_word (m := ⟨1, 1⟩) (meth := k1m1) (c := k1c1) (by decide +kernel) rfl rfl rfl (by decide +kernel)
set_option maxRecDepth 65536 in
theorem w_c1 : (Jvm.Cond.code ({ cls := "com/example/pathline/pathline/xpath/Values", name := "isSpace", desc := "(I)Z" } : Jvm.MethodName) prog_190_method_11_code (1 : Nat) (Option.some Jvm.ClassFile.FieldType.boolean)).before args0 about1 = true := code_word (m := ⟨2, 1⟩) (meth := k2m1) (c := k2c1) (by decide +kernel) rfl rfl rfl (by decide +kernel)
def codes1 : List Jvm.Cond := [Jvm.Cond.code x code maxLocals ret, Jvm.Cond.code ({ cls := "com/example/pathline/pathline/xpath/Values", name := "isSpace", desc := "(I)Z" } : Jvm.MethodName) prog_190_method_11_code (1 : Nat) (Option.some Jvm.ClassFile.FieldType.boolean)]
set_option maxRecDepth 65536 in
theorem codes_eq : words1.filter isCode = codes1 := rfl
theorem w_codes : ∀ c ∈ words1.filter isCode, c.before args0 about1 = true := by
  rw [codes_eq]
  intro c hc
  simp only [codes1, List.mem_cons, List.not_mem_nil, or_false] at hc
  rcases hc with rfl | rfl
  · exact w_c0
  · exact w_c1
set_option maxRecDepth 65536 in
theorem w_t1 : words1.all (fun c => isCode c || c.before args0 about1) = true := by decide +kernel
theorem w_tables : (allAtoms (Jvm.Cond.code x code maxLocals ret :: tables_1)).before args0 about1 = true := by
  rw [allAtoms_all]
  show words1.all (fun c => c.before args0 about1) = true
  refine all_split ?_ w_codes
  rw [w_t1]
set_option maxRecDepth 65536 in
theorem w_case : (Jvm.Cond.and given_1 narrow_1).before args0 about1 = true := by decide +kernel
theorem w_applies : (headSpec (Jvm.Cond.code x code maxLocals ret :: tables_1) room_1).applies x e0.platform about1 = true :=
  (Spec.applies_iff w_frames).mpr ⟨w_running, w_runnable, w_alone, w_named, w_hears, w_ripe, w_room, w_tables⟩
theorem atStart : AtStart classFile x code maxLocals ret World_1 tables_1 room_1 Calls_1 rest_1 Pre_1 launch0 p0 e0 about1 theMethod args0 below0 :=
  ⟨lists_1, trivial, launch0.admits_env _ _ _, launch0.least_env, fairChoices_fair.cas, fairChoices_fair.clock, w_frames, w_args, w_heap, w_applies, trivial, trivial, w_case⟩
end start1
theorem witness_1 : WitnessClaimed_1 := ⟨start1.p0, start1.e0, start1.about1, start1.theMethod, start1.args0, start1.below0, start1.atStart⟩
end Jvm.Pilot.@@N@@
