import JvmDerived
import JvmDerived.Pilot.@@N@@Statement
import JvmDerived.Pilot.@@N@@Code
set_option linter.unusedVariables false
set_option linter.unusedSimpArgs false
namespace Jvm.OwnKit
open Sem ClassFile Op Lib Jvm.Stand Jvm.Free Jvm.LawKit Jvm.RoadKit
section Go
variable {p : Program} {l : Launch} {e : Env} {R : Room} {s : State} {m : MethodId} {args : Array Value} {below : List Frame} {meth : Method} {c : Code} {T T' : State} {locs : List Loc} {cells slots : Nat} {g g' : JFrame} {P : Outcome → State → Prop} {Q : Option Value → Heap → List Loc → Prop} {k n pc : Nat} {Ls : Array Slot} {rest : List Value}
/-- from this state and frame the invocation comes to its end, and the end is as P says -/
def Go (p : Program) (e : Env) (below : List Frame) (T : State) (g : JFrame) (P : Outcome → State → Prop) : Prop :=
  ∃ s₂ o, Steps p.tables e below (T.setTop g) s₂ ∧ s₂.status = .running ∧ Ended s₂ below o ∧ P o s₂
abbrev Po (s : State) (Q : Option Value → Heap → List Loc → Prop) (k n : Nat) : Outcome → State → Prop := fun o U' => ∃ v L, o = .returned v ∧ Q v U'.heap L ∧ FrameEnd s o U' L k n
theorem stp (h : ∀ t, Steps p.tables e below (T'.setTop g') t → Steps p.tables e below (T.setTop g) t) (K : Go p e below T' g' P) : Go p e below T g P := by
  obtain ⟨s2, o, h1, h2⟩ := K
  exact ⟨s2, o, h _ h1, h2⟩
theorem stt (h : Steps p.tables e below (T.setTop g) (T'.setTop g')) (K : Go p e below T' g' P) : Go p e below T g P := by
  obtain ⟨s2, o, h1, h2⟩ := K
  exact ⟨s2, o, h.trans h1, h2⟩
theorem out (X : Stand p l e R s m args below meth c T locs cells slots) {v : Option Value} (hl : meth.locks = false) (hv : meth.sig.returnType = none → v = none)
    (hst : ∀ fs : List Frame, (∀ (f : JFrame) (acts : List Action), f.method = m → f.locked = none → f.entered = [] → (doReturn e (T.setTop f) acts v).1 = T.setFrames fs) → Steps p.tables e below (T.setTop g) (T.setFrames fs))
    (hc : cells ≤ k) (hn : slots ≤ n) (hQ : Q v T.heap locs) : Go p e below T g (Po s Q k n) := by
  obtain ⟨fs, hr, hrun, hended, hW, hsame⟩ := X.leave (v := v) hv hl
  exact ⟨_, _, hst fs hr, hrun, hended, v, locs, rfl, hQ, ⟨_, rfl⟩, hW, hsame.mono hc hn⟩
theorem outN (X : Stand p l e R s m args below meth c T locs cells slots) (hx : p.tables.exec = Jvm.exec) {t : FieldType} {z : Int32} (hret : meth.sig.returnType = some t) (ht : t = .boolean ∨ t = .byte ∨ t = .char ∨ t = .short) (hd : decode c.code pc = .ok (.ireturn, 1)) (hl : meth.locks = false)
    (hc : cells ≤ k) (hn : slots ≤ n) (hQ : Q (some (.int (nar t z))) T.heap locs) : Go p e below T (mkF m pc Ls (.int z :: rest)) (Po s Q k n) :=
  out X hl (fun h => by rw [hret] at h; cases h) (fun fs hr => retN X hx hret ht hd hr) hc hn hQ
theorem outI (X : Stand p l e R s m args below meth c T locs cells slots) (hx : p.tables.exec = Jvm.exec) {z : Int32} (hret : meth.sig.returnType = some .int) (hd : decode c.code pc = .ok (.ireturn, 1)) (hl : meth.locks = false)
    (hc : cells ≤ k) (hn : slots ≤ n) (hQ : Q (some (.int z)) T.heap locs) : Go p e below T (mkF m pc Ls (.int z :: rest)) (Po s Q k n) :=
  out X hl (fun h => by rw [hret] at h; cases h) (fun fs hr => retOut X hx hret rfl (Or.inl ⟨rfl, Or.inl rfl, _, rfl⟩) hd hr) hc hn hQ
theorem outJ (X : Stand p l e R s m args below meth c T locs cells slots) (hx : p.tables.exec = Jvm.exec) {z : Int64} (hret : meth.sig.returnType = some .long) (hd : decode c.code pc = .ok (.lreturn, 1)) (hl : meth.locks = false)
    (hc : cells ≤ k) (hn : slots ≤ n) (hQ : Q (some (.long z)) T.heap locs) : Go p e below T (mkF m pc Ls (.long z :: rest)) (Po s Q k n) :=
  out X hl (fun h => by rw [hret] at h; cases h) (fun fs hr => retOut X hx hret rfl (Or.inr (Or.inl ⟨rfl, rfl, _, rfl⟩)) hd hr) hc hn hQ
theorem outD (X : Stand p l e R s m args below meth c T locs cells slots) (hx : p.tables.exec = Jvm.exec) {w : Value} (hret : meth.sig.returnType = some .double) (hw : ∃ z, w = .double z) (hd : decode c.code pc = .ok (.dreturn, 1)) (hl : meth.locks = false)
    (hc : cells ≤ k) (hn : slots ≤ n) (hQ : Q (some w) T.heap locs) : Go p e below T (mkF m pc Ls (w :: rest)) (Po s Q k n) := by
  obtain ⟨z, rfl⟩ := hw
  exact out X hl (fun h => by rw [hret] at h; cases h) (fun fs hr => retOut X hx hret rfl (Or.inr (Or.inr (Or.inl ⟨rfl, rfl, _, rfl⟩))) hd hr) hc hn hQ
theorem outA (X : Stand p l e R s m args below meth c T locs cells slots) (hx : p.tables.exec = Jvm.exec) {w : Value} {t : FieldType} (hret : meth.sig.returnType = some t) (ht : t.isReference = true) (hw : w.isRef = true) (hd : decode c.code pc = .ok (.areturn, 1)) (hl : meth.locks = false)
    (hc : cells ≤ k) (hn : slots ≤ n) (hQ : Q (some w) T.heap locs) : Go p e below T (mkF m pc Ls (w :: rest)) (Po s Q k n) := by
  refine out X hl (fun h => by rw [hret] at h; cases h) (fun fs hr => retOut X hx hret ?_ (Or.inr (Or.inr (Or.inr (Or.inr ⟨rfl, ht, hw⟩)))) hd hr) hc hn hQ
  rcases ref_cases hw with rfl | ⟨a, rfl⟩ <;> cases t <;> first | rfl | cases ht
theorem outV (X : Stand p l e R s m args below meth c T locs cells slots) (hx : p.tables.exec = Jvm.exec) (hret : meth.sig.returnType = none) (hd : decode c.code pc = .ok (.return_, 1)) (hl : meth.locks = false)
    (hc : cells ≤ k) (hn : slots ≤ n) (hQ : Q none T.heap locs) : Go p e below T (mkF m pc Ls []) (Po s Q k n) :=
  out X hl (fun _ => rfl) (fun fs hr => X.returnOut hx hret hd hr) hc hn hQ
theorem start {y : MethodName} {bytes : ByteArray} {maxL : Nat} {ret : Option FieldType} {ws : List Cond} {rm : Room} {Z : State} {as' : Array Value} {h0 : Heap} (hpl : plainFor y = true)
    (body : ∀ p e s m below meth c T, Stand p l e rm s m as' below meth c T [] 0 0 → p.tables.exec = Jvm.exec → c.code = bytes → c.maxLocals = maxL → s.vm.findClass y.cls = some m.cls → meth.name = y.name → meth.sig.returnType = ret → meth.locks = false → Z.Warmed39 s.vm → T.heap = h0 →
      Go p e below T (entryFrame m as' maxL) (Po s Q k n)) :
    MetFree l y (head1 (Cond.code y bytes maxL ret :: ws) rm) (fun a U => a = as' ∧ Z.Warmed39 U.vm ∧ U.heap = h0) (fun _ _ _ _ _ => True) (fun _ U o U' => ∃ v L, o = .returned v ∧ Q v U'.heap L ∧ FrameEnd U o U' L k n) := by
  refine MetFree.of_bodySF hpl hisR ?_
  intro p e s m args below meth c s₁ Bd hml0 hP hK
  obtain ⟨rfl, hZ, hh⟩ := hP
  exact body p e s m below meth c s₁ (Stand.of_body Bd) Bd.exec Bd.bytes hml0 (findClass_of_methodNamed Bd.named) (name_of_methodNamed Bd.named Bd.method).1 Bd.returns Bd.notSynchronized hZ (by rw [← hh, Bd.state]; rfl)
theorem goAt (q : g = g') (K : Go p e below T g' P) : Go p e below T g P := q ▸ K
end Go
theorem cat_ref {v : Value} (h : v.isRef = true) : v.category = 1 := by cases v <;> simp_all [Value.isRef, Value.category]
section Facts
variable {Z : State} {args : Array Value}
theorem old_le {n0 : Nat} {h : Heap} (O : Old Z n0 h) : n0 ≤ h.size := by
  obtain ⟨rfl, h2⟩ := O
  exact h2.1
theorem fld_of {C n d : String} {t : Term} {a : Addr} {k : Int32} (ev : t.eval args Z none [] Z = some (.ref a)) (h : (Cond.eq (.field t C n d) (.int k)).value args Z none Z [] = some true) : Fld Z Z.heap a C n d (.int k) := by
  obtain ⟨x, y, h1, h2, -, hk⟩ := cmp_v (Or.inl h)
  have h3 : y = .int k := (Option.some.inj h2).symm
  subst h3
  obtain ⟨z, rfl⟩ := hk
  have h4 : z = k := gotT (Cond.eq_ints h1 h2) h
  subst h4
  rw [fld_at ev] at h1
  exact Fld.start h1
theorem fldnull_of {C n d : String} {t : Term} {a : Addr} (ev : t.eval args Z none [] Z = some (.ref a)) (h : (Cond.eq (.field t C n d) .null).value args Z none Z [] = some true) : Fld Z Z.heap a C n d .null := by
  have h1 := null_v h
  rw [fld_at ev] at h1
  exact Fld.start h1
theorem eqint_v {t : Term} {k : Int32} (h : (Cond.eq t (.int k)).value args Z none Z [] = some true) : t.eval args Z none [] Z = some (.int k) := by
  obtain ⟨x, y, h1, h2, -, hk⟩ := cmp_v (Or.inl h)
  have h3 : y = .int k := (Option.some.inj h2).symm
  subst h3
  obtain ⟨z, rfl⟩ := hk
  have h4 : z = k := gotT (Cond.eq_ints h1 h2) h
  subst h4
  exact h1
end Facts
section Small
variable {h h' : Heap} {a : Addr} {sl : Nat} {x : Int32}
theorem ow_wr_char (e : x.toUInt32.toUInt16.toUInt32.toInt32 = x) (W : Wr h h' a sl (.int (nar .char x))) : Wr h h' a sl (.int x) := by rwa [show nar .char x = x from e] at W
theorem ow_fits_char (e : x.toUInt32.toUInt16.toUInt32.toInt32 = x) : fits .char (.int x) = true := by
  have q := fits_nar_char x
  rwa [show nar .char x = x from e] at q
theorem ow_wr_byte (e : x.toInt8.toInt32 = x) (W : Wr h h' a sl (.int (nar .byte x))) : Wr h h' a sl (.int x) := by rwa [show nar .byte x = x from e] at W
theorem ow_fits_byte (e : x.toInt8.toInt32 = x) : fits .byte (.int x) = true := by
  have q := fits_nar_byte x
  rwa [e] at q
theorem char_small (h0 : ¬ x < 0) (h1 : ¬ (65535 : Int32) < x) : x.toUInt32.toUInt16.toUInt32.toInt32 = x := by
  obtain ⟨q1, q2, q3⟩ := c_i2c x
  simp only [Int32.lt_iff_toInt_lt, Int32.reduceToInt] at h0 h1
  exact Int32.toInt_inj.mp (by omega)
theorem char255 (q : ¬ x < 0 ∧ ¬ (255 : Int32) < x) : x.toUInt32.toUInt16.toUInt32.toInt32 = x := char_small q.1 (by
  obtain ⟨q1, q2⟩ := q
  simp only [Int32.lt_iff_toInt_lt, Int32.reduceToInt] at q1 q2 ⊢
  omega)
theorem byte_small (h0 : ¬ x < (-128 : Int32)) (h1 : ¬ (127 : Int32) < x) : x.toInt8.toInt32 = x := by
  obtain ⟨q1, q2, q3⟩ := c_i2b x
  simp only [Int32.lt_iff_toInt_lt, Int32.reduceToInt] at h0 h1
  exact Int32.toInt_inj.mp (by omega)
theorem byte_twice : x.toInt8.toInt32.toInt8.toInt32 = x.toInt8.toInt32 := by simp
theorem and255 (x : Int32) : ¬ (x &&& (255 : Int32)) < 0 ∧ ¬ (255 : Int32) < (x &&& (255 : Int32)) := by
  have h := c_mask x 255 8 (by decide) (by decide)
  simp only [Int32.lt_iff_toInt_lt, Int32.reduceToInt]
  omega
end Small
section Sub
variable {Z : State} {a0 : Array Value}
theorem NSroot {O K : String} {n : Nat} (w : (Cond.noSuperclass O).before a0 Z = true) (wk : (Cond.instantiable K n).before a0 Z = true) (hn : O ≠ K) : NS Z O K := by
  obtain ⟨c, k, h1, h2, h3, -, -⟩ := Cond.noSuperclass_spec w
  obtain ⟨t, kt, g1, -⟩ := Cond.instantiable_spec wk
  have ne := ids_ne h1 g1 hn
  refine ⟨c, t, h1, g1, fun fuel => ?_⟩
  cases fuel with
  | zero => rfl
  | succ f => simp [Vm.isSubclassAux, ne, h2, h3]
theorem NSno {C S K : String} {n : Nat} (w : (Cond.superclass C S).before a0 Z = true) (wk : (Cond.instantiable K n).before a0 Z = true) (N : NS Z C K) (hn : C ≠ K) : ∃ c t, Z.vm.findClass C = some c ∧ Z.vm.findClass K = some t ∧ Z.vm.assignable c t = false := by
  obtain ⟨c, t, h0, g0, n3⟩ := N
  obtain ⟨p, k, kp, h1, h2, h3, h4, h5, -, h7⟩ := Cond.superclass_spec h0 w
  obtain ⟨t', kt, g1, g2, g5, g7, -⟩ := Cond.instantiable_spec wk
  cases g0.symm.trans g1
  rw [Bool.or_eq_false_iff] at g7
  have ne := ids_ne h0 g0 hn
  refine ⟨c, t, h0, g0, ?_⟩
  show Z.vm.assignableAux (255 + 1) c t = false
  simp [Vm.assignableAux, ne, h2, g2, h5, g5, g7.1, Vm.isSubclass, n3]
end Sub
/-- an array of n elements, told by a function -/
def Arf (Z : State) (h : Heap) (a : Addr) (k : ClassId) (ty : FieldType) (n : Nat) (f : Nat → Value) : Prop := ∃ c : Cell, Arr Z h a c ty ∧ c.cls = k ∧ c.slots.size = n ∧ (∀ i, i < n → c.slots[i]? = some (f i)) ∧ ∀ i, i < n → fits ty (f i) = true
section Arf
variable {Z : State} {h h' : Heap} {a b : Addr} {k : ClassId} {ty : FieldType} {n sl : Nat} {f g : Nat → Value} {v : Value} {ws : List Addr} {c : Cell} {j : Int32} {i : Nat}
theorem Arf.lt (F : Arf Z h a k ty n f) : a < h.size := by
  obtain ⟨c, A, -⟩ := F
  exact A.lt
theorem Arf.ext (F : Arf Z h a k ty n f) (E : Ext h h') : Arf Z h' a k ty n f := by
  obtain ⟨c, A, r⟩ := F
  exact ⟨c, A.ext E, r⟩
theorem Arf.other (F : Arf Z h b k ty n f) (W : Wr h h' a sl v) (q : b ≠ a) : Arf Z h' b k ty n f := by
  obtain ⟨c, A, r⟩ := F
  exact ⟨c, A.other W q, r⟩
theorem Arf.keep (F : Arf Z h a k ty n f) (K : Keep h h' ws) (q : a ∉ ws) : Arf Z h' a k ty n f := by
  obtain ⟨c, A, r⟩ := F
  exact ⟨c, ⟨K.2.1 a c A.1 q, A.2⟩, r⟩
theorem Arf.congr (F : Arf Z h a k ty n f) (q : ∀ i, i < n → g i = f i) : Arf Z h a k ty n g := by
  obtain ⟨c, A, r1, r2, H, G⟩ := F
  exact ⟨c, A, r1, r2, fun i hi => by rw [q i hi]; exact H i hi, fun i hi => by rw [q i hi]; exact G i hi⟩
theorem Arf.set (A : Arr Z h a c ty) (q1 : c.cls = k) (S : c.slots.size = n) (H : ∀ i, i < n → c.slots[i]? = some (f i)) (G : ∀ i, i < n → fits ty (f i) = true) (hv : fits ty v = true) (W : Wr h h' a i v) (hi : i < n) : Arf Z h' a k ty n (fun x => if x = i then v else f x) := by
  refine ⟨c.setSlot i v, A.same W, q1, by rw [sz_set]; exact S, fun x hx => ?_, fun x hx => ?_⟩
  · show (c.setSlot i v).slots[x]? = some (if x = i then v else f x)
    by_cases e : x = i
    · subst e
      simp [Cell.setSlot, S, hx]
    · rw [if_neg e, ← H x hx]
      exact Cell.slots_setSlot_ne v (Ne.symm e)
  · by_cases e : x = i
    · simp [e, hv]
    · simp [e, G x hx]
theorem Arv.arf {z : Int32} {vs : List Value} {d : Value} (F : Arv Z h a k ty z vs d) (hz : z.toNatClampNeg = n) : Arf Z h a k ty n (fun i => vs.getD i d) := by
  obtain ⟨c, A, r1, r2, r3, H, G⟩ := F
  exact ⟨c, A, r1, by rw [r2, hz], fun i hi => H i (by rw [r2, hz]; exact hi), fun i hi => G i (by rw [r2, hz]; exact hi)⟩
theorem arf_in (S : c.slots.size = n) (hk : j.toInt = i) (hn : i < n) : ¬ (j < 0 ∨ c.slots.size ≤ j.toNatClampNeg) := by
  simp only [Int32.lt_iff_toInt_lt, Int32.toNatClampNeg, Int32.reduceToInt, S, hk]
  omega
theorem arf_at (H : ∀ i, i < n → c.slots[i]? = some (f i)) (hk : j.toInt = i) (hn : i < n) : c.slots[j.toNatClampNeg]? = some (f i) := by
  have e : j.toNatClampNeg = i := by simp only [Int32.toNatClampNeg, hk]; omega
  rw [e]
  exact H i hn
theorem arf_ix (hk : j.toInt = i) : j.toNatClampNeg = i := by simp only [Int32.toNatClampNeg, hk]; omega
theorem arf_len {z : Int32} (S : c.slots.size = n) (hz : z.toInt = n) : c.slots.size.toInt32 = z := by
  rw [S]
  have h1 := Int32.toInt_lt z
  exact Int32.toInt_inj.mp (by rw [len_toInt (by omega)]; exact hz.symm)
theorem Arf.one (F : Arf Z h a k ty n f) (hi : i < n) : fits ty (f i) = true := by
  obtain ⟨c, A, r1, r2, H, G⟩ := F
  exact G i hi
theorem Arf.new {z : Int32} (A : Arr Z h a (newA k ty z) ty) (q : ¬ z < 0) (hz : z.toNatClampNeg = n) : Arf Z h a k ty n (fun _ => defaultValue ty) := (Arv.arf (Arv.new A q) hz).congr fun i _ => by simp
theorem cloneF {p : Program} {l : Launch} {e : Env} {R : Room} {s : State} {m : MethodId} {args : Array Value} {below : List Frame} {meth : Method} {c : Code} {T : State} {locs : List Loc} {cells slots : Nat} (X : Stand p l e R s m args below meth c T locs cells slots) (hx : p.tables.exec = Jvm.exec) (hZ : Z.Warmed39 s.vm) {a0 : Array Value} {own ad : String} {index : Nat} (hown : s.vm.findClass own = some m.cls)
    (w1 : (Cond.methodLink own index ⟨ad, "clone", "()Ljava/lang/Object;"⟩).before a0 Z = true) (w2 : (Cond.sameMethod ad "java/lang/Object" "clone" "()Ljava/lang/Object;").before a0 Z = true) (w3 : (Cond.native ⟨"java/lang/Object", "clone", "()Ljava/lang/Object;"⟩).before a0 Z = true)
    (w4 : (Cond.instanceMethod ⟨"java/lang/Object", "clone", "()Ljava/lang/Object;"⟩).before a0 Z = true) (w5 : (Cond.selects ad ⟨ad, "clone", "()Ljava/lang/Object;"⟩ ⟨"java/lang/Object", "clone", "()Ljava/lang/Object;"⟩).before a0 Z = true) (w6 : (Cond.castable ad "java/lang/Cloneable").before a0 Z = true)
    (eT : T.heap = h) (F : Arf Z h a k ty n f) (E : Exa Z h a ad) {g : JFrame} (hg : g.method = m) (hsize : g.locals.size = c.maxLocals) {rest : List Value} (hst : g.stack = .ref a :: rest) (hd : decode c.code g.pc = .ok (.invokevirtual index, 3))
    (hf : 1 ≤ R.frames) {W cap : Nat} (hW : 2 * g.monitorRoom + (rest.map fun v => v.category).sum ≤ W) (hl : W + 14 ≤ R.locals) (hcap : n ≤ cap) (hc : cells + 1 ≤ R.cells) (hsl : slots + cap ≤ R.slots) :
    ∃ T' h', Stand p l e R s m args below meth c T' locs (cells + 1) (slots + cap) ∧ T'.heap = h' ∧ Ext h h' ∧ Arf Z h' h.size k ty n f ∧ Exa Z h' h.size ad ∧
      ∀ target, Steps p.tables e below (T'.setTop { g with pc := g.pc + 3, stack := .ref h.size :: rest }) target → Steps p.tables e below (T.setTop g) target := by
  obtain ⟨cl, A, q1, S, H, G⟩ := F
  have FC : FitC Z cl := fitC_of A fun i hi v hv => by rw [H i (S ▸ hi)] at hv; cases hv; exact G i (S ▸ hi)
  obtain ⟨T', h', X', e', ex, A', E', st⟩ := cloneA X hx hZ hown w1 w2 w3 w4 w5 w6 eT A E FC hg hsize hst hd hf hW hl (by rw [S]; exact hcap) hc hsl
  exact ⟨T', h', X', e', ex, ⟨cloneOf cl, A', q1, S, H, G⟩, E', st⟩
end Arf
theorem and1_cases (x : Int32) : x &&& (1 : Int32) = (0 : Int32) ∨ x &&& (1 : Int32) = (1 : Int32) := and_one x
theorem and3_cases (x : Int32) : x &&& (3 : Int32) = (0 : Int32) ∨ x &&& (3 : Int32) = (1 : Int32) ∨ x &&& (3 : Int32) = (2 : Int32) ∨ x &&& (3 : Int32) = (3 : Int32) := by
  have h := c_mask x 3 2 (by decide) (by decide)
  simp only [← Int32.toInt_inj]
  have : (0 : Int32).toInt = 0 := by decide
  have : (1 : Int32).toInt = 1 := by decide
  have : (2 : Int32).toInt = 2 := by decide
  have : (3 : Int32).toInt = 3 := by decide
  omega
end Jvm.OwnKit
namespace Jvm.OwnFl
open Jvm.FP.Core
theorem b_qmin : b64.qmin = -1074 := by decide
theorem b_qmax : b64.qmax = 971 := by decide
theorem b_tails : b64.tails = 4503599627370496 := by decide
theorem b_p : b64.p = 53 := rfl
theorem l2d_val {x : Int64} {a : Nat} (hx : x.toInt = (a : Int)) (ha : a < 2 ^ 53) : ∃ c q, val64 (l2d x) = Datum.fin false c q ∧ inUnits c q b64.qmin = inUnits a 0 b64.qmin := by
  rw [val64_l2d]
  have e : ofInt x.toInt = Datum.fin false a 0 := by
    unfold ofInt
    rw [hx]
    have : decide ((a : Int) < 0) = false := decide_eq_false (by omega)
    rw [this]
    rfl
  rw [e]
  exact round_exact good_b64 false ha (by rw [b_qmin]; omega) (by rw [b_qmax]; omega)
theorem qm_of {a : UInt64} {c : Nat} {q : Int} (h : val64 a = Datum.fin false c q) : b64.qmin ≤ q := by
  have := val64_fits a
  rw [h] at this
  exact this.2.1
theorem ratio {x y : Int64} {a b : Nat} (hx : x.toInt = (a : Int)) (hy : y.toInt = (b : Int)) (ha : a < 2 ^ 53) (hb : b < 2 ^ 53) (hb0 : 0 < b) : val64 (ddiv (l2d x) (l2d y)) = roundRatio b64 false a b 0 := by
  obtain ⟨c, q, h1, h2⟩ := l2d_val hx ha
  obtain ⟨d, r, h3, h4⟩ := l2d_val hy hb
  have q1 := qm_of h1
  have q2 := qm_of h3
  rw [val64_ddiv, h1, h3]
  unfold inUnits at h2 h4
  have hd : d ≠ 0 := by
    intro e
    rw [e, Nat.zero_mul] at h4
    have := Nat.mul_pos hb0 (Nat.two_pow_pos (0 - b64.qmin).toNat)
    omega
  show (if d = 0 then _ else roundRatio b64 (false != false) c d (q - r)) = _
  rw [if_neg hd]
  apply roundRatio_congr (Nat.pos_of_ne_zero hd) hb0
  -- c * b * 2^(q-r-0) = a * d * 2^(0-(q-r))
  generalize b64.qmin = m at *
  have p1 : 0 < 2 ^ (0 - m).toNat := Nat.two_pow_pos _
  have key : c * b * 2 ^ (q - m).toNat = a * d * 2 ^ (r - m).toNat := by
    have e1 : c * 2 ^ (q - m).toNat * (b * 2 ^ (0 - m).toNat) = a * 2 ^ (0 - m).toNat * (d * 2 ^ (r - m).toNat) := by rw [h2, h4]
    have e2 : (c * b * 2 ^ (q - m).toNat) * 2 ^ (0 - m).toNat = (a * d * 2 ^ (r - m).toNat) * 2 ^ (0 - m).toNat := by
      calc (c * b * 2 ^ (q - m).toNat) * 2 ^ (0 - m).toNat = c * 2 ^ (q - m).toNat * (b * 2 ^ (0 - m).toNat) := by ac_rfl
        _ = a * 2 ^ (0 - m).toNat * (d * 2 ^ (r - m).toNat) := e1
        _ = (a * d * 2 ^ (r - m).toNat) * 2 ^ (0 - m).toNat := by ac_rfl
    exact Nat.eq_of_mul_eq_mul_right p1 e2
  by_cases hqr : r ≤ q
  · have s1 : (q - m).toNat = (q - r).toNat + (r - m).toNat := by omega
    rw [s1, Nat.pow_add] at key
    have p2 : 0 < 2 ^ (r - m).toNat := Nat.two_pow_pos _
    have e3 : (c * b * 2 ^ (q - r).toNat) * 2 ^ (r - m).toNat = (a * d) * 2 ^ (r - m).toNat := by rw [← key]; ac_rfl
    have e4 := Nat.eq_of_mul_eq_mul_right p2 e3
    rw [show (q - r - 0).toNat = (q - r).toNat by omega, show (0 - (q - r)).toNat = 0 by omega, e4]
    simp
  · have s1 : (r - m).toNat = (r - q).toNat + (q - m).toNat := by omega
    rw [s1, Nat.pow_add] at key
    have p2 : 0 < 2 ^ (q - m).toNat := Nat.two_pow_pos _
    have e3 : (c * b) * 2 ^ (q - m).toNat = (a * d * 2 ^ (r - q).toNat) * 2 ^ (q - m).toNat := by rw [key]; ac_rfl
    have e4 := Nat.eq_of_mul_eq_mul_right p2 e3
    rw [show (q - r - 0).toNat = 0 by omega, show (0 - (q - r)).toNat = (r - q).toNat by omega, ← e4]
    simp

theorem below_iff {A B : Nat} {k : Int} : Below A B k ↔ A * 2 ^ (-k).toNat < B * 2 ^ k.toNat := by
  unfold Below
  constructor
  · intro h; exact h
  · intro h; exact h
theorem lead {a b : Nat} (ha : 0 < a) (hab : a < b) (hb : b ≤ a * 16) : -5 < leading a b ∧ leading a b < 0 := by
  have hb0 : 0 < b := by omega
  obtain ⟨h1, h2⟩ := leading_spec ha hb0
  have n1 : ¬ Below a b (-4) := by
    rw [below_iff, show (-(-4 : Int)).toNat = 4 from rfl, show (-4 : Int).toNat = 0 from rfl]
    omega
  have n2 : Below a b 0 := by
    rw [below_iff]
    simpa using hab
  have l1 := lt_of_below n1 h2
  have l2 := lt_of_below h1 n2
  omega
/-- rounding commutes with scaling by 8 -/
theorem scale {a b : Nat} (ha : 0 < a) (hab : a < b) (hb : b ≤ a * 16) : ∃ c q, roundRatio b64 false a b 0 = Datum.fin false c q ∧ roundRatio b64 false (8 * a) b 0 = Datum.fin false c (q + 3) ∧ -60 < q ∧ q < 10 := by
  have hb0 : 0 < b := by omega
  obtain ⟨l1, l2⟩ := lead ha hab hb
  have e3 : roundRatio b64 false (8 * a) b 0 = roundRatio b64 false a b 3 := roundRatio_congr hb0 hb0 (by
    rw [show ((0 : Int) - 3).toNat = 0 from rfl, show ((3 : Int) - 0).toNat = 3 from rfl, Nat.pow_zero, Nat.mul_one, Nat.mul_assoc, Nat.mul_comm 8])
  have k0 : quantum b64 a b 0 = leading a b - 52 := by
    unfold quantum
    rw [b_qmin, b_p]
    omega
  have k3 : quantum b64 a b 3 = leading a b - 52 + 3 := by
    unfold quantum
    rw [b_qmin, b_p]
    omega
  rw [e3]
  unfold roundRatio
  rw [if_neg (by omega), if_neg (by omega), k0, k3]
  generalize leading a b = L at *
  unfold roundAt
  have u1 : unitsNum a 3 (L - 52 + 3) = unitsNum a 0 (L - 52) := by
    unfold unitsNum
    rw [show (3 - (L - 52 + 3)).toNat = (0 - (L - 52)).toNat by omega]
  have u2 : unitsDen b 3 (L - 52 + 3) = unitsDen b 0 (L - 52) := by
    unfold unitsDen
    rw [show (L - 52 + 3 - 3).toNat = (L - 52 - 0).toNat by omega]
  rw [u1, u2]
  generalize nearest (unitsNum a 0 (L - 52)) (unitsDen b 0 (L - 52)) = n
  unfold settle bound
  rw [b_qmax]
  by_cases hn : n < 2 ^ b64.p
  · rw [if_pos hn, if_pos hn, if_pos (by omega), if_pos (by omega)]
    exact ⟨_, _, rfl, rfl, by omega, by omega⟩
  · rw [if_neg hn, if_neg hn, if_pos (by omega), if_pos (by omega)]
    exact ⟨_, _, rfl, by rw [show L - 52 + 3 + 1 = L - 52 + 1 + 3 by omega], by omega, by omega⟩
theorem v8 : val64 (4620693217682128896 : UInt64) = Datum.fin false (2 ^ 52) (-49) := by decide +kernel
/-- 8 times the quotient, rounded twice, is the quotient of 8 times the dividend, rounded once -/
theorem same8 {x8 x y : Int64} {a b : Nat} (h8 : x8.toInt = ((8 * a : Nat) : Int)) (hx : x.toInt = (a : Int)) (hy : y.toInt = (b : Int)) (ha : 0 < a) (hab : a < b) (hb : b ≤ a * 16) (hs : b < 2 ^ 40) :
    ddiv (l2d x8) (l2d y) = dmul (4620693217682128896 : UInt64) (ddiv (l2d x) (l2d y)) := by
  obtain ⟨c, q, r1, r2, q1, q2⟩ := scale ha hab hb
  have f1 : FP.Core.fits b64 (Datum.fin false c q) := r1 ▸ roundRatio_fits good_b64 false a (by omega) 0
  obtain ⟨f2, f3, f4, f5⟩ := f1
  have f6 : b64.tails ≤ c := by
    rcases f5 with f5 | f5
    · rw [b_qmin] at f5
      omega
    · exact f5
  have w1 : val64 (ddiv (l2d x8) (l2d y)) = Datum.fin false c (q + 3) := by
    rw [ratio h8 hy (by omega) (by omega) (by omega)]
    exact r2
  apply val64_inj (by rw [w1]; exact Datum.noConfusion)
  rw [w1, val64_dmul, v8, ratio hx hy (by omega) (by omega) (by omega), r1]
  show _ = round b64 (Datum.fin (false != false) (2 ^ 52 * c) (-49 + q))
  symm
  show roundRatio b64 false (2 ^ 52 * c) 1 (-49 + q) = _
  apply roundRatio_exact good_b64 (by decide) ⟨f2, by rw [b_qmin]; omega, by rw [b_qmax]; omega, Or.inr f6⟩
  rw [show (-49 + q - (q + 3)).toNat = 0 by omega, show (q + 3 - (-49 + q)).toNat = 52 by omega]
  omega

theorem zmag_fin (s : Bool) (c : Nat) (q : Int) : zmag b64 (Datum.fin s c q) = inUnits c q b64.qmin := rfl
theorem rr_fin {a b : Nat} (hb : 0 < b) (hs : a < 2 ^ 60) : ∃ c q, roundRatio b64 false a b 0 = Datum.fin false c q := by
  rcases roundRatio_cases b64 false a b 0 with h | h
  · exact h
  · exfalso
    have h1 := zmag_roundRatio_le good_b64 (s := false) (A := a) (B := b) (e := 0) (e0 := b64.qmin) (V := Datum.fin false (2 ^ 52) 100) hb ⟨by decide, by decide, by decide, Or.inr (by decide)⟩ Datum.noConfusion (Int.le_refl _) (by decide) (by
      rw [zmag_fin]
      unfold inUnits
      rw [b_qmin, show ((-1074 : Int) - -1074).toNat = 0 from rfl, show ((0 : Int) - -1074).toNat = 1074 from rfl, show ((100 : Int) - -1074).toNat = 100 + 1074 from rfl, Nat.pow_add, Nat.pow_zero, Nat.mul_one]
      calc a * 2 ^ 1074 ≤ (2 ^ 52 * 2 ^ 100) * 2 ^ 1074 := Nat.mul_le_mul_right _ (by omega)
        _ = 2 ^ 52 * (2 ^ 100 * 2 ^ 1074) := Nat.mul_assoc ..
        _ ≤ 2 ^ 52 * (2 ^ 100 * 2 ^ 1074) * b := Nat.le_mul_of_pos_right _ hb)
    rw [h] at h1
    revert h1
    decide +kernel
/-- rounding is monotone -/
theorem mono {a b a' b' : Nat} (hb : 0 < b) (hb' : 0 < b') (hs : a < 2 ^ 60) (hs' : a' < 2 ^ 60) (h : a * b' ≤ a' * b) : zmag b64 (roundRatio b64 false a b 0) ≤ zmag b64 (roundRatio b64 false a' b' 0) := by
  rcases Nat.lt_or_eq_of_le h with h | h
  rotate_left
  · rw [roundRatio_congr (f := b64) (s := false) (e := 0) (e' := 0) hb hb' (by rw [h])]
    exact Nat.le_refl _
  obtain ⟨c, q, e1⟩ := rr_fin hb hs
  obtain ⟨c', q', e2⟩ := rr_fin hb' hs'
  have f1 : FP.Core.fits b64 (Datum.fin false c q) := e1 ▸ roundRatio_fits good_b64 false a hb 0
  have f2 : FP.Core.fits b64 (Datum.fin false c' q') := e2 ▸ roundRatio_fits good_b64 false a' hb' 0
  have n1 := roundRatio_nearest good_b64 (e0 := b64.qmin) hb e1 (c' := c') (q' := q') f2.1 f2.2.1 (Int.le_refl _) (by decide)
  have n2 := roundRatio_nearest good_b64 (e0 := b64.qmin) hb' e2 (c' := c) (q' := q) f1.1 f1.2.1 (Int.le_refl _) (by decide)
  have m1 := zmag_roundRatio_le good_b64 (s := false) (A := a) (B := b) (e := 0) (e0 := b64.qmin) (V := Datum.fin false c' q') hb f2 Datum.noConfusion (Int.le_refl _) (by decide)
  have m2 := zmag_roundRatio_ge good_b64 (s := false) (A := a') (B := b') (e := 0) (e0 := b64.qmin) (V := Datum.fin false c q) hb' f1 (Int.le_refl _) (by decide)
  rw [e1] at m1
  rw [e2] at m2
  rw [e1, e2]
  change inUnits a 0 b64.qmin ≤ inUnits c' q' b64.qmin * 2 ^ (b64.qmin - b64.qmin).toNat * b → inUnits c q b64.qmin ≤ inUnits c' q' b64.qmin at m1
  change inUnits c q b64.qmin * 2 ^ (b64.qmin - b64.qmin).toNat * b' ≤ inUnits a' 0 b64.qmin → inUnits c q b64.qmin ≤ inUnits c' q' b64.qmin at m2
  show inUnits c q b64.qmin ≤ inUnits c' q' b64.qmin
  unfold distance at n1 n2
  rw [show (b64.qmin - b64.qmin).toNat = 0 from rfl, Nat.pow_zero, Nat.mul_one] at m1 m2
  have hx : inUnits a 0 b64.qmin * b' < inUnits a' 0 b64.qmin * b := by
    unfold inUnits
    have hK : 0 < 2 ^ (0 - b64.qmin).toNat := Nat.two_pow_pos _
    generalize 2 ^ (0 - b64.qmin).toNat = K at hK
    calc a * K * b' = (a * b') * K := by ac_rfl
      _ < (a' * b) * K := Nat.mul_lt_mul_of_pos_right h hK
      _ = a' * K * b := by ac_rfl
  generalize inUnits a 0 b64.qmin = X at *
  generalize inUnits a' 0 b64.qmin = X' at *
  generalize inUnits c q b64.qmin = R at *
  generalize inUnits c' q' b64.qmin = R' at *
  apply Nat.le_of_not_lt
  intro hlt
  have g1 : R' * b < X := Nat.lt_of_not_le fun q => absurd (m1 q) (Nat.not_le_of_lt hlt)
  have g2 : X' < R * b' := Nat.lt_of_not_le fun q => absurd (m2 q) (Nat.not_le_of_lt hlt)
  have g3 : X ≤ R * b := by
    apply Nat.le_of_not_lt
    intro hh
    have : R * b * b' < X * b' := Nat.mul_lt_mul_of_pos_right hh hb'
    have : X' * b < R * b' * b := Nat.mul_lt_mul_of_pos_right g2 hb
    have : R * b' * b = R * b * b' := by ac_rfl
    omega
  have g4 : R' * b' ≤ X' := by
    apply Nat.le_of_not_lt
    intro hh
    have : X' * b < R' * b' * b := Nat.mul_lt_mul_of_pos_right hh hb
    have : R' * b * b' < X * b' := Nat.mul_lt_mul_of_pos_right g1 hb'
    have : R' * b' * b = R' * b * b' := by ac_rfl
    omega
  have n1' : R * b + R' * b ≤ 2 * X := by
    have t1 : ((R * b : Nat) : Int) = (R : Int) * (b : Int) := Int.natCast_mul ..
    have t2 : ((R' * b : Nat) : Int) = (R' : Int) * (b : Int) := Int.natCast_mul ..
    rw [← t1, ← t2] at n1
    omega
  have n2' : 2 * X' ≤ R * b' + R' * b' := by
    have t1 : ((R * b' : Nat) : Int) = (R : Int) * (b' : Int) := Int.natCast_mul ..
    have t2 : ((R' * b' : Nat) : Int) = (R' : Int) * (b' : Int) := Int.natCast_mul ..
    rw [← t1, ← t2] at n2
    omega
  have k1 : (R * b + R' * b) * b' ≤ 2 * X * b' := Nat.mul_le_mul_right _ n1'
  have k2 : 2 * X' * b ≤ (R * b' + R' * b') * b := Nat.mul_le_mul_right _ n2'
  have k3 : (R * b + R' * b) * b' = (R * b' + R' * b') * b := by
    rw [Nat.add_mul, Nat.add_mul]
    congr 1 <;> ac_rfl
  have : 2 * X' * b = 2 * (X' * b) := Nat.mul_assoc ..
  have : 2 * X * b' = 2 * (X * b') := Nat.mul_assoc ..
  omega
/-- the quotient of 8 a by b is below 8 where b is greater than a -/
theorem below8 {a b : Nat} (hab : a + 10 ≤ b) (hs : b < 2 ^ 40) : zmag b64 (roundRatio b64 false (8 * a) b 0) < 2 ^ 53 * 2 ^ 1024 := by
  have h1 := zmag_roundRatio_le good_b64 (s := false) (A := 8 * a) (B := b) (e := 0) (e0 := b64.qmin) (V := Datum.fin false (2 ^ 53 - 1) (-50)) (by omega) ⟨by decide, by decide, by decide, Or.inr (by decide)⟩ Datum.noConfusion (Int.le_refl _) (by decide) (by
    rw [zmag_fin]
    unfold inUnits
    rw [b_qmin, show ((-1074 : Int) - -1074).toNat = 0 from rfl, show ((0 : Int) - -1074).toNat = 50 + 1024 from rfl, show ((-50 : Int) - -1074).toNat = 1024 from rfl, Nat.pow_add, Nat.pow_zero, Nat.mul_one]
    have hk : 8 * a * 2 ^ 50 ≤ (2 ^ 53 - 1) * b := by omega
    generalize 2 ^ 1024 = K
    calc 8 * a * (2 ^ 50 * K) = 8 * a * 2 ^ 50 * K := (Nat.mul_assoc ..).symm
      _ ≤ (2 ^ 53 - 1) * b * K := Nat.mul_le_mul_right _ hk
      _ = (2 ^ 53 - 1) * K * b := by rw [Nat.mul_assoc, Nat.mul_comm b, ← Nat.mul_assoc])
  have h2 : zmag b64 (Datum.fin false (2 ^ 53 - 1) (-50)) = (2 ^ 53 - 1) * 2 ^ 1024 := by
    rw [zmag_fin]
    unfold inUnits
    rw [b_qmin, show ((-50 : Int) - -1074).toNat = 1024 from rfl]
  rw [h2] at h1
  have hK : 0 < 2 ^ 1024 := Nat.two_pow_pos _
  generalize 2 ^ 1024 = K at *
  omega
end Jvm.OwnFl
namespace Jvm.Pilot.@@N@@
open Jvm Jvm.ClassFile Sem Op Lib Jvm.Free Jvm.Stand Jvm.LawKit Jvm.RoadKit Jvm.OwnKit Bundle Jvm.Pilot.@@N@@.Jvm.D
theorem own_somei {x y : Int32} (h : x = y) : some (Value.int x) = some (Value.int y) := by rw [h]
def own_min (a b : Int32) : Int32 := if b < a then b else a
def own_max (a b : Int32) : Int32 := if a < b then b else a
def own_named (k : Int32) : UInt64 := FP.ddiv (FP.dmul (4620693217682128896 : UInt64) (FP.i2d k)) (FP.dadd (FP.i2d k) (4621819117588971520 : UInt64))
def own_ref (k : Int32) : UInt64 := FP.dmul (4620693217682128896 : UInt64) (FP.ddiv (FP.i2d k) (FP.dadd (FP.i2d k) (4621819117588971520 : UInt64)))
theorem own_msk {x pp : Int32} (h : pp = (x &&& (2147483647 : Int32))) : ¬ pp < 0 := by
  have q := c_mask x 2147483647 31 (by decide) (by decide)
  rw [h, Int32.lt_iff_toInt_lt, show (0 : Int32).toInt = 0 from rfl]
  omega
theorem own_min_nn {a b : Int32} (ha : ¬ a < 0) (hb : ¬ b < 0) : ¬ own_min a b < 0 := by
  unfold own_min
  split
  · exact hb
  · exact ha
theorem own_max_nn {a b : Int32} (ha : ¬ a < 0) (hb : ¬ b < 0) : ¬ own_max a b < 0 := by
  unfold own_max
  split
  · exact hb
  · exact ha
/-- a number that isn't negative, as a natural one -/
theorem own_nat {k : Int32} (h : ¬ k < 0) : ∃ a : Nat, k.toInt64.toInt = (a : Int) ∧ k.toInt = (a : Int) ∧ a < 2147483648 := by
  rw [Int32.lt_iff_toInt_lt, show (0 : Int32).toInt = 0 from rfl] at h
  have := Int32.toInt_lt k
  have e : k.toInt64.toInt = k.toInt := Int32.toInt_toInt64 k
  exact ⟨k.toInt.toNat, by omega, by omega, by omega⟩
theorem own_c8 : (4620693217682128896 : UInt64) = FP.l2d 8 := by decide +kernel
theorem own_c10 : (4621819117588971520 : UInt64) = FP.l2d 10 := by decide +kernel
theorem own_add10 {k : Int32} (h : ¬ k < 0) : FP.dadd (FP.i2d k) (4621819117588971520 : UInt64) = FP.l2d (k.toInt64 + 10) ∧ ∃ a : Nat, k.toInt = (a : Int) ∧ a < 2147483648 ∧ (k.toInt64 + 10).toInt = ((a + 10 : Nat) : Int) := by
  obtain ⟨a, h1, h2, h3⟩ := own_nat h
  have e10 : (10 : Int64).toInt = 10 := by decide
  refine ⟨?_, a, h2, h3, ?_⟩
  · rw [own_c10, RoadKit.i2d_w, RoadKit.dadd_w]
    · exact ⟨by omega, by omega⟩
    · exact ⟨by omega, by omega⟩
  · rw [Int64.toInt_add, Int.bmod_def]
    omega
theorem own_mul8 {k : Int32} (h : ¬ k < 0) : FP.dmul (4620693217682128896 : UInt64) (FP.i2d k) = FP.l2d (8 * k.toInt64) ∧ ∃ a : Nat, k.toInt = (a : Int) ∧ (8 * k.toInt64).toInt = ((8 * a : Nat) : Int) := by
  obtain ⟨a, h1, h2, h3⟩ := own_nat h
  have e8 : (8 : Int64).toInt = 8 := by decide
  have e : (8 * k.toInt64).toInt = ((8 * a : Nat) : Int) := by
    rw [Int64.toInt_mul, Int.bmod_def, e8, h1]
    omega
  refine ⟨?_, a, h2, e⟩
  by_cases hz : k = 0
  · subst hz
    decide +kernel
  · rw [own_c8, RoadKit.i2d_w, RoadKit.dmul_w]
    · exact ⟨by omega, by omega⟩
    · exact ⟨by omega, by omega⟩
    · decide
    · intro q
      apply hz
      apply Int32.toInt_inj.mp
      rw [q, show (0 : Int64).toInt = 0 from rfl] at h1
      rw [h2, show (0 : Int32).toInt = 0 from rfl]
      omega
    · rw [e8, h1]; omega
    · rw [e8, h1]; omega
open Jvm.FP.Core in
theorem own_val {k : Int32} (h : ¬ k < 0) : ∃ a : Nat, k.toInt = (a : Int) ∧ a < 2147483648 ∧ val64 (own_named k) = roundRatio b64 false (8 * a) (a + 10) 0 := by
  obtain ⟨e1, a, h1, h2, h3⟩ := own_add10 h
  obtain ⟨e2, a', h4, h5⟩ := own_mul8 h
  obtain rfl : a' = a := by omega
  refine ⟨a', h1, h2, ?_⟩
  unfold own_named
  rw [e1, e2]
  exact Jvm.OwnFl.ratio h5 h3 (by omega) (by omega) (by omega)
open Jvm.FP.Core in
theorem own_valx {k : Int32} (h : ¬ k < 0) : ∃ a : Nat, k.toInt = (a : Int) ∧ a < 2147483648 ∧ val64 (FP.ddiv (FP.i2d k) (FP.dadd (FP.i2d k) (4621819117588971520 : UInt64))) = roundRatio b64 false a (a + 10) 0 := by
  obtain ⟨e1, a, h1, h2, h3⟩ := own_add10 h
  obtain ⟨a', h4, h5, -⟩ := own_nat h
  obtain rfl : a' = a := by omega
  refine ⟨a', h1, h2, ?_⟩
  rw [e1, RoadKit.i2d_w]
  exact Jvm.OwnFl.ratio h4 h3 (by omega) (by omega) (by omega)
theorem own_nn8 {k : Int32} (h : ¬ k < 0) : Jvm.Free.Fl.NoNaN64 (FP.dmul (4620693217682128896 : UInt64) (FP.i2d k)) := by
  rw [(own_mul8 h).1]
  exact (Jvm.Free.Fl.l2d_fin _).noNaN
theorem own_nn10 {k : Int32} (h : ¬ k < 0) : Jvm.Free.Fl.NoNaN64 (FP.dadd (FP.i2d k) (4621819117588971520 : UInt64)) := by
  rw [(own_add10 h).1]
  exact (Jvm.Free.Fl.l2d_fin _).noNaN
open Jvm.FP.Core in
theorem own_nonan {x : UInt64} {a b : Nat} (h : val64 x = roundRatio b64 false a b 0) : Jvm.Free.Fl.NoNaN64 x := by
  rw [Jvm.Free.Fl.noNaN64_no, notNaN_iff, h]
  exact roundRatio_ne_nan _ _ _ _ _
theorem own_nnd {k : Int32} (h : ¬ k < 0) : Jvm.Free.Fl.NoNaN64 (FP.ddiv (FP.dmul (4620693217682128896 : UInt64) (FP.i2d k)) (FP.dadd (FP.i2d k) (4621819117588971520 : UInt64))) := by
  obtain ⟨a, -, -, h1⟩ := own_val h
  exact own_nonan h1
theorem own_nnx {k : Int32} (h : ¬ k < 0) : Jvm.Free.Fl.NoNaN64 (FP.ddiv (FP.i2d k) (FP.dadd (FP.i2d k) (4621819117588971520 : UInt64))) := by
  obtain ⟨a, -, -, h1⟩ := own_valx h
  exact own_nonan h1
theorem own_same {k : Int32} (h : ¬ k < 0) : own_named k = own_ref k := by
  by_cases hz : k = 0
  · subst hz
    decide +kernel
  · obtain ⟨e1, a, h1, h2, h3⟩ := own_add10 h
    obtain ⟨e2, a', h4, h5⟩ := own_mul8 h
    obtain ⟨a'', h6, h7, -⟩ := own_nat h
    obtain rfl : a' = a := by omega
    obtain rfl : a'' = a' := by omega
    have ha : 0 < a'' := by
      apply Nat.pos_of_ne_zero
      intro q
      apply hz
      apply Int32.toInt_inj.mp
      rw [h1, q]
      rfl
    unfold own_named own_ref
    rw [e1, e2, RoadKit.i2d_w]
    exact Jvm.OwnFl.same8 h5 h6 h3 ha (by omega) (by omega) (by omega)
theorem own_nnr {k : Int32} (h : ¬ k < 0) : Jvm.Free.Fl.NoNaN64 (FP.dmul (4620693217682128896 : UInt64) (FP.ddiv (FP.i2d k) (FP.dadd (FP.i2d k) (4621819117588971520 : UInt64)))) := by
  have q := own_nnd h
  have e := own_same h
  unfold own_named own_ref at e
  rwa [e] at q
theorem own_eq {k : Int32} (h : ¬ k < 0) : cmpValue (FP.dcmp (own_named k) (own_ref k)) .l = 0 := RoadKit.dcmpV_eq (own_same h) (own_nnd h) _
open Jvm.FP.Core in
theorem own_ord {x y : UInt64} (nx : val64 x ≠ Datum.nan) (ny : val64 y ≠ Datum.nan) : FP.dcmp x y = some (compare (zval b64 (val64 x)) (zval b64 (val64 y))) := order_zval good_b64 (val64_fits x) (val64_fits y) nx ny
open Jvm.FP.Core in
theorem own_zv {x : UInt64} {a b : Nat} (h : val64 x = roundRatio b64 false a b 0) : zval b64 (val64 x) = (zmag b64 (val64 x) : Int) := by
  unfold zval
  rw [h, sgn_roundRatio]
  rfl
theorem own_cle {x y : Int} (h : x ≤ y) : ¬ 0 < cmpValue (some (compare x y)) .g := by
  rcases Int.lt_or_eq_of_le h with h | h
  · rw [show compare x y = .lt from Int.compare_eq_lt.mpr h]
    decide
  · rw [show compare x y = .eq from Int.compare_eq_eq.mpr h]
    decide
theorem own_clt {x y : Int} (h : x < y) : cmpValue (some (compare x y)) .g < 0 := by
  rw [show compare x y = .lt from Int.compare_eq_lt.mpr h]
  decide
open Jvm.FP.Core in
theorem own_v0 : val64 (0 : UInt64) = Datum.fin false 0 (-1074) := by decide +kernel
open Jvm.FP.Core in
theorem own_ge0 {k : Int32} (h : ¬ k < 0) : ¬ 0 < cmpValue (FP.dcmp (0 : UInt64) (own_named k)) .g := by
  obtain ⟨a, -, -, h1⟩ := own_val h
  rw [own_ord (by rw [own_v0]; exact Datum.noConfusion) (by rw [h1]; exact roundRatio_ne_nan _ _ _ _ _)]
  apply own_cle
  rw [own_zv h1, own_v0]
  have : zval b64 (Datum.fin false 0 (-1074)) = 0 := by decide
  omega
open Jvm.FP.Core in
theorem own_lt8 {k : Int32} (h : ¬ k < 0) : cmpValue (FP.dcmp (own_named k) (4620693217682128896 : UInt64)) .g < 0 := by
  obtain ⟨a, -, h2, h1⟩ := own_val h
  have q := Jvm.OwnFl.below8 (a := a) (b := a + 10) (Nat.le_refl _) (by omega)
  rw [own_ord (by rw [h1]; exact roundRatio_ne_nan _ _ _ _ _) (by rw [Jvm.OwnFl.v8]; exact Datum.noConfusion)]
  apply own_clt
  rw [own_zv h1, h1, Jvm.OwnFl.v8]
  have e : zval b64 (Datum.fin false (2 ^ 52) (-49)) = ((2 ^ 53 * 2 ^ 1024 : Nat) : Int) := by decide +kernel
  rw [e]
  exact Int.ofNat_lt.mpr q
open Jvm.FP.Core in
theorem own_mono {p q : Int32} (hp : ¬ p < 0) (hq : ¬ q < 0) : ¬ 0 < cmpValue (FP.dcmp (own_named (own_min p q)) (own_named (own_max p q))) .g := by
  obtain ⟨a, h1, h2, h3⟩ := own_val (own_min_nn hp hq)
  obtain ⟨b, h4, h5, h6⟩ := own_val (own_max_nn hp hq)
  have hab : a ≤ b := by
    unfold own_min at h1
    unfold own_max at h4
    have hc : ∀ x y : Int32, x < y ↔ x.toInt < y.toInt := fun x y => Int32.lt_iff_toInt_lt
    split at h1 <;> split at h4 <;> rename_i c1 c2 <;> rw [hc] at c1 c2 <;> omega
  rw [own_ord (by rw [h3]; exact roundRatio_ne_nan _ _ _ _ _) (by rw [h6]; exact roundRatio_ne_nan _ _ _ _ _)]
  apply own_cle
  rw [own_zv h3, own_zv h6, h3, h6]
  apply Int.ofNat_le.mpr
  apply Jvm.OwnFl.mono (by omega) (by omega) (by omega) (by omega)
  have : 8 * a * (b + 10) = 8 * (a * b) + 80 * a := by rw [Nat.mul_add, Nat.mul_assoc]; omega
  have : 8 * b * (a + 10) = 8 * (a * b) + 80 * b := by rw [Nat.mul_add, Nat.mul_assoc, Nat.mul_comm b a]; omega
  omega
theorem own_at0 : cmpValue (FP.dcmp (own_named (0 : Int32)) (0 : UInt64)) .l = 0 := by decide +kernel
theorem own_at10 : cmpValue (FP.dcmp (own_named (10 : Int32)) (4616189618054758400 : UInt64)) .l = 0 := by decide +kernel
theorem d1_0 : decode jdk_29_method_69_code 0 = .ok (.iload_n 0, 1) := by decide +kernel
theorem d1_1 : decode jdk_29_method_69_code 1 = .ok (.iload_n 1, 1) := by decide +kernel
theorem d1_2 : decode jdk_29_method_69_code 2 = .ok (.if_icmp .gt 7, 3) := by decide +kernel
theorem d1_9 : decode jdk_29_method_69_code 9 = .ok (.iload_n 1, 1) := by decide +kernel
theorem d1_10 : decode jdk_29_method_69_code 10 = .ok (.ireturn, 1) := by decide +kernel
theorem d1_5 : decode jdk_29_method_69_code 5 = .ok (.iload_n 0, 1) := by decide +kernel
theorem d1_6 : decode jdk_29_method_69_code 6 = .ok (.goto 4, 3) := by decide +kernel
theorem ef_rm_min (m : MethodId) (a_ : Int32) (b_ : Int32)  : entryFrame m #[(.int a_), (.int b_)] 2 = mkF m 0 #[.val (.int a_), .val (.int b_)] [] := by first | (simp [entryFrame, mkF, argsToLocals, Value.category]; done) | rfl
def Q_rm_min (Z : State) (a_ : Int32) (b_ : Int32)  (h0 : Heap) (n0 : Nat) (v : Option Value) (h : Heap) (L : List Loc) : Prop := v = some (.int (own_min a_ b_)) ∧ Fr n0 L ∧ h = h0
set_option maxRecDepth 65536 in
set_option maxHeartbeats 40000000 in
theorem rm_min (l : Launch) (Z : State) (a0 : Array Value) (hw : ∀ d ∈ tables_1, d.before a0 Z = true) (ws : List Jvm.Cond) (a_ : Int32) (b_ : Int32)  (h0 : Heap) (n0 : Nat) (O0 : Old Z n0 h0)  :
    MetFree l (⟨"java/lang/Math", "min", "(II)I"⟩ : MethodName) (head1 (Jvm.Cond.code (⟨"java/lang/Math", "min", "(II)I"⟩ : MethodName) jdk_29_method_69_code 2 (some .int) :: ws) ({ frames := 0, cells := 0, slots := 0, locals := 0 } : Room)) (fun args_ U => args_ = #[(.int a_), (.int b_)] ∧ Z.Warmed39 U.vm ∧ U.heap = h0) (fun _ _ _ _ _ => True) (fun _ U out_ U' => ∃ val_ loc_, out_ = .returned val_ ∧ (Q_rm_min Z a_ b_ h0 n0) val_ U'.heap loc_ ∧ FrameEnd U out_ U' loc_ ({ frames := 0, cells := 0, slots := 0, locals := 0 } : Room).cells ({ frames := 0, cells := 0, slots := 0, locals := 0 } : Room).slots) := by
  refine start (Q := (Q_rm_min Z a_ b_ h0 n0)) (Jvm.Free.JP.mathPlain rfl (by decide +kernel)) ?_
  intro p e s m below meth c T0 X0 hx hby hml hown hnm hret hlk hZ e0
  replace hown : s.vm.findClass "java/lang/Math" = some m.cls := hown
  replace hml : c.maxLocals = 2 := hml
  refine goAt (ef_rm_min m a_ b_ ) ?_
  have N0 := Fr.nil n0
  show Go p e below T0 (mkF m 0 #[.val (.int a_), .val (.int b_)] []) _
  refine stp (fun _ => XS.iloadN X0.here hx rfl (hb hby d1_0) rfl) ?_
  show Go p e below T0 (mkF m 1 #[.val (.int a_), .val (.int b_)] [(.int a_)]) _
  refine stp (fun _ => XS.iloadN X0.here hx rfl (hb hby d1_1) rfl) ?_
  show Go p e below T0 (mkF m 2 #[.val (.int a_), .val (.int b_)] [(.int b_), (.int a_)]) _
  by_cases q2_1 : b_ < a_
  · refine stp (fun _ => XS.icmpYes X0.here hx rfl (pc0 := 2) (pc' := 9) rfl (hb hby d1_2) rfl (XT.ii_gt_t q2_1) (by decide) (by decide)) ?_
    show Go p e below T0 (mkF m 9 #[.val (.int a_), .val (.int b_)] []) _
    refine stp (fun _ => XS.iloadN X0.here hx rfl (hb hby d1_9) rfl) ?_
    show Go p e below T0 (mkF m 10 #[.val (.int a_), .val (.int b_)] [(.int b_)]) _
    refine outI X0 hx hret (hb hby d1_10) hlk (by decide) (by decide) ?_
    exact ⟨own_somei (by simp only [own_min, if_pos q2_1]), N0, e0⟩
  · refine stp (fun _ => XS.icmpNo X0.here hx rfl (hb hby d1_2) rfl (XT.ii_gt_f q2_1)) ?_
    show Go p e below T0 (mkF m 5 #[.val (.int a_), .val (.int b_)] []) _
    refine stp (fun _ => XS.iloadN X0.here hx rfl (hb hby d1_5) rfl) ?_
    show Go p e below T0 (mkF m 6 #[.val (.int a_), .val (.int b_)] [(.int a_)]) _
    refine stp (fun _ => XS.goto X0.here hx rfl (pc0 := 6) (pc' := 10) rfl (hb hby d1_6) (by decide) (by decide)) ?_
    show Go p e below T0 (mkF m 10 #[.val (.int a_), .val (.int b_)] [(.int a_)]) _
    refine outI X0 hx hret (hb hby d1_10) hlk (by decide) (by decide) ?_
    exact ⟨own_somei (by simp only [own_min, if_neg q2_1]), N0, e0⟩
theorem d2_0 : decode jdk_29_method_65_code 0 = .ok (.iload_n 0, 1) := by decide +kernel
theorem d2_1 : decode jdk_29_method_65_code 1 = .ok (.iload_n 1, 1) := by decide +kernel
theorem d2_2 : decode jdk_29_method_65_code 2 = .ok (.if_icmp .lt 7, 3) := by decide +kernel
theorem d2_9 : decode jdk_29_method_65_code 9 = .ok (.iload_n 1, 1) := by decide +kernel
theorem d2_10 : decode jdk_29_method_65_code 10 = .ok (.ireturn, 1) := by decide +kernel
theorem d2_5 : decode jdk_29_method_65_code 5 = .ok (.iload_n 0, 1) := by decide +kernel
theorem d2_6 : decode jdk_29_method_65_code 6 = .ok (.goto 4, 3) := by decide +kernel
theorem ef_rm_max (m : MethodId) (a_ : Int32) (b_ : Int32)  : entryFrame m #[(.int a_), (.int b_)] 2 = mkF m 0 #[.val (.int a_), .val (.int b_)] [] := by first | (simp [entryFrame, mkF, argsToLocals, Value.category]; done) | rfl
def Q_rm_max (Z : State) (a_ : Int32) (b_ : Int32)  (h0 : Heap) (n0 : Nat) (v : Option Value) (h : Heap) (L : List Loc) : Prop := v = some (.int (own_max a_ b_)) ∧ Fr n0 L ∧ h = h0
set_option maxRecDepth 65536 in
set_option maxHeartbeats 40000000 in
theorem rm_max (l : Launch) (Z : State) (a0 : Array Value) (hw : ∀ d ∈ tables_1, d.before a0 Z = true) (ws : List Jvm.Cond) (a_ : Int32) (b_ : Int32)  (h0 : Heap) (n0 : Nat) (O0 : Old Z n0 h0)  :
    MetFree l (⟨"java/lang/Math", "max", "(II)I"⟩ : MethodName) (head1 (Jvm.Cond.code (⟨"java/lang/Math", "max", "(II)I"⟩ : MethodName) jdk_29_method_65_code 2 (some .int) :: ws) ({ frames := 0, cells := 0, slots := 0, locals := 0 } : Room)) (fun args_ U => args_ = #[(.int a_), (.int b_)] ∧ Z.Warmed39 U.vm ∧ U.heap = h0) (fun _ _ _ _ _ => True) (fun _ U out_ U' => ∃ val_ loc_, out_ = .returned val_ ∧ (Q_rm_max Z a_ b_ h0 n0) val_ U'.heap loc_ ∧ FrameEnd U out_ U' loc_ ({ frames := 0, cells := 0, slots := 0, locals := 0 } : Room).cells ({ frames := 0, cells := 0, slots := 0, locals := 0 } : Room).slots) := by
  refine start (Q := (Q_rm_max Z a_ b_ h0 n0)) (Jvm.Free.JP.mathPlain rfl (by decide +kernel)) ?_
  intro p e s m below meth c T0 X0 hx hby hml hown hnm hret hlk hZ e0
  replace hown : s.vm.findClass "java/lang/Math" = some m.cls := hown
  replace hml : c.maxLocals = 2 := hml
  refine goAt (ef_rm_max m a_ b_ ) ?_
  have N0 := Fr.nil n0
  show Go p e below T0 (mkF m 0 #[.val (.int a_), .val (.int b_)] []) _
  refine stp (fun _ => XS.iloadN X0.here hx rfl (hb hby d2_0) rfl) ?_
  show Go p e below T0 (mkF m 1 #[.val (.int a_), .val (.int b_)] [(.int a_)]) _
  refine stp (fun _ => XS.iloadN X0.here hx rfl (hb hby d2_1) rfl) ?_
  show Go p e below T0 (mkF m 2 #[.val (.int a_), .val (.int b_)] [(.int b_), (.int a_)]) _
  by_cases q2_1 : a_ < b_
  · refine stp (fun _ => XS.icmpYes X0.here hx rfl (pc0 := 2) (pc' := 9) rfl (hb hby d2_2) rfl (XT.ii_lt_t q2_1) (by decide) (by decide)) ?_
    show Go p e below T0 (mkF m 9 #[.val (.int a_), .val (.int b_)] []) _
    refine stp (fun _ => XS.iloadN X0.here hx rfl (hb hby d2_9) rfl) ?_
    show Go p e below T0 (mkF m 10 #[.val (.int a_), .val (.int b_)] [(.int b_)]) _
    refine outI X0 hx hret (hb hby d2_10) hlk (by decide) (by decide) ?_
    exact ⟨own_somei (by simp only [own_max, if_pos q2_1]), N0, e0⟩
  · refine stp (fun _ => XS.icmpNo X0.here hx rfl (hb hby d2_2) rfl (XT.ii_lt_f q2_1)) ?_
    show Go p e below T0 (mkF m 5 #[.val (.int a_), .val (.int b_)] []) _
    refine stp (fun _ => XS.iloadN X0.here hx rfl (hb hby d2_5) rfl) ?_
    show Go p e below T0 (mkF m 6 #[.val (.int a_), .val (.int b_)] [(.int a_)]) _
    refine stp (fun _ => XS.goto X0.here hx rfl (pc0 := 6) (pc' := 10) rfl (hb hby d2_6) (by decide) (by decide)) ?_
    show Go p e below T0 (mkF m 10 #[.val (.int a_), .val (.int b_)] [(.int a_)]) _
    refine outI X0 hx hret (hb hby d2_10) hlk (by decide) (by decide) ?_
    exact ⟨own_somei (by simp only [own_max, if_neg q2_1]), N0, e0⟩
theorem d3_0 : decode prog_29_method_4_code 0 = .ok (.ldc2_w 36, 3) := by decide +kernel
theorem d3_3 : decode prog_29_method_4_code 3 = .ok (.iload_n 0, 1) := by decide +kernel
theorem d3_4 : decode prog_29_method_4_code 4 = .ok (.i2d, 1) := by decide +kernel
theorem d3_5 : decode prog_29_method_4_code 5 = .ok (.dmul, 1) := by decide +kernel
theorem d3_6 : decode prog_29_method_4_code 6 = .ok (.iload_n 0, 1) := by decide +kernel
theorem d3_7 : decode prog_29_method_4_code 7 = .ok (.i2d, 1) := by decide +kernel
theorem d3_8 : decode prog_29_method_4_code 8 = .ok (.ldc2_w 38, 3) := by decide +kernel
theorem d3_11 : decode prog_29_method_4_code 11 = .ok (.dadd, 1) := by decide +kernel
theorem d3_12 : decode prog_29_method_4_code 12 = .ok (.ddiv, 1) := by decide +kernel
theorem d3_13 : decode prog_29_method_4_code 13 = .ok (.dreturn, 1) := by decide +kernel
theorem ef_rm_named (m : MethodId) (k : Int32)  : entryFrame m #[(.int k)] 1 = mkF m 0 #[.val (.int k)] [] := by first | (simp [entryFrame, mkF, argsToLocals, Value.category]; done) | rfl
def Q_rm_named (Z : State) (k : Int32)  (h0 : Heap) (n0 : Nat) (v : Option Value) (h : Heap) (L : List Loc) : Prop := v = some (.double (own_named k)) ∧ Fr n0 L ∧ h = h0
theorem pn_0_ : plainName "com/example/fetch_to_rank/fetchtorank/search/Ranking" = true := by first | (simp [plainName, overriddenIn]; done) | decide +kernel
theorem pn_0 : plainFor (⟨"com/example/fetch_to_rank/fetchtorank/search/Ranking", "named", "(I)D"⟩ : MethodName) = true := plainFor_of_name pn_0_
set_option maxRecDepth 65536 in
set_option maxHeartbeats 40000000 in
theorem rm_named (l : Launch) (Z : State) (a0 : Array Value) (hw : ∀ d ∈ tables_1, d.before a0 Z = true) (ws : List Jvm.Cond) (k : Int32)  (h0 : Heap) (n0 : Nat) (O0 : Old Z n0 h0) (hp : ¬ k < 0) :
    MetFree l (⟨"com/example/fetch_to_rank/fetchtorank/search/Ranking", "named", "(I)D"⟩ : MethodName) (head1 (Jvm.Cond.code (⟨"com/example/fetch_to_rank/fetchtorank/search/Ranking", "named", "(I)D"⟩ : MethodName) prog_29_method_4_code 1 (some .double) :: ws) ({ frames := 0, cells := 0, slots := 0, locals := 0 } : Room)) (fun args_ U => args_ = #[(.int k)] ∧ Z.Warmed39 U.vm ∧ U.heap = h0) (fun _ _ _ _ _ => True) (fun _ U out_ U' => ∃ val_ loc_, out_ = .returned val_ ∧ (Q_rm_named Z k h0 n0) val_ U'.heap loc_ ∧ FrameEnd U out_ U' loc_ ({ frames := 0, cells := 0, slots := 0, locals := 0 } : Room).cells ({ frames := 0, cells := 0, slots := 0, locals := 0 } : Room).slots) := by
  refine start (Q := (Q_rm_named Z k h0 n0)) pn_0 ?_
  intro p e s m below meth c T0 X0 hx hby hml hown hnm hret hlk hZ e0
  replace hown : s.vm.findClass "com/example/fetch_to_rank/fetchtorank/search/Ranking" = some m.cls := hown
  replace hml : c.maxLocals = 1 := hml
  refine goAt (ef_rm_named m k ) ?_
  have N0 := Fr.nil n0
  show Go p e below T0 (mkF m 0 #[.val (.int k)] []) _
  refine stp (fun _ => X0.ldc2DoubleC hx hown (mvT hZ (hw _ (List.mem_of_getElem? (i := 12) rfl))) (g := (mkF m 0 #[.val (.int k)] [])) rfl (hb hby d3_0) _) ?_
  show Go p e below T0 (mkF m 3 #[.val (.int k)] [(.double (4620693217682128896 : UInt64))]) _
  refine stp (fun _ => XS.iloadN X0.here hx rfl (hb hby d3_3) rfl) ?_
  show Go p e below T0 (mkF m 4 #[.val (.int k)] [(.int k), (.double (4620693217682128896 : UInt64))]) _
  refine stp (fun _ => XS.i2dS X0.here hx rfl (hb hby d3_4) rfl rfl) ?_
  show Go p e below T0 (mkF m 5 #[.val (.int k)] [(.double (FP.i2d k)), (.double (4620693217682128896 : UInt64))]) _
  refine stp (fun _ => XS.dmulS X0.here hx rfl (hb hby d3_5) rfl (own_nn8 hp) rfl) ?_
  show Go p e below T0 (mkF m 6 #[.val (.int k)] [(.double (FP.dmul (4620693217682128896 : UInt64) (FP.i2d k)))]) _
  refine stp (fun _ => XS.iloadN X0.here hx rfl (hb hby d3_6) rfl) ?_
  show Go p e below T0 (mkF m 7 #[.val (.int k)] [(.int k), (.double (FP.dmul (4620693217682128896 : UInt64) (FP.i2d k)))]) _
  refine stp (fun _ => XS.i2dS X0.here hx rfl (hb hby d3_7) rfl rfl) ?_
  show Go p e below T0 (mkF m 8 #[.val (.int k)] [(.double (FP.i2d k)), (.double (FP.dmul (4620693217682128896 : UInt64) (FP.i2d k)))]) _
  refine stp (fun _ => X0.ldc2DoubleC hx hown (mvT hZ (hw _ (List.mem_of_getElem? (i := 13) rfl))) (g := (mkF m 8 #[.val (.int k)] [(.double (FP.i2d k)), (.double (FP.dmul (4620693217682128896 : UInt64) (FP.i2d k)))])) rfl (hb hby d3_8) _) ?_
  show Go p e below T0 (mkF m 11 #[.val (.int k)] [(.double (4621819117588971520 : UInt64)), (.double (FP.i2d k)), (.double (FP.dmul (4620693217682128896 : UInt64) (FP.i2d k)))]) _
  refine stp (fun _ => XS.daddS X0.here hx rfl (hb hby d3_11) rfl (own_nn10 hp) rfl) ?_
  show Go p e below T0 (mkF m 12 #[.val (.int k)] [(.double (FP.dadd (FP.i2d k) (4621819117588971520 : UInt64))), (.double (FP.dmul (4620693217682128896 : UInt64) (FP.i2d k)))]) _
  refine stp (fun _ => XS.ddivS X0.here hx rfl (hb hby d3_12) rfl (own_nnd hp) rfl) ?_
  show Go p e below T0 (mkF m 13 #[.val (.int k)] [(.double (FP.ddiv (FP.dmul (4620693217682128896 : UInt64) (FP.i2d k)) (FP.dadd (FP.i2d k) (4621819117588971520 : UInt64))))]) _
  refine outD X0 hx hret ⟨_, rfl⟩ (hb hby d3_13) hlk (by decide) (by decide) ?_
  exact ⟨rfl, N0, e0⟩
theorem d4_0 : decode method_2_code 0 = .ok (.iload_n 0, 1) := by decide +kernel
theorem d4_1 : decode method_2_code 1 = .ok (.i2d, 1) := by decide +kernel
theorem d4_2 : decode method_2_code 2 = .ok (.iload_n 0, 1) := by decide +kernel
theorem d4_3 : decode method_2_code 3 = .ok (.i2d, 1) := by decide +kernel
theorem d4_4 : decode method_2_code 4 = .ok (.ldc2_w 7, 3) := by decide +kernel
theorem d4_7 : decode method_2_code 7 = .ok (.dadd, 1) := by decide +kernel
theorem d4_8 : decode method_2_code 8 = .ok (.ddiv, 1) := by decide +kernel
theorem d4_9 : decode method_2_code 9 = .ok (.dstore_n 1, 1) := by decide +kernel
theorem d4_10 : decode method_2_code 10 = .ok (.ldc2_w 9, 3) := by decide +kernel
theorem d4_13 : decode method_2_code 13 = .ok (.dload_n 1, 1) := by decide +kernel
theorem d4_14 : decode method_2_code 14 = .ok (.dmul, 1) := by decide +kernel
theorem d4_15 : decode method_2_code 15 = .ok (.dreturn, 1) := by decide +kernel
theorem ef_rm_ref (m : MethodId) (k : Int32)  : entryFrame m #[(.int k)] 3 = mkF m 0 #[.val (.int k), .unset, .unset] [] := by first | (simp [entryFrame, mkF, argsToLocals, Value.category]; done) | rfl
def Q_rm_ref (Z : State) (k : Int32)  (h0 : Heap) (n0 : Nat) (v : Option Value) (h : Heap) (L : List Loc) : Prop := v = some (.double (own_ref k)) ∧ Fr n0 L ∧ h = h0
theorem pn_1_ : plainName "com/example/fetch_to_rank/fetchtorank/search/RankingNamedPinLaw" = true := by first | (simp [plainName, overriddenIn]; done) | decide +kernel
theorem pn_1 : plainFor (⟨"com/example/fetch_to_rank/fetchtorank/search/RankingNamedPinLaw", "reference", "(I)D"⟩ : MethodName) = true := plainFor_of_name pn_1_
set_option maxRecDepth 65536 in
set_option maxHeartbeats 40000000 in
theorem rm_ref (l : Launch) (Z : State) (a0 : Array Value) (hw : ∀ d ∈ tables_1, d.before a0 Z = true) (ws : List Jvm.Cond) (k : Int32)  (h0 : Heap) (n0 : Nat) (O0 : Old Z n0 h0) (hp : ¬ k < 0) :
    MetFree l (⟨"com/example/fetch_to_rank/fetchtorank/search/RankingNamedPinLaw", "reference", "(I)D"⟩ : MethodName) (head1 (Jvm.Cond.code (⟨"com/example/fetch_to_rank/fetchtorank/search/RankingNamedPinLaw", "reference", "(I)D"⟩ : MethodName) method_2_code 3 (some .double) :: ws) ({ frames := 0, cells := 0, slots := 0, locals := 0 } : Room)) (fun args_ U => args_ = #[(.int k)] ∧ Z.Warmed39 U.vm ∧ U.heap = h0) (fun _ _ _ _ _ => True) (fun _ U out_ U' => ∃ val_ loc_, out_ = .returned val_ ∧ (Q_rm_ref Z k h0 n0) val_ U'.heap loc_ ∧ FrameEnd U out_ U' loc_ ({ frames := 0, cells := 0, slots := 0, locals := 0 } : Room).cells ({ frames := 0, cells := 0, slots := 0, locals := 0 } : Room).slots) := by
  refine start (Q := (Q_rm_ref Z k h0 n0)) pn_1 ?_
  intro p e s m below meth c T0 X0 hx hby hml hown hnm hret hlk hZ e0
  replace hown : s.vm.findClass "com/example/fetch_to_rank/fetchtorank/search/RankingNamedPinLaw" = some m.cls := hown
  replace hml : c.maxLocals = 3 := hml
  refine goAt (ef_rm_ref m k ) ?_
  have N0 := Fr.nil n0
  show Go p e below T0 (mkF m 0 #[.val (.int k), .unset, .unset] []) _
  refine stp (fun _ => XS.iloadN X0.here hx rfl (hb hby d4_0) rfl) ?_
  show Go p e below T0 (mkF m 1 #[.val (.int k), .unset, .unset] [(.int k)]) _
  refine stp (fun _ => XS.i2dS X0.here hx rfl (hb hby d4_1) rfl rfl) ?_
  show Go p e below T0 (mkF m 2 #[.val (.int k), .unset, .unset] [(.double (FP.i2d k))]) _
  refine stp (fun _ => XS.iloadN X0.here hx rfl (hb hby d4_2) rfl) ?_
  show Go p e below T0 (mkF m 3 #[.val (.int k), .unset, .unset] [(.int k), (.double (FP.i2d k))]) _
  refine stp (fun _ => XS.i2dS X0.here hx rfl (hb hby d4_3) rfl rfl) ?_
  show Go p e below T0 (mkF m 4 #[.val (.int k), .unset, .unset] [(.double (FP.i2d k)), (.double (FP.i2d k))]) _
  refine stp (fun _ => X0.ldc2DoubleC hx hown (mvT hZ (hw _ (List.mem_of_getElem? (i := 18) rfl))) (g := (mkF m 4 #[.val (.int k), .unset, .unset] [(.double (FP.i2d k)), (.double (FP.i2d k))])) rfl (hb hby d4_4) _) ?_
  show Go p e below T0 (mkF m 7 #[.val (.int k), .unset, .unset] [(.double (4621819117588971520 : UInt64)), (.double (FP.i2d k)), (.double (FP.i2d k))]) _
  refine stp (fun _ => XS.daddS X0.here hx rfl (hb hby d4_7) rfl (own_nn10 hp) rfl) ?_
  show Go p e below T0 (mkF m 8 #[.val (.int k), .unset, .unset] [(.double (FP.dadd (FP.i2d k) (4621819117588971520 : UInt64))), (.double (FP.i2d k))]) _
  refine stp (fun _ => XS.ddivS X0.here hx rfl (hb hby d4_8) rfl (own_nnx hp) rfl) ?_
  show Go p e below T0 (mkF m 9 #[.val (.int k), .unset, .unset] [(.double (FP.ddiv (FP.i2d k) (FP.dadd (FP.i2d k) (4621819117588971520 : UInt64))))]) _
  refine stp (fun _ => XS.dstoreN X0.here hx rfl (hb hby d4_9) rfl (l' := #[.val (.int k), .val (.double (FP.ddiv (FP.i2d k) (FP.dadd (FP.i2d k) (4621819117588971520 : UInt64)))), .second]) rfl) ?_
  show Go p e below T0 (mkF m 10 #[.val (.int k), .val (.double (FP.ddiv (FP.i2d k) (FP.dadd (FP.i2d k) (4621819117588971520 : UInt64)))), .second] []) _
  refine stp (fun _ => X0.ldc2DoubleC hx hown (mvT hZ (hw _ (List.mem_of_getElem? (i := 19) rfl))) (g := (mkF m 10 #[.val (.int k), .val (.double (FP.ddiv (FP.i2d k) (FP.dadd (FP.i2d k) (4621819117588971520 : UInt64)))), .second] [])) rfl (hb hby d4_10) _) ?_
  show Go p e below T0 (mkF m 13 #[.val (.int k), .val (.double (FP.ddiv (FP.i2d k) (FP.dadd (FP.i2d k) (4621819117588971520 : UInt64)))), .second] [(.double (4620693217682128896 : UInt64))]) _
  refine stp (fun _ => XS.dloadN X0.here hx rfl (hb hby d4_13) rfl) ?_
  show Go p e below T0 (mkF m 14 #[.val (.int k), .val (.double (FP.ddiv (FP.i2d k) (FP.dadd (FP.i2d k) (4621819117588971520 : UInt64)))), .second] [(.double (FP.ddiv (FP.i2d k) (FP.dadd (FP.i2d k) (4621819117588971520 : UInt64)))), (.double (4620693217682128896 : UInt64))]) _
  refine stp (fun _ => XS.dmulS X0.here hx rfl (hb hby d4_14) rfl (own_nnr hp) rfl) ?_
  show Go p e below T0 (mkF m 15 #[.val (.int k), .val (.double (FP.ddiv (FP.i2d k) (FP.dadd (FP.i2d k) (4621819117588971520 : UInt64)))), .second] [(.double (FP.dmul (4620693217682128896 : UInt64) (FP.ddiv (FP.i2d k) (FP.dadd (FP.i2d k) (4621819117588971520 : UInt64)))))]) _
  refine outD X0 hx hret ⟨_, rfl⟩ (hb hby d4_15) hlk (by decide) (by decide) ?_
  exact ⟨rfl, N0, e0⟩
theorem pd_0 : parseMethodDescriptor "(II)I" = some ⟨[.int, .int], some .int⟩ := by decide +kernel
theorem pd_1 : parseMethodDescriptor "(I)D" = some ⟨[.int], some .double⟩ := by decide +kernel
theorem ef_rm0 (m : MethodId) (p0 : Int32) (p1 : Int32)  : entryFrame m #[(.int p0), (.int p1)] maxLocals = mkF m 0 #[.val (.int p0), .val (.int p1), .unset, .unset, .unset, .unset, .unset, .unset, .unset, .unset, .unset, .unset, .unset, .unset, .unset, .unset, .unset, .unset, .unset, .unset] [] := by first | (simp [entryFrame, mkF, argsToLocals, Value.category, maxLocals]; done) | rfl
def Q_rm0 (Z : State) (p0 : Int32) (p1 : Int32)  (h0 : Heap) (n0 : Nat) (v : Option Value) (h : Heap) (L : List Loc) : Prop := v = some (.int 1) ∧ Fr n0 L
theorem pn_2_ : plainName "com/example/fetch_to_rank/fetchtorank/search/RankingNamedPinLaw" = true := by first | (simp [plainName, overriddenIn]; done) | decide +kernel
theorem pn_2 : plainFor (⟨"com/example/fetch_to_rank/fetchtorank/search/RankingNamedPinLaw", "law", "(II)Z"⟩ : MethodName) = true := plainFor_of_name pn_2_
set_option maxRecDepth 65536 in
set_option maxHeartbeats 40000000 in
theorem rm0 (l : Launch) (Z : State) (a0 : Array Value) (hw : ∀ d ∈ tables_1, d.before a0 Z = true) (ws : List Jvm.Cond) (p0 : Int32) (p1 : Int32)  (h0 : Heap) (n0 : Nat) (O0 : Old Z n0 h0)  :
    MetFree l x (head1 (Jvm.Cond.code x code maxLocals ret :: ws) room_1) (fun args_ U => args_ = #[(.int p0), (.int p1)] ∧ Z.Warmed39 U.vm ∧ U.heap = h0) (fun _ _ _ _ _ => True) (fun _ U out_ U' => ∃ val_ loc_, out_ = .returned val_ ∧ (Q_rm0 Z p0 p1 h0 n0) val_ U'.heap loc_ ∧ FrameEnd U out_ U' loc_ 0 0) := by
  refine start (Q := (Q_rm0 Z p0 p1 h0 n0)) (show plainFor x = true from pn_2) ?_
  intro p e s m below meth c T0 X0 hx hby hml hown hnm hret hlk hZ e0
  replace hown : s.vm.findClass "com/example/fetch_to_rank/fetchtorank/search/RankingNamedPinLaw" = some m.cls := hown
  replace hml : c.maxLocals = 20 := hml
  refine goAt (ef_rm0 m p0 p1 ) ?_
  have N0 := Fr.nil n0
  show Go p e below T0 (mkF m 0 #[.val (.int p0), .val (.int p1), .unset, .unset, .unset, .unset, .unset, .unset, .unset, .unset, .unset, .unset, .unset, .unset, .unset, .unset, .unset, .unset, .unset, .unset] []) _
  refine stp (fun _ => XS.iloadN X0.here hx rfl (hb hby at_0) rfl) ?_
  show Go p e below T0 (mkF m 1 #[.val (.int p0), .val (.int p1), .unset, .unset, .unset, .unset, .unset, .unset, .unset, .unset, .unset, .unset, .unset, .unset, .unset, .unset, .unset, .unset, .unset, .unset] [(.int p0)]) _
  refine stp (fun _ => X0.ldcInt hx hown (mvT hZ (hw _ (List.mem_of_getElem? (i := 0) rfl))) (g := (mkF m 1 #[.val (.int p0), .val (.int p1), .unset, .unset, .unset, .unset, .unset, .unset, .unset, .unset, .unset, .unset, .unset, .unset, .unset, .unset, .unset, .unset, .unset, .unset] [(.int p0)])) rfl (hb hby at_1) _) ?_
  show Go p e below T0 (mkF m 3 #[.val (.int p0), .val (.int p1), .unset, .unset, .unset, .unset, .unset, .unset, .unset, .unset, .unset, .unset, .unset, .unset, .unset, .unset, .unset, .unset, .unset, .unset] [(.int (2147483647 : Int32)), (.int p0)]) _
  refine stp (fun _ => XS.iand X0.here hx rfl (hb hby at_3) rfl) ?_
  show Go p e below T0 (mkF m 4 #[.val (.int p0), .val (.int p1), .unset, .unset, .unset, .unset, .unset, .unset, .unset, .unset, .unset, .unset, .unset, .unset, .unset, .unset, .unset, .unset, .unset, .unset] [(.int (p0 &&& (2147483647 : Int32)))]) _
  refine stp (fun _ => XS.istoreN X0.here hx rfl (hb hby at_4) rfl (l' := #[.val (.int p0), .val (.int p1), .val (.int (p0 &&& (2147483647 : Int32))), .unset, .unset, .unset, .unset, .unset, .unset, .unset, .unset, .unset, .unset, .unset, .unset, .unset, .unset, .unset, .unset, .unset]) rfl) ?_
  show Go p e below T0 (mkF m 5 #[.val (.int p0), .val (.int p1), .val (.int (p0 &&& (2147483647 : Int32))), .unset, .unset, .unset, .unset, .unset, .unset, .unset, .unset, .unset, .unset, .unset, .unset, .unset, .unset, .unset, .unset, .unset] []) _
  obtain ⟨pp, hpp⟩ : ∃ z : Int32, z = (p0 &&& (2147483647 : Int32)) := ⟨_, rfl⟩
  rw [← hpp]
  show Go p e below T0 (mkF m 5 #[.val (.int p0), .val (.int p1), .val (.int pp), .unset, .unset, .unset, .unset, .unset, .unset, .unset, .unset, .unset, .unset, .unset, .unset, .unset, .unset, .unset, .unset, .unset] []) _
  replace hpp := own_msk hpp
  refine stp (fun _ => XS.iloadN X0.here hx rfl (hb hby at_5) rfl) ?_
  show Go p e below T0 (mkF m 6 #[.val (.int p0), .val (.int p1), .val (.int pp), .unset, .unset, .unset, .unset, .unset, .unset, .unset, .unset, .unset, .unset, .unset, .unset, .unset, .unset, .unset, .unset, .unset] [(.int p1)]) _
  refine stp (fun _ => X0.ldcInt hx hown (mvT hZ (hw _ (List.mem_of_getElem? (i := 0) rfl))) (g := (mkF m 6 #[.val (.int p0), .val (.int p1), .val (.int pp), .unset, .unset, .unset, .unset, .unset, .unset, .unset, .unset, .unset, .unset, .unset, .unset, .unset, .unset, .unset, .unset, .unset] [(.int p1)])) rfl (hb hby at_6) _) ?_
  show Go p e below T0 (mkF m 8 #[.val (.int p0), .val (.int p1), .val (.int pp), .unset, .unset, .unset, .unset, .unset, .unset, .unset, .unset, .unset, .unset, .unset, .unset, .unset, .unset, .unset, .unset, .unset] [(.int (2147483647 : Int32)), (.int p1)]) _
  refine stp (fun _ => XS.iand X0.here hx rfl (hb hby at_8) rfl) ?_
  show Go p e below T0 (mkF m 9 #[.val (.int p0), .val (.int p1), .val (.int pp), .unset, .unset, .unset, .unset, .unset, .unset, .unset, .unset, .unset, .unset, .unset, .unset, .unset, .unset, .unset, .unset, .unset] [(.int (p1 &&& (2147483647 : Int32)))]) _
  refine stp (fun _ => XS.istoreN X0.here hx rfl (hb hby at_9) rfl (l' := #[.val (.int p0), .val (.int p1), .val (.int pp), .val (.int (p1 &&& (2147483647 : Int32))), .unset, .unset, .unset, .unset, .unset, .unset, .unset, .unset, .unset, .unset, .unset, .unset, .unset, .unset, .unset, .unset]) rfl) ?_
  show Go p e below T0 (mkF m 10 #[.val (.int p0), .val (.int p1), .val (.int pp), .val (.int (p1 &&& (2147483647 : Int32))), .unset, .unset, .unset, .unset, .unset, .unset, .unset, .unset, .unset, .unset, .unset, .unset, .unset, .unset, .unset, .unset] []) _
  obtain ⟨qq, hqq⟩ : ∃ z : Int32, z = (p1 &&& (2147483647 : Int32)) := ⟨_, rfl⟩
  rw [← hqq]
  show Go p e below T0 (mkF m 10 #[.val (.int p0), .val (.int p1), .val (.int pp), .val (.int qq), .unset, .unset, .unset, .unset, .unset, .unset, .unset, .unset, .unset, .unset, .unset, .unset, .unset, .unset, .unset, .unset] []) _
  replace hqq := own_msk hqq
  refine stp (fun _ => XS.iloadN X0.here hx rfl (hb hby at_10) rfl) ?_
  show Go p e below T0 (mkF m 11 #[.val (.int p0), .val (.int p1), .val (.int pp), .val (.int qq), .unset, .unset, .unset, .unset, .unset, .unset, .unset, .unset, .unset, .unset, .unset, .unset, .unset, .unset, .unset, .unset] [(.int pp)]) _
  refine stp (fun _ => XS.iloadN X0.here hx rfl (hb hby at_11) rfl) ?_
  show Go p e below T0 (mkF m 12 #[.val (.int p0), .val (.int p1), .val (.int pp), .val (.int qq), .unset, .unset, .unset, .unset, .unset, .unset, .unset, .unset, .unset, .unset, .unset, .unset, .unset, .unset, .unset, .unset] [(.int qq), (.int pp)]) _
  obtain ⟨_, _, ⟨T1, L1, k1, n1⟩, -, X1, ⟨Lc1, hQ1, l1, y1, z1⟩, st1⟩ := Jvm.LawKit.callS X0 hx (y := (⟨"java/lang/Math", "min", "(II)I"⟩ : MethodName)) hown (mvT hZ (hw _ (List.mem_of_getElem? (i := 1) rfl))) (mvT hZ (hw _ (List.mem_of_getElem? (i := 2) rfl))) (mvT hZ (hw _ (List.mem_of_getElem? (i := 3) rfl))) (mvT hZ (hw _ (List.mem_of_getElem? (i := 4) rfl))) (by decide) (backOf (W := 0) (rm_min l Z a0 hw [] pp qq  h0 n0 O0 ) hZ (hw _ (List.mem_of_getElem? (i := 4) rfl)) (hw _ (List.mem_of_getElem? (i := 3) rfl)) (by decide) (by decide)) (g := (mkF m 12 #[.val (.int p0), .val (.int p1), .val (.int pp), .val (.int qq), .unset, .unset, .unset, .unset, .unset, .unset, .unset, .unset, .unset, .unset, .unset, .unset, .unset, .unset, .unset, .unset] [(.int qq), (.int pp)])) rfl (by rw [hml]; rfl) (argsL := [(.int pp), (.int qq)]) (rest := []) (lenOf pd_0 rfl) rfl (by show 2 * 0 + _ ≤ _; exact Nat.le_of_eq rfl) (hb hby at_12) (fun _ _ => ⟨rfl, e0, (by decide : 0 + 0 ≤ _), (by decide : 0 + 0 ≤ _)⟩)
  dsimp only [Pt.U, Pt.locs, Pt.cells, Pt.slots] at X1 l1 y1 z1 st1 hQ1
  subst y1 z1
  obtain ⟨rfl, N1q, e1⟩ := hQ1
  have N1 : Fr n0 L1 := by rw [l1]; exact Fr.app N0 N1q
  refine stp st1 ?_
  show Go p e below T1 (mkF m 15 #[.val (.int p0), .val (.int p1), .val (.int pp), .val (.int qq), .unset, .unset, .unset, .unset, .unset, .unset, .unset, .unset, .unset, .unset, .unset, .unset, .unset, .unset, .unset, .unset] [(.int (own_min pp qq))]) _
  refine stp (fun _ => XS.istore X1.here hx rfl (hb hby at_15) rfl (l' := #[.val (.int p0), .val (.int p1), .val (.int pp), .val (.int qq), .val (.int (own_min pp qq)), .unset, .unset, .unset, .unset, .unset, .unset, .unset, .unset, .unset, .unset, .unset, .unset, .unset, .unset, .unset]) rfl) ?_
  show Go p e below T1 (mkF m 17 #[.val (.int p0), .val (.int p1), .val (.int pp), .val (.int qq), .val (.int (own_min pp qq)), .unset, .unset, .unset, .unset, .unset, .unset, .unset, .unset, .unset, .unset, .unset, .unset, .unset, .unset, .unset] []) _
  refine stp (fun _ => XS.iloadN X1.here hx rfl (hb hby at_17) rfl) ?_
  show Go p e below T1 (mkF m 18 #[.val (.int p0), .val (.int p1), .val (.int pp), .val (.int qq), .val (.int (own_min pp qq)), .unset, .unset, .unset, .unset, .unset, .unset, .unset, .unset, .unset, .unset, .unset, .unset, .unset, .unset, .unset] [(.int pp)]) _
  refine stp (fun _ => XS.iloadN X1.here hx rfl (hb hby at_18) rfl) ?_
  show Go p e below T1 (mkF m 19 #[.val (.int p0), .val (.int p1), .val (.int pp), .val (.int qq), .val (.int (own_min pp qq)), .unset, .unset, .unset, .unset, .unset, .unset, .unset, .unset, .unset, .unset, .unset, .unset, .unset, .unset, .unset] [(.int qq), (.int pp)]) _
  obtain ⟨_, _, ⟨T2, L2, k2, n2⟩, -, X2, ⟨Lc2, hQ2, l2, y2, z2⟩, st2⟩ := Jvm.LawKit.callS X1 hx (y := (⟨"java/lang/Math", "max", "(II)I"⟩ : MethodName)) hown (mvT hZ (hw _ (List.mem_of_getElem? (i := 5) rfl))) (mvT hZ (hw _ (List.mem_of_getElem? (i := 6) rfl))) (mvT hZ (hw _ (List.mem_of_getElem? (i := 3) rfl))) (mvT hZ (hw _ (List.mem_of_getElem? (i := 7) rfl))) (by decide) (backOf (W := 0) (rm_max l Z a0 hw [] pp qq  h0 n0 O0 ) hZ (hw _ (List.mem_of_getElem? (i := 7) rfl)) (hw _ (List.mem_of_getElem? (i := 3) rfl)) (by decide) (by decide)) (g := (mkF m 19 #[.val (.int p0), .val (.int p1), .val (.int pp), .val (.int qq), .val (.int (own_min pp qq)), .unset, .unset, .unset, .unset, .unset, .unset, .unset, .unset, .unset, .unset, .unset, .unset, .unset, .unset, .unset] [(.int qq), (.int pp)])) rfl (by rw [hml]; rfl) (argsL := [(.int pp), (.int qq)]) (rest := []) (lenOf pd_0 rfl) rfl (by show 2 * 0 + _ ≤ _; exact Nat.le_of_eq rfl) (hb hby at_19) (fun _ _ => ⟨rfl, e1, (by decide : 0 + 0 ≤ _), (by decide : 0 + 0 ≤ _)⟩)
  dsimp only [Pt.U, Pt.locs, Pt.cells, Pt.slots] at X2 l2 y2 z2 st2 hQ2
  subst y2 z2
  obtain ⟨rfl, N2q, e2⟩ := hQ2
  have N2 : Fr n0 L2 := by rw [l2]; exact Fr.app N1 N2q
  refine stp st2 ?_
  show Go p e below T2 (mkF m 22 #[.val (.int p0), .val (.int p1), .val (.int pp), .val (.int qq), .val (.int (own_min pp qq)), .unset, .unset, .unset, .unset, .unset, .unset, .unset, .unset, .unset, .unset, .unset, .unset, .unset, .unset, .unset] [(.int (own_max pp qq))]) _
  refine stp (fun _ => XS.istore X2.here hx rfl (hb hby at_22) rfl (l' := #[.val (.int p0), .val (.int p1), .val (.int pp), .val (.int qq), .val (.int (own_min pp qq)), .val (.int (own_max pp qq)), .unset, .unset, .unset, .unset, .unset, .unset, .unset, .unset, .unset, .unset, .unset, .unset, .unset, .unset]) rfl) ?_
  show Go p e below T2 (mkF m 24 #[.val (.int p0), .val (.int p1), .val (.int pp), .val (.int qq), .val (.int (own_min pp qq)), .val (.int (own_max pp qq)), .unset, .unset, .unset, .unset, .unset, .unset, .unset, .unset, .unset, .unset, .unset, .unset, .unset, .unset] []) _
  refine stp (fun _ => XS.iloadN X2.here hx rfl (hb hby at_24) rfl) ?_
  show Go p e below T2 (mkF m 25 #[.val (.int p0), .val (.int p1), .val (.int pp), .val (.int qq), .val (.int (own_min pp qq)), .val (.int (own_max pp qq)), .unset, .unset, .unset, .unset, .unset, .unset, .unset, .unset, .unset, .unset, .unset, .unset, .unset, .unset] [(.int pp)]) _
  obtain ⟨_, _, ⟨T3, L3, k3, n3⟩, -, X3, ⟨Lc3, hQ3, l3, y3, z3⟩, st3⟩ := Jvm.LawKit.callS X2 hx (y := (⟨"com/example/fetch_to_rank/fetchtorank/search/Ranking", "named", "(I)D"⟩ : MethodName)) hown (mvT hZ (hw _ (List.mem_of_getElem? (i := 8) rfl))) (mvT hZ (hw _ (List.mem_of_getElem? (i := 9) rfl))) (mvT hZ (hw _ (List.mem_of_getElem? (i := 10) rfl))) (mvT hZ (hw _ (List.mem_of_getElem? (i := 11) rfl))) (by decide) (backOf (W := 0) (rm_named l Z a0 hw [] pp  h0 n0 O0 hpp) hZ (hw _ (List.mem_of_getElem? (i := 11) rfl)) (hw _ (List.mem_of_getElem? (i := 10) rfl)) (by decide) (by decide)) (g := (mkF m 25 #[.val (.int p0), .val (.int p1), .val (.int pp), .val (.int qq), .val (.int (own_min pp qq)), .val (.int (own_max pp qq)), .unset, .unset, .unset, .unset, .unset, .unset, .unset, .unset, .unset, .unset, .unset, .unset, .unset, .unset] [(.int pp)])) rfl (by rw [hml]; rfl) (argsL := [(.int pp)]) (rest := []) (lenOf pd_1 rfl) rfl (by show 2 * 0 + _ ≤ _; exact Nat.le_of_eq rfl) (hb hby at_25) (fun _ _ => ⟨rfl, e2, (by decide : 0 + 0 ≤ _), (by decide : 0 + 0 ≤ _)⟩)
  dsimp only [Pt.U, Pt.locs, Pt.cells, Pt.slots] at X3 l3 y3 z3 st3 hQ3
  subst y3 z3
  obtain ⟨rfl, N3q, e3⟩ := hQ3
  have N3 : Fr n0 L3 := by rw [l3]; exact Fr.app N2 N3q
  refine stp st3 ?_
  show Go p e below T3 (mkF m 28 #[.val (.int p0), .val (.int p1), .val (.int pp), .val (.int qq), .val (.int (own_min pp qq)), .val (.int (own_max pp qq)), .unset, .unset, .unset, .unset, .unset, .unset, .unset, .unset, .unset, .unset, .unset, .unset, .unset, .unset] [(.double (own_named pp))]) _
  refine stp (fun _ => XS.dstore X3.here hx rfl (hb hby at_28) rfl (l' := #[.val (.int p0), .val (.int p1), .val (.int pp), .val (.int qq), .val (.int (own_min pp qq)), .val (.int (own_max pp qq)), .val (.double (own_named pp)), .second, .unset, .unset, .unset, .unset, .unset, .unset, .unset, .unset, .unset, .unset, .unset, .unset]) rfl) ?_
  show Go p e below T3 (mkF m 30 #[.val (.int p0), .val (.int p1), .val (.int pp), .val (.int qq), .val (.int (own_min pp qq)), .val (.int (own_max pp qq)), .val (.double (own_named pp)), .second, .unset, .unset, .unset, .unset, .unset, .unset, .unset, .unset, .unset, .unset, .unset, .unset] []) _
  refine stp (fun _ => XS.iload X3.here hx rfl (hb hby at_30) rfl) ?_
  show Go p e below T3 (mkF m 32 #[.val (.int p0), .val (.int p1), .val (.int pp), .val (.int qq), .val (.int (own_min pp qq)), .val (.int (own_max pp qq)), .val (.double (own_named pp)), .second, .unset, .unset, .unset, .unset, .unset, .unset, .unset, .unset, .unset, .unset, .unset, .unset] [(.int (own_min pp qq))]) _
  obtain ⟨_, _, ⟨T4, L4, k4, n4⟩, -, X4, ⟨Lc4, hQ4, l4, y4, z4⟩, st4⟩ := Jvm.LawKit.callS X3 hx (y := (⟨"com/example/fetch_to_rank/fetchtorank/search/Ranking", "named", "(I)D"⟩ : MethodName)) hown (mvT hZ (hw _ (List.mem_of_getElem? (i := 8) rfl))) (mvT hZ (hw _ (List.mem_of_getElem? (i := 9) rfl))) (mvT hZ (hw _ (List.mem_of_getElem? (i := 10) rfl))) (mvT hZ (hw _ (List.mem_of_getElem? (i := 11) rfl))) (by decide) (backOf (W := 0) (rm_named l Z a0 hw [] (own_min pp qq)  h0 n0 O0 (own_min_nn hpp hqq)) hZ (hw _ (List.mem_of_getElem? (i := 11) rfl)) (hw _ (List.mem_of_getElem? (i := 10) rfl)) (by decide) (by decide)) (g := (mkF m 32 #[.val (.int p0), .val (.int p1), .val (.int pp), .val (.int qq), .val (.int (own_min pp qq)), .val (.int (own_max pp qq)), .val (.double (own_named pp)), .second, .unset, .unset, .unset, .unset, .unset, .unset, .unset, .unset, .unset, .unset, .unset, .unset] [(.int (own_min pp qq))])) rfl (by rw [hml]; rfl) (argsL := [(.int (own_min pp qq))]) (rest := []) (lenOf pd_1 rfl) rfl (by show 2 * 0 + _ ≤ _; exact Nat.le_of_eq rfl) (hb hby at_32) (fun _ _ => ⟨rfl, e3, (by decide : 0 + 0 ≤ _), (by decide : 0 + 0 ≤ _)⟩)
  dsimp only [Pt.U, Pt.locs, Pt.cells, Pt.slots] at X4 l4 y4 z4 st4 hQ4
  subst y4 z4
  obtain ⟨rfl, N4q, e4⟩ := hQ4
  have N4 : Fr n0 L4 := by rw [l4]; exact Fr.app N3 N4q
  refine stp st4 ?_
  show Go p e below T4 (mkF m 35 #[.val (.int p0), .val (.int p1), .val (.int pp), .val (.int qq), .val (.int (own_min pp qq)), .val (.int (own_max pp qq)), .val (.double (own_named pp)), .second, .unset, .unset, .unset, .unset, .unset, .unset, .unset, .unset, .unset, .unset, .unset, .unset] [(.double (own_named (own_min pp qq)))]) _
  refine stp (fun _ => XS.dstore X4.here hx rfl (hb hby at_35) rfl (l' := #[.val (.int p0), .val (.int p1), .val (.int pp), .val (.int qq), .val (.int (own_min pp qq)), .val (.int (own_max pp qq)), .val (.double (own_named pp)), .second, .val (.double (own_named (own_min pp qq))), .second, .unset, .unset, .unset, .unset, .unset, .unset, .unset, .unset, .unset, .unset]) rfl) ?_
  show Go p e below T4 (mkF m 37 #[.val (.int p0), .val (.int p1), .val (.int pp), .val (.int qq), .val (.int (own_min pp qq)), .val (.int (own_max pp qq)), .val (.double (own_named pp)), .second, .val (.double (own_named (own_min pp qq))), .second, .unset, .unset, .unset, .unset, .unset, .unset, .unset, .unset, .unset, .unset] []) _
  refine stp (fun _ => XS.iload X4.here hx rfl (hb hby at_37) rfl) ?_
  show Go p e below T4 (mkF m 39 #[.val (.int p0), .val (.int p1), .val (.int pp), .val (.int qq), .val (.int (own_min pp qq)), .val (.int (own_max pp qq)), .val (.double (own_named pp)), .second, .val (.double (own_named (own_min pp qq))), .second, .unset, .unset, .unset, .unset, .unset, .unset, .unset, .unset, .unset, .unset] [(.int (own_max pp qq))]) _
  obtain ⟨_, _, ⟨T5, L5, k5, n5⟩, -, X5, ⟨Lc5, hQ5, l5, y5, z5⟩, st5⟩ := Jvm.LawKit.callS X4 hx (y := (⟨"com/example/fetch_to_rank/fetchtorank/search/Ranking", "named", "(I)D"⟩ : MethodName)) hown (mvT hZ (hw _ (List.mem_of_getElem? (i := 8) rfl))) (mvT hZ (hw _ (List.mem_of_getElem? (i := 9) rfl))) (mvT hZ (hw _ (List.mem_of_getElem? (i := 10) rfl))) (mvT hZ (hw _ (List.mem_of_getElem? (i := 11) rfl))) (by decide) (backOf (W := 0) (rm_named l Z a0 hw [] (own_max pp qq)  h0 n0 O0 (own_max_nn hpp hqq)) hZ (hw _ (List.mem_of_getElem? (i := 11) rfl)) (hw _ (List.mem_of_getElem? (i := 10) rfl)) (by decide) (by decide)) (g := (mkF m 39 #[.val (.int p0), .val (.int p1), .val (.int pp), .val (.int qq), .val (.int (own_min pp qq)), .val (.int (own_max pp qq)), .val (.double (own_named pp)), .second, .val (.double (own_named (own_min pp qq))), .second, .unset, .unset, .unset, .unset, .unset, .unset, .unset, .unset, .unset, .unset] [(.int (own_max pp qq))])) rfl (by rw [hml]; rfl) (argsL := [(.int (own_max pp qq))]) (rest := []) (lenOf pd_1 rfl) rfl (by show 2 * 0 + _ ≤ _; exact Nat.le_of_eq rfl) (hb hby at_39) (fun _ _ => ⟨rfl, e4, (by decide : 0 + 0 ≤ _), (by decide : 0 + 0 ≤ _)⟩)
  dsimp only [Pt.U, Pt.locs, Pt.cells, Pt.slots] at X5 l5 y5 z5 st5 hQ5
  subst y5 z5
  obtain ⟨rfl, N5q, e5⟩ := hQ5
  have N5 : Fr n0 L5 := by rw [l5]; exact Fr.app N4 N5q
  refine stp st5 ?_
  show Go p e below T5 (mkF m 42 #[.val (.int p0), .val (.int p1), .val (.int pp), .val (.int qq), .val (.int (own_min pp qq)), .val (.int (own_max pp qq)), .val (.double (own_named pp)), .second, .val (.double (own_named (own_min pp qq))), .second, .unset, .unset, .unset, .unset, .unset, .unset, .unset, .unset, .unset, .unset] [(.double (own_named (own_max pp qq)))]) _
  refine stp (fun _ => XS.dstore X5.here hx rfl (hb hby at_42) rfl (l' := #[.val (.int p0), .val (.int p1), .val (.int pp), .val (.int qq), .val (.int (own_min pp qq)), .val (.int (own_max pp qq)), .val (.double (own_named pp)), .second, .val (.double (own_named (own_min pp qq))), .second, .val (.double (own_named (own_max pp qq))), .second, .unset, .unset, .unset, .unset, .unset, .unset, .unset, .unset]) rfl) ?_
  show Go p e below T5 (mkF m 44 #[.val (.int p0), .val (.int p1), .val (.int pp), .val (.int qq), .val (.int (own_min pp qq)), .val (.int (own_max pp qq)), .val (.double (own_named pp)), .second, .val (.double (own_named (own_min pp qq))), .second, .val (.double (own_named (own_max pp qq))), .second, .unset, .unset, .unset, .unset, .unset, .unset, .unset, .unset] []) _
  refine stp (fun _ => XS.iconst X5.here hx rfl (hb hby at_44)) ?_
  show Go p e below T5 (mkF m 45 #[.val (.int p0), .val (.int p1), .val (.int pp), .val (.int qq), .val (.int (own_min pp qq)), .val (.int (own_max pp qq)), .val (.double (own_named pp)), .second, .val (.double (own_named (own_min pp qq))), .second, .val (.double (own_named (own_max pp qq))), .second, .unset, .unset, .unset, .unset, .unset, .unset, .unset, .unset] [(.int (0 : Int32))]) _
  obtain ⟨_, _, ⟨T6, L6, k6, n6⟩, -, X6, ⟨Lc6, hQ6, l6, y6, z6⟩, st6⟩ := Jvm.LawKit.callS X5 hx (y := (⟨"com/example/fetch_to_rank/fetchtorank/search/Ranking", "named", "(I)D"⟩ : MethodName)) hown (mvT hZ (hw _ (List.mem_of_getElem? (i := 8) rfl))) (mvT hZ (hw _ (List.mem_of_getElem? (i := 9) rfl))) (mvT hZ (hw _ (List.mem_of_getElem? (i := 10) rfl))) (mvT hZ (hw _ (List.mem_of_getElem? (i := 11) rfl))) (by decide) (backOf (W := 0) (rm_named l Z a0 hw [] (0 : Int32)  h0 n0 O0 (by decide)) hZ (hw _ (List.mem_of_getElem? (i := 11) rfl)) (hw _ (List.mem_of_getElem? (i := 10) rfl)) (by decide) (by decide)) (g := (mkF m 45 #[.val (.int p0), .val (.int p1), .val (.int pp), .val (.int qq), .val (.int (own_min pp qq)), .val (.int (own_max pp qq)), .val (.double (own_named pp)), .second, .val (.double (own_named (own_min pp qq))), .second, .val (.double (own_named (own_max pp qq))), .second, .unset, .unset, .unset, .unset, .unset, .unset, .unset, .unset] [(.int (0 : Int32))])) rfl (by rw [hml]; rfl) (argsL := [(.int (0 : Int32))]) (rest := []) (lenOf pd_1 rfl) rfl (by show 2 * 0 + _ ≤ _; exact Nat.le_of_eq rfl) (hb hby at_45) (fun _ _ => ⟨rfl, e5, (by decide : 0 + 0 ≤ _), (by decide : 0 + 0 ≤ _)⟩)
  dsimp only [Pt.U, Pt.locs, Pt.cells, Pt.slots] at X6 l6 y6 z6 st6 hQ6
  subst y6 z6
  obtain ⟨rfl, N6q, e6⟩ := hQ6
  have N6 : Fr n0 L6 := by rw [l6]; exact Fr.app N5 N6q
  refine stp st6 ?_
  show Go p e below T6 (mkF m 48 #[.val (.int p0), .val (.int p1), .val (.int pp), .val (.int qq), .val (.int (own_min pp qq)), .val (.int (own_max pp qq)), .val (.double (own_named pp)), .second, .val (.double (own_named (own_min pp qq))), .second, .val (.double (own_named (own_max pp qq))), .second, .unset, .unset, .unset, .unset, .unset, .unset, .unset, .unset] [(.double (own_named (0 : Int32)))]) _
  refine stp (fun _ => XS.dstore X6.here hx rfl (hb hby at_48) rfl (l' := #[.val (.int p0), .val (.int p1), .val (.int pp), .val (.int qq), .val (.int (own_min pp qq)), .val (.int (own_max pp qq)), .val (.double (own_named pp)), .second, .val (.double (own_named (own_min pp qq))), .second, .val (.double (own_named (own_max pp qq))), .second, .val (.double (own_named (0 : Int32))), .second, .unset, .unset, .unset, .unset, .unset, .unset]) rfl) ?_
  show Go p e below T6 (mkF m 50 #[.val (.int p0), .val (.int p1), .val (.int pp), .val (.int qq), .val (.int (own_min pp qq)), .val (.int (own_max pp qq)), .val (.double (own_named pp)), .second, .val (.double (own_named (own_min pp qq))), .second, .val (.double (own_named (own_max pp qq))), .second, .val (.double (own_named (0 : Int32))), .second, .unset, .unset, .unset, .unset, .unset, .unset] []) _
  refine stp (fun _ => XS.bipush X6.here hx rfl (hb hby at_50)) ?_
  show Go p e below T6 (mkF m 52 #[.val (.int p0), .val (.int p1), .val (.int pp), .val (.int qq), .val (.int (own_min pp qq)), .val (.int (own_max pp qq)), .val (.double (own_named pp)), .second, .val (.double (own_named (own_min pp qq))), .second, .val (.double (own_named (own_max pp qq))), .second, .val (.double (own_named (0 : Int32))), .second, .unset, .unset, .unset, .unset, .unset, .unset] [(.int (10 : Int32))]) _
  obtain ⟨_, _, ⟨T7, L7, k7, n7⟩, -, X7, ⟨Lc7, hQ7, l7, y7, z7⟩, st7⟩ := Jvm.LawKit.callS X6 hx (y := (⟨"com/example/fetch_to_rank/fetchtorank/search/Ranking", "named", "(I)D"⟩ : MethodName)) hown (mvT hZ (hw _ (List.mem_of_getElem? (i := 8) rfl))) (mvT hZ (hw _ (List.mem_of_getElem? (i := 9) rfl))) (mvT hZ (hw _ (List.mem_of_getElem? (i := 10) rfl))) (mvT hZ (hw _ (List.mem_of_getElem? (i := 11) rfl))) (by decide) (backOf (W := 0) (rm_named l Z a0 hw [] (10 : Int32)  h0 n0 O0 (by decide)) hZ (hw _ (List.mem_of_getElem? (i := 11) rfl)) (hw _ (List.mem_of_getElem? (i := 10) rfl)) (by decide) (by decide)) (g := (mkF m 52 #[.val (.int p0), .val (.int p1), .val (.int pp), .val (.int qq), .val (.int (own_min pp qq)), .val (.int (own_max pp qq)), .val (.double (own_named pp)), .second, .val (.double (own_named (own_min pp qq))), .second, .val (.double (own_named (own_max pp qq))), .second, .val (.double (own_named (0 : Int32))), .second, .unset, .unset, .unset, .unset, .unset, .unset] [(.int (10 : Int32))])) rfl (by rw [hml]; rfl) (argsL := [(.int (10 : Int32))]) (rest := []) (lenOf pd_1 rfl) rfl (by show 2 * 0 + _ ≤ _; exact Nat.le_of_eq rfl) (hb hby at_52) (fun _ _ => ⟨rfl, e6, (by decide : 0 + 0 ≤ _), (by decide : 0 + 0 ≤ _)⟩)
  dsimp only [Pt.U, Pt.locs, Pt.cells, Pt.slots] at X7 l7 y7 z7 st7 hQ7
  subst y7 z7
  obtain ⟨rfl, N7q, e7⟩ := hQ7
  have N7 : Fr n0 L7 := by rw [l7]; exact Fr.app N6 N7q
  refine stp st7 ?_
  show Go p e below T7 (mkF m 55 #[.val (.int p0), .val (.int p1), .val (.int pp), .val (.int qq), .val (.int (own_min pp qq)), .val (.int (own_max pp qq)), .val (.double (own_named pp)), .second, .val (.double (own_named (own_min pp qq))), .second, .val (.double (own_named (own_max pp qq))), .second, .val (.double (own_named (0 : Int32))), .second, .unset, .unset, .unset, .unset, .unset, .unset] [(.double (own_named (10 : Int32)))]) _
  refine stp (fun _ => XS.dstore X7.here hx rfl (hb hby at_55) rfl (l' := #[.val (.int p0), .val (.int p1), .val (.int pp), .val (.int qq), .val (.int (own_min pp qq)), .val (.int (own_max pp qq)), .val (.double (own_named pp)), .second, .val (.double (own_named (own_min pp qq))), .second, .val (.double (own_named (own_max pp qq))), .second, .val (.double (own_named (0 : Int32))), .second, .val (.double (own_named (10 : Int32))), .second, .unset, .unset, .unset, .unset]) rfl) ?_
  show Go p e below T7 (mkF m 57 #[.val (.int p0), .val (.int p1), .val (.int pp), .val (.int qq), .val (.int (own_min pp qq)), .val (.int (own_max pp qq)), .val (.double (own_named pp)), .second, .val (.double (own_named (own_min pp qq))), .second, .val (.double (own_named (own_max pp qq))), .second, .val (.double (own_named (0 : Int32))), .second, .val (.double (own_named (10 : Int32))), .second, .unset, .unset, .unset, .unset] []) _
  refine stp (fun _ => XS.dload X7.here hx rfl (hb hby at_57) rfl) ?_
  show Go p e below T7 (mkF m 59 #[.val (.int p0), .val (.int p1), .val (.int pp), .val (.int qq), .val (.int (own_min pp qq)), .val (.int (own_max pp qq)), .val (.double (own_named pp)), .second, .val (.double (own_named (own_min pp qq))), .second, .val (.double (own_named (own_max pp qq))), .second, .val (.double (own_named (0 : Int32))), .second, .val (.double (own_named (10 : Int32))), .second, .unset, .unset, .unset, .unset] [(.double (own_named pp))]) _
  refine stp (fun _ => XS.iloadN X7.here hx rfl (hb hby at_59) rfl) ?_
  show Go p e below T7 (mkF m 60 #[.val (.int p0), .val (.int p1), .val (.int pp), .val (.int qq), .val (.int (own_min pp qq)), .val (.int (own_max pp qq)), .val (.double (own_named pp)), .second, .val (.double (own_named (own_min pp qq))), .second, .val (.double (own_named (own_max pp qq))), .second, .val (.double (own_named (0 : Int32))), .second, .val (.double (own_named (10 : Int32))), .second, .unset, .unset, .unset, .unset] [(.int pp), (.double (own_named pp))]) _
  obtain ⟨_, _, ⟨T8, L8, k8, n8⟩, -, X8, ⟨Lc8, hQ8, l8, y8, z8⟩, st8⟩ := Jvm.LawKit.callS X7 hx (y := (⟨"com/example/fetch_to_rank/fetchtorank/search/RankingNamedPinLaw", "reference", "(I)D"⟩ : MethodName)) hown (mvT hZ (hw _ (List.mem_of_getElem? (i := 14) rfl))) (mvT hZ (hw _ (List.mem_of_getElem? (i := 15) rfl))) (mvT hZ (hw _ (List.mem_of_getElem? (i := 16) rfl))) (mvT hZ (hw _ (List.mem_of_getElem? (i := 17) rfl))) (by decide) (backOf (W := 2) (rm_ref l Z a0 hw [] pp  h0 n0 O0 hpp) hZ (hw _ (List.mem_of_getElem? (i := 17) rfl)) (hw _ (List.mem_of_getElem? (i := 16) rfl)) (by decide) (by decide)) (g := (mkF m 60 #[.val (.int p0), .val (.int p1), .val (.int pp), .val (.int qq), .val (.int (own_min pp qq)), .val (.int (own_max pp qq)), .val (.double (own_named pp)), .second, .val (.double (own_named (own_min pp qq))), .second, .val (.double (own_named (own_max pp qq))), .second, .val (.double (own_named (0 : Int32))), .second, .val (.double (own_named (10 : Int32))), .second, .unset, .unset, .unset, .unset] [(.int pp), (.double (own_named pp))])) rfl (by rw [hml]; rfl) (argsL := [(.int pp)]) (rest := [(.double (own_named pp))]) (lenOf pd_1 rfl) rfl (by show 2 * 0 + _ ≤ _; exact Nat.le_of_eq rfl) (hb hby at_60) (fun _ _ => ⟨rfl, e7, (by decide : 0 + 0 ≤ _), (by decide : 0 + 0 ≤ _)⟩)
  dsimp only [Pt.U, Pt.locs, Pt.cells, Pt.slots] at X8 l8 y8 z8 st8 hQ8
  subst y8 z8
  obtain ⟨rfl, N8q, e8⟩ := hQ8
  have N8 : Fr n0 L8 := by rw [l8]; exact Fr.app N7 N8q
  refine stp st8 ?_
  show Go p e below T8 (mkF m 63 #[.val (.int p0), .val (.int p1), .val (.int pp), .val (.int qq), .val (.int (own_min pp qq)), .val (.int (own_max pp qq)), .val (.double (own_named pp)), .second, .val (.double (own_named (own_min pp qq))), .second, .val (.double (own_named (own_max pp qq))), .second, .val (.double (own_named (0 : Int32))), .second, .val (.double (own_named (10 : Int32))), .second, .unset, .unset, .unset, .unset] [(.double (own_ref pp)), (.double (own_named pp))]) _
  refine stp (fun _ => XS.dcmpS X8.here hx rfl (hb hby at_63) rfl rfl) ?_
  show Go p e below T8 (mkF m 64 #[.val (.int p0), .val (.int p1), .val (.int pp), .val (.int qq), .val (.int (own_min pp qq)), .val (.int (own_max pp qq)), .val (.double (own_named pp)), .second, .val (.double (own_named (own_min pp qq))), .second, .val (.double (own_named (own_max pp qq))), .second, .val (.double (own_named (0 : Int32))), .second, .val (.double (own_named (10 : Int32))), .second, .unset, .unset, .unset, .unset] [(.int (cmpValue (FP.dcmp (own_named pp) (own_ref pp)) .l))]) _
  refine stp (fun _ => XS.ifNo X8.here hx rfl (hb hby at_64) rfl (XT.i0_ne_f (own_eq hpp))) ?_
  show Go p e below T8 (mkF m 67 #[.val (.int p0), .val (.int p1), .val (.int pp), .val (.int qq), .val (.int (own_min pp qq)), .val (.int (own_max pp qq)), .val (.double (own_named pp)), .second, .val (.double (own_named (own_min pp qq))), .second, .val (.double (own_named (own_max pp qq))), .second, .val (.double (own_named (0 : Int32))), .second, .val (.double (own_named (10 : Int32))), .second, .unset, .unset, .unset, .unset] []) _
  refine stp (fun _ => XS.iconst X8.here hx rfl (hb hby at_67)) ?_
  show Go p e below T8 (mkF m 68 #[.val (.int p0), .val (.int p1), .val (.int pp), .val (.int qq), .val (.int (own_min pp qq)), .val (.int (own_max pp qq)), .val (.double (own_named pp)), .second, .val (.double (own_named (own_min pp qq))), .second, .val (.double (own_named (own_max pp qq))), .second, .val (.double (own_named (0 : Int32))), .second, .val (.double (own_named (10 : Int32))), .second, .unset, .unset, .unset, .unset] [(.int (1 : Int32))]) _
  refine stp (fun _ => XS.goto X8.here hx rfl (pc0 := 68) (pc' := 72) rfl (hb hby at_68) (by decide) (by decide)) ?_
  show Go p e below T8 (mkF m 72 #[.val (.int p0), .val (.int p1), .val (.int pp), .val (.int qq), .val (.int (own_min pp qq)), .val (.int (own_max pp qq)), .val (.double (own_named pp)), .second, .val (.double (own_named (own_min pp qq))), .second, .val (.double (own_named (own_max pp qq))), .second, .val (.double (own_named (0 : Int32))), .second, .val (.double (own_named (10 : Int32))), .second, .unset, .unset, .unset, .unset] [(.int (1 : Int32))]) _
  refine stp (fun _ => XS.istore X8.here hx rfl (hb hby at_72) rfl (l' := #[.val (.int p0), .val (.int p1), .val (.int pp), .val (.int qq), .val (.int (own_min pp qq)), .val (.int (own_max pp qq)), .val (.double (own_named pp)), .second, .val (.double (own_named (own_min pp qq))), .second, .val (.double (own_named (own_max pp qq))), .second, .val (.double (own_named (0 : Int32))), .second, .val (.double (own_named (10 : Int32))), .second, .val (.int (1 : Int32)), .unset, .unset, .unset]) rfl) ?_
  show Go p e below T8 (mkF m 74 #[.val (.int p0), .val (.int p1), .val (.int pp), .val (.int qq), .val (.int (own_min pp qq)), .val (.int (own_max pp qq)), .val (.double (own_named pp)), .second, .val (.double (own_named (own_min pp qq))), .second, .val (.double (own_named (own_max pp qq))), .second, .val (.double (own_named (0 : Int32))), .second, .val (.double (own_named (10 : Int32))), .second, .val (.int (1 : Int32)), .unset, .unset, .unset] []) _
  refine stp (fun _ => XS.dconst0 X8.here hx rfl (hb hby at_74) (v := (0 : UInt64)) (by decide +kernel)) ?_
  show Go p e below T8 (mkF m 75 #[.val (.int p0), .val (.int p1), .val (.int pp), .val (.int qq), .val (.int (own_min pp qq)), .val (.int (own_max pp qq)), .val (.double (own_named pp)), .second, .val (.double (own_named (own_min pp qq))), .second, .val (.double (own_named (own_max pp qq))), .second, .val (.double (own_named (0 : Int32))), .second, .val (.double (own_named (10 : Int32))), .second, .val (.int (1 : Int32)), .unset, .unset, .unset] [(.double (0 : UInt64))]) _
  refine stp (fun _ => XS.dload X8.here hx rfl (hb hby at_75) rfl) ?_
  show Go p e below T8 (mkF m 77 #[.val (.int p0), .val (.int p1), .val (.int pp), .val (.int qq), .val (.int (own_min pp qq)), .val (.int (own_max pp qq)), .val (.double (own_named pp)), .second, .val (.double (own_named (own_min pp qq))), .second, .val (.double (own_named (own_max pp qq))), .second, .val (.double (own_named (0 : Int32))), .second, .val (.double (own_named (10 : Int32))), .second, .val (.int (1 : Int32)), .unset, .unset, .unset] [(.double (own_named pp)), (.double (0 : UInt64))]) _
  refine stp (fun _ => XS.dcmpS X8.here hx rfl (hb hby at_77) rfl rfl) ?_
  show Go p e below T8 (mkF m 78 #[.val (.int p0), .val (.int p1), .val (.int pp), .val (.int qq), .val (.int (own_min pp qq)), .val (.int (own_max pp qq)), .val (.double (own_named pp)), .second, .val (.double (own_named (own_min pp qq))), .second, .val (.double (own_named (own_max pp qq))), .second, .val (.double (own_named (0 : Int32))), .second, .val (.double (own_named (10 : Int32))), .second, .val (.int (1 : Int32)), .unset, .unset, .unset] [(.int (cmpValue (FP.dcmp (0 : UInt64) (own_named pp)) .g))]) _
  refine stp (fun _ => XS.ifNo X8.here hx rfl (hb hby at_78) rfl (XT.i0_gt_f (own_ge0 hpp))) ?_
  show Go p e below T8 (mkF m 81 #[.val (.int p0), .val (.int p1), .val (.int pp), .val (.int qq), .val (.int (own_min pp qq)), .val (.int (own_max pp qq)), .val (.double (own_named pp)), .second, .val (.double (own_named (own_min pp qq))), .second, .val (.double (own_named (own_max pp qq))), .second, .val (.double (own_named (0 : Int32))), .second, .val (.double (own_named (10 : Int32))), .second, .val (.int (1 : Int32)), .unset, .unset, .unset] []) _
  refine stp (fun _ => XS.dload X8.here hx rfl (hb hby at_81) rfl) ?_
  show Go p e below T8 (mkF m 83 #[.val (.int p0), .val (.int p1), .val (.int pp), .val (.int qq), .val (.int (own_min pp qq)), .val (.int (own_max pp qq)), .val (.double (own_named pp)), .second, .val (.double (own_named (own_min pp qq))), .second, .val (.double (own_named (own_max pp qq))), .second, .val (.double (own_named (0 : Int32))), .second, .val (.double (own_named (10 : Int32))), .second, .val (.int (1 : Int32)), .unset, .unset, .unset] [(.double (own_named pp))]) _
  refine stp (fun _ => X8.ldc2DoubleC hx hown (mvT hZ (hw _ (List.mem_of_getElem? (i := 19) rfl))) (g := (mkF m 83 #[.val (.int p0), .val (.int p1), .val (.int pp), .val (.int qq), .val (.int (own_min pp qq)), .val (.int (own_max pp qq)), .val (.double (own_named pp)), .second, .val (.double (own_named (own_min pp qq))), .second, .val (.double (own_named (own_max pp qq))), .second, .val (.double (own_named (0 : Int32))), .second, .val (.double (own_named (10 : Int32))), .second, .val (.int (1 : Int32)), .unset, .unset, .unset] [(.double (own_named pp))])) rfl (hb hby at_83) _) ?_
  show Go p e below T8 (mkF m 86 #[.val (.int p0), .val (.int p1), .val (.int pp), .val (.int qq), .val (.int (own_min pp qq)), .val (.int (own_max pp qq)), .val (.double (own_named pp)), .second, .val (.double (own_named (own_min pp qq))), .second, .val (.double (own_named (own_max pp qq))), .second, .val (.double (own_named (0 : Int32))), .second, .val (.double (own_named (10 : Int32))), .second, .val (.int (1 : Int32)), .unset, .unset, .unset] [(.double (4620693217682128896 : UInt64)), (.double (own_named pp))]) _
  refine stp (fun _ => XS.dcmpS X8.here hx rfl (hb hby at_86) rfl rfl) ?_
  show Go p e below T8 (mkF m 87 #[.val (.int p0), .val (.int p1), .val (.int pp), .val (.int qq), .val (.int (own_min pp qq)), .val (.int (own_max pp qq)), .val (.double (own_named pp)), .second, .val (.double (own_named (own_min pp qq))), .second, .val (.double (own_named (own_max pp qq))), .second, .val (.double (own_named (0 : Int32))), .second, .val (.double (own_named (10 : Int32))), .second, .val (.int (1 : Int32)), .unset, .unset, .unset] [(.int (cmpValue (FP.dcmp (own_named pp) (4620693217682128896 : UInt64)) .g))]) _
  refine stp (fun _ => XS.ifNo X8.here hx rfl (hb hby at_87) rfl (XT.i0_ge_f (own_lt8 hpp))) ?_
  show Go p e below T8 (mkF m 90 #[.val (.int p0), .val (.int p1), .val (.int pp), .val (.int qq), .val (.int (own_min pp qq)), .val (.int (own_max pp qq)), .val (.double (own_named pp)), .second, .val (.double (own_named (own_min pp qq))), .second, .val (.double (own_named (own_max pp qq))), .second, .val (.double (own_named (0 : Int32))), .second, .val (.double (own_named (10 : Int32))), .second, .val (.int (1 : Int32)), .unset, .unset, .unset] []) _
  refine stp (fun _ => XS.iconst X8.here hx rfl (hb hby at_90)) ?_
  show Go p e below T8 (mkF m 91 #[.val (.int p0), .val (.int p1), .val (.int pp), .val (.int qq), .val (.int (own_min pp qq)), .val (.int (own_max pp qq)), .val (.double (own_named pp)), .second, .val (.double (own_named (own_min pp qq))), .second, .val (.double (own_named (own_max pp qq))), .second, .val (.double (own_named (0 : Int32))), .second, .val (.double (own_named (10 : Int32))), .second, .val (.int (1 : Int32)), .unset, .unset, .unset] [(.int (1 : Int32))]) _
  refine stp (fun _ => XS.goto X8.here hx rfl (pc0 := 91) (pc' := 95) rfl (hb hby at_91) (by decide) (by decide)) ?_
  show Go p e below T8 (mkF m 95 #[.val (.int p0), .val (.int p1), .val (.int pp), .val (.int qq), .val (.int (own_min pp qq)), .val (.int (own_max pp qq)), .val (.double (own_named pp)), .second, .val (.double (own_named (own_min pp qq))), .second, .val (.double (own_named (own_max pp qq))), .second, .val (.double (own_named (0 : Int32))), .second, .val (.double (own_named (10 : Int32))), .second, .val (.int (1 : Int32)), .unset, .unset, .unset] [(.int (1 : Int32))]) _
  refine stp (fun _ => XS.istore X8.here hx rfl (hb hby at_95) rfl (l' := #[.val (.int p0), .val (.int p1), .val (.int pp), .val (.int qq), .val (.int (own_min pp qq)), .val (.int (own_max pp qq)), .val (.double (own_named pp)), .second, .val (.double (own_named (own_min pp qq))), .second, .val (.double (own_named (own_max pp qq))), .second, .val (.double (own_named (0 : Int32))), .second, .val (.double (own_named (10 : Int32))), .second, .val (.int (1 : Int32)), .val (.int (1 : Int32)), .unset, .unset]) rfl) ?_
  show Go p e below T8 (mkF m 97 #[.val (.int p0), .val (.int p1), .val (.int pp), .val (.int qq), .val (.int (own_min pp qq)), .val (.int (own_max pp qq)), .val (.double (own_named pp)), .second, .val (.double (own_named (own_min pp qq))), .second, .val (.double (own_named (own_max pp qq))), .second, .val (.double (own_named (0 : Int32))), .second, .val (.double (own_named (10 : Int32))), .second, .val (.int (1 : Int32)), .val (.int (1 : Int32)), .unset, .unset] []) _
  refine stp (fun _ => XS.dload X8.here hx rfl (hb hby at_97) rfl) ?_
  show Go p e below T8 (mkF m 99 #[.val (.int p0), .val (.int p1), .val (.int pp), .val (.int qq), .val (.int (own_min pp qq)), .val (.int (own_max pp qq)), .val (.double (own_named pp)), .second, .val (.double (own_named (own_min pp qq))), .second, .val (.double (own_named (own_max pp qq))), .second, .val (.double (own_named (0 : Int32))), .second, .val (.double (own_named (10 : Int32))), .second, .val (.int (1 : Int32)), .val (.int (1 : Int32)), .unset, .unset] [(.double (own_named (own_min pp qq)))]) _
  refine stp (fun _ => XS.dload X8.here hx rfl (hb hby at_99) rfl) ?_
  show Go p e below T8 (mkF m 101 #[.val (.int p0), .val (.int p1), .val (.int pp), .val (.int qq), .val (.int (own_min pp qq)), .val (.int (own_max pp qq)), .val (.double (own_named pp)), .second, .val (.double (own_named (own_min pp qq))), .second, .val (.double (own_named (own_max pp qq))), .second, .val (.double (own_named (0 : Int32))), .second, .val (.double (own_named (10 : Int32))), .second, .val (.int (1 : Int32)), .val (.int (1 : Int32)), .unset, .unset] [(.double (own_named (own_max pp qq))), (.double (own_named (own_min pp qq)))]) _
  refine stp (fun _ => XS.dcmpS X8.here hx rfl (hb hby at_101) rfl rfl) ?_
  show Go p e below T8 (mkF m 102 #[.val (.int p0), .val (.int p1), .val (.int pp), .val (.int qq), .val (.int (own_min pp qq)), .val (.int (own_max pp qq)), .val (.double (own_named pp)), .second, .val (.double (own_named (own_min pp qq))), .second, .val (.double (own_named (own_max pp qq))), .second, .val (.double (own_named (0 : Int32))), .second, .val (.double (own_named (10 : Int32))), .second, .val (.int (1 : Int32)), .val (.int (1 : Int32)), .unset, .unset] [(.int (cmpValue (FP.dcmp (own_named (own_min pp qq)) (own_named (own_max pp qq))) .g))]) _
  refine stp (fun _ => XS.ifNo X8.here hx rfl (hb hby at_102) rfl (XT.i0_gt_f (own_mono hpp hqq))) ?_
  show Go p e below T8 (mkF m 105 #[.val (.int p0), .val (.int p1), .val (.int pp), .val (.int qq), .val (.int (own_min pp qq)), .val (.int (own_max pp qq)), .val (.double (own_named pp)), .second, .val (.double (own_named (own_min pp qq))), .second, .val (.double (own_named (own_max pp qq))), .second, .val (.double (own_named (0 : Int32))), .second, .val (.double (own_named (10 : Int32))), .second, .val (.int (1 : Int32)), .val (.int (1 : Int32)), .unset, .unset] []) _
  refine stp (fun _ => XS.iconst X8.here hx rfl (hb hby at_105)) ?_
  show Go p e below T8 (mkF m 106 #[.val (.int p0), .val (.int p1), .val (.int pp), .val (.int qq), .val (.int (own_min pp qq)), .val (.int (own_max pp qq)), .val (.double (own_named pp)), .second, .val (.double (own_named (own_min pp qq))), .second, .val (.double (own_named (own_max pp qq))), .second, .val (.double (own_named (0 : Int32))), .second, .val (.double (own_named (10 : Int32))), .second, .val (.int (1 : Int32)), .val (.int (1 : Int32)), .unset, .unset] [(.int (1 : Int32))]) _
  refine stp (fun _ => XS.goto X8.here hx rfl (pc0 := 106) (pc' := 110) rfl (hb hby at_106) (by decide) (by decide)) ?_
  show Go p e below T8 (mkF m 110 #[.val (.int p0), .val (.int p1), .val (.int pp), .val (.int qq), .val (.int (own_min pp qq)), .val (.int (own_max pp qq)), .val (.double (own_named pp)), .second, .val (.double (own_named (own_min pp qq))), .second, .val (.double (own_named (own_max pp qq))), .second, .val (.double (own_named (0 : Int32))), .second, .val (.double (own_named (10 : Int32))), .second, .val (.int (1 : Int32)), .val (.int (1 : Int32)), .unset, .unset] [(.int (1 : Int32))]) _
  refine stp (fun _ => XS.istore X8.here hx rfl (hb hby at_110) rfl (l' := #[.val (.int p0), .val (.int p1), .val (.int pp), .val (.int qq), .val (.int (own_min pp qq)), .val (.int (own_max pp qq)), .val (.double (own_named pp)), .second, .val (.double (own_named (own_min pp qq))), .second, .val (.double (own_named (own_max pp qq))), .second, .val (.double (own_named (0 : Int32))), .second, .val (.double (own_named (10 : Int32))), .second, .val (.int (1 : Int32)), .val (.int (1 : Int32)), .val (.int (1 : Int32)), .unset]) rfl) ?_
  show Go p e below T8 (mkF m 112 #[.val (.int p0), .val (.int p1), .val (.int pp), .val (.int qq), .val (.int (own_min pp qq)), .val (.int (own_max pp qq)), .val (.double (own_named pp)), .second, .val (.double (own_named (own_min pp qq))), .second, .val (.double (own_named (own_max pp qq))), .second, .val (.double (own_named (0 : Int32))), .second, .val (.double (own_named (10 : Int32))), .second, .val (.int (1 : Int32)), .val (.int (1 : Int32)), .val (.int (1 : Int32)), .unset] []) _
  refine stp (fun _ => XS.dload X8.here hx rfl (hb hby at_112) rfl) ?_
  show Go p e below T8 (mkF m 114 #[.val (.int p0), .val (.int p1), .val (.int pp), .val (.int qq), .val (.int (own_min pp qq)), .val (.int (own_max pp qq)), .val (.double (own_named pp)), .second, .val (.double (own_named (own_min pp qq))), .second, .val (.double (own_named (own_max pp qq))), .second, .val (.double (own_named (0 : Int32))), .second, .val (.double (own_named (10 : Int32))), .second, .val (.int (1 : Int32)), .val (.int (1 : Int32)), .val (.int (1 : Int32)), .unset] [(.double (own_named (0 : Int32)))]) _
  refine stp (fun _ => XS.dconst0 X8.here hx rfl (hb hby at_114) (v := (0 : UInt64)) (by decide +kernel)) ?_
  show Go p e below T8 (mkF m 115 #[.val (.int p0), .val (.int p1), .val (.int pp), .val (.int qq), .val (.int (own_min pp qq)), .val (.int (own_max pp qq)), .val (.double (own_named pp)), .second, .val (.double (own_named (own_min pp qq))), .second, .val (.double (own_named (own_max pp qq))), .second, .val (.double (own_named (0 : Int32))), .second, .val (.double (own_named (10 : Int32))), .second, .val (.int (1 : Int32)), .val (.int (1 : Int32)), .val (.int (1 : Int32)), .unset] [(.double (0 : UInt64)), (.double (own_named (0 : Int32)))]) _
  refine stp (fun _ => XS.dcmpS X8.here hx rfl (hb hby at_115) rfl rfl) ?_
  show Go p e below T8 (mkF m 116 #[.val (.int p0), .val (.int p1), .val (.int pp), .val (.int qq), .val (.int (own_min pp qq)), .val (.int (own_max pp qq)), .val (.double (own_named pp)), .second, .val (.double (own_named (own_min pp qq))), .second, .val (.double (own_named (own_max pp qq))), .second, .val (.double (own_named (0 : Int32))), .second, .val (.double (own_named (10 : Int32))), .second, .val (.int (1 : Int32)), .val (.int (1 : Int32)), .val (.int (1 : Int32)), .unset] [(.int (cmpValue (FP.dcmp (own_named (0 : Int32)) (0 : UInt64)) .l))]) _
  refine stp (fun _ => XS.ifNo X8.here hx rfl (hb hby at_116) rfl (XT.i0_ne_f own_at0)) ?_
  show Go p e below T8 (mkF m 119 #[.val (.int p0), .val (.int p1), .val (.int pp), .val (.int qq), .val (.int (own_min pp qq)), .val (.int (own_max pp qq)), .val (.double (own_named pp)), .second, .val (.double (own_named (own_min pp qq))), .second, .val (.double (own_named (own_max pp qq))), .second, .val (.double (own_named (0 : Int32))), .second, .val (.double (own_named (10 : Int32))), .second, .val (.int (1 : Int32)), .val (.int (1 : Int32)), .val (.int (1 : Int32)), .unset] []) _
  refine stp (fun _ => XS.dload X8.here hx rfl (hb hby at_119) rfl) ?_
  show Go p e below T8 (mkF m 121 #[.val (.int p0), .val (.int p1), .val (.int pp), .val (.int qq), .val (.int (own_min pp qq)), .val (.int (own_max pp qq)), .val (.double (own_named pp)), .second, .val (.double (own_named (own_min pp qq))), .second, .val (.double (own_named (own_max pp qq))), .second, .val (.double (own_named (0 : Int32))), .second, .val (.double (own_named (10 : Int32))), .second, .val (.int (1 : Int32)), .val (.int (1 : Int32)), .val (.int (1 : Int32)), .unset] [(.double (own_named (10 : Int32)))]) _
  refine stp (fun _ => X8.ldc2DoubleC hx hown (mvT hZ (hw _ (List.mem_of_getElem? (i := 20) rfl))) (g := (mkF m 121 #[.val (.int p0), .val (.int p1), .val (.int pp), .val (.int qq), .val (.int (own_min pp qq)), .val (.int (own_max pp qq)), .val (.double (own_named pp)), .second, .val (.double (own_named (own_min pp qq))), .second, .val (.double (own_named (own_max pp qq))), .second, .val (.double (own_named (0 : Int32))), .second, .val (.double (own_named (10 : Int32))), .second, .val (.int (1 : Int32)), .val (.int (1 : Int32)), .val (.int (1 : Int32)), .unset] [(.double (own_named (10 : Int32)))])) rfl (hb hby at_121) _) ?_
  show Go p e below T8 (mkF m 124 #[.val (.int p0), .val (.int p1), .val (.int pp), .val (.int qq), .val (.int (own_min pp qq)), .val (.int (own_max pp qq)), .val (.double (own_named pp)), .second, .val (.double (own_named (own_min pp qq))), .second, .val (.double (own_named (own_max pp qq))), .second, .val (.double (own_named (0 : Int32))), .second, .val (.double (own_named (10 : Int32))), .second, .val (.int (1 : Int32)), .val (.int (1 : Int32)), .val (.int (1 : Int32)), .unset] [(.double (4616189618054758400 : UInt64)), (.double (own_named (10 : Int32)))]) _
  refine stp (fun _ => XS.dcmpS X8.here hx rfl (hb hby at_124) rfl rfl) ?_
  show Go p e below T8 (mkF m 125 #[.val (.int p0), .val (.int p1), .val (.int pp), .val (.int qq), .val (.int (own_min pp qq)), .val (.int (own_max pp qq)), .val (.double (own_named pp)), .second, .val (.double (own_named (own_min pp qq))), .second, .val (.double (own_named (own_max pp qq))), .second, .val (.double (own_named (0 : Int32))), .second, .val (.double (own_named (10 : Int32))), .second, .val (.int (1 : Int32)), .val (.int (1 : Int32)), .val (.int (1 : Int32)), .unset] [(.int (cmpValue (FP.dcmp (own_named (10 : Int32)) (4616189618054758400 : UInt64)) .l))]) _
  refine stp (fun _ => XS.ifNo X8.here hx rfl (hb hby at_125) rfl (XT.i0_ne_f own_at10)) ?_
  show Go p e below T8 (mkF m 128 #[.val (.int p0), .val (.int p1), .val (.int pp), .val (.int qq), .val (.int (own_min pp qq)), .val (.int (own_max pp qq)), .val (.double (own_named pp)), .second, .val (.double (own_named (own_min pp qq))), .second, .val (.double (own_named (own_max pp qq))), .second, .val (.double (own_named (0 : Int32))), .second, .val (.double (own_named (10 : Int32))), .second, .val (.int (1 : Int32)), .val (.int (1 : Int32)), .val (.int (1 : Int32)), .unset] []) _
  refine stp (fun _ => XS.iconst X8.here hx rfl (hb hby at_128)) ?_
  show Go p e below T8 (mkF m 129 #[.val (.int p0), .val (.int p1), .val (.int pp), .val (.int qq), .val (.int (own_min pp qq)), .val (.int (own_max pp qq)), .val (.double (own_named pp)), .second, .val (.double (own_named (own_min pp qq))), .second, .val (.double (own_named (own_max pp qq))), .second, .val (.double (own_named (0 : Int32))), .second, .val (.double (own_named (10 : Int32))), .second, .val (.int (1 : Int32)), .val (.int (1 : Int32)), .val (.int (1 : Int32)), .unset] [(.int (1 : Int32))]) _
  refine stp (fun _ => XS.goto X8.here hx rfl (pc0 := 129) (pc' := 133) rfl (hb hby at_129) (by decide) (by decide)) ?_
  show Go p e below T8 (mkF m 133 #[.val (.int p0), .val (.int p1), .val (.int pp), .val (.int qq), .val (.int (own_min pp qq)), .val (.int (own_max pp qq)), .val (.double (own_named pp)), .second, .val (.double (own_named (own_min pp qq))), .second, .val (.double (own_named (own_max pp qq))), .second, .val (.double (own_named (0 : Int32))), .second, .val (.double (own_named (10 : Int32))), .second, .val (.int (1 : Int32)), .val (.int (1 : Int32)), .val (.int (1 : Int32)), .unset] [(.int (1 : Int32))]) _
  refine stp (fun _ => XS.istore X8.here hx rfl (hb hby at_133) rfl (l' := #[.val (.int p0), .val (.int p1), .val (.int pp), .val (.int qq), .val (.int (own_min pp qq)), .val (.int (own_max pp qq)), .val (.double (own_named pp)), .second, .val (.double (own_named (own_min pp qq))), .second, .val (.double (own_named (own_max pp qq))), .second, .val (.double (own_named (0 : Int32))), .second, .val (.double (own_named (10 : Int32))), .second, .val (.int (1 : Int32)), .val (.int (1 : Int32)), .val (.int (1 : Int32)), .val (.int (1 : Int32))]) rfl) ?_
  show Go p e below T8 (mkF m 135 #[.val (.int p0), .val (.int p1), .val (.int pp), .val (.int qq), .val (.int (own_min pp qq)), .val (.int (own_max pp qq)), .val (.double (own_named pp)), .second, .val (.double (own_named (own_min pp qq))), .second, .val (.double (own_named (own_max pp qq))), .second, .val (.double (own_named (0 : Int32))), .second, .val (.double (own_named (10 : Int32))), .second, .val (.int (1 : Int32)), .val (.int (1 : Int32)), .val (.int (1 : Int32)), .val (.int (1 : Int32))] []) _
  refine stp (fun _ => XS.iload X8.here hx rfl (hb hby at_135) rfl) ?_
  show Go p e below T8 (mkF m 137 #[.val (.int p0), .val (.int p1), .val (.int pp), .val (.int qq), .val (.int (own_min pp qq)), .val (.int (own_max pp qq)), .val (.double (own_named pp)), .second, .val (.double (own_named (own_min pp qq))), .second, .val (.double (own_named (own_max pp qq))), .second, .val (.double (own_named (0 : Int32))), .second, .val (.double (own_named (10 : Int32))), .second, .val (.int (1 : Int32)), .val (.int (1 : Int32)), .val (.int (1 : Int32)), .val (.int (1 : Int32))] [(.int (1 : Int32))]) _
  refine stp (fun _ => XS.ifNo X8.here hx rfl (hb hby at_137) rfl (by decide)) ?_
  show Go p e below T8 (mkF m 140 #[.val (.int p0), .val (.int p1), .val (.int pp), .val (.int qq), .val (.int (own_min pp qq)), .val (.int (own_max pp qq)), .val (.double (own_named pp)), .second, .val (.double (own_named (own_min pp qq))), .second, .val (.double (own_named (own_max pp qq))), .second, .val (.double (own_named (0 : Int32))), .second, .val (.double (own_named (10 : Int32))), .second, .val (.int (1 : Int32)), .val (.int (1 : Int32)), .val (.int (1 : Int32)), .val (.int (1 : Int32))] []) _
  refine stp (fun _ => XS.iload X8.here hx rfl (hb hby at_140) rfl) ?_
  show Go p e below T8 (mkF m 142 #[.val (.int p0), .val (.int p1), .val (.int pp), .val (.int qq), .val (.int (own_min pp qq)), .val (.int (own_max pp qq)), .val (.double (own_named pp)), .second, .val (.double (own_named (own_min pp qq))), .second, .val (.double (own_named (own_max pp qq))), .second, .val (.double (own_named (0 : Int32))), .second, .val (.double (own_named (10 : Int32))), .second, .val (.int (1 : Int32)), .val (.int (1 : Int32)), .val (.int (1 : Int32)), .val (.int (1 : Int32))] [(.int (1 : Int32))]) _
  refine stp (fun _ => XS.ifNo X8.here hx rfl (hb hby at_142) rfl (by decide)) ?_
  show Go p e below T8 (mkF m 145 #[.val (.int p0), .val (.int p1), .val (.int pp), .val (.int qq), .val (.int (own_min pp qq)), .val (.int (own_max pp qq)), .val (.double (own_named pp)), .second, .val (.double (own_named (own_min pp qq))), .second, .val (.double (own_named (own_max pp qq))), .second, .val (.double (own_named (0 : Int32))), .second, .val (.double (own_named (10 : Int32))), .second, .val (.int (1 : Int32)), .val (.int (1 : Int32)), .val (.int (1 : Int32)), .val (.int (1 : Int32))] []) _
  refine stp (fun _ => XS.iload X8.here hx rfl (hb hby at_145) rfl) ?_
  show Go p e below T8 (mkF m 147 #[.val (.int p0), .val (.int p1), .val (.int pp), .val (.int qq), .val (.int (own_min pp qq)), .val (.int (own_max pp qq)), .val (.double (own_named pp)), .second, .val (.double (own_named (own_min pp qq))), .second, .val (.double (own_named (own_max pp qq))), .second, .val (.double (own_named (0 : Int32))), .second, .val (.double (own_named (10 : Int32))), .second, .val (.int (1 : Int32)), .val (.int (1 : Int32)), .val (.int (1 : Int32)), .val (.int (1 : Int32))] [(.int (1 : Int32))]) _
  refine stp (fun _ => XS.ifNo X8.here hx rfl (hb hby at_147) rfl (by decide)) ?_
  show Go p e below T8 (mkF m 150 #[.val (.int p0), .val (.int p1), .val (.int pp), .val (.int qq), .val (.int (own_min pp qq)), .val (.int (own_max pp qq)), .val (.double (own_named pp)), .second, .val (.double (own_named (own_min pp qq))), .second, .val (.double (own_named (own_max pp qq))), .second, .val (.double (own_named (0 : Int32))), .second, .val (.double (own_named (10 : Int32))), .second, .val (.int (1 : Int32)), .val (.int (1 : Int32)), .val (.int (1 : Int32)), .val (.int (1 : Int32))] []) _
  refine stp (fun _ => XS.iload X8.here hx rfl (hb hby at_150) rfl) ?_
  show Go p e below T8 (mkF m 152 #[.val (.int p0), .val (.int p1), .val (.int pp), .val (.int qq), .val (.int (own_min pp qq)), .val (.int (own_max pp qq)), .val (.double (own_named pp)), .second, .val (.double (own_named (own_min pp qq))), .second, .val (.double (own_named (own_max pp qq))), .second, .val (.double (own_named (0 : Int32))), .second, .val (.double (own_named (10 : Int32))), .second, .val (.int (1 : Int32)), .val (.int (1 : Int32)), .val (.int (1 : Int32)), .val (.int (1 : Int32))] [(.int (1 : Int32))]) _
  refine stp (fun _ => XS.ifNo X8.here hx rfl (hb hby at_152) rfl (by decide)) ?_
  show Go p e below T8 (mkF m 155 #[.val (.int p0), .val (.int p1), .val (.int pp), .val (.int qq), .val (.int (own_min pp qq)), .val (.int (own_max pp qq)), .val (.double (own_named pp)), .second, .val (.double (own_named (own_min pp qq))), .second, .val (.double (own_named (own_max pp qq))), .second, .val (.double (own_named (0 : Int32))), .second, .val (.double (own_named (10 : Int32))), .second, .val (.int (1 : Int32)), .val (.int (1 : Int32)), .val (.int (1 : Int32)), .val (.int (1 : Int32))] []) _
  refine stp (fun _ => XS.iconst X8.here hx rfl (hb hby at_155)) ?_
  show Go p e below T8 (mkF m 156 #[.val (.int p0), .val (.int p1), .val (.int pp), .val (.int qq), .val (.int (own_min pp qq)), .val (.int (own_max pp qq)), .val (.double (own_named pp)), .second, .val (.double (own_named (own_min pp qq))), .second, .val (.double (own_named (own_max pp qq))), .second, .val (.double (own_named (0 : Int32))), .second, .val (.double (own_named (10 : Int32))), .second, .val (.int (1 : Int32)), .val (.int (1 : Int32)), .val (.int (1 : Int32)), .val (.int (1 : Int32))] [(.int (1 : Int32))]) _
  refine stp (fun _ => XS.goto X8.here hx rfl (pc0 := 156) (pc' := 160) rfl (hb hby at_156) (by decide) (by decide)) ?_
  show Go p e below T8 (mkF m 160 #[.val (.int p0), .val (.int p1), .val (.int pp), .val (.int qq), .val (.int (own_min pp qq)), .val (.int (own_max pp qq)), .val (.double (own_named pp)), .second, .val (.double (own_named (own_min pp qq))), .second, .val (.double (own_named (own_max pp qq))), .second, .val (.double (own_named (0 : Int32))), .second, .val (.double (own_named (10 : Int32))), .second, .val (.int (1 : Int32)), .val (.int (1 : Int32)), .val (.int (1 : Int32)), .val (.int (1 : Int32))] [(.int (1 : Int32))]) _
  refine outN X8 hx (t := .boolean) hret (by simp) (hb hby at_160) hlk (by decide) (by decide) ?_
  exact ⟨rfl, N8⟩
set_option maxRecDepth 65536 in
set_option maxHeartbeats 40000000 in
theorem comes_1 {Post : Tables → Env → Array Value → State → Outcome → State → Prop} (hpost : ∀ tb e args s v u, (limb_1_1.after args s (.returned v) u = true ∧ limb_1_2.after args s (.returned v) u = true ∧ True) → FrameEnd s (.returned v) u (Jvm.fieldLocs frame_1_writes args s ++ Jvm.arrayLocs frame_1_arrays args s ++ Jvm.staticLocs frame_1_statics s) 0 0 → Post tb e args s (.returned v) u) :
    ArmFor flags0 classFile x code maxLocals ret World_1 tables_1 room_1 Calls_1 rest_1 Pre_1 Post := by
  intro l hfl _ _ p e ha hc hk s m args below hf hA hF happ hP
  obtain ⟨hcalls, hrest, hpre⟩ := hP
  obtain ⟨-, -, -, hnamed, -, -, -, hat⟩ := (Spec.applies_iff hf).mp happ
  obtain ⟨hg, hn⟩ := and_e (Cond.before_iff.mp (show (Jvm.Cond.and given_1 narrow_1).before args s = true from hpre))
  obtain ⟨g1, g2⟩ := and_e hg
  obtain ⟨g3, g4⟩ := and_e g2
  obtain ⟨w0, w1, rfl⟩ : ∃ w0 w1 : Value, args = #[w0, w1] := by
    have hs : args.size = 2 := by simpa [Cond.value, given_1] using g1
    obtain ⟨L⟩ := args
    match L, hs with
    | [w0, w1], _ => exact ⟨w0, w1, rfl⟩
  have hw := fun d (hd : d ∈ tables_1) => atoms_spec (ws := Jvm.Cond.code x code maxLocals ret :: tables_1) hat d (List.mem_cons_of_mem _ hd)
  have hfit : Fit s := fun {y c} hc i hi => by
    obtain ⟨ha, rfl⟩ := Array.getElem?_eq_some_iff.mp hc
    have q := List.all_eq_true.mp ((Array.all_eq_true_iff_forall_mem.mp hF) _ (Array.getElem_mem ha)) i (List.mem_range.mpr hi)
    simpa [Array.getElem?_eq_getElem hi] using q
  obtain ⟨i0, ei0⟩ := is_v g3
  obtain rfl : w0 = (.int i0) := Option.some.inj ei0
  obtain ⟨i1, ei1⟩ := is_v g4
  obtain rfl : w1 = (.int i1) := Option.some.inj ei1
  obtain ⟨n, o, h1, h2, h3, _, L, rfl, ⟨rfl, N⟩, hq⟩ := rm0 l s _ hw tables_1 i0 i1  s.heap s.heap.size (Old.start s)  p e ha hc hk s m _ below hf ((Spec.applies_iff_loose hf).mp happ).1 ⟨rfl, State.Warmed39.refl s, rfl⟩ trivial
  refine ⟨n, _, h1, h2, h3, hpost _ _ _ _ _ _ ⟨Cond.after_iff.mpr rfl, Cond.after_iff.mpr (eq_i res_at (Term.int_eval (1)) rfl), trivial⟩ ⟨hq.1, hq.2.1, (hq.2.2.sift fun y hy => Or.inr (N y hy)).mono (by decide) (by decide)⟩⟩
theorem main_1_1 : Claimed_1_1 := comes_1 fun _ _ _ _ _ _ h hF => ⟨h.1, hF⟩
theorem main_1_2 : Claimed_1_2 := comes_1 fun _ _ _ _ _ _ h hF => ⟨h.2.1, hF⟩
end Jvm.Pilot.@@N@@
namespace Jvm.Pilot.@@N@@
open Jvm Jvm.ClassFile Sem Op Lib Jvm.Free Jvm.Stand Jvm.Pilot.@@N@@.Jvm.D
/-! MADE BY PROGRAM (witnessworld.py) out of the Statement's table words and the real class files: 10 classes; the members and pool entries that the words name. The judged class is class 1, her method 2. -/
namespace start1
open Jvm.ClassFile
def u (s : String) : CpInfo := .utf8 (stringToUtf16 s)
/-- a pool by its gaps: so many unusable entries, then the entry; so many at the end -/
def gap : Nat → List CpInfo → List CpInfo
  | 0, r => r
  | n + 1, r => .unusable :: gap n r
def poolList (es : List (Nat × CpInfo)) (last : Nat) : List CpInfo := es.foldr (fun e r => gap e.1 (e.2 :: r)) (gap last [])
def pool (es : List (Nat × CpInfo)) (last : Nat) : Array CpInfo := ⟨poolList es last⟩
def fileOf (pool : Array CpInfo) (this : Nat) (attrs : Array Attribute := #[]) (ms : Array MethodInfo := #[]) (fl : Nat := 33) (sup : Nat := 0) (ifs : Array Nat := #[]) (fds : Array FieldInfo := #[]) : ClassFile where
  minorVersion := 0
  majorVersion := 65
  constantPool := pool
  accessFlags := fl
  thisClass := this
  superClass := sup
  interfaces := ifs
  fields := fds
  methods := ms
  attributes := attrs
def plain (name : String) (sup : Option ClassId) : Class where
  name := name
  kind := .ordinary
  loader := none
  accessFlags := 33
  super := sup
  interfaces := #[]
  cf := none
  fields := #[]
  methods := #[]
  instanceTypes := #[]
  staticTypes := #[]
  resolved := #[]
  callSites := []
  init := .initialized
  statics := none
  mirror := none

def pool0 : Array CpInfo := pool [(5, u "<init>"), (0, u "()V"), (1, .class_ 10), (1, u "java/lang/Object")] 113

def k0m0 : Method := { name := "<init>", desc := "()V", sig := { parameters := [], returnType := none }, accessFlags := 1, code := none }
/-- java/lang/Object -/
def k0 : Class := { plain "java/lang/Object" none with
  accessFlags := 33
  interfaces := #[]
  cf := some (fileOf pool0 8 #[] #[{ accessFlags := 1, nameIndex := 5, descriptorIndex := 6, attributes := #[] }] 33 0 #[] #[])
  fields := #[]
  methods := #[k0m0]
  instanceTypes := #[]
  staticTypes := #[]
  resolved := Array.replicate 124 none
  statics := none }

def pool1 : Array CpInfo := pool [(2, .class_ 4), (1, u "java/lang/Object"), (0, u "<init>"), (0, u "()V"), (0, .double 4621819117588971520), (1, .double 4620693217682128896), (1, .integer 2147483647), (0, .methodref 13 14), (0, .class_ 15), (0, .nameAndType 16 17), (0, u "java/lang/Math"), (0, u "min"), (0, u "(II)I"), (0, .methodref 13 19), (0, .nameAndType 20 17), (0, u "max"), (0, .methodref 22 23), (0, .class_ 24), (0, .nameAndType 25 26), (0, u "com/example/fetch_to_rank/fetchtorank/search/Ranking"), (0, u "named"), (0, u "(I)D"), (0, .methodref 28 29), (0, .class_ 30), (0, .nameAndType 31 26), (0, u "com/example/fetch_to_rank/fetchtorank/search/RankingNamedPinLaw"), (0, u "reference"), (0, .double 4616189618054758400), (3, u "law"), (0, u "(II)Z")] 3

def k1m0 : Method := { name := "<init>", desc := "()V", sig := { parameters := [], returnType := none }, accessFlags := 2, code := none }
def k1c1 : Code := { maxStack := 6, maxLocals := 3, code := method_2_code, exceptionTable := #[], attributes := #[] }
def k1m1 : Method := { name := "reference", desc := "(I)D", sig := { parameters := [.int], returnType := some .double }, accessFlags := 10, code := some k1c1 }
def k1c2 : Code := { maxStack := 4, maxLocals := 20, code := code, exceptionTable := #[], attributes := #[] }
def k1m2 : Method := { name := "law", desc := "(II)Z", sig := { parameters := [.int, .int], returnType := some .boolean }, accessFlags := 9, code := some k1c2 }
/-- com/example/fetch_to_rank/fetchtorank/search/RankingNamedPinLaw -/
def k1 : Class := { plain "com/example/fetch_to_rank/fetchtorank/search/RankingNamedPinLaw" (some 0) with
  accessFlags := 49
  interfaces := #[]
  cf := some (fileOf pool1 28 #[] #[{ accessFlags := 2, nameIndex := 5, descriptorIndex := 6, attributes := #[] }, { accessFlags := 10, nameIndex := 31, descriptorIndex := 26, attributes := #[] }, { accessFlags := 9, nameIndex := 36, descriptorIndex := 37, attributes := #[] }] 49 2 #[] #[])
  fields := #[]
  methods := #[k1m0, k1m1, k1m2]
  instanceTypes := #[]
  staticTypes := #[]
  resolved := Array.replicate 41 none
  statics := none }

def pool2 : Array CpInfo := pool [(1, .class_ 2), (0, u "java/lang/Math"), (1, .class_ 6), (1, u "java/lang/Object"), (0, u "<init>"), (0, u "()V"), (89, .class_ 100), (1, u "java/lang/Math$RandomNumberGeneratorHolder"), (71, u "negativeZeroFloatBits"), (0, u "J"), (2, u "negativeZeroDoubleBits"), (21, u "max"), (2, u "min"), (43, u "$assertionsDisabled"), (0, u "Z"), (88, u "(II)I"), (2, u "twoToTheDoubleScaleDown"), (0, u "D"), (4, u "twoToTheDoubleScaleUp"), (9, u "E"), (3, u "PI"), (2, u "TAU"), (2, u "DEGREES_TO_RADIANS"), (0, u "RADIANS_TO_DEGREES")] 94

def k2m0 : Method := { name := "<init>", desc := "()V", sig := { parameters := [], returnType := none }, accessFlags := 2, code := none }
def k2c1 : Code := { maxStack := 2, maxLocals := 2, code := jdk_29_method_65_code, exceptionTable := #[], attributes := #[] }
def k2m1 : Method := { name := "max", desc := "(II)I", sig := { parameters := [.int, .int], returnType := some .int }, accessFlags := 9, code := some k2c1 }
def k2c2 : Code := { maxStack := 2, maxLocals := 2, code := jdk_29_method_69_code, exceptionTable := #[], attributes := #[] }
def k2m2 : Method := { name := "min", desc := "(II)I", sig := { parameters := [.int, .int], returnType := some .int }, accessFlags := 9, code := some k2c2 }
/-- java/lang/Math -/
def k2 : Class := { plain "java/lang/Math" (some 0) with
  accessFlags := 49
  interfaces := #[]
  cf := some (fileOf pool2 1 #[.nestMembers #[98]] #[{ accessFlags := 2, nameIndex := 7, descriptorIndex := 8, attributes := #[] }, { accessFlags := 9, nameIndex := 198, descriptorIndex := 335, attributes := #[] }, { accessFlags := 9, nameIndex := 201, descriptorIndex := 335, attributes := #[] }] 49 4 #[] #[{ accessFlags := 25, nameIndex := 354, descriptorIndex := 339, attributes := #[] }, { accessFlags := 25, nameIndex := 358, descriptorIndex := 339, attributes := #[] }, { accessFlags := 25, nameIndex := 361, descriptorIndex := 339, attributes := #[] }, { accessFlags := 26, nameIndex := 364, descriptorIndex := 339, attributes := #[] }, { accessFlags := 26, nameIndex := 365, descriptorIndex := 339, attributes := #[] }, { accessFlags := 26, nameIndex := 172, descriptorIndex := 173, attributes := #[] }, { accessFlags := 26, nameIndex := 176, descriptorIndex := 173, attributes := #[] }, { accessFlags := 8, nameIndex := 344, descriptorIndex := 339, attributes := #[] }, { accessFlags := 8, nameIndex := 338, descriptorIndex := 339, attributes := #[] }, { accessFlags := 4120, nameIndex := 245, descriptorIndex := 246, attributes := #[] }])
  fields := #[{ name := "E", type := .double, accessFlags := 25, slot := 0, constantValue := 0 }, { name := "PI", type := .double, accessFlags := 25, slot := 1, constantValue := 0 }, { name := "TAU", type := .double, accessFlags := 25, slot := 2, constantValue := 0 }, { name := "DEGREES_TO_RADIANS", type := .double, accessFlags := 26, slot := 3, constantValue := 0 }, { name := "RADIANS_TO_DEGREES", type := .double, accessFlags := 26, slot := 4, constantValue := 0 }, { name := "negativeZeroFloatBits", type := .long, accessFlags := 26, slot := 5, constantValue := 0 }, { name := "negativeZeroDoubleBits", type := .long, accessFlags := 26, slot := 6, constantValue := 0 }, { name := "twoToTheDoubleScaleUp", type := .double, accessFlags := 8, slot := 7, constantValue := 0 }, { name := "twoToTheDoubleScaleDown", type := .double, accessFlags := 8, slot := 8, constantValue := 0 }, { name := "$assertionsDisabled", type := .boolean, accessFlags := 4120, slot := 9, constantValue := 0 }]
  methods := #[k2m0, k2m1, k2m2]
  instanceTypes := #[]
  staticTypes := #[.double, .double, .double, .double, .double, .long, .long, .double, .double, .boolean]
  resolved := Array.replicate 460 none
  statics := none }

def pool3 : Array CpInfo := pool [(2, .class_ 4), (1, u "java/lang/Object"), (0, u "<init>"), (0, u "()V"), (1, .class_ 10), (1, u "com/example/fetch_to_rank/fetchtorank/search/Ranking$1"), (20, .class_ 33), (1, u "com/example/fetch_to_rank/fetchtorank/search/Ranking"), (2, .double 4620693217682128896), (1, .double 4621819117588971520), (7, u "HALF_COUNT"), (0, u "D"), (1, u "NAME_WEIGHT"), (0, u "NAME_HALF_COUNT"), (0, u "PAGERANK_WEIGHT"), (7, u "named"), (0, u "(I)D")] 6

def k3m0 : Method := { name := "<init>", desc := "()V", sig := { parameters := [], returnType := none }, accessFlags := 2, code := none }
def k3c1 : Code := { maxStack := 6, maxLocals := 1, code := prog_29_method_4_code, exceptionTable := #[], attributes := #[] }
def k3m1 : Method := { name := "named", desc := "(I)D", sig := { parameters := [.int], returnType := some .double }, accessFlags := 8, code := some k3c1 }
/-- com/example/fetch_to_rank/fetchtorank/search/Ranking -/
def k3 : Class := { plain "com/example/fetch_to_rank/fetchtorank/search/Ranking" (some 0) with
  accessFlags := 48
  interfaces := #[]
  cf := some (fileOf pool3 31 #[.nestMembers #[8]] #[{ accessFlags := 2, nameIndex := 5, descriptorIndex := 6, attributes := #[] }, { accessFlags := 8, nameIndex := 59, descriptorIndex := 60, attributes := #[] }] 48 2 #[] #[{ accessFlags := 26, nameIndex := 46, descriptorIndex := 47, attributes := #[] }, { accessFlags := 26, nameIndex := 49, descriptorIndex := 47, attributes := #[] }, { accessFlags := 26, nameIndex := 50, descriptorIndex := 47, attributes := #[] }, { accessFlags := 26, nameIndex := 51, descriptorIndex := 47, attributes := #[] }])
  fields := #[{ name := "HALF_COUNT", type := .double, accessFlags := 26, slot := 0, constantValue := 0 }, { name := "NAME_WEIGHT", type := .double, accessFlags := 26, slot := 1, constantValue := 0 }, { name := "NAME_HALF_COUNT", type := .double, accessFlags := 26, slot := 2, constantValue := 0 }, { name := "PAGERANK_WEIGHT", type := .double, accessFlags := 26, slot := 3, constantValue := 0 }]
  methods := #[k3m0, k3m1]
  instanceTypes := #[]
  staticTypes := #[.double, .double, .double, .double]
  resolved := Array.replicate 67 none
  statics := none }

def pool4 : Array CpInfo := pool [(1, u "java/lang/Cloneable"), (0, .class_ 1), (0, u "java/lang/Object"), (0, .class_ 3)] 3

/-- java/lang/Cloneable -/
def k4 : Class := { plain "java/lang/Cloneable" (some 0) with
  accessFlags := 1537
  interfaces := #[]
  cf := some (fileOf pool4 2 #[] #[] 1537 4 #[] #[])
  fields := #[]
  methods := #[]
  instanceTypes := #[]
  staticTypes := #[]
  resolved := Array.replicate 8 none
  statics := none }

def pool5 : Array CpInfo := pool [(1, u "java/io/Serializable"), (0, .class_ 1), (0, u "java/lang/Object"), (0, .class_ 3)] 3

/-- java/io/Serializable -/
def k5 : Class := { plain "java/io/Serializable" (some 0) with
  accessFlags := 1537
  interfaces := #[]
  cf := some (fileOf pool5 2 #[] #[] 1537 4 #[] #[])
  fields := #[]
  methods := #[]
  instanceTypes := #[]
  staticTypes := #[]
  resolved := Array.replicate 8 none
  statics := none }

/-- the primitive byte -/
def k6 : Class := { plain "byte" none with kind := .primitive 'B', accessFlags := 0x411 }
/-- [B -/
def k7 : Class := { plain "[B" (some 0) with kind := .array 6 .byte, interfaces := #[4, 5], accessFlags := 1041 }

/-- the primitive int -/
def k8 : Class := { plain "int" none with kind := .primitive 'I', accessFlags := 0x411 }
/-- [I -/
def k9 : Class := { plain "[I" (some 0) with kind := .array 8 .int, interfaces := #[4, 5], accessFlags := 1041 }

def heap : Heap := #[]
def classes : Array Class := #[k0, k1, k2, k3, k4, k5, k6, k7, k8, k9]
def interned : List (Array UInt16 × Addr) := []
def slotsUsed : Nat := 0
def theMethod : MethodId := ⟨1, 2⟩
def args0 : Array Value := #[.int 5, .int 7]
def aboutOver (below : List Frame) : State where
  vm := { classes := classes, interned := interned.toArray }
  heap := heap
  slotsUsed := slotsUsed
  threads := #[{ frames := .invoking theMethod args0 :: below }]
def below0 : List Frame := [.native { method := ⟨0, 0⟩, args := #[] }]
def about1 : State := aboutOver below0
def p0 : Program := .bare "" "" ""
def e0 : Env := launch0.env 0 0 0
theorem w_frames : about1.frames = Frame.invoking theMethod args0 :: below0 := rfl
set_option maxRecDepth 65536 in
theorem w_args : argsFit about1.vm theMethod args0 = true := by decide +kernel
set_option maxRecDepth 65536 in
theorem w_heap : heapFits about1 = true := by decide +kernel
set_option maxRecDepth 65536 in
theorem w_runnable : about1.curStatus? = some .runnable := by decide +kernel
set_option maxRecDepth 65536 in
theorem w_alone : about1.alone = true := by decide +kernel
set_option maxRecDepth 65536 in
theorem w_named : about1.methodNamed? x = some theMethod := by decide +kernel
set_option maxRecDepth 65536 in
theorem w_hears : about1.hears theMethod below0 = true := by decide +kernel
set_option maxRecDepth 65536 in
theorem w_ripe : about1.ripe theMethod args0 below0 = true := by decide +kernel
theorem w_running : about1.status = .running := rfl
set_option maxRecDepth 65536 in
theorem w_room : about1.hasRoom e0.platform room_1 = true :=
  launch0.hasRoom_least _ room_1 (by decide +kernel) (by decide +kernel) (by decide +kernel) (by decide +kernel) (by decide +kernel) (by decide +kernel)
theorem allAtoms_all (ts : List Jvm.Cond) (a : Array Jvm.Value) (st : Jvm.State) : (allAtoms ts).before a st = ts.all (fun c => c.before a st) := by
  induction ts with
  | nil => rfl
  | cons c t ih =>
    show (Jvm.Cond.and c (allAtoms t)).before a st = _
    rw [Jvm.Cond.before_and, ih, List.all_cons]
def words1 : List Jvm.Cond := Jvm.Cond.code x code maxLocals ret :: tables_1
/-- a 'code' word, met by the world's own term for the bytes: nothing is compared byte by byte -/
theorem code_word {y : MethodName} {bytes : ByteArray} {mx : Nat} {rt : Option FieldType} {a : Array Value} {s : State} {m : MethodId} {meth : Method} {c : Code} (h1 : s.methodNamed? y = some m) (h2 : s.vm.method? m = some meth) (h3 : meth.code = some c) (h4 : c.code = bytes)
    (h5 : (c.maxLocals == mx && c.exceptionTable.isEmpty && decide (c.maxStack ≤ mostOperands) && decide (meth.sig.returnType = rt) && !meth.locks && decide (parseMethodDescriptor y.desc = some meth.sig)) = true) : (Jvm.Cond.code y bytes mx rt).before a s = true := by
  simp only [Bool.and_eq_true, beq_iff_eq, Bool.not_eq_true', decide_eq_true_eq] at h5
  obtain ⟨⟨⟨⟨⟨g1, g2⟩, g3⟩, g4⟩, g5⟩, g6⟩ := h5
  simp [Cond.before, Cond.holds, Cond.value, h1, h2, h3, h4, g1, g2, g3, g4, g5, g6]
def isCode : Jvm.Cond → Bool
  | .code _ _ _ _ => true
  | _ => false
theorem all_split {L : List Jvm.Cond} {P : Jvm.Cond → Bool} (h1 : L.all (fun c => isCode c || P c) = true) (h2 : ∀ c ∈ L.filter isCode, P c = true) : L.all P = true := by
  refine List.all_eq_true.mpr fun c hc => ?_
  have h := List.all_eq_true.mp h1 c hc
  rcases Bool.eq_false_or_eq_true (isCode c) with hi | hi
  · exact h2 c (List.mem_filter.mpr ⟨hc, hi⟩)
  · simpa [hi] using h
set_option maxRecDepth 65536 in
theorem w_c0 : (Jvm.Cond.code x code maxLocals ret).before args0 about1 = true := code_word (m := ⟨1, 2⟩) (meth := k1m2) (c := k1c2) (by decide +kernel) rfl rfl rfl (by decide +kernel)
set_option maxRecDepth 65536 in
theorem w_c1 : (Jvm.Cond.code ({ cls := "java/lang/Math", name := "min", desc := "(II)I" } : Jvm.MethodName) jdk_29_method_69_code (2 : Nat) (Option.some Jvm.ClassFile.FieldType.int)).before args0 about1 = true := code_word (m := ⟨2, 2⟩) (meth := k2m2) (c := k2c2) (by decide +kernel) rfl rfl rfl (by decide +kernel)
set_option maxRecDepth 65536 in
theorem w_c2 : (Jvm.Cond.code ({ cls := "java/lang/Math", name := "max", desc := "(II)I" } : Jvm.MethodName) jdk_29_method_65_code (2 : Nat) (Option.some Jvm.ClassFile.FieldType.int)).before args0 about1 = true := code_word (m := ⟨2, 1⟩) (meth := k2m1) (c := k2c1) (by decide +kernel) rfl rfl rfl (by decide +kernel)
set_option maxRecDepth 65536 in
theorem w_c3 : (Jvm.Cond.code ({ cls := "com/example/fetch_to_rank/fetchtorank/search/Ranking", name := "named", desc := "(I)D" } : Jvm.MethodName) prog_29_method_4_code (1 : Nat) (Option.some Jvm.ClassFile.FieldType.double)).before args0 about1 = true := code_word (m := ⟨3, 1⟩) (meth := k3m1) (c := k3c1) (by decide +kernel) rfl rfl rfl (by decide +kernel)
set_option maxRecDepth 65536 in
theorem w_c4 : (Jvm.Cond.code ({ cls := "com/example/fetch_to_rank/fetchtorank/search/RankingNamedPinLaw", name := "reference", desc := "(I)D" } : Jvm.MethodName) method_2_code (3 : Nat) (Option.some Jvm.ClassFile.FieldType.double)).before args0 about1 = true := code_word (m := ⟨1, 1⟩) (meth := k1m1) (c := k1c1) (by decide +kernel) rfl rfl rfl (by decide +kernel)
def codes1 : List Jvm.Cond := [Jvm.Cond.code x code maxLocals ret, Jvm.Cond.code ({ cls := "java/lang/Math", name := "min", desc := "(II)I" } : Jvm.MethodName) jdk_29_method_69_code (2 : Nat) (Option.some Jvm.ClassFile.FieldType.int), Jvm.Cond.code ({ cls := "java/lang/Math", name := "max", desc := "(II)I" } : Jvm.MethodName) jdk_29_method_65_code (2 : Nat) (Option.some Jvm.ClassFile.FieldType.int), Jvm.Cond.code ({ cls := "com/example/fetch_to_rank/fetchtorank/search/Ranking", name := "named", desc := "(I)D" } : Jvm.MethodName) prog_29_method_4_code (1 : Nat) (Option.some Jvm.ClassFile.FieldType.double), Jvm.Cond.code ({ cls := "com/example/fetch_to_rank/fetchtorank/search/RankingNamedPinLaw", name := "reference", desc := "(I)D" } : Jvm.MethodName) method_2_code (3 : Nat) (Option.some Jvm.ClassFile.FieldType.double)]
set_option maxRecDepth 65536 in
theorem codes_eq : words1.filter isCode = codes1 := rfl
theorem w_codes : ∀ c ∈ words1.filter isCode, c.before args0 about1 = true := by
  rw [codes_eq]
  intro c hc
  simp only [codes1, List.mem_cons, List.not_mem_nil, or_false] at hc
  rcases hc with rfl | rfl | rfl | rfl | rfl
  · exact w_c0
  · exact w_c1
  · exact w_c2
  · exact w_c3
  · exact w_c4
set_option maxRecDepth 65536 in
theorem w_t1 : words1.all (fun c => isCode c || c.before args0 about1) = true := by decide +kernel
theorem w_tables : (allAtoms (Jvm.Cond.code x code maxLocals ret :: tables_1)).before args0 about1 = true := by
  rw [allAtoms_all]
  show words1.all (fun c => c.before args0 about1) = true
  refine all_split ?_ w_codes
  rw [w_t1]
set_option maxRecDepth 65536 in
theorem w_case : (Jvm.Cond.and given_1 narrow_1).before args0 about1 = true := by decide +kernel
theorem w_applies : (headSpec (Jvm.Cond.code x code maxLocals ret :: tables_1) room_1).applies x e0.platform about1 = true :=
  (Spec.applies_iff w_frames).mpr ⟨w_running, w_runnable, w_alone, w_named, w_hears, w_ripe, w_room, w_tables⟩
theorem atStart : AtStart classFile x code maxLocals ret World_1 tables_1 room_1 Calls_1 rest_1 Pre_1 launch0 p0 e0 about1 theMethod args0 below0 :=
  ⟨lists_1, trivial, launch0.admits_env _ _ _, launch0.least_env, fairChoices_fair.cas, fairChoices_fair.clock, w_frames, w_args, w_heap, w_applies, trivial, trivial, w_case⟩
end start1
theorem witness_1 : WitnessClaimed_1 := ⟨start1.p0, start1.e0, start1.about1, start1.theMethod, start1.args0, start1.below0, start1.atStart⟩
end Jvm.Pilot.@@N@@
