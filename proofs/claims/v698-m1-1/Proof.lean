import JvmDerived
import JvmDerived.Pilot.@@N@@Statement
import JvmDerived.Pilot.@@N@@Code
set_option linter.unusedVariables false
set_option linter.unusedSimpArgs false
namespace Jvm.OwnKit
open Sem ClassFile Op Lib Jvm.Stand Jvm.Free Jvm.LawKit Jvm.RoadKit
section Go
variable {p : Program} {l : Launch} {e : Env} {R : Room} {s : State} {m : MethodId} {args : Array Value} {below : List Frame} {meth : Method} {c : Code} {T T' : State} {locs : List Loc} {cells slots : Nat} {g g' : JFrame} {P : Outcome → State → Prop} {Q : Option Value → Heap → List Loc → Prop} {k n pc : Nat} {Ls : Array Slot} {rest : List Value}
/-- from this state and frame the invocation comes to its end, and the end is as P says -/
def Go (p : Program) (e : Env) (below : List Frame) (T : State) (g : JFrame) (P : Outcome → State → Prop) : Prop :=
  ∃ s₂ o, Steps p.tables e below (T.setTop g) s₂ ∧ s₂.status = .running ∧ Ended s₂ below o ∧ P o s₂
abbrev Po (s : State) (Q : Option Value → Heap → List Loc → Prop) (k n : Nat) : Outcome → State → Prop := fun o U' => ∃ v L, o = .returned v ∧ Q v U'.heap L ∧ FrameEnd s o U' L k n
theorem stp (h : ∀ t, Steps p.tables e below (T'.setTop g') t → Steps p.tables e below (T.setTop g) t) (K : Go p e below T' g' P) : Go p e below T g P := by
  obtain ⟨s2, o, h1, h2⟩ := K
  exact ⟨s2, o, h _ h1, h2⟩
theorem stt (h : Steps p.tables e below (T.setTop g) (T'.setTop g')) (K : Go p e below T' g' P) : Go p e below T g P := by
  obtain ⟨s2, o, h1, h2⟩ := K
  exact ⟨s2, o, h.trans h1, h2⟩
theorem out (X : Stand p l e R s m args below meth c T locs cells slots) {v : Option Value} (hl : meth.locks = false) (hv : meth.sig.returnType = none → v = none)
    (hst : ∀ fs : List Frame, (∀ (f : JFrame) (acts : List Action), f.method = m → f.locked = none → f.entered = [] → (doReturn e (T.setTop f) acts v).1 = T.setFrames fs) → Steps p.tables e below (T.setTop g) (T.setFrames fs))
    (hc : cells ≤ k) (hn : slots ≤ n) (hQ : Q v T.heap locs) : Go p e below T g (Po s Q k n) := by
  obtain ⟨fs, hr, hrun, hended, hW, hsame⟩ := X.leave (v := v) hv hl
  exact ⟨_, _, hst fs hr, hrun, hended, v, locs, rfl, hQ, ⟨_, rfl⟩, hW, hsame.mono hc hn⟩
theorem outN (X : Stand p l e R s m args below meth c T locs cells slots) (hx : p.tables.exec = Jvm.exec) {t : FieldType} {z : Int32} (hret : meth.sig.returnType = some t) (ht : t = .boolean ∨ t = .byte ∨ t = .char ∨ t = .short) (hd : decode c.code pc = .ok (.ireturn, 1)) (hl : meth.locks = false)
    (hc : cells ≤ k) (hn : slots ≤ n) (hQ : Q (some (.int (nar t z))) T.heap locs) : Go p e below T (mkF m pc Ls (.int z :: rest)) (Po s Q k n) :=
  out X hl (fun h => by rw [hret] at h; cases h) (fun fs hr => retN X hx hret ht hd hr) hc hn hQ
theorem outI (X : Stand p l e R s m args below meth c T locs cells slots) (hx : p.tables.exec = Jvm.exec) {z : Int32} (hret : meth.sig.returnType = some .int) (hd : decode c.code pc = .ok (.ireturn, 1)) (hl : meth.locks = false)
    (hc : cells ≤ k) (hn : slots ≤ n) (hQ : Q (some (.int z)) T.heap locs) : Go p e below T (mkF m pc Ls (.int z :: rest)) (Po s Q k n) :=
  out X hl (fun h => by rw [hret] at h; cases h) (fun fs hr => retOut X hx hret rfl (Or.inl ⟨rfl, Or.inl rfl, _, rfl⟩) hd hr) hc hn hQ
theorem outJ (X : Stand p l e R s m args below meth c T locs cells slots) (hx : p.tables.exec = Jvm.exec) {z : Int64} (hret : meth.sig.returnType = some .long) (hd : decode c.code pc = .ok (.lreturn, 1)) (hl : meth.locks = false)
    (hc : cells ≤ k) (hn : slots ≤ n) (hQ : Q (some (.long z)) T.heap locs) : Go p e below T (mkF m pc Ls (.long z :: rest)) (Po s Q k n) :=
  out X hl (fun h => by rw [hret] at h; cases h) (fun fs hr => retOut X hx hret rfl (Or.inr (Or.inl ⟨rfl, rfl, _, rfl⟩)) hd hr) hc hn hQ
theorem outD (X : Stand p l e R s m args below meth c T locs cells slots) (hx : p.tables.exec = Jvm.exec) {w : Value} (hret : meth.sig.returnType = some .double) (hw : ∃ z, w = .double z) (hd : decode c.code pc = .ok (.dreturn, 1)) (hl : meth.locks = false)
    (hc : cells ≤ k) (hn : slots ≤ n) (hQ : Q (some w) T.heap locs) : Go p e below T (mkF m pc Ls (w :: rest)) (Po s Q k n) := by
  obtain ⟨z, rfl⟩ := hw
  exact out X hl (fun h => by rw [hret] at h; cases h) (fun fs hr => retOut X hx hret rfl (Or.inr (Or.inr (Or.inl ⟨rfl, rfl, _, rfl⟩))) hd hr) hc hn hQ
theorem outA (X : Stand p l e R s m args below meth c T locs cells slots) (hx : p.tables.exec = Jvm.exec) {w : Value} {t : FieldType} (hret : meth.sig.returnType = some t) (ht : t.isReference = true) (hw : w.isRef = true) (hd : decode c.code pc = .ok (.areturn, 1)) (hl : meth.locks = false)
    (hc : cells ≤ k) (hn : slots ≤ n) (hQ : Q (some w) T.heap locs) : Go p e below T (mkF m pc Ls (w :: rest)) (Po s Q k n) := by
  refine out X hl (fun h => by rw [hret] at h; cases h) (fun fs hr => retOut X hx hret ?_ (Or.inr (Or.inr (Or.inr (Or.inr ⟨rfl, ht, hw⟩)))) hd hr) hc hn hQ
  rcases ref_cases hw with rfl | ⟨a, rfl⟩ <;> cases t <;> first | rfl | cases ht
theorem outV (X : Stand p l e R s m args below meth c T locs cells slots) (hx : p.tables.exec = Jvm.exec) (hret : meth.sig.returnType = none) (hd : decode c.code pc = .ok (.return_, 1)) (hl : meth.locks = false)
    (hc : cells ≤ k) (hn : slots ≤ n) (hQ : Q none T.heap locs) : Go p e below T (mkF m pc Ls []) (Po s Q k n) :=
  out X hl (fun _ => rfl) (fun fs hr => X.returnOut hx hret hd hr) hc hn hQ
theorem start {y : MethodName} {bytes : ByteArray} {maxL : Nat} {ret : Option FieldType} {ws : List Cond} {rm : Room} {Z : State} {as' : Array Value} {h0 : Heap} (hpl : plainFor y = true)
    (body : ∀ p e s m below meth c T, Stand p l e rm s m as' below meth c T [] 0 0 → p.tables.exec = Jvm.exec → c.code = bytes → c.maxLocals = maxL → s.vm.findClass y.cls = some m.cls → meth.name = y.name → meth.sig.returnType = ret → meth.locks = false → Z.Warmed39 s.vm → T.heap = h0 →
      Go p e below T (entryFrame m as' maxL) (Po s Q k n)) :
    MetFree l y (head1 (Cond.code y bytes maxL ret :: ws) rm) (fun a U => a = as' ∧ Z.Warmed39 U.vm ∧ U.heap = h0) (fun _ _ _ _ _ => True) (fun _ U o U' => ∃ v L, o = .returned v ∧ Q v U'.heap L ∧ FrameEnd U o U' L k n) := by
  refine MetFree.of_bodySF hpl hisR ?_
  intro p e s m args below meth c s₁ Bd hml0 hP hK
  obtain ⟨rfl, hZ, hh⟩ := hP
  exact body p e s m below meth c s₁ (Stand.of_body Bd) Bd.exec Bd.bytes hml0 (findClass_of_methodNamed Bd.named) (name_of_methodNamed Bd.named Bd.method).1 Bd.returns Bd.notSynchronized hZ (by rw [← hh, Bd.state]; rfl)
theorem goAt (q : g = g') (K : Go p e below T g' P) : Go p e below T g P := q ▸ K
end Go
theorem cat_ref {v : Value} (h : v.isRef = true) : v.category = 1 := by cases v <;> simp_all [Value.isRef, Value.category]
section Facts
variable {Z : State} {args : Array Value}
theorem old_le {n0 : Nat} {h : Heap} (O : Old Z n0 h) : n0 ≤ h.size := by
  obtain ⟨rfl, h2⟩ := O
  exact h2.1
theorem fld_of {C n d : String} {t : Term} {a : Addr} {k : Int32} (ev : t.eval args Z none [] Z = some (.ref a)) (h : (Cond.eq (.field t C n d) (.int k)).value args Z none Z [] = some true) : Fld Z Z.heap a C n d (.int k) := by
  obtain ⟨x, y, h1, h2, -, hk⟩ := cmp_v (Or.inl h)
  have h3 : y = .int k := (Option.some.inj h2).symm
  subst h3
  obtain ⟨z, rfl⟩ := hk
  have h4 : z = k := gotT (Cond.eq_ints h1 h2) h
  subst h4
  rw [fld_at ev] at h1
  exact Fld.start h1
theorem fldnull_of {C n d : String} {t : Term} {a : Addr} (ev : t.eval args Z none [] Z = some (.ref a)) (h : (Cond.eq (.field t C n d) .null).value args Z none Z [] = some true) : Fld Z Z.heap a C n d .null := by
  have h1 := null_v h
  rw [fld_at ev] at h1
  exact Fld.start h1
theorem eqint_v {t : Term} {k : Int32} (h : (Cond.eq t (.int k)).value args Z none Z [] = some true) : t.eval args Z none [] Z = some (.int k) := by
  obtain ⟨x, y, h1, h2, -, hk⟩ := cmp_v (Or.inl h)
  have h3 : y = .int k := (Option.some.inj h2).symm
  subst h3
  obtain ⟨z, rfl⟩ := hk
  have h4 : z = k := gotT (Cond.eq_ints h1 h2) h
  subst h4
  exact h1
end Facts
section Small
variable {h h' : Heap} {a : Addr} {sl : Nat} {x : Int32}
theorem ow_wr_char (e : x.toUInt32.toUInt16.toUInt32.toInt32 = x) (W : Wr h h' a sl (.int (nar .char x))) : Wr h h' a sl (.int x) := by rwa [show nar .char x = x from e] at W
theorem ow_fits_char (e : x.toUInt32.toUInt16.toUInt32.toInt32 = x) : fits .char (.int x) = true := by
  have q := fits_nar_char x
  rwa [show nar .char x = x from e] at q
theorem ow_wr_byte (e : x.toInt8.toInt32 = x) (W : Wr h h' a sl (.int (nar .byte x))) : Wr h h' a sl (.int x) := by rwa [show nar .byte x = x from e] at W
theorem ow_fits_byte (e : x.toInt8.toInt32 = x) : fits .byte (.int x) = true := by
  have q := fits_nar_byte x
  rwa [e] at q
theorem char_small (h0 : ¬ x < 0) (h1 : ¬ (65535 : Int32) < x) : x.toUInt32.toUInt16.toUInt32.toInt32 = x := by
  obtain ⟨q1, q2, q3⟩ := c_i2c x
  simp only [Int32.lt_iff_toInt_lt, Int32.reduceToInt] at h0 h1
  exact Int32.toInt_inj.mp (by omega)
theorem char255 (q : ¬ x < 0 ∧ ¬ (255 : Int32) < x) : x.toUInt32.toUInt16.toUInt32.toInt32 = x := char_small q.1 (by
  obtain ⟨q1, q2⟩ := q
  simp only [Int32.lt_iff_toInt_lt, Int32.reduceToInt] at q1 q2 ⊢
  omega)
theorem byte_small (h0 : ¬ x < (-128 : Int32)) (h1 : ¬ (127 : Int32) < x) : x.toInt8.toInt32 = x := by
  obtain ⟨q1, q2, q3⟩ := c_i2b x
  simp only [Int32.lt_iff_toInt_lt, Int32.reduceToInt] at h0 h1
  exact Int32.toInt_inj.mp (by omega)
theorem byte_twice : x.toInt8.toInt32.toInt8.toInt32 = x.toInt8.toInt32 := by simp
theorem and255 (x : Int32) : ¬ (x &&& (255 : Int32)) < 0 ∧ ¬ (255 : Int32) < (x &&& (255 : Int32)) := by
  have h := c_mask x 255 8 (by decide) (by decide)
  simp only [Int32.lt_iff_toInt_lt, Int32.reduceToInt]
  omega
end Small
section Sub
variable {Z : State} {a0 : Array Value}
theorem NSroot {O K : String} {n : Nat} (w : (Cond.noSuperclass O).before a0 Z = true) (wk : (Cond.instantiable K n).before a0 Z = true) (hn : O ≠ K) : NS Z O K := by
  obtain ⟨c, k, h1, h2, h3, -, -⟩ := Cond.noSuperclass_spec w
  obtain ⟨t, kt, g1, -⟩ := Cond.instantiable_spec wk
  have ne := ids_ne h1 g1 hn
  refine ⟨c, t, h1, g1, fun fuel => ?_⟩
  cases fuel with
  | zero => rfl
  | succ f => simp [Vm.isSubclassAux, ne, h2, h3]
theorem NSno {C S K : String} {n : Nat} (w : (Cond.superclass C S).before a0 Z = true) (wk : (Cond.instantiable K n).before a0 Z = true) (N : NS Z C K) (hn : C ≠ K) : ∃ c t, Z.vm.findClass C = some c ∧ Z.vm.findClass K = some t ∧ Z.vm.assignable c t = false := by
  obtain ⟨c, t, h0, g0, n3⟩ := N
  obtain ⟨p, k, kp, h1, h2, h3, h4, h5, -, h7⟩ := Cond.superclass_spec h0 w
  obtain ⟨t', kt, g1, g2, g5, g7, -⟩ := Cond.instantiable_spec wk
  cases g0.symm.trans g1
  rw [Bool.or_eq_false_iff] at g7
  have ne := ids_ne h0 g0 hn
  refine ⟨c, t, h0, g0, ?_⟩
  show Z.vm.assignableAux (255 + 1) c t = false
  simp [Vm.assignableAux, ne, h2, g2, h5, g5, g7.1, Vm.isSubclass, n3]
end Sub
/-- an array of n elements, told by a function -/
def Arf (Z : State) (h : Heap) (a : Addr) (k : ClassId) (ty : FieldType) (n : Nat) (f : Nat → Value) : Prop := ∃ c : Cell, Arr Z h a c ty ∧ c.cls = k ∧ c.slots.size = n ∧ (∀ i, i < n → c.slots[i]? = some (f i)) ∧ ∀ i, i < n → fits ty (f i) = true
section Arf
variable {Z : State} {h h' : Heap} {a b : Addr} {k : ClassId} {ty : FieldType} {n sl : Nat} {f g : Nat → Value} {v : Value} {ws : List Addr} {c : Cell} {j : Int32} {i : Nat}
theorem Arf.lt (F : Arf Z h a k ty n f) : a < h.size := by
  obtain ⟨c, A, -⟩ := F
  exact A.lt
theorem Arf.ext (F : Arf Z h a k ty n f) (E : Ext h h') : Arf Z h' a k ty n f := by
  obtain ⟨c, A, r⟩ := F
  exact ⟨c, A.ext E, r⟩
theorem Arf.other (F : Arf Z h b k ty n f) (W : Wr h h' a sl v) (q : b ≠ a) : Arf Z h' b k ty n f := by
  obtain ⟨c, A, r⟩ := F
  exact ⟨c, A.other W q, r⟩
theorem Arf.keep (F : Arf Z h a k ty n f) (K : Keep h h' ws) (q : a ∉ ws) : Arf Z h' a k ty n f := by
  obtain ⟨c, A, r⟩ := F
  exact ⟨c, ⟨K.2.1 a c A.1 q, A.2⟩, r⟩
theorem Arf.congr (F : Arf Z h a k ty n f) (q : ∀ i, i < n → g i = f i) : Arf Z h a k ty n g := by
  obtain ⟨c, A, r1, r2, H, G⟩ := F
  exact ⟨c, A, r1, r2, fun i hi => by rw [q i hi]; exact H i hi, fun i hi => by rw [q i hi]; exact G i hi⟩
theorem Arf.set (A : Arr Z h a c ty) (q1 : c.cls = k) (S : c.slots.size = n) (H : ∀ i, i < n → c.slots[i]? = some (f i)) (G : ∀ i, i < n → fits ty (f i) = true) (hv : fits ty v = true) (W : Wr h h' a i v) (hi : i < n) : Arf Z h' a k ty n (fun x => if x = i then v else f x) := by
  refine ⟨c.setSlot i v, A.same W, q1, by rw [sz_set]; exact S, fun x hx => ?_, fun x hx => ?_⟩
  · show (c.setSlot i v).slots[x]? = some (if x = i then v else f x)
    by_cases e : x = i
    · subst e
      simp [Cell.setSlot, S, hx]
    · rw [if_neg e, ← H x hx]
      exact Cell.slots_setSlot_ne v (Ne.symm e)
  · by_cases e : x = i
    · simp [e, hv]
    · simp [e, G x hx]
theorem Arv.arf {z : Int32} {vs : List Value} {d : Value} (F : Arv Z h a k ty z vs d) (hz : z.toNatClampNeg = n) : Arf Z h a k ty n (fun i => vs.getD i d) := by
  obtain ⟨c, A, r1, r2, r3, H, G⟩ := F
  exact ⟨c, A, r1, by rw [r2, hz], fun i hi => H i (by rw [r2, hz]; exact hi), fun i hi => G i (by rw [r2, hz]; exact hi)⟩
theorem arf_in (S : c.slots.size = n) (hk : j.toInt = i) (hn : i < n) : ¬ (j < 0 ∨ c.slots.size ≤ j.toNatClampNeg) := by
  simp only [Int32.lt_iff_toInt_lt, Int32.toNatClampNeg, Int32.reduceToInt, S, hk]
  omega
theorem arf_at (H : ∀ i, i < n → c.slots[i]? = some (f i)) (hk : j.toInt = i) (hn : i < n) : c.slots[j.toNatClampNeg]? = some (f i) := by
  have e : j.toNatClampNeg = i := by simp only [Int32.toNatClampNeg, hk]; omega
  rw [e]
  exact H i hn
theorem arf_ix (hk : j.toInt = i) : j.toNatClampNeg = i := by simp only [Int32.toNatClampNeg, hk]; omega
theorem arf_len {z : Int32} (S : c.slots.size = n) (hz : z.toInt = n) : c.slots.size.toInt32 = z := by
  rw [S]
  have h1 := Int32.toInt_lt z
  exact Int32.toInt_inj.mp (by rw [len_toInt (by omega)]; exact hz.symm)
theorem Arf.one (F : Arf Z h a k ty n f) (hi : i < n) : fits ty (f i) = true := by
  obtain ⟨c, A, r1, r2, H, G⟩ := F
  exact G i hi
theorem Arf.new {z : Int32} (A : Arr Z h a (newA k ty z) ty) (q : ¬ z < 0) (hz : z.toNatClampNeg = n) : Arf Z h a k ty n (fun _ => defaultValue ty) := (Arv.arf (Arv.new A q) hz).congr fun i _ => by simp
theorem cloneF {p : Program} {l : Launch} {e : Env} {R : Room} {s : State} {m : MethodId} {args : Array Value} {below : List Frame} {meth : Method} {c : Code} {T : State} {locs : List Loc} {cells slots : Nat} (X : Stand p l e R s m args below meth c T locs cells slots) (hx : p.tables.exec = Jvm.exec) (hZ : Z.Warmed39 s.vm) {a0 : Array Value} {own ad : String} {index : Nat} (hown : s.vm.findClass own = some m.cls)
    (w1 : (Cond.methodLink own index ⟨ad, "clone", "()Ljava/lang/Object;"⟩).before a0 Z = true) (w2 : (Cond.sameMethod ad "java/lang/Object" "clone" "()Ljava/lang/Object;").before a0 Z = true) (w3 : (Cond.native ⟨"java/lang/Object", "clone", "()Ljava/lang/Object;"⟩).before a0 Z = true)
    (w4 : (Cond.instanceMethod ⟨"java/lang/Object", "clone", "()Ljava/lang/Object;"⟩).before a0 Z = true) (w5 : (Cond.selects ad ⟨ad, "clone", "()Ljava/lang/Object;"⟩ ⟨"java/lang/Object", "clone", "()Ljava/lang/Object;"⟩).before a0 Z = true) (w6 : (Cond.castable ad "java/lang/Cloneable").before a0 Z = true)
    (eT : T.heap = h) (F : Arf Z h a k ty n f) (E : Exa Z h a ad) {g : JFrame} (hg : g.method = m) (hsize : g.locals.size = c.maxLocals) {rest : List Value} (hst : g.stack = .ref a :: rest) (hd : decode c.code g.pc = .ok (.invokevirtual index, 3))
    (hf : 1 ≤ R.frames) {W cap : Nat} (hW : 2 * g.monitorRoom + (rest.map fun v => v.category).sum ≤ W) (hl : W + 14 ≤ R.locals) (hcap : n ≤ cap) (hc : cells + 1 ≤ R.cells) (hsl : slots + cap ≤ R.slots) :
    ∃ T' h', Stand p l e R s m args below meth c T' locs (cells + 1) (slots + cap) ∧ T'.heap = h' ∧ Ext h h' ∧ Arf Z h' h.size k ty n f ∧ Exa Z h' h.size ad ∧
      ∀ target, Steps p.tables e below (T'.setTop { g with pc := g.pc + 3, stack := .ref h.size :: rest }) target → Steps p.tables e below (T.setTop g) target := by
  obtain ⟨cl, A, q1, S, H, G⟩ := F
  have FC : FitC Z cl := fitC_of A fun i hi v hv => by rw [H i (S ▸ hi)] at hv; cases hv; exact G i (S ▸ hi)
  obtain ⟨T', h', X', e', ex, A', E', st⟩ := cloneA X hx hZ hown w1 w2 w3 w4 w5 w6 eT A E FC hg hsize hst hd hf hW hl (by rw [S]; exact hcap) hc hsl
  exact ⟨T', h', X', e', ex, ⟨cloneOf cl, A', q1, S, H, G⟩, E', st⟩
end Arf
theorem and1_cases (x : Int32) : x &&& (1 : Int32) = (0 : Int32) ∨ x &&& (1 : Int32) = (1 : Int32) := and_one x
theorem and3_cases (x : Int32) : x &&& (3 : Int32) = (0 : Int32) ∨ x &&& (3 : Int32) = (1 : Int32) ∨ x &&& (3 : Int32) = (2 : Int32) ∨ x &&& (3 : Int32) = (3 : Int32) := by
  have h := c_mask x 3 2 (by decide) (by decide)
  simp only [← Int32.toInt_inj]
  have : (0 : Int32).toInt = 0 := by decide
  have : (1 : Int32).toInt = 1 := by decide
  have : (2 : Int32).toInt = 2 := by decide
  have : (3 : Int32).toInt = 3 := by decide
  omega
end Jvm.OwnKit
namespace Jvm.OwnKit
open Sem ClassFile Op Lib Jvm.Stand Jvm.Free Jvm.LawKit Jvm.RoadKit
section GoW
variable {p : Program} {l : Launch} {e : Env} {R : Room} {s : State} {m : MethodId} {args : Array Value} {below : List Frame} {meth : Method} {c : Code} {T T' : State} {locs : List Loc} {cells slots : Nat} {g g' : JFrame} {Q : Option Value → Heap → List Loc → Prop} {k n pc : Nat} {Ls : Array Slot} {rest : List Value} {Z : State} {EL : List (String × Nat)} {vm0 : Vm} {a0 : Array Value} {h h0 : Heap} {k0 : Nat}
abbrev PoW (s Z : State) (EL : List (String × Nat)) (Q : Option Value → Heap → List Loc → Prop) (k n : Nat) : Outcome → State → Prop := fun o U' => ∃ v L, o = .returned v ∧ Q v U'.heap L ∧ CHr Z EL s.vm s.heap U'.vm U'.heap ∧ ReturnedEndW s o U' L k n
theorem outW (X : Stand p l e R (s.setVm vm0) m args below meth c T locs cells slots) (hZ : Z.Warmed39 vm0) (hEL : EW Z a0 EL) (eT : T.heap = h) (hS : s.Since vm0 k0) (hk : k0 ≤ h.size) (CR : CHr Z EL s.vm s.heap vm0 h) {v : Option Value} (hl : meth.locks = false) (hv : meth.sig.returnType = none → v = none)
    (hst : ∀ fs : List Frame, (∀ (f : JFrame) (acts : List Action), f.method = m → f.locked = none → f.entered = [] → (doReturn e (T.setTop f) acts v).1 = T.setFrames fs) → Steps p.tables e below (T.setTop g) (T.setFrames fs))
    (hc : cells ≤ k) (hn : slots ≤ n) (hQ : Q v T.heap locs) : Go p e below T g (PoW s Z EL Q k n) := by
  obtain ⟨fs, hr, hrun, hended, hW, h1, h2, hsame⟩ := X.leaveW hS (by rw [eT]; exact hk) (v := v) hv hl
  have hC : CHr Z EL s.vm s.heap T.vm T.heap := by rw [eT]; exact CR.trans (CHv.at X hZ hEL CR.1)
  exact ⟨_, _, hst fs hr, hrun, hended, v, locs, rfl, hQ, hC, hW, h1, h2, hsame.mono hc hn⟩
theorem outNW (X : Stand p l e R (s.setVm vm0) m args below meth c T locs cells slots) (hx : p.tables.exec = Jvm.exec) (hZ : Z.Warmed39 vm0) (hEL : EW Z a0 EL) (eT : T.heap = h) (hS : s.Since vm0 k0) (hk : k0 ≤ h.size) (CR : CHr Z EL s.vm s.heap vm0 h) {t : FieldType} {z : Int32} (hret : meth.sig.returnType = some t) (ht : t = .boolean ∨ t = .byte ∨ t = .char ∨ t = .short) (hd : decode c.code pc = .ok (.ireturn, 1)) (hl : meth.locks = false)
    (hc : cells ≤ k) (hn : slots ≤ n) (hQ : Q (some (.int (nar t z))) T.heap locs) : Go p e below T (mkF m pc Ls (.int z :: rest)) (PoW s Z EL Q k n) :=
  outW X hZ hEL eT hS hk CR hl (fun h => by rw [hret] at h; cases h) (fun fs hr => retN X hx hret ht hd hr) hc hn hQ
theorem outIW (X : Stand p l e R (s.setVm vm0) m args below meth c T locs cells slots) (hx : p.tables.exec = Jvm.exec) (hZ : Z.Warmed39 vm0) (hEL : EW Z a0 EL) (eT : T.heap = h) (hS : s.Since vm0 k0) (hk : k0 ≤ h.size) (CR : CHr Z EL s.vm s.heap vm0 h) {z : Int32} (hret : meth.sig.returnType = some .int) (hd : decode c.code pc = .ok (.ireturn, 1)) (hl : meth.locks = false)
    (hc : cells ≤ k) (hn : slots ≤ n) (hQ : Q (some (.int z)) T.heap locs) : Go p e below T (mkF m pc Ls (.int z :: rest)) (PoW s Z EL Q k n) :=
  outW X hZ hEL eT hS hk CR hl (fun h => by rw [hret] at h; cases h) (fun fs hr => retOut X hx hret rfl (Or.inl ⟨rfl, Or.inl rfl, _, rfl⟩) hd hr) hc hn hQ
theorem outAW (X : Stand p l e R (s.setVm vm0) m args below meth c T locs cells slots) (hx : p.tables.exec = Jvm.exec) (hZ : Z.Warmed39 vm0) (hEL : EW Z a0 EL) (eT : T.heap = h) (hS : s.Since vm0 k0) (hk : k0 ≤ h.size) (CR : CHr Z EL s.vm s.heap vm0 h) {w : Value} {t : FieldType} (hret : meth.sig.returnType = some t) (ht : t.isReference = true) (hw : w.isRef = true) (hd : decode c.code pc = .ok (.areturn, 1)) (hl : meth.locks = false)
    (hc : cells ≤ k) (hn : slots ≤ n) (hQ : Q (some w) T.heap locs) : Go p e below T (mkF m pc Ls (w :: rest)) (PoW s Z EL Q k n) := by
  refine outW X hZ hEL eT hS hk CR hl (fun h => by rw [hret] at h; cases h) (fun fs hr => retOut X hx hret ?_ (Or.inr (Or.inr (Or.inr (Or.inr ⟨rfl, ht, hw⟩)))) hd hr) hc hn hQ
  rcases ref_cases hw with rfl | ⟨a, rfl⟩ <;> cases t <;> first | rfl | cases ht
theorem outVW (X : Stand p l e R (s.setVm vm0) m args below meth c T locs cells slots) (hx : p.tables.exec = Jvm.exec) (hZ : Z.Warmed39 vm0) (hEL : EW Z a0 EL) (eT : T.heap = h) (hS : s.Since vm0 k0) (hk : k0 ≤ h.size) (CR : CHr Z EL s.vm s.heap vm0 h) (hret : meth.sig.returnType = none) (hd : decode c.code pc = .ok (.return_, 1)) (hl : meth.locks = false)
    (hc : cells ≤ k) (hn : slots ≤ n) (hQ : Q none T.heap locs) : Go p e below T (mkF m pc Ls []) (PoW s Z EL Q k n) :=
  outW X hZ hEL eT hS hk CR hl (fun _ => rfl) (fun fs hr => X.returnOut hx hret hd hr) hc hn hQ
theorem startW {y : MethodName} {bytes : ByteArray} {maxL : Nat} {ret : Option FieldType} {ws : List Cond} {rm : Room} {as' : Array Value} (hpl : plainFor y = true)
    (body : ∀ p e s m below meth c T, Stand p l e rm (s.setVm s.vm) m as' below meth c T [] 0 0 → p.tables.exec = Jvm.exec → c.code = bytes → c.maxLocals = maxL → s.vm.findClass y.cls = some m.cls → meth.name = y.name → meth.sig.returnType = ret → meth.locks = false → Z.Warmed39 s.vm → T.heap = h0 → s.Since s.vm 0 → CHr Z EL s.vm s.heap s.vm h0 →
      Go p e below T (entryFrame m as' maxL) (PoW s Z EL Q k n)) :
    MetFree l y (head1 (Cond.code y bytes maxL ret :: ws) rm) (fun a U => a = as' ∧ Z.Warmed39 U.vm ∧ U.heap = h0 ∧ CHv Z EL U.vm h0) (fun _ _ _ _ _ => True) (fun _ U o U' => ∃ v L, o = .returned v ∧ Q v U'.heap L ∧ CHr Z EL U.vm U.heap U'.vm U'.heap ∧ ReturnedEndW U o U' L k n) := by
  refine MetFree.of_bodySF hpl hisR ?_
  intro p e s m args below meth c s₁ Bd hml0 hP hK
  obtain ⟨rfl, hZ, hh, hC⟩ := hP
  have X : Stand p l e rm s m args below meth c s₁ [] 0 0 := Stand.of_body Bd
  exact body p e s m below meth c s₁ X Bd.exec Bd.bytes hml0 (findClass_of_methodNamed Bd.named) (name_of_methodNamed Bd.named Bd.method).1 Bd.returns Bd.notSynchronized hZ (by rw [← hh, Bd.state]; rfl) ((State.WarmedH.refl s).since 0) (by rw [hh]; exact CHr.refl hC)
/-- a String whose value is still null is no constant's -/
theorem safeNull {x : Addr} {vm : Vm} (hal : Z.vm.Alike vm) (E : Exa Z h x "java/lang/String") (F : Fld Z h x "java/lang/String" "value" "[B" .null) : Safe Z EL vm h x := fun B => by
  obtain ⟨cell, k, e1, e2, e3, -, -⟩ := E
  obtain ⟨c', cf, kf, i, f, f1, f2, f3, f4, f5, f6, f7⟩ := F
  cases e1.symm.trans f1
  obtain ⟨p, -, u, a, -, q, -, G, rfl | rfl⟩ := B
  · cases (show h[q.sa]? = some q.sC from G.ha).symm.trans e1
    obtain ⟨cS, ⟨hs, -, -⟩, -⟩ := G
    obtain ⟨-, -, -, ⟨c4, k4, i4, r1, r2⟩, -, -, -, r7, -⟩ := hs
    obtain ⟨k', r3, -⟩ := State.fieldFound?_setVm (s := Z) hal f2
    have r1' : (Z.setVm vm).fieldFound? "java/lang/String" "value" "[B" = some (c4, k4, i4, q.fSV) := r1
    cases r3.symm.trans r1'
    cases f7.symm.trans r7
  · cases (show h[q.sd]? = some q.SA from G.hd).symm.trans e1
    obtain ⟨cS, -, -, g, -⟩ := G
    have g' : Z.vm.findClass "[B" = some q.SA.cls := by rw [← hal.findClass]; exact g
    obtain ⟨k1, q1, q2⟩ := Vm.findClass_spec g'
    obtain ⟨k2, q3, q4⟩ := Vm.findClass_spec e2
    cases q1.symm.trans q3
    exact absurd (q2.symm.trans q4) (by decide)
end GoW
end Jvm.OwnKit
namespace Jvm.OwnKit
open Sem ClassFile Op Lib Jvm.Stand Jvm.Free Jvm.LawKit Jvm.RoadKit
section Str
variable {Z : State} {h h' : Heap} {x w o : Addr} {cs : List Int32} {sl n : Nat} {v : Value} {ws : List Addr} {C : String} {a0 : Array Value} {k : ClassId} {ty : FieldType} {z : Int32} {vs : List Value} {d : Value}
/-- x is a Latin-1 String of these chars -/
def StrIs (Z : State) (h : Heap) (x : Addr) (cs : List Int32) : Prop := ∃ (t : Addr) (k : ClassId), Exa Z h x "java/lang/String" ∧ Fld Z h x "java/lang/String" "value" "[B" (.ref t) ∧ Fld Z h x "java/lang/String" "coder" "B" (.int 0) ∧ Arv Z h t k .byte (Int32.ofNat cs.length) ((cs.map fun c => c.toInt8.toInt32).map Value.int) (.int 0) ∧ (∀ c ∈ cs, ¬ c < 0 ∧ ¬ (255 : Int32) < c) ∧ cs.length ≤ 4000
/-- w is no byte[] -/
def Apart (Z : State) (h : Heap) (w : Addr) : Prop := ∀ (t : Addr) (k : ClassId) (z : Int32) (vs : List Value) (d : Value), Arv Z h t k .byte z vs d → t ≠ w
theorem Apart.exa (E : Exa Z h w C) (wi : (Cond.instantiable C n).before a0 Z = true) : Apart Z h w := fun _ _ _ _ _ F => Ne.symm (E.neArv F wi)
theorem Apart.arv (F : Arv Z h w k ty z vs d) (ht : ty ≠ .byte) : Apart Z h w := fun t k' z' vs' d' G e => by
  subst e
  obtain ⟨c1, ⟨e1, ⟨-, k1, f1, p1, g1⟩, -⟩, -⟩ := F
  obtain ⟨c2, ⟨e2, ⟨-, k2, f2, p2, g2⟩, -⟩, -⟩ := G
  cases e1.symm.trans e2
  cases f1.symm.trans f2
  rw [g1] at g2
  cases g2
  exact ht rfl
theorem apart0 : ∀ x ∈ ([] : List Addr), Apart Z h x := fun _ q => nomatch q
theorem apartS (A : Apart Z h w) (r : ∀ x ∈ ws, Apart Z h x) : ∀ x ∈ w :: ws, Apart Z h x := fun x q => (List.mem_cons.mp q).elim (fun u => u ▸ A) (r x)
theorem StrIs.exa (F : StrIs Z h x cs) : Exa Z h x "java/lang/String" := by
  obtain ⟨t, k, E, -⟩ := F
  exact E
theorem StrIs.lt (F : StrIs Z h x cs) : x < h.size := F.exa.lt
theorem StrIs.small (F : StrIs Z h x cs) : ∀ c ∈ cs, ¬ c < 0 ∧ ¬ (255 : Int32) < c := by
  obtain ⟨t, k, -, -, -, -, hp, -⟩ := F
  exact hp
theorem StrIs.ext (F : StrIs Z h x cs) (E : Ext h h') : StrIs Z h' x cs := by
  obtain ⟨t, k, E1, V1, C1, K1, r⟩ := F
  exact ⟨t, k, E1.ext E, V1.ext E, C1.ext E, K1.ext E, r⟩
theorem StrIs.wr (F : StrIs Z h x cs) (W : Wr h h' o sl v) (ne : x ≠ o) (A : Apart Z h o) : StrIs Z h' x cs := by
  obtain ⟨t, k, E1, V1, C1, K1, r⟩ := F
  exact ⟨t, k, E1.wr W, V1.other W (Or.inl ne), C1.other W (Or.inl ne), K1.other W (A _ _ _ _ _ K1), r⟩
theorem StrIs.keep (F : StrIs Z h x cs) (K : Keep h h' ws) (q : x ∉ ws) (A : ∀ y ∈ ws, Apart Z h y) : StrIs Z h' x cs := by
  obtain ⟨t, k, E1, V1, C1, K1, r⟩ := F
  exact ⟨t, k, E1.keep K, V1.keep K q, C1.keep K q, K1.keep K (fun m => A t m _ _ _ _ _ K1 rfl), r⟩
theorem StrIs.of {t : Addr} (E : Exa Z h x "java/lang/String") (V : Fld Z h x "java/lang/String" "value" "[B" (.ref t)) (C : Fld Z h x "java/lang/String" "coder" "B" (.int 0)) (K : Arv Z h t k .byte z vs (.int 0)) (hz : z = Int32.ofNat cs.length) (hv : vs = (cs.map fun c => c.toInt8.toInt32).map Value.int) (hp : ∀ c ∈ cs, ¬ c < 0 ∧ ¬ (255 : Int32) < c) (hl : cs.length ≤ 4000) : StrIs Z h x cs := by
  subst hz hv
  exact ⟨t, k, E, V, C, K, hp, hl⟩
theorem own_one255 {k : Int32} (h : ¬ k < 0 ∧ ¬ (255 : Int32) < k) : ∀ c ∈ ([k] : List Int32), ¬ c < 0 ∧ ¬ (255 : Int32) < c := by
  intro c hc
  cases List.mem_singleton.mp hc
  exact h
end Str
end Jvm.OwnKit
namespace Jvm.OwnKit
theorem own_sm0 : ∀ c ∈ ([] : List Int32), ¬ c < 0 ∧ ¬ (255 : Int32) < c := fun _ q => nomatch q
theorem own_sm1 {k : Int32} {cs : List Int32} (h : ¬ k < 0 ∧ ¬ (255 : Int32) < k) (t : ∀ c ∈ cs, ¬ c < 0 ∧ ¬ (255 : Int32) < c) : ∀ c ∈ k :: cs, ¬ c < 0 ∧ ¬ (255 : Int32) < c := fun c q => (List.mem_cons.mp q).elim (fun u => u ▸ h) (t c)
theorem own_char255 {k x : Int32} (h : k = (x &&& (255 : Int32)).toUInt32.toUInt16.toUInt32.toInt32) : ¬ k < 0 ∧ ¬ (255 : Int32) < k := by
  rw [char255 (and255 x)] at h
  rw [h]
  exact and255 x
end Jvm.OwnKit
namespace Jvm.OwnKit
theorem own_ofNatI {n : Nat} (h : n ≤ 4000) : (Int32.ofNat n).toInt = n := by
  have : (Int32.ofNat n).toInt = ((n : Int)).bmod (2 ^ 32) := Int32.toInt_ofNat'
  rw [this, Int.bmod_def]
  omega
theorem own_ofNat {n : Nat} (h : n ≤ 4000) : (Int32.ofNat n).toNatClampNeg = n := by
  simp only [Int32.toNatClampNeg, own_ofNatI h]
  omega
theorem own_sh0 {x : Int32} : x >>> ((0 : Int32) &&& 31) = x := by
  show x >>> (0 : Int32) = x
  apply Int32.toBitVec_inj.mp
  simp [Int32.toBitVec_shiftRight]
end Jvm.OwnKit
namespace Jvm.OwnKit
def own_by (cs : List Int32) (i : Nat) : Int32 := (cs.map fun c => c.toInt8.toInt32).getD i 0
theorem own_byv (cs : List Int32) (i : Nat) : Value.int (own_by cs i) = ((cs.map fun c => c.toInt8.toInt32).map Value.int).getD i (.int 0) := by
  unfold own_by
  generalize (cs.map fun c => c.toInt8.toInt32) = l
  by_cases q : i < l.length
  · simp [List.getD, q]
  · simp [List.getD, List.getElem?_eq_none (Nat.le_of_not_lt q)]
end Jvm.OwnKit
namespace Jvm.OwnKit
open Sem ClassFile Op Lib Jvm.Stand Jvm.Free Jvm.LawKit Jvm.RoadKit
def own_lo (c : Int32) : Int32 := (c >>> ((0 : Int32) &&& 31)).toInt8.toInt32
def own_hi (c : Int32) : Int32 := (c >>> ((8 : Int32) &&& 31)).toInt8.toInt32
theorem own_lt16 {c : Int32} (h : ¬ c < 0 ∧ ¬ (65535 : Int32) < c) : c.toBitVec.toNat < 65536 := by
  obtain ⟨h1, h2⟩ := h
  simp only [Int32.lt_iff_toInt_lt, Int32.reduceToInt] at h1 h2
  have e : c.toInt = c.toBitVec.toInt := rfl
  rw [BitVec.toInt_eq_toNat_cond] at e
  have := c.toBitVec.isLt
  split at e <;> omega
theorem own_b255 (j : Nat) : (255#32).getLsbD j = decide (j < 8) := by
  have e : (255#32).getLsbD j = (2 ^ 8 - 1).testBit j := rfl
  rw [e, Nat.testBit_two_pow_sub_one]
theorem own_join {c : Int32} (h : ¬ c < 0 ∧ ¬ (65535 : Int32) < c) : (((own_lo c &&& (255 : Int32)) <<< ((0 : Int32) &&& 31)) ||| ((own_hi c &&& (255 : Int32)) <<< ((8 : Int32) &&& 31))) = c := by
  have hx := own_lt16 h
  apply Int32.toBitVec_inj.mp
  unfold own_lo own_hi
  rw [show ((0 : Int32) &&& 31) = 0 from rfl, show ((8 : Int32) &&& 31) = 8 from rfl]
  simp only [Int32.toBitVec_or, Int32.toBitVec_shiftLeft, Int32.toBitVec_and, Int32.toBitVec_shiftRight, Int8.toBitVec_toInt32, Int32.toBitVec_toInt8]
  generalize c.toBitVec = x at hx
  have hb : ∀ i, 16 ≤ i → x.getLsbD i = false := fun i hi => by
    apply Nat.testBit_lt_two_pow
    exact Nat.lt_of_lt_of_le hx (Nat.pow_le_pow_right (by decide) hi : 2 ^ 16 ≤ 2 ^ i)
  have h255 : ∀ (j : Nat) (hj : j < 32), (255#32)[j] = decide (j < 8) := fun j hj => by
    rw [← BitVec.getLsbD_eq_getElem]; exact own_b255 j
  ext i hi
  simp [h255, BitVec.getElem_signExtend]
  by_cases h8 : i < 8
  · simp [h8, hi]
  · by_cases h16 : i < 16
    · have h9 : i - 8 < 8 := by omega
      have h10 : i - 8 < 32 := by omega
      have h11 : 8 + (i - 8) = i := by omega
      simp [h8, h9, h10, BitVec.getElem_sshiftRight, h11, hi]
    · have h9 : ¬ i - 8 < 8 := by omega
      simp [h8, h9]
      rw [← BitVec.getLsbD_eq_getElem]
      exact hb i (by omega)

theorem own_lat {c : Int32} (h : ¬ c < 0 ∧ ¬ (255 : Int32) < c) : (c.toInt8.toInt32 &&& (255 : Int32)) = c := by
  have hx : c.toBitVec.toNat < 256 := by
    obtain ⟨h1, h2⟩ := h
    simp only [Int32.lt_iff_toInt_lt, Int32.reduceToInt] at h1 h2
    have e : c.toInt = c.toBitVec.toInt := rfl
    rw [BitVec.toInt_eq_toNat_cond] at e
    have := c.toBitVec.isLt
    split at e <;> omega
  apply Int32.toBitVec_inj.mp
  simp only [Int32.toBitVec_and, Int8.toBitVec_toInt32, Int32.toBitVec_toInt8]
  generalize c.toBitVec = x at hx
  have hb : ∀ i, 8 ≤ i → x.getLsbD i = false := fun i hi => by
    apply Nat.testBit_lt_two_pow
    exact Nat.lt_of_lt_of_le hx (Nat.pow_le_pow_right (by decide) hi : 2 ^ 8 ≤ 2 ^ i)
  have h255 : ∀ (j : Nat) (hj : j < 32), (255#32)[j] = decide (j < 8) := fun j hj => by
    rw [← BitVec.getLsbD_eq_getElem]; exact own_b255 j
  ext i hi
  simp [h255, BitVec.getElem_signExtend]
  by_cases h8 : i < 8
  · simp [h8, hi]
  · simp [h8]
    rw [← BitVec.getLsbD_eq_getElem]
    exact hb i (by omega)
theorem own_sh1 {k : Nat} (h : k ≤ 10) : (Int32.ofNat (2 * k)) >>> ((1 : Int32) &&& 31) = Int32.ofNat k := by
  have : k = 0 ∨ k = 1 ∨ k = 2 ∨ k = 3 ∨ k = 4 ∨ k = 5 ∨ k = 6 ∨ k = 7 ∨ k = 8 ∨ k = 9 ∨ k = 10 := by omega
  rcases this with rfl | rfl | rfl | rfl | rfl | rfl | rfl | rfl | rfl | rfl | rfl <;> decide
theorem own_isN {n : Int32} {k : Nat} (hN : n.toInt = (k : Int)) (h : k ≤ 10) : n = Int32.ofNat k := by
  apply Int32.toInt_inj.mp
  rw [hN]
  have : k = 0 ∨ k = 1 ∨ k = 2 ∨ k = 3 ∨ k = 4 ∨ k = 5 ∨ k = 6 ∨ k = 7 ∨ k = 8 ∨ k = 9 ∨ k = 10 := by omega
  rcases this with rfl | rfl | rfl | rfl | rfl | rfl | rfl | rfl | rfl | rfl | rfl <;> decide
theorem own_dbl {n : Int32} {k : Nat} (hN : n.toInt = (k : Int)) (h : k ≤ 10) : n <<< ((1 : Int32) &&& 31) = Int32.ofNat (2 * k) := by
  rw [own_isN hN h]
  have : k = 0 ∨ k = 1 ∨ k = 2 ∨ k = 3 ∨ k = 4 ∨ k = 5 ∨ k = 6 ∨ k = 7 ∨ k = 8 ∨ k = 9 ∨ k = 10 := by omega
  rcases this with rfl | rfl | rfl | rfl | rfl | rfl | rfl | rfl | rfl | rfl | rfl <;> decide
theorem own_cfa {n : Int32} {k : Nat} (hN : n.toInt = (k : Int)) (h : k ≤ 10) (h0 : 0 < k) : (((n - Int32.ofNat (2 * k)).toUInt32 >>> ((31 : Int32) &&& 31).toUInt32).toInt32.toInt8.toInt32).toInt8.toInt32 = (1 : Int32) := by
  rw [own_isN hN h]
  have : k = 1 ∨ k = 2 ∨ k = 3 ∨ k = 4 ∨ k = 5 ∨ k = 6 ∨ k = 7 ∨ k = 8 ∨ k = 9 ∨ k = 10 := by omega
  rcases this with rfl | rfl | rfl | rfl | rfl | rfl | rfl | rfl | rfl | rfl <;> decide
def own_at (cs : List Int32) (i : Nat) : Int32 := cs.getD i 0
theorem own_atv (cs : List Int32) (i : Nat) : Value.int (own_at cs i) = (cs.map Value.int).getD i (.int 0) := by
  unfold own_at
  by_cases q : i < cs.length
  · simp [List.getD, q]
  · simp [List.getD, List.getElem?_eq_none (Nat.le_of_not_lt q)]
theorem own_by_at (cs : List Int32) (i : Nat) : own_by cs i = (own_at cs i).toInt8.toInt32 := by
  unfold own_by own_at
  by_cases q : i < cs.length
  · simp [List.getD, q]
  · simp [List.getD, List.getElem?_eq_none (Nat.le_of_not_lt q)]
theorem own_at_mem {cs : List Int32} {i : Nat} (h : i < cs.length) : own_at cs i ∈ cs := by
  unfold own_at
  simp [List.getD, h]
/-- the bytes of these chars, two each -/
def own_ub (cs : List Int32) (x : Nat) : Int32 := if x % 2 = 1 then own_hi (own_at cs (x / 2)) else own_lo (own_at cs (x / 2))
theorem own_ub0 (cs : List Int32) (j : Nat) : own_ub cs (2 * j) = own_lo (own_at cs j) := by
  unfold own_ub
  rw [if_neg (by omega), show 2 * j / 2 = j by omega]
theorem own_ub1 (cs : List Int32) (j : Nat) : own_ub cs (2 * j + 1) = own_hi (own_at cs j) := by
  unfold own_ub
  rw [if_pos (by omega), show (2 * j + 1) / 2 = j by omega]
def own_put (g : Nat → Int32) (j : Nat) (c : Int32) (x : Nat) : Int32 := if x = 2 * j + 1 then own_hi c else if x = 2 * j then own_lo c else g x
theorem own_put_eq (g : Nat → Int32) (j : Nat) (c : Int32) (x : Nat) : Value.int (own_put g j c x) = (if x = 2 * j + 1 then (Value.int (own_hi c)) else (if x = 2 * j then (Value.int (own_lo c)) else (Value.int (g x)))) := by
  unfold own_put
  split
  · rfl
  · split <;> rfl
/-- what the loop of toBytes has written when j chars are through -/
def own_ubj (cs : List Int32) (j x : Nat) : Int32 := if x < 2 * j then own_ub cs x else 0
theorem own_ubj0 (cs : List Int32) (x : Nat) : own_ubj cs 0 x = 0 := by
  unfold own_ubj
  rw [if_neg (by omega)]
theorem own_ubjN {cs : List Int32} {n x : Nat} (h : x < 2 * n) : own_ub cs x = own_ubj cs n x := by
  unfold own_ubj
  rw [if_pos h]
theorem own_ubjS (cs : List Int32) (j x : Nat) : own_ubj cs (j + 1) x = own_put (own_ubj cs j) j (own_at cs j) x := by
  unfold own_put
  by_cases h1 : x = 2 * j + 1
  · rw [if_pos h1, h1]
    unfold own_ubj
    rw [if_pos (by omega), own_ub1]
  · rw [if_neg h1]
    by_cases h2 : x = 2 * j
    · rw [if_pos h2, h2]
      unfold own_ubj
      rw [if_pos (by omega), own_ub0]
    · rw [if_neg h2]
      unfold own_ubj
      by_cases h3 : x < 2 * j
      · rw [if_pos h3, if_pos (by omega)]
      · rw [if_neg h3, if_neg (by omega)]
theorem own_u16all {cs : List Int32} (h : ∀ c ∈ cs, ¬ c < 0 ∧ ¬ (65535 : Int32) < c) {j : Nat} (hj : j < cs.length) : ¬ own_at cs j < 0 ∧ ¬ (65535 : Int32) < own_at cs j := h _ (own_at_mem hj)
theorem own_narc {x : Int32} (h : ¬ x < 0 ∧ ¬ (65535 : Int32) < x) : nar .char x = x := char_small h.1 h.2
theorem own_somei {x y : Int32} (h : x = y) : some (Value.int x) = some (Value.int y) := by rw [h]
theorem own_up16 {x : Int32} (h : ¬ x < 0 ∧ ¬ (255 : Int32) < x) : ¬ x < 0 ∧ ¬ (65535 : Int32) < x := by
  simp only [Int32.lt_iff_toInt_lt, Int32.reduceToInt] at h ⊢
  omega
theorem own_u0 {n : Int32} {k : Nat} (hN : n.toInt = (k : Int)) : ¬ n < 0 := by
  rw [Int32.lt_iff_toInt_lt, hN, show (0 : Int32).toInt = 0 from rfl]
  omega
theorem own_uz {n : Int32} {k : Nat} (hN : n.toInt = (k : Int)) (h : 0 < k) : ¬ n = 0 := by
  intro e
  rw [e, show (0 : Int32).toInt = 0 from rfl] at hN
  omega
theorem own_umax {n : Int32} {k : Nat} (hN : n.toInt = (k : Int)) (h : k ≤ 10) : n < (1073741823 : Int32) := by
  rw [Int32.lt_iff_toInt_lt, hN, show (1073741823 : Int32).toInt = 1073741823 from rfl]
  omega
theorem own_shlI {i : Int32} {j : Nat} (hi : i.toInt = (j : Int)) (h : j ≤ 10) : (i <<< ((1 : Int32) &&& 31)).toInt = ((2 * j : Nat) : Int) := by
  rw [own_dbl hi h, own_ofNatI (by omega)]
theorem own_incI {i : Int32} {j : Nat} (hi : i.toInt = (j : Int)) (h : j ≤ 4000) : (i + (1 : Int32)).toInt = ((j + 1 : Nat) : Int) := by
  rw [Int32.toInt_add, Int.bmod_def, hi, show (1 : Int32).toInt = 1 from rfl]
  omega
theorem own_ltI {i n : Int32} {j k : Nat} (hi : i.toInt = (j : Int)) (hn : n.toInt = (k : Int)) (h : j < k) : i < n := by
  rw [Int32.lt_iff_toInt_lt, hi, hn]
  omega
theorem own_geI {i n : Int32} {j k : Nat} (hi : i.toInt = (j : Int)) (hn : n.toInt = (k : Int)) (h : k ≤ j) : ¬ i < n := by
  rw [Int32.lt_iff_toInt_lt, hi, hn]
  omega
theorem own_neI {i n : Int32} {j k : Nat} (hi : i.toInt = (j : Int)) (hn : n.toInt = (k : Int)) (h : j ≠ k) : ¬ i = n := by
  intro e
  rw [e, hn] at hi
  omega
/-- what the loop of compress has written when j chars are through -/
def own_byj (cs : List Int32) (g : Nat → Int32) (j x : Nat) : Int32 := if x < j then own_by cs x else g x
theorem own_byj0 (cs : List Int32) (g : Nat → Int32) (x : Nat) : own_byj cs g 0 x = g x := by
  unfold own_byj
  rw [if_neg (by omega)]
theorem own_byjN {cs : List Int32} {g : Nat → Int32} {n x : Nat} (h : x < n) : own_by cs x = own_byj cs g n x := by
  unfold own_byj
  rw [if_pos h]
theorem own_byjS (cs : List Int32) (g : Nat → Int32) (j x : Nat) : Value.int (own_byj cs g (j + 1) x) = (if x = j then (Value.int ((own_at cs j).toInt8.toInt32)) else (Value.int (own_byj cs g j x))) := by
  unfold own_byj
  by_cases h1 : x = j
  · rw [if_pos h1, h1, if_pos (by omega), own_by_at]
  · rw [if_neg h1]
    by_cases h3 : x < j
    · rw [if_pos h3, if_pos (by omega)]
    · rw [if_neg h3, if_neg (by omega)]
theorem own_cfa0 {n : Int32} {k : Nat} (hN : n.toInt = (k : Int)) (h : k ≤ 10) : (((n - Int32.ofNat k).toUInt32 >>> ((31 : Int32) &&& 31).toUInt32).toInt32.toInt8.toInt32).toInt8.toInt32 = (0 : Int32) := by
  rw [own_isN hN h, Int32.sub_self]
  decide
/-- the first char above 255 -/
theorem own_first : ∀ (cs : List Int32), (¬ ∀ i, i < cs.length → ¬ (255 : Int32) < own_at cs i) → ∃ J, J < cs.length ∧ (255 : Int32) < own_at cs J ∧ ∀ i, i < J → ¬ (255 : Int32) < own_at cs i
  | [], h => absurd (fun i q => absurd q (Nat.not_lt_zero i)) h
  | c :: cs, h => by
    by_cases q : (255 : Int32) < c
    · exact ⟨0, Nat.succ_pos _, q, fun i hi => absurd hi (Nat.not_lt_zero i)⟩
    · have h' : ¬ ∀ i, i < cs.length → ¬ (255 : Int32) < own_at cs i := fun r => h fun i hi => by
        match i, hi with
        | 0, _ => exact q
        | i + 1, hi => exact r i (Nat.lt_of_succ_lt_succ hi)
      obtain ⟨J, h1, h2, h3⟩ := own_first cs h'
      refine ⟨J + 1, Nat.succ_lt_succ h1, h2, fun i hi => ?_⟩
      match i, hi with
      | 0, _ => exact q
      | i + 1, hi => exact h3 i (Nat.lt_of_succ_lt_succ hi)
theorem own_i2c_sm (x : Int32) : ¬ x.toUInt32.toUInt16.toUInt32.toInt32 < 0 ∧ ¬ (65535 : Int32) < x.toUInt32.toUInt16.toUInt32.toInt32 := by
  obtain ⟨q1, q2, q3⟩ := c_i2c x
  simp only [Int32.lt_iff_toInt_lt, Int32.reduceToInt]
  omega
theorem own_cs16 {x : Int32} (h : ¬ x < 0 ∧ ¬ (65535 : Int32) < x) : x.toUInt32.toUInt16.toUInt32.toInt32 = x := char_small h.1 h.2
theorem own_somej {x y : Int64} (h : x = y) : some (Value.long x) = some (Value.long y) := by rw [h]
theorem own_idx {i : Int32} {j k : Nat} (hi : i.toInt = (j : Int)) (hl : k ≤ 10) (h : i < Int32.ofNat k) : j < k := by
  rw [Int32.lt_iff_toInt_lt, hi, own_ofNatI (by omega)] at h
  omega
section UStr
variable {Z : State} {h h' : Heap} {x : Addr} {cs : List Int32} {k : ClassId}
/-- x is a String of these chars, in two bytes each -/
def Str16 (Z : State) (h : Heap) (x : Addr) (cs : List Int32) : Prop := ∃ (t : Addr) (k : ClassId), Exa Z h x "java/lang/String" ∧ Fld Z h x "java/lang/String" "value" "[B" (.ref t) ∧ Fld Z h x "java/lang/String" "coder" "B" (.int (1 : Int32)) ∧ Arf Z h t k .byte (2 * cs.length) (fun x => (.int (own_ub cs x))) ∧ (∀ c ∈ cs, ¬ c < 0 ∧ ¬ (65535 : Int32) < c) ∧ cs.length ≤ 10
/-- x is a String of these chars, in one byte each -/
def Str8 (Z : State) (h : Heap) (x : Addr) (cs : List Int32) : Prop := ∃ (t : Addr) (k : ClassId), Exa Z h x "java/lang/String" ∧ Fld Z h x "java/lang/String" "value" "[B" (.ref t) ∧ Fld Z h x "java/lang/String" "coder" "B" (.int (0 : Int32)) ∧ Arf Z h t k .byte cs.length (fun i => (.int (own_by cs i))) ∧ (∀ c ∈ cs, ¬ c < 0 ∧ ¬ (255 : Int32) < c) ∧ cs.length ≤ 4000
/-- x is a String of these chars -/
def UStr (Z : State) (h : Heap) (x : Addr) (cs : List Int32) : Prop := Str8 Z h x cs ∨ Str16 Z h x cs
theorem UStr.exa (F : UStr Z h x cs) : Exa Z h x "java/lang/String" := by
  rcases F with ⟨t, k, E, -⟩ | ⟨t, k, E, -⟩
  · exact E
  · exact E
theorem UStr.lt (F : UStr Z h x cs) : x < h.size := F.exa.lt
theorem UStr.small (F : UStr Z h x cs) : ∀ c ∈ cs, ¬ c < 0 ∧ ¬ (65535 : Int32) < c := by
  rcases F with ⟨t, k, -, -, -, -, hp, -⟩ | ⟨t, k, -, -, -, -, hp, -⟩
  · exact fun c q => own_up16 (hp c q)
  · exact hp
theorem own_ucs_of {ds : List Int32} (e : ds = cs) (F : UStr Z h x cs) : UStr Z h x ds := by
  rw [e]
  exact F
theorem UStr.of16 {t : Addr} (E : Exa Z h x "java/lang/String") (V : Fld Z h x "java/lang/String" "value" "[B" (.ref t)) (C : Fld Z h x "java/lang/String" "coder" "B" (.int (1 : Int32))) (K : Arf Z h t k .byte (2 * cs.length) (fun x => (.int (own_ub cs x)))) (hp : ∀ c ∈ cs, ¬ c < 0 ∧ ¬ (65535 : Int32) < c) (hl : cs.length ≤ 10) : UStr Z h x cs := Or.inr ⟨t, k, E, V, C, K, hp, hl⟩
theorem UStr.of8 {t : Addr} (E : Exa Z h x "java/lang/String") (V : Fld Z h x "java/lang/String" "value" "[B" (.ref t)) (C : Fld Z h x "java/lang/String" "coder" "B" (.int (0 : Int32))) (K : Arf Z h t k .byte cs.length (fun i => (.int (own_by cs i)))) (hp : ∀ c ∈ cs, ¬ c < 0 ∧ ¬ (65535 : Int32) < c) (ha : ∀ i, i < cs.length → ¬ (255 : Int32) < own_at cs i) (hl : cs.length ≤ 4000) : UStr Z h x cs := Or.inl ⟨t, k, E, V, C, K, fun c q => by
  obtain ⟨i, hi, e⟩ := List.getElem_of_mem q
  have r := ha i hi
  unfold own_at at r
  rw [List.getD_eq_getElem?_getD, List.getElem?_eq_getElem hi, Option.getD_some, e] at r
  exact ⟨(hp c q).1, r⟩, hl⟩
theorem UStr.ofIs (F : StrIs Z h x cs) : UStr Z h x cs := by
  obtain ⟨t, k, E, V, C, K, hp, hl⟩ := F
  exact Or.inl ⟨t, k, E, V, C, (Arv.arf K (own_ofNat hl)).congr fun i _ => own_byv cs i, hp, hl⟩
end UStr
end Jvm.OwnKit
namespace Jvm.Pilot.@@N@@
open Jvm Jvm.ClassFile Sem Op Lib Jvm.Free Jvm.Stand Jvm.LawKit Jvm.RoadKit Jvm.OwnKit Bundle Jvm.Pilot.@@N@@.Jvm.D
theorem own_wS {Z : State} {a0 : Array Value} (hw : ∀ d ∈ tables_1, d.before a0 Z = true) : ∀ a ∈ Bundle.stringAtoms, a.before a0 Z = true := fun d hd => hw d ((by decide +kernel : ∀ d ∈ Bundle.stringAtoms, d ∈ tables_1) d hd)
theorem own_EW {Z : State} {a0 : Array Value} (hw : ∀ d ∈ tables_1, d.before a0 Z = true) : EW Z a0 consts_1 := EW.cons (hw _ (List.mem_of_getElem? (i := 22) rfl)) (by decide +kernel) (EW.nil)
def own_ch (w : Int64) (sh se bi : Int32) : Int32 := if (((se.toUInt32 >>> (bi &&& 31).toUInt32).toInt32) &&& (1 : Int32)) = 0 then (((w.toUInt64 >>> (sh &&& 0x3f).toInt64.toUInt64).toInt64).toInt32).toUInt32.toUInt16.toUInt32.toInt32 else ((((w.toUInt64 >>> (sh &&& 0x3f).toInt64.toUInt64).toInt64).toInt32).toUInt32.toUInt16.toUInt32.toInt32 &&& (127 : Int32)).toUInt32.toUInt16.toUInt32.toInt32
theorem own_ch_sm (w : Int64) (sh se bi : Int32) : ¬ own_ch w sh se bi < 0 ∧ ¬ (65535 : Int32) < own_ch w sh se bi := by
  unfold own_ch
  split
  · exact own_i2c_sm _
  · exact own_i2c_sm _
theorem own_s16 {k se bi sh : Int32} {w : Int64} (h : k = own_ch w sh se bi) : ¬ k < 0 ∧ ¬ (65535 : Int32) < k := by
  rw [h]
  exact own_ch_sm ..
theorem own_n10 {x n : Int32} (h : n = (x &&& (2147483647 : Int32)) % (10 : Int32)) : n = 0 ∨ n = 1 ∨ n = 2 ∨ n = 3 ∨ n = 4 ∨ n = 5 ∨ n = 6 ∨ n = 7 ∨ n = 8 ∨ n = 9 := by
  have q := c_mask x 2147483647 31 (by decide) (by decide)
  have e5 : (10 : Int32).toInt = 10 := by decide
  have q0 : 0 ≤ (x &&& (2147483647 : Int32)).toInt := by omega
  have e : n.toInt = (x &&& (2147483647 : Int32)).toInt % 10 := by rw [h, Int32.toInt_mod, e5, Int.tmod_eq_emod_of_nonneg q0]
  simp only [← Int32.toInt_inj]
  have : (0 : Int32).toInt = 0 := by decide
  have : (1 : Int32).toInt = 1 := by decide
  have : (2 : Int32).toInt = 2 := by decide
  have : (3 : Int32).toInt = 3 := by decide
  have : (4 : Int32).toInt = 4 := by decide
  have : (5 : Int32).toInt = 5 := by decide
  have : (6 : Int32).toInt = 6 := by decide
  have : (7 : Int32).toInt = 7 := by decide
  have : (8 : Int32).toInt = 8 := by decide
  have : (9 : Int32).toInt = 9 := by decide
  omega
theorem own_m0 {P : Int32 → Prop} : ∀ c ∈ ([] : List Int32), P c := fun _ q => nomatch q
theorem own_m1 {k : Int32} {cs : List Int32} {P : Int32 → Prop} (h : P k) (t : ∀ c ∈ cs, P c) : ∀ c ∈ k :: cs, P c := fun c q => (List.mem_cons.mp q).elim (fun u => u ▸ h) (t c)
def own_b (lv ch : Int32) : Int64 := if lv = 0 then (0 : Int64) else if (127 : Int32) < ch then (255 : Int64) else ch.toInt64
def own_mk (s0 s1 s2 s3 s4 s5 s6 s7 s8 n : Int32) : List Int32 := if n = 0 then [] else if n = (1 : Int32) then [s0] else if n = (2 : Int32) then [s0, s1] else if n = (3 : Int32) then [s0, s1, s2] else if n = (4 : Int32) then [s0, s1, s2, s3] else if n = (5 : Int32) then [s0, s1, s2, s3, s4] else if n = (6 : Int32) then [s0, s1, s2, s3, s4, s5] else if n = (7 : Int32) then [s0, s1, s2, s3, s4, s5, s6] else if n = (8 : Int32) then [s0, s1, s2, s3, s4, s5, s6, s7] else [s0, s1, s2, s3, s4, s5, s6, s7, s8]
theorem own_mk_len {s0 s1 s2 s3 s4 s5 s6 s7 s8 n : Int32} (hn : n = 0 ∨ n = 1 ∨ n = 2 ∨ n = 3 ∨ n = 4 ∨ n = 5 ∨ n = 6 ∨ n = 7 ∨ n = 8 ∨ n = 9) : Int32.ofNat (own_mk s0 s1 s2 s3 s4 s5 s6 s7 s8 n).length = n := by
  rcases hn with rfl | rfl | rfl | rfl | rfl | rfl | rfl | rfl | rfl | rfl <;> rfl
theorem own_mk_le {s0 s1 s2 s3 s4 s5 s6 s7 s8 n : Int32} (hn : n = 0 ∨ n = 1 ∨ n = 2 ∨ n = 3 ∨ n = 4 ∨ n = 5 ∨ n = 6 ∨ n = 7 ∨ n = 8 ∨ n = 9) : (own_mk s0 s1 s2 s3 s4 s5 s6 s7 s8 n).length ≤ 10 := by
  rcases hn with rfl | rfl | rfl | rfl | rfl | rfl | rfl | rfl | rfl | rfl <;> exact Nat.le_of_ble_eq_true rfl
theorem own_mk_at0 {s0 s1 s2 s3 s4 s5 s6 s7 s8 n : Int32} (hn : n = 0 ∨ n = 1 ∨ n = 2 ∨ n = 3 ∨ n = 4 ∨ n = 5 ∨ n = 6 ∨ n = 7 ∨ n = 8 ∨ n = 9) (h : (0 : Int32) < n) : own_at (own_mk s0 s1 s2 s3 s4 s5 s6 s7 s8 n) 0 = s0 := by
  rcases hn with rfl | rfl | rfl | rfl | rfl | rfl | rfl | rfl | rfl | rfl <;> first | rfl | exact absurd h (by decide)
theorem own_mk_at1 {s0 s1 s2 s3 s4 s5 s6 s7 s8 n : Int32} (hn : n = 0 ∨ n = 1 ∨ n = 2 ∨ n = 3 ∨ n = 4 ∨ n = 5 ∨ n = 6 ∨ n = 7 ∨ n = 8 ∨ n = 9) (h : (1 : Int32) < n) : own_at (own_mk s0 s1 s2 s3 s4 s5 s6 s7 s8 n) 1 = s1 := by
  rcases hn with rfl | rfl | rfl | rfl | rfl | rfl | rfl | rfl | rfl | rfl <;> first | rfl | exact absurd h (by decide)
theorem own_mk_at2 {s0 s1 s2 s3 s4 s5 s6 s7 s8 n : Int32} (hn : n = 0 ∨ n = 1 ∨ n = 2 ∨ n = 3 ∨ n = 4 ∨ n = 5 ∨ n = 6 ∨ n = 7 ∨ n = 8 ∨ n = 9) (h : (2 : Int32) < n) : own_at (own_mk s0 s1 s2 s3 s4 s5 s6 s7 s8 n) 2 = s2 := by
  rcases hn with rfl | rfl | rfl | rfl | rfl | rfl | rfl | rfl | rfl | rfl <;> first | rfl | exact absurd h (by decide)
theorem own_mk_at3 {s0 s1 s2 s3 s4 s5 s6 s7 s8 n : Int32} (hn : n = 0 ∨ n = 1 ∨ n = 2 ∨ n = 3 ∨ n = 4 ∨ n = 5 ∨ n = 6 ∨ n = 7 ∨ n = 8 ∨ n = 9) (h : (3 : Int32) < n) : own_at (own_mk s0 s1 s2 s3 s4 s5 s6 s7 s8 n) 3 = s3 := by
  rcases hn with rfl | rfl | rfl | rfl | rfl | rfl | rfl | rfl | rfl | rfl <;> first | rfl | exact absurd h (by decide)
theorem own_mk_at4 {s0 s1 s2 s3 s4 s5 s6 s7 s8 n : Int32} (hn : n = 0 ∨ n = 1 ∨ n = 2 ∨ n = 3 ∨ n = 4 ∨ n = 5 ∨ n = 6 ∨ n = 7 ∨ n = 8 ∨ n = 9) (h : (4 : Int32) < n) : own_at (own_mk s0 s1 s2 s3 s4 s5 s6 s7 s8 n) 4 = s4 := by
  rcases hn with rfl | rfl | rfl | rfl | rfl | rfl | rfl | rfl | rfl | rfl <;> first | rfl | exact absurd h (by decide)
theorem own_mk_at5 {s0 s1 s2 s3 s4 s5 s6 s7 s8 n : Int32} (hn : n = 0 ∨ n = 1 ∨ n = 2 ∨ n = 3 ∨ n = 4 ∨ n = 5 ∨ n = 6 ∨ n = 7 ∨ n = 8 ∨ n = 9) (h : (5 : Int32) < n) : own_at (own_mk s0 s1 s2 s3 s4 s5 s6 s7 s8 n) 5 = s5 := by
  rcases hn with rfl | rfl | rfl | rfl | rfl | rfl | rfl | rfl | rfl | rfl <;> first | rfl | exact absurd h (by decide)
theorem own_mk_at6 {s0 s1 s2 s3 s4 s5 s6 s7 s8 n : Int32} (hn : n = 0 ∨ n = 1 ∨ n = 2 ∨ n = 3 ∨ n = 4 ∨ n = 5 ∨ n = 6 ∨ n = 7 ∨ n = 8 ∨ n = 9) (h : (6 : Int32) < n) : own_at (own_mk s0 s1 s2 s3 s4 s5 s6 s7 s8 n) 6 = s6 := by
  rcases hn with rfl | rfl | rfl | rfl | rfl | rfl | rfl | rfl | rfl | rfl <;> first | rfl | exact absurd h (by decide)
theorem own_mk_at7 {s0 s1 s2 s3 s4 s5 s6 s7 s8 n : Int32} (hn : n = 0 ∨ n = 1 ∨ n = 2 ∨ n = 3 ∨ n = 4 ∨ n = 5 ∨ n = 6 ∨ n = 7 ∨ n = 8 ∨ n = 9) (h : (7 : Int32) < n) : own_at (own_mk s0 s1 s2 s3 s4 s5 s6 s7 s8 n) 7 = s7 := by
  rcases hn with rfl | rfl | rfl | rfl | rfl | rfl | rfl | rfl | rfl | rfl <;> first | rfl | exact absurd h (by decide)
def own_fin (k : Int32) (a : Int64) : Int64 := ((a <<< (k &&& 0x3f).toInt64) ^^^ (-9223372036854775808 : Int64))
def own_k8 (cs : List Int32) (a : Int64) : Int64 := own_fin (0 : Int32) a
def own_k7 (cs : List Int32) (a : Int64) : Int64 := if (7 : Int32) < (Int32.ofNat cs.length) then (if (127 : Int32) < (own_at cs 7) then own_fin (0 : Int32) ((a <<< ((8 : Int32) &&& 0x3f).toInt64) ||| ((255 : Int32).toInt64)) else own_k8 cs ((a <<< ((8 : Int32) &&& 0x3f).toInt64) ||| ((own_at cs 7).toInt64))) else own_fin (8 : Int32) a
def own_k6 (cs : List Int32) (a : Int64) : Int64 := if (6 : Int32) < (Int32.ofNat cs.length) then (if (127 : Int32) < (own_at cs 6) then own_fin (8 : Int32) ((a <<< ((8 : Int32) &&& 0x3f).toInt64) ||| ((255 : Int32).toInt64)) else own_k7 cs ((a <<< ((8 : Int32) &&& 0x3f).toInt64) ||| ((own_at cs 6).toInt64))) else own_fin (16 : Int32) a
def own_k5 (cs : List Int32) (a : Int64) : Int64 := if (5 : Int32) < (Int32.ofNat cs.length) then (if (127 : Int32) < (own_at cs 5) then own_fin (16 : Int32) ((a <<< ((8 : Int32) &&& 0x3f).toInt64) ||| ((255 : Int32).toInt64)) else own_k6 cs ((a <<< ((8 : Int32) &&& 0x3f).toInt64) ||| ((own_at cs 5).toInt64))) else own_fin (24 : Int32) a
def own_k4 (cs : List Int32) (a : Int64) : Int64 := if (4 : Int32) < (Int32.ofNat cs.length) then (if (127 : Int32) < (own_at cs 4) then own_fin (24 : Int32) ((a <<< ((8 : Int32) &&& 0x3f).toInt64) ||| ((255 : Int32).toInt64)) else own_k5 cs ((a <<< ((8 : Int32) &&& 0x3f).toInt64) ||| ((own_at cs 4).toInt64))) else own_fin (32 : Int32) a
def own_k3 (cs : List Int32) (a : Int64) : Int64 := if (3 : Int32) < (Int32.ofNat cs.length) then (if (127 : Int32) < (own_at cs 3) then own_fin (32 : Int32) ((a <<< ((8 : Int32) &&& 0x3f).toInt64) ||| ((255 : Int32).toInt64)) else own_k4 cs ((a <<< ((8 : Int32) &&& 0x3f).toInt64) ||| ((own_at cs 3).toInt64))) else own_fin (40 : Int32) a
def own_k2 (cs : List Int32) (a : Int64) : Int64 := if (2 : Int32) < (Int32.ofNat cs.length) then (if (127 : Int32) < (own_at cs 2) then own_fin (40 : Int32) ((a <<< ((8 : Int32) &&& 0x3f).toInt64) ||| ((255 : Int32).toInt64)) else own_k3 cs ((a <<< ((8 : Int32) &&& 0x3f).toInt64) ||| ((own_at cs 2).toInt64))) else own_fin (48 : Int32) a
def own_k1 (cs : List Int32) (a : Int64) : Int64 := if (1 : Int32) < (Int32.ofNat cs.length) then (if (127 : Int32) < (own_at cs 1) then own_fin (48 : Int32) ((a <<< ((8 : Int32) &&& 0x3f).toInt64) ||| ((255 : Int32).toInt64)) else own_k2 cs ((a <<< ((8 : Int32) &&& 0x3f).toInt64) ||| ((own_at cs 1).toInt64))) else own_fin (56 : Int32) a
def own_k0 (cs : List Int32) (a : Int64) : Int64 := if (0 : Int32) < (Int32.ofNat cs.length) then (if (127 : Int32) < (own_at cs 0) then own_fin (56 : Int32) ((a <<< ((8 : Int32) &&& 0x3f).toInt64) ||| ((255 : Int32).toInt64)) else own_k1 cs ((a <<< ((8 : Int32) &&& 0x3f).toInt64) ||| ((own_at cs 0).toInt64))) else own_fin (64 : Int32) a
theorem own_push0 (a v : Int64) : ((a <<< ((8 : Int32) &&& 0x3f).toInt64) ||| v) <<< ((0 : Int32) &&& 0x3f).toInt64 = (a <<< ((8 : Int32) &&& 0x3f).toInt64) ||| (v <<< ((0 : Int32) &&& 0x3f).toInt64) := by
  apply Int64.toBitVec_inj.mp
  simp only [Int64.toBitVec_or, Int64.toBitVec_shiftLeft, BitVec.shiftLeft_eq']
  rw [show (((0 : Int32) &&& 0x3f).toInt64.toBitVec.smod 64).toNat = 0 by decide, show (((8 : Int32) &&& 0x3f).toInt64.toBitVec.smod 64).toNat = 8 by decide, BitVec.shiftLeft_or_distrib, ← BitVec.shiftLeft_add]
theorem own_push8 (a v : Int64) : ((a <<< ((8 : Int32) &&& 0x3f).toInt64) ||| v) <<< ((8 : Int32) &&& 0x3f).toInt64 = (a <<< ((16 : Int32) &&& 0x3f).toInt64) ||| (v <<< ((8 : Int32) &&& 0x3f).toInt64) := by
  apply Int64.toBitVec_inj.mp
  simp only [Int64.toBitVec_or, Int64.toBitVec_shiftLeft, BitVec.shiftLeft_eq']
  rw [show (((8 : Int32) &&& 0x3f).toInt64.toBitVec.smod 64).toNat = 8 by decide, show (((16 : Int32) &&& 0x3f).toInt64.toBitVec.smod 64).toNat = 16 by decide, BitVec.shiftLeft_or_distrib, ← BitVec.shiftLeft_add]
theorem own_push16 (a v : Int64) : ((a <<< ((8 : Int32) &&& 0x3f).toInt64) ||| v) <<< ((16 : Int32) &&& 0x3f).toInt64 = (a <<< ((24 : Int32) &&& 0x3f).toInt64) ||| (v <<< ((16 : Int32) &&& 0x3f).toInt64) := by
  apply Int64.toBitVec_inj.mp
  simp only [Int64.toBitVec_or, Int64.toBitVec_shiftLeft, BitVec.shiftLeft_eq']
  rw [show (((8 : Int32) &&& 0x3f).toInt64.toBitVec.smod 64).toNat = 8 by decide, show (((16 : Int32) &&& 0x3f).toInt64.toBitVec.smod 64).toNat = 16 by decide, show (((24 : Int32) &&& 0x3f).toInt64.toBitVec.smod 64).toNat = 24 by decide, BitVec.shiftLeft_or_distrib, ← BitVec.shiftLeft_add]
theorem own_push24 (a v : Int64) : ((a <<< ((8 : Int32) &&& 0x3f).toInt64) ||| v) <<< ((24 : Int32) &&& 0x3f).toInt64 = (a <<< ((32 : Int32) &&& 0x3f).toInt64) ||| (v <<< ((24 : Int32) &&& 0x3f).toInt64) := by
  apply Int64.toBitVec_inj.mp
  simp only [Int64.toBitVec_or, Int64.toBitVec_shiftLeft, BitVec.shiftLeft_eq']
  rw [show (((8 : Int32) &&& 0x3f).toInt64.toBitVec.smod 64).toNat = 8 by decide, show (((24 : Int32) &&& 0x3f).toInt64.toBitVec.smod 64).toNat = 24 by decide, show (((32 : Int32) &&& 0x3f).toInt64.toBitVec.smod 64).toNat = 32 by decide, BitVec.shiftLeft_or_distrib, ← BitVec.shiftLeft_add]
theorem own_push32 (a v : Int64) : ((a <<< ((8 : Int32) &&& 0x3f).toInt64) ||| v) <<< ((32 : Int32) &&& 0x3f).toInt64 = (a <<< ((40 : Int32) &&& 0x3f).toInt64) ||| (v <<< ((32 : Int32) &&& 0x3f).toInt64) := by
  apply Int64.toBitVec_inj.mp
  simp only [Int64.toBitVec_or, Int64.toBitVec_shiftLeft, BitVec.shiftLeft_eq']
  rw [show (((8 : Int32) &&& 0x3f).toInt64.toBitVec.smod 64).toNat = 8 by decide, show (((32 : Int32) &&& 0x3f).toInt64.toBitVec.smod 64).toNat = 32 by decide, show (((40 : Int32) &&& 0x3f).toInt64.toBitVec.smod 64).toNat = 40 by decide, BitVec.shiftLeft_or_distrib, ← BitVec.shiftLeft_add]
theorem own_push40 (a v : Int64) : ((a <<< ((8 : Int32) &&& 0x3f).toInt64) ||| v) <<< ((40 : Int32) &&& 0x3f).toInt64 = (a <<< ((48 : Int32) &&& 0x3f).toInt64) ||| (v <<< ((40 : Int32) &&& 0x3f).toInt64) := by
  apply Int64.toBitVec_inj.mp
  simp only [Int64.toBitVec_or, Int64.toBitVec_shiftLeft, BitVec.shiftLeft_eq']
  rw [show (((8 : Int32) &&& 0x3f).toInt64.toBitVec.smod 64).toNat = 8 by decide, show (((40 : Int32) &&& 0x3f).toInt64.toBitVec.smod 64).toNat = 40 by decide, show (((48 : Int32) &&& 0x3f).toInt64.toBitVec.smod 64).toNat = 48 by decide, BitVec.shiftLeft_or_distrib, ← BitVec.shiftLeft_add]
theorem own_push48 (a v : Int64) : ((a <<< ((8 : Int32) &&& 0x3f).toInt64) ||| v) <<< ((48 : Int32) &&& 0x3f).toInt64 = (a <<< ((56 : Int32) &&& 0x3f).toInt64) ||| (v <<< ((48 : Int32) &&& 0x3f).toInt64) := by
  apply Int64.toBitVec_inj.mp
  simp only [Int64.toBitVec_or, Int64.toBitVec_shiftLeft, BitVec.shiftLeft_eq']
  rw [show (((8 : Int32) &&& 0x3f).toInt64.toBitVec.smod 64).toNat = 8 by decide, show (((48 : Int32) &&& 0x3f).toInt64.toBitVec.smod 64).toNat = 48 by decide, show (((56 : Int32) &&& 0x3f).toInt64.toBitVec.smod 64).toNat = 56 by decide, BitVec.shiftLeft_or_distrib, ← BitVec.shiftLeft_add]
theorem own_push56 (v : Int64) : (((0 : Int64) <<< ((8 : Int32) &&& 0x3f).toInt64) ||| v) <<< ((56 : Int32) &&& 0x3f).toInt64 = v <<< ((56 : Int32) &&& 0x3f).toInt64 := by
  rw [show (0 : Int64) <<< ((8 : Int32) &&& 0x3f).toInt64 = 0 from rfl, Int64.zero_or]
theorem own_fin0 : own_fin (64 : Int32) 0 = ((0 : Int64) ^^^ (-9223372036854775808 : Int64)) := rfl
theorem own_s0 (v : Int64) : v <<< ((0 : Int32) &&& 0x3f).toInt64 = v := by
  apply Int64.toBitVec_inj.mp
  simp only [Int64.toBitVec_shiftLeft, BitVec.shiftLeft_eq']
  rw [show (((0 : Int32) &&& 0x3f).toInt64.toBitVec.smod 64).toNat = 0 by decide, BitVec.shiftLeft_zero]
theorem own_z8 : (0 : Int64) <<< ((8 : Int32) &&& 0x3f).toInt64 = 0 := rfl
theorem own_z16 : (0 : Int64) <<< ((16 : Int32) &&& 0x3f).toInt64 = 0 := rfl
theorem own_z24 : (0 : Int64) <<< ((24 : Int32) &&& 0x3f).toInt64 = 0 := rfl
theorem own_z32 : (0 : Int64) <<< ((32 : Int32) &&& 0x3f).toInt64 = 0 := rfl
theorem own_z40 : (0 : Int64) <<< ((40 : Int32) &&& 0x3f).toInt64 = 0 := rfl
theorem own_z48 : (0 : Int64) <<< ((48 : Int32) &&& 0x3f).toInt64 = 0 := rfl
theorem own_z56 : (0 : Int64) <<< ((56 : Int32) &&& 0x3f).toInt64 = 0 := rfl
theorem own_b0 {ch : Int32} : own_b 0 ch = 0 := rfl
theorem own_k10 : ¬ (1 : Int32) = 0 := by decide
theorem own_zr7 {x : Int64} {s7 l7 : Int32} (h : l7 = 0)  : (x ||| own_b l7 s7) = x := by
  rw [h, own_b0, Int64.or_zero]
theorem own_zr6 {x : Int64} {s6 s7 n l6 l7 : Int32} (h : l6 = 0) (hl7 : l7 = (if l6 = 0 then (0 : Int32) else if (127 : Int32) < s6 then (0 : Int32) else if (7 : Int32) < n then (1 : Int32) else (0 : Int32))) : ((x ||| (own_b l6 s6 <<< ((8 : Int32) &&& 0x3f).toInt64)) ||| own_b l7 s7) = x := by
  rw [own_zr7 (by rw [hl7, h]; rfl) ]
  rw [h, own_b0, own_z8, Int64.or_zero]
theorem own_zr5 {x : Int64} {s5 s6 s7 n l5 l6 l7 : Int32} (h : l5 = 0) (hl6 : l6 = (if l5 = 0 then (0 : Int32) else if (127 : Int32) < s5 then (0 : Int32) else if (6 : Int32) < n then (1 : Int32) else (0 : Int32))) (hl7 : l7 = (if l6 = 0 then (0 : Int32) else if (127 : Int32) < s6 then (0 : Int32) else if (7 : Int32) < n then (1 : Int32) else (0 : Int32))) : (((x ||| (own_b l5 s5 <<< ((16 : Int32) &&& 0x3f).toInt64)) ||| (own_b l6 s6 <<< ((8 : Int32) &&& 0x3f).toInt64)) ||| own_b l7 s7) = x := by
  rw [own_zr6 (by rw [hl6, h]; rfl) hl7]
  rw [h, own_b0, own_z16, Int64.or_zero]
theorem own_zr4 {x : Int64} {s4 s5 s6 s7 n l4 l5 l6 l7 : Int32} (h : l4 = 0) (hl5 : l5 = (if l4 = 0 then (0 : Int32) else if (127 : Int32) < s4 then (0 : Int32) else if (5 : Int32) < n then (1 : Int32) else (0 : Int32))) (hl6 : l6 = (if l5 = 0 then (0 : Int32) else if (127 : Int32) < s5 then (0 : Int32) else if (6 : Int32) < n then (1 : Int32) else (0 : Int32))) (hl7 : l7 = (if l6 = 0 then (0 : Int32) else if (127 : Int32) < s6 then (0 : Int32) else if (7 : Int32) < n then (1 : Int32) else (0 : Int32))) : ((((x ||| (own_b l4 s4 <<< ((24 : Int32) &&& 0x3f).toInt64)) ||| (own_b l5 s5 <<< ((16 : Int32) &&& 0x3f).toInt64)) ||| (own_b l6 s6 <<< ((8 : Int32) &&& 0x3f).toInt64)) ||| own_b l7 s7) = x := by
  rw [own_zr5 (by rw [hl5, h]; rfl) hl6 hl7]
  rw [h, own_b0, own_z24, Int64.or_zero]
theorem own_zr3 {x : Int64} {s3 s4 s5 s6 s7 n l3 l4 l5 l6 l7 : Int32} (h : l3 = 0) (hl4 : l4 = (if l3 = 0 then (0 : Int32) else if (127 : Int32) < s3 then (0 : Int32) else if (4 : Int32) < n then (1 : Int32) else (0 : Int32))) (hl5 : l5 = (if l4 = 0 then (0 : Int32) else if (127 : Int32) < s4 then (0 : Int32) else if (5 : Int32) < n then (1 : Int32) else (0 : Int32))) (hl6 : l6 = (if l5 = 0 then (0 : Int32) else if (127 : Int32) < s5 then (0 : Int32) else if (6 : Int32) < n then (1 : Int32) else (0 : Int32))) (hl7 : l7 = (if l6 = 0 then (0 : Int32) else if (127 : Int32) < s6 then (0 : Int32) else if (7 : Int32) < n then (1 : Int32) else (0 : Int32))) : (((((x ||| (own_b l3 s3 <<< ((32 : Int32) &&& 0x3f).toInt64)) ||| (own_b l4 s4 <<< ((24 : Int32) &&& 0x3f).toInt64)) ||| (own_b l5 s5 <<< ((16 : Int32) &&& 0x3f).toInt64)) ||| (own_b l6 s6 <<< ((8 : Int32) &&& 0x3f).toInt64)) ||| own_b l7 s7) = x := by
  rw [own_zr4 (by rw [hl4, h]; rfl) hl5 hl6 hl7]
  rw [h, own_b0, own_z32, Int64.or_zero]
theorem own_zr2 {x : Int64} {s2 s3 s4 s5 s6 s7 n l2 l3 l4 l5 l6 l7 : Int32} (h : l2 = 0) (hl3 : l3 = (if l2 = 0 then (0 : Int32) else if (127 : Int32) < s2 then (0 : Int32) else if (3 : Int32) < n then (1 : Int32) else (0 : Int32))) (hl4 : l4 = (if l3 = 0 then (0 : Int32) else if (127 : Int32) < s3 then (0 : Int32) else if (4 : Int32) < n then (1 : Int32) else (0 : Int32))) (hl5 : l5 = (if l4 = 0 then (0 : Int32) else if (127 : Int32) < s4 then (0 : Int32) else if (5 : Int32) < n then (1 : Int32) else (0 : Int32))) (hl6 : l6 = (if l5 = 0 then (0 : Int32) else if (127 : Int32) < s5 then (0 : Int32) else if (6 : Int32) < n then (1 : Int32) else (0 : Int32))) (hl7 : l7 = (if l6 = 0 then (0 : Int32) else if (127 : Int32) < s6 then (0 : Int32) else if (7 : Int32) < n then (1 : Int32) else (0 : Int32))) : ((((((x ||| (own_b l2 s2 <<< ((40 : Int32) &&& 0x3f).toInt64)) ||| (own_b l3 s3 <<< ((32 : Int32) &&& 0x3f).toInt64)) ||| (own_b l4 s4 <<< ((24 : Int32) &&& 0x3f).toInt64)) ||| (own_b l5 s5 <<< ((16 : Int32) &&& 0x3f).toInt64)) ||| (own_b l6 s6 <<< ((8 : Int32) &&& 0x3f).toInt64)) ||| own_b l7 s7) = x := by
  rw [own_zr3 (by rw [hl3, h]; rfl) hl4 hl5 hl6 hl7]
  rw [h, own_b0, own_z40, Int64.or_zero]
theorem own_zr1 {x : Int64} {s1 s2 s3 s4 s5 s6 s7 n l1 l2 l3 l4 l5 l6 l7 : Int32} (h : l1 = 0) (hl2 : l2 = (if l1 = 0 then (0 : Int32) else if (127 : Int32) < s1 then (0 : Int32) else if (2 : Int32) < n then (1 : Int32) else (0 : Int32))) (hl3 : l3 = (if l2 = 0 then (0 : Int32) else if (127 : Int32) < s2 then (0 : Int32) else if (3 : Int32) < n then (1 : Int32) else (0 : Int32))) (hl4 : l4 = (if l3 = 0 then (0 : Int32) else if (127 : Int32) < s3 then (0 : Int32) else if (4 : Int32) < n then (1 : Int32) else (0 : Int32))) (hl5 : l5 = (if l4 = 0 then (0 : Int32) else if (127 : Int32) < s4 then (0 : Int32) else if (5 : Int32) < n then (1 : Int32) else (0 : Int32))) (hl6 : l6 = (if l5 = 0 then (0 : Int32) else if (127 : Int32) < s5 then (0 : Int32) else if (6 : Int32) < n then (1 : Int32) else (0 : Int32))) (hl7 : l7 = (if l6 = 0 then (0 : Int32) else if (127 : Int32) < s6 then (0 : Int32) else if (7 : Int32) < n then (1 : Int32) else (0 : Int32))) : (((((((x ||| (own_b l1 s1 <<< ((48 : Int32) &&& 0x3f).toInt64)) ||| (own_b l2 s2 <<< ((40 : Int32) &&& 0x3f).toInt64)) ||| (own_b l3 s3 <<< ((32 : Int32) &&& 0x3f).toInt64)) ||| (own_b l4 s4 <<< ((24 : Int32) &&& 0x3f).toInt64)) ||| (own_b l5 s5 <<< ((16 : Int32) &&& 0x3f).toInt64)) ||| (own_b l6 s6 <<< ((8 : Int32) &&& 0x3f).toInt64)) ||| own_b l7 s7) = x := by
  rw [own_zr2 (by rw [hl2, h]; rfl) hl3 hl4 hl5 hl6 hl7]
  rw [h, own_b0, own_z48, Int64.or_zero]
theorem own_zr0 {x : Int64} {s0 s1 s2 s3 s4 s5 s6 s7 n l0 l1 l2 l3 l4 l5 l6 l7 : Int32} (h : l0 = 0) (hl1 : l1 = (if l0 = 0 then (0 : Int32) else if (127 : Int32) < s0 then (0 : Int32) else if (1 : Int32) < n then (1 : Int32) else (0 : Int32))) (hl2 : l2 = (if l1 = 0 then (0 : Int32) else if (127 : Int32) < s1 then (0 : Int32) else if (2 : Int32) < n then (1 : Int32) else (0 : Int32))) (hl3 : l3 = (if l2 = 0 then (0 : Int32) else if (127 : Int32) < s2 then (0 : Int32) else if (3 : Int32) < n then (1 : Int32) else (0 : Int32))) (hl4 : l4 = (if l3 = 0 then (0 : Int32) else if (127 : Int32) < s3 then (0 : Int32) else if (4 : Int32) < n then (1 : Int32) else (0 : Int32))) (hl5 : l5 = (if l4 = 0 then (0 : Int32) else if (127 : Int32) < s4 then (0 : Int32) else if (5 : Int32) < n then (1 : Int32) else (0 : Int32))) (hl6 : l6 = (if l5 = 0 then (0 : Int32) else if (127 : Int32) < s5 then (0 : Int32) else if (6 : Int32) < n then (1 : Int32) else (0 : Int32))) (hl7 : l7 = (if l6 = 0 then (0 : Int32) else if (127 : Int32) < s6 then (0 : Int32) else if (7 : Int32) < n then (1 : Int32) else (0 : Int32))) : ((((((((x ||| (own_b l0 s0 <<< ((56 : Int32) &&& 0x3f).toInt64)) ||| (own_b l1 s1 <<< ((48 : Int32) &&& 0x3f).toInt64)) ||| (own_b l2 s2 <<< ((40 : Int32) &&& 0x3f).toInt64)) ||| (own_b l3 s3 <<< ((32 : Int32) &&& 0x3f).toInt64)) ||| (own_b l4 s4 <<< ((24 : Int32) &&& 0x3f).toInt64)) ||| (own_b l5 s5 <<< ((16 : Int32) &&& 0x3f).toInt64)) ||| (own_b l6 s6 <<< ((8 : Int32) &&& 0x3f).toInt64)) ||| own_b l7 s7) = x := by
  rw [own_zr1 (by rw [hl1, h]; rfl) hl2 hl3 hl4 hl5 hl6 hl7]
  rw [h, own_b0, own_z56, Int64.or_zero]
theorem own_a8 {cs : List Int32} {a : Int64} : own_k8 cs a = (a ^^^ (-9223372036854775808 : Int64)) := by
  show ((a <<< ((0 : Int32) &&& 0x3f).toInt64) ^^^ _) = _
  rw [own_s0]
theorem own_a7 {cs : List Int32} {a : Int64} {s7 n l7 : Int32} (hlen : Int32.ofNat cs.length = n) (at7 : (7 : Int32) < n → own_at cs 7 = s7) (hl7 : l7 = if (7 : Int32) < n then (1 : Int32) else (0 : Int32))  : own_k7 cs a = (((a <<< ((8 : Int32) &&& 0x3f).toInt64) ||| own_b l7 s7) ^^^ (-9223372036854775808 : Int64)) := by
  unfold own_k7
  rw [hlen]
  by_cases c : (7 : Int32) < n
  · rw [if_pos c] at hl7
    rw [if_pos c, at7 c]
    by_cases q : (127 : Int32) < s7
    · rw [if_pos q]
      rw [hl7]
      unfold own_b own_fin
      rw [if_neg own_k10, if_pos q, own_push0, own_s0]
      try rfl
    · rw [if_neg q]
      rw [own_a8, show own_b l7 s7 = s7.toInt64 by rw [hl7]; unfold own_b; rw [if_neg own_k10, if_neg q]]
  · rw [if_neg c] at hl7
    rw [if_neg c, own_zr7 hl7 ]
    rfl
theorem own_a6 {cs : List Int32} {a : Int64} {s6 s7 n l6 l7 : Int32} (hlen : Int32.ofNat cs.length = n) (at6 : (6 : Int32) < n → own_at cs 6 = s6) (at7 : (7 : Int32) < n → own_at cs 7 = s7) (hl6 : l6 = if (6 : Int32) < n then (1 : Int32) else (0 : Int32)) (hl7 : l7 = (if l6 = 0 then (0 : Int32) else if (127 : Int32) < s6 then (0 : Int32) else if (7 : Int32) < n then (1 : Int32) else (0 : Int32))) : own_k6 cs a = ((((a <<< ((16 : Int32) &&& 0x3f).toInt64) ||| (own_b l6 s6 <<< ((8 : Int32) &&& 0x3f).toInt64)) ||| own_b l7 s7) ^^^ (-9223372036854775808 : Int64)) := by
  unfold own_k6
  rw [hlen]
  by_cases c : (6 : Int32) < n
  · rw [if_pos c] at hl6
    rw [if_pos c, at6 c]
    by_cases q : (127 : Int32) < s6
    · rw [if_pos q]
      rw [own_zr7 (by rw [hl7, hl6, if_neg own_k10, if_pos q]) ]
      rw [hl6]
      unfold own_b own_fin
      rw [if_neg own_k10, if_pos q, own_push8]
      try rfl
    · rw [if_neg q]
      rw [own_a7 (l7 := l7) hlen at7 (by rw [hl7, hl6, if_neg own_k10, if_neg q]) , own_push8]
      rw [show own_b l6 s6 = s6.toInt64 by rw [hl6]; unfold own_b; rw [if_neg own_k10, if_neg q]]
  · rw [if_neg c] at hl6
    rw [if_neg c, own_zr6 hl6 hl7]
    rfl
theorem own_a5 {cs : List Int32} {a : Int64} {s5 s6 s7 n l5 l6 l7 : Int32} (hlen : Int32.ofNat cs.length = n) (at5 : (5 : Int32) < n → own_at cs 5 = s5) (at6 : (6 : Int32) < n → own_at cs 6 = s6) (at7 : (7 : Int32) < n → own_at cs 7 = s7) (hl5 : l5 = if (5 : Int32) < n then (1 : Int32) else (0 : Int32)) (hl6 : l6 = (if l5 = 0 then (0 : Int32) else if (127 : Int32) < s5 then (0 : Int32) else if (6 : Int32) < n then (1 : Int32) else (0 : Int32))) (hl7 : l7 = (if l6 = 0 then (0 : Int32) else if (127 : Int32) < s6 then (0 : Int32) else if (7 : Int32) < n then (1 : Int32) else (0 : Int32))) : own_k5 cs a = (((((a <<< ((24 : Int32) &&& 0x3f).toInt64) ||| (own_b l5 s5 <<< ((16 : Int32) &&& 0x3f).toInt64)) ||| (own_b l6 s6 <<< ((8 : Int32) &&& 0x3f).toInt64)) ||| own_b l7 s7) ^^^ (-9223372036854775808 : Int64)) := by
  unfold own_k5
  rw [hlen]
  by_cases c : (5 : Int32) < n
  · rw [if_pos c] at hl5
    rw [if_pos c, at5 c]
    by_cases q : (127 : Int32) < s5
    · rw [if_pos q]
      rw [own_zr6 (by rw [hl6, hl5, if_neg own_k10, if_pos q]) hl7]
      rw [hl5]
      unfold own_b own_fin
      rw [if_neg own_k10, if_pos q, own_push16]
      try rfl
    · rw [if_neg q]
      rw [own_a6 (l6 := l6) hlen at6 at7 (by rw [hl6, hl5, if_neg own_k10, if_neg q]) hl7, own_push16]
      rw [show own_b l5 s5 = s5.toInt64 by rw [hl5]; unfold own_b; rw [if_neg own_k10, if_neg q]]
  · rw [if_neg c] at hl5
    rw [if_neg c, own_zr5 hl5 hl6 hl7]
    rfl
theorem own_a4 {cs : List Int32} {a : Int64} {s4 s5 s6 s7 n l4 l5 l6 l7 : Int32} (hlen : Int32.ofNat cs.length = n) (at4 : (4 : Int32) < n → own_at cs 4 = s4) (at5 : (5 : Int32) < n → own_at cs 5 = s5) (at6 : (6 : Int32) < n → own_at cs 6 = s6) (at7 : (7 : Int32) < n → own_at cs 7 = s7) (hl4 : l4 = if (4 : Int32) < n then (1 : Int32) else (0 : Int32)) (hl5 : l5 = (if l4 = 0 then (0 : Int32) else if (127 : Int32) < s4 then (0 : Int32) else if (5 : Int32) < n then (1 : Int32) else (0 : Int32))) (hl6 : l6 = (if l5 = 0 then (0 : Int32) else if (127 : Int32) < s5 then (0 : Int32) else if (6 : Int32) < n then (1 : Int32) else (0 : Int32))) (hl7 : l7 = (if l6 = 0 then (0 : Int32) else if (127 : Int32) < s6 then (0 : Int32) else if (7 : Int32) < n then (1 : Int32) else (0 : Int32))) : own_k4 cs a = ((((((a <<< ((32 : Int32) &&& 0x3f).toInt64) ||| (own_b l4 s4 <<< ((24 : Int32) &&& 0x3f).toInt64)) ||| (own_b l5 s5 <<< ((16 : Int32) &&& 0x3f).toInt64)) ||| (own_b l6 s6 <<< ((8 : Int32) &&& 0x3f).toInt64)) ||| own_b l7 s7) ^^^ (-9223372036854775808 : Int64)) := by
  unfold own_k4
  rw [hlen]
  by_cases c : (4 : Int32) < n
  · rw [if_pos c] at hl4
    rw [if_pos c, at4 c]
    by_cases q : (127 : Int32) < s4
    · rw [if_pos q]
      rw [own_zr5 (by rw [hl5, hl4, if_neg own_k10, if_pos q]) hl6 hl7]
      rw [hl4]
      unfold own_b own_fin
      rw [if_neg own_k10, if_pos q, own_push24]
      try rfl
    · rw [if_neg q]
      rw [own_a5 (l5 := l5) hlen at5 at6 at7 (by rw [hl5, hl4, if_neg own_k10, if_neg q]) hl6 hl7, own_push24]
      rw [show own_b l4 s4 = s4.toInt64 by rw [hl4]; unfold own_b; rw [if_neg own_k10, if_neg q]]
  · rw [if_neg c] at hl4
    rw [if_neg c, own_zr4 hl4 hl5 hl6 hl7]
    rfl
theorem own_a3 {cs : List Int32} {a : Int64} {s3 s4 s5 s6 s7 n l3 l4 l5 l6 l7 : Int32} (hlen : Int32.ofNat cs.length = n) (at3 : (3 : Int32) < n → own_at cs 3 = s3) (at4 : (4 : Int32) < n → own_at cs 4 = s4) (at5 : (5 : Int32) < n → own_at cs 5 = s5) (at6 : (6 : Int32) < n → own_at cs 6 = s6) (at7 : (7 : Int32) < n → own_at cs 7 = s7) (hl3 : l3 = if (3 : Int32) < n then (1 : Int32) else (0 : Int32)) (hl4 : l4 = (if l3 = 0 then (0 : Int32) else if (127 : Int32) < s3 then (0 : Int32) else if (4 : Int32) < n then (1 : Int32) else (0 : Int32))) (hl5 : l5 = (if l4 = 0 then (0 : Int32) else if (127 : Int32) < s4 then (0 : Int32) else if (5 : Int32) < n then (1 : Int32) else (0 : Int32))) (hl6 : l6 = (if l5 = 0 then (0 : Int32) else if (127 : Int32) < s5 then (0 : Int32) else if (6 : Int32) < n then (1 : Int32) else (0 : Int32))) (hl7 : l7 = (if l6 = 0 then (0 : Int32) else if (127 : Int32) < s6 then (0 : Int32) else if (7 : Int32) < n then (1 : Int32) else (0 : Int32))) : own_k3 cs a = (((((((a <<< ((40 : Int32) &&& 0x3f).toInt64) ||| (own_b l3 s3 <<< ((32 : Int32) &&& 0x3f).toInt64)) ||| (own_b l4 s4 <<< ((24 : Int32) &&& 0x3f).toInt64)) ||| (own_b l5 s5 <<< ((16 : Int32) &&& 0x3f).toInt64)) ||| (own_b l6 s6 <<< ((8 : Int32) &&& 0x3f).toInt64)) ||| own_b l7 s7) ^^^ (-9223372036854775808 : Int64)) := by
  unfold own_k3
  rw [hlen]
  by_cases c : (3 : Int32) < n
  · rw [if_pos c] at hl3
    rw [if_pos c, at3 c]
    by_cases q : (127 : Int32) < s3
    · rw [if_pos q]
      rw [own_zr4 (by rw [hl4, hl3, if_neg own_k10, if_pos q]) hl5 hl6 hl7]
      rw [hl3]
      unfold own_b own_fin
      rw [if_neg own_k10, if_pos q, own_push32]
      try rfl
    · rw [if_neg q]
      rw [own_a4 (l4 := l4) hlen at4 at5 at6 at7 (by rw [hl4, hl3, if_neg own_k10, if_neg q]) hl5 hl6 hl7, own_push32]
      rw [show own_b l3 s3 = s3.toInt64 by rw [hl3]; unfold own_b; rw [if_neg own_k10, if_neg q]]
  · rw [if_neg c] at hl3
    rw [if_neg c, own_zr3 hl3 hl4 hl5 hl6 hl7]
    rfl
theorem own_a2 {cs : List Int32} {a : Int64} {s2 s3 s4 s5 s6 s7 n l2 l3 l4 l5 l6 l7 : Int32} (hlen : Int32.ofNat cs.length = n) (at2 : (2 : Int32) < n → own_at cs 2 = s2) (at3 : (3 : Int32) < n → own_at cs 3 = s3) (at4 : (4 : Int32) < n → own_at cs 4 = s4) (at5 : (5 : Int32) < n → own_at cs 5 = s5) (at6 : (6 : Int32) < n → own_at cs 6 = s6) (at7 : (7 : Int32) < n → own_at cs 7 = s7) (hl2 : l2 = if (2 : Int32) < n then (1 : Int32) else (0 : Int32)) (hl3 : l3 = (if l2 = 0 then (0 : Int32) else if (127 : Int32) < s2 then (0 : Int32) else if (3 : Int32) < n then (1 : Int32) else (0 : Int32))) (hl4 : l4 = (if l3 = 0 then (0 : Int32) else if (127 : Int32) < s3 then (0 : Int32) else if (4 : Int32) < n then (1 : Int32) else (0 : Int32))) (hl5 : l5 = (if l4 = 0 then (0 : Int32) else if (127 : Int32) < s4 then (0 : Int32) else if (5 : Int32) < n then (1 : Int32) else (0 : Int32))) (hl6 : l6 = (if l5 = 0 then (0 : Int32) else if (127 : Int32) < s5 then (0 : Int32) else if (6 : Int32) < n then (1 : Int32) else (0 : Int32))) (hl7 : l7 = (if l6 = 0 then (0 : Int32) else if (127 : Int32) < s6 then (0 : Int32) else if (7 : Int32) < n then (1 : Int32) else (0 : Int32))) : own_k2 cs a = ((((((((a <<< ((48 : Int32) &&& 0x3f).toInt64) ||| (own_b l2 s2 <<< ((40 : Int32) &&& 0x3f).toInt64)) ||| (own_b l3 s3 <<< ((32 : Int32) &&& 0x3f).toInt64)) ||| (own_b l4 s4 <<< ((24 : Int32) &&& 0x3f).toInt64)) ||| (own_b l5 s5 <<< ((16 : Int32) &&& 0x3f).toInt64)) ||| (own_b l6 s6 <<< ((8 : Int32) &&& 0x3f).toInt64)) ||| own_b l7 s7) ^^^ (-9223372036854775808 : Int64)) := by
  unfold own_k2
  rw [hlen]
  by_cases c : (2 : Int32) < n
  · rw [if_pos c] at hl2
    rw [if_pos c, at2 c]
    by_cases q : (127 : Int32) < s2
    · rw [if_pos q]
      rw [own_zr3 (by rw [hl3, hl2, if_neg own_k10, if_pos q]) hl4 hl5 hl6 hl7]
      rw [hl2]
      unfold own_b own_fin
      rw [if_neg own_k10, if_pos q, own_push40]
      try rfl
    · rw [if_neg q]
      rw [own_a3 (l3 := l3) hlen at3 at4 at5 at6 at7 (by rw [hl3, hl2, if_neg own_k10, if_neg q]) hl4 hl5 hl6 hl7, own_push40]
      rw [show own_b l2 s2 = s2.toInt64 by rw [hl2]; unfold own_b; rw [if_neg own_k10, if_neg q]]
  · rw [if_neg c] at hl2
    rw [if_neg c, own_zr2 hl2 hl3 hl4 hl5 hl6 hl7]
    rfl
theorem own_a1 {cs : List Int32} {a : Int64} {s1 s2 s3 s4 s5 s6 s7 n l1 l2 l3 l4 l5 l6 l7 : Int32} (hlen : Int32.ofNat cs.length = n) (at1 : (1 : Int32) < n → own_at cs 1 = s1) (at2 : (2 : Int32) < n → own_at cs 2 = s2) (at3 : (3 : Int32) < n → own_at cs 3 = s3) (at4 : (4 : Int32) < n → own_at cs 4 = s4) (at5 : (5 : Int32) < n → own_at cs 5 = s5) (at6 : (6 : Int32) < n → own_at cs 6 = s6) (at7 : (7 : Int32) < n → own_at cs 7 = s7) (hl1 : l1 = if (1 : Int32) < n then (1 : Int32) else (0 : Int32)) (hl2 : l2 = (if l1 = 0 then (0 : Int32) else if (127 : Int32) < s1 then (0 : Int32) else if (2 : Int32) < n then (1 : Int32) else (0 : Int32))) (hl3 : l3 = (if l2 = 0 then (0 : Int32) else if (127 : Int32) < s2 then (0 : Int32) else if (3 : Int32) < n then (1 : Int32) else (0 : Int32))) (hl4 : l4 = (if l3 = 0 then (0 : Int32) else if (127 : Int32) < s3 then (0 : Int32) else if (4 : Int32) < n then (1 : Int32) else (0 : Int32))) (hl5 : l5 = (if l4 = 0 then (0 : Int32) else if (127 : Int32) < s4 then (0 : Int32) else if (5 : Int32) < n then (1 : Int32) else (0 : Int32))) (hl6 : l6 = (if l5 = 0 then (0 : Int32) else if (127 : Int32) < s5 then (0 : Int32) else if (6 : Int32) < n then (1 : Int32) else (0 : Int32))) (hl7 : l7 = (if l6 = 0 then (0 : Int32) else if (127 : Int32) < s6 then (0 : Int32) else if (7 : Int32) < n then (1 : Int32) else (0 : Int32))) : own_k1 cs a = (((((((((a <<< ((56 : Int32) &&& 0x3f).toInt64) ||| (own_b l1 s1 <<< ((48 : Int32) &&& 0x3f).toInt64)) ||| (own_b l2 s2 <<< ((40 : Int32) &&& 0x3f).toInt64)) ||| (own_b l3 s3 <<< ((32 : Int32) &&& 0x3f).toInt64)) ||| (own_b l4 s4 <<< ((24 : Int32) &&& 0x3f).toInt64)) ||| (own_b l5 s5 <<< ((16 : Int32) &&& 0x3f).toInt64)) ||| (own_b l6 s6 <<< ((8 : Int32) &&& 0x3f).toInt64)) ||| own_b l7 s7) ^^^ (-9223372036854775808 : Int64)) := by
  unfold own_k1
  rw [hlen]
  by_cases c : (1 : Int32) < n
  · rw [if_pos c] at hl1
    rw [if_pos c, at1 c]
    by_cases q : (127 : Int32) < s1
    · rw [if_pos q]
      rw [own_zr2 (by rw [hl2, hl1, if_neg own_k10, if_pos q]) hl3 hl4 hl5 hl6 hl7]
      rw [hl1]
      unfold own_b own_fin
      rw [if_neg own_k10, if_pos q, own_push48]
      try rfl
    · rw [if_neg q]
      rw [own_a2 (l2 := l2) hlen at2 at3 at4 at5 at6 at7 (by rw [hl2, hl1, if_neg own_k10, if_neg q]) hl3 hl4 hl5 hl6 hl7, own_push48]
      rw [show own_b l1 s1 = s1.toInt64 by rw [hl1]; unfold own_b; rw [if_neg own_k10, if_neg q]]
  · rw [if_neg c] at hl1
    rw [if_neg c, own_zr1 hl1 hl2 hl3 hl4 hl5 hl6 hl7]
    rfl
theorem own_a0 {cs : List Int32} {s0 s1 s2 s3 s4 s5 s6 s7 n l0 l1 l2 l3 l4 l5 l6 l7 : Int32} (hlen : Int32.ofNat cs.length = n) (at0 : (0 : Int32) < n → own_at cs 0 = s0) (at1 : (1 : Int32) < n → own_at cs 1 = s1) (at2 : (2 : Int32) < n → own_at cs 2 = s2) (at3 : (3 : Int32) < n → own_at cs 3 = s3) (at4 : (4 : Int32) < n → own_at cs 4 = s4) (at5 : (5 : Int32) < n → own_at cs 5 = s5) (at6 : (6 : Int32) < n → own_at cs 6 = s6) (at7 : (7 : Int32) < n → own_at cs 7 = s7) (hl0 : l0 = if (0 : Int32) < n then (1 : Int32) else (0 : Int32)) (hl1 : l1 = (if l0 = 0 then (0 : Int32) else if (127 : Int32) < s0 then (0 : Int32) else if (1 : Int32) < n then (1 : Int32) else (0 : Int32))) (hl2 : l2 = (if l1 = 0 then (0 : Int32) else if (127 : Int32) < s1 then (0 : Int32) else if (2 : Int32) < n then (1 : Int32) else (0 : Int32))) (hl3 : l3 = (if l2 = 0 then (0 : Int32) else if (127 : Int32) < s2 then (0 : Int32) else if (3 : Int32) < n then (1 : Int32) else (0 : Int32))) (hl4 : l4 = (if l3 = 0 then (0 : Int32) else if (127 : Int32) < s3 then (0 : Int32) else if (4 : Int32) < n then (1 : Int32) else (0 : Int32))) (hl5 : l5 = (if l4 = 0 then (0 : Int32) else if (127 : Int32) < s4 then (0 : Int32) else if (5 : Int32) < n then (1 : Int32) else (0 : Int32))) (hl6 : l6 = (if l5 = 0 then (0 : Int32) else if (127 : Int32) < s5 then (0 : Int32) else if (6 : Int32) < n then (1 : Int32) else (0 : Int32))) (hl7 : l7 = (if l6 = 0 then (0 : Int32) else if (127 : Int32) < s6 then (0 : Int32) else if (7 : Int32) < n then (1 : Int32) else (0 : Int32))) : own_k0 cs (0 : Int64) = ((((((((((0 : Int64) ||| (own_b l0 s0 <<< ((56 : Int32) &&& 0x3f).toInt64)) ||| (own_b l1 s1 <<< ((48 : Int32) &&& 0x3f).toInt64)) ||| (own_b l2 s2 <<< ((40 : Int32) &&& 0x3f).toInt64)) ||| (own_b l3 s3 <<< ((32 : Int32) &&& 0x3f).toInt64)) ||| (own_b l4 s4 <<< ((24 : Int32) &&& 0x3f).toInt64)) ||| (own_b l5 s5 <<< ((16 : Int32) &&& 0x3f).toInt64)) ||| (own_b l6 s6 <<< ((8 : Int32) &&& 0x3f).toInt64)) ||| own_b l7 s7) ^^^ (-9223372036854775808 : Int64)) := by
  unfold own_k0
  rw [hlen]
  by_cases c : (0 : Int32) < n
  · rw [if_pos c] at hl0
    rw [if_pos c, at0 c]
    by_cases q : (127 : Int32) < s0
    · rw [if_pos q]
      rw [own_zr1 (by rw [hl1, hl0, if_neg own_k10, if_pos q]) hl2 hl3 hl4 hl5 hl6 hl7]
      rw [hl0]
      unfold own_b own_fin
      rw [if_neg own_k10, if_pos q, own_push56]
      rw [Int64.zero_or]
      try rfl
    · rw [if_neg q]
      rw [own_a1 (l1 := l1) hlen at1 at2 at3 at4 at5 at6 at7 (by rw [hl1, hl0, if_neg own_k10, if_neg q]) hl2 hl3 hl4 hl5 hl6 hl7, own_push56]
      rw [show own_b l0 s0 = s0.toInt64 by rw [hl0]; unfold own_b; rw [if_neg own_k10, if_neg q], Int64.zero_or]
  · rw [if_neg c] at hl0
    rw [if_neg c, own_zr0 hl0 hl1 hl2 hl3 hl4 hl5 hl6 hl7]
    rfl
theorem own_key {s0 s1 s2 s3 s4 s5 s6 s7 s8 n l0 l1 l2 l3 l4 l5 l6 l7 : Int32} (hn : n = 0 ∨ n = 1 ∨ n = 2 ∨ n = 3 ∨ n = 4 ∨ n = 5 ∨ n = 6 ∨ n = 7 ∨ n = 8 ∨ n = 9) (hl0 : l0 = (if (0 : Int32) < n then (1 : Int32) else (0 : Int32))) (hl1 : l1 = (if l0 = 0 then (0 : Int32) else if (127 : Int32) < s0 then (0 : Int32) else if (1 : Int32) < n then (1 : Int32) else (0 : Int32))) (hl2 : l2 = (if l1 = 0 then (0 : Int32) else if (127 : Int32) < s1 then (0 : Int32) else if (2 : Int32) < n then (1 : Int32) else (0 : Int32))) (hl3 : l3 = (if l2 = 0 then (0 : Int32) else if (127 : Int32) < s2 then (0 : Int32) else if (3 : Int32) < n then (1 : Int32) else (0 : Int32))) (hl4 : l4 = (if l3 = 0 then (0 : Int32) else if (127 : Int32) < s3 then (0 : Int32) else if (4 : Int32) < n then (1 : Int32) else (0 : Int32))) (hl5 : l5 = (if l4 = 0 then (0 : Int32) else if (127 : Int32) < s4 then (0 : Int32) else if (5 : Int32) < n then (1 : Int32) else (0 : Int32))) (hl6 : l6 = (if l5 = 0 then (0 : Int32) else if (127 : Int32) < s5 then (0 : Int32) else if (6 : Int32) < n then (1 : Int32) else (0 : Int32))) (hl7 : l7 = (if l6 = 0 then (0 : Int32) else if (127 : Int32) < s6 then (0 : Int32) else if (7 : Int32) < n then (1 : Int32) else (0 : Int32))) : own_k0 (own_mk s0 s1 s2 s3 s4 s5 s6 s7 s8 n) (0 : Int64) = (((((((((own_b l0 s0 <<< ((56 : Int32) &&& 0x3f).toInt64) ||| (own_b l1 s1 <<< ((48 : Int32) &&& 0x3f).toInt64)) ||| (own_b l2 s2 <<< ((40 : Int32) &&& 0x3f).toInt64)) ||| (own_b l3 s3 <<< ((32 : Int32) &&& 0x3f).toInt64)) ||| (own_b l4 s4 <<< ((24 : Int32) &&& 0x3f).toInt64)) ||| (own_b l5 s5 <<< ((16 : Int32) &&& 0x3f).toInt64)) ||| (own_b l6 s6 <<< ((8 : Int32) &&& 0x3f).toInt64)) ||| own_b l7 s7) ^^^ (-9223372036854775808 : Int64)) := by
  rw [own_a0 (own_mk_len hn) (own_mk_at0 hn) (own_mk_at1 hn) (own_mk_at2 hn) (own_mk_at3 hn) (own_mk_at4 hn) (own_mk_at5 hn) (own_mk_at6 hn) (own_mk_at7 hn) hl0 hl1 hl2 hl3 hl4 hl5 hl6 hl7, Int64.zero_or]
theorem d14_0 : decode jdk_52_method_3_code 0 = .ok (.iload_n 0, 1) := by decide +kernel
theorem d14_1 : decode jdk_52_method_3_code 1 = .ok (.ifCond .ge 11, 3) := by decide +kernel
theorem d14_12 : decode jdk_52_method_3_code 12 = .ok (.iload_n 0, 1) := by decide +kernel
theorem d14_13 : decode jdk_52_method_3_code 13 = .ok (.ldc 20, 2) := by decide +kernel
theorem d14_15 : decode jdk_52_method_3_code 15 = .ok (.if_icmp .lt 40, 3) := by decide +kernel
theorem d14_55 : decode jdk_52_method_3_code 55 = .ok (.iload_n 0, 1) := by decide +kernel
theorem d14_56 : decode jdk_52_method_3_code 56 = .ok (.iconst 1, 1) := by decide +kernel
theorem d14_57 : decode jdk_52_method_3_code 57 = .ok (.ishl, 1) := by decide +kernel
theorem d14_58 : decode jdk_52_method_3_code 58 = .ok (.ireturn, 1) := by decide +kernel
theorem ef_rm_nbl (m : MethodId) (n : Int32)  : entryFrame m #[(.int n)] 1 = mkF m 0 #[.val (.int n)] [] := by first | (simp [entryFrame, mkF, argsToLocals, Value.category]; done) | rfl
def Q_rm_nbl (Z : State) (n : Int32) (cs : List Int32) (h0 : Heap) (n0 : Nat) (v : Option Value) (h : Heap) (L : List Loc) : Prop := v = some (.int (Int32.ofNat (2 * cs.length))) ∧ Fr n0 L ∧ h = h0
theorem pn_0_ : plainName "java/lang/StringUTF16" = true := by first | (simp [plainName, overriddenIn]; done) | decide +kernel
theorem pn_0 : plainFor (⟨"java/lang/StringUTF16", "newBytesLength", "(I)I"⟩ : MethodName) = true := plainFor_of_name pn_0_
set_option maxRecDepth 65536 in
set_option maxHeartbeats 40000000 in
theorem rm_nbl (l : Launch) (Z : State) (a0 : Array Value) (hw : ∀ d ∈ tables_1, d.before a0 Z = true) (ws : List Jvm.Cond) (n : Int32) (cs : List Int32) (h0 : Heap) (n0 : Nat) (O0 : Old Z n0 h0) (hN : n.toInt = (cs.length : Int)) (hN1 : cs.length ≤ 10) :
    MetFree l (⟨"java/lang/StringUTF16", "newBytesLength", "(I)I"⟩ : MethodName) (head1 (Jvm.Cond.code (⟨"java/lang/StringUTF16", "newBytesLength", "(I)I"⟩ : MethodName) jdk_52_method_3_code 1 (some .int) :: ws) ({ frames := 0, cells := 0, slots := 0, locals := 0 } : Room)) (fun args_ U => args_ = #[(.int n)] ∧ Z.Warmed39 U.vm ∧ U.heap = h0) (fun _ _ _ _ _ => True) (fun _ U out_ U' => ∃ val_ loc_, out_ = .returned val_ ∧ (Q_rm_nbl Z n cs h0 n0) val_ U'.heap loc_ ∧ FrameEnd U out_ U' loc_ ({ frames := 0, cells := 0, slots := 0, locals := 0 } : Room).cells ({ frames := 0, cells := 0, slots := 0, locals := 0 } : Room).slots) := by
  refine start (Q := (Q_rm_nbl Z n cs h0 n0)) pn_0 ?_
  intro p e s m below meth c T0 X0 hx hby hml hown hnm hret hlk hZ e0
  replace hown : s.vm.findClass "java/lang/StringUTF16" = some m.cls := hown
  replace hml : c.maxLocals = 1 := hml
  refine goAt (ef_rm_nbl m n ) ?_
  have N0 := Fr.nil n0
  show Go p e below T0 (mkF m 0 #[.val (.int n)] []) _
  refine stp (fun _ => XS.iloadN X0.here hx rfl (hb hby d14_0) rfl) ?_
  show Go p e below T0 (mkF m 1 #[.val (.int n)] [(.int n)]) _
  refine stp (fun _ => XS.ifYes X0.here hx rfl (pc0 := 1) (pc' := 12) rfl (hb hby d14_1) rfl (XT.i0_ge_t (own_u0 hN)) (by decide) (by decide)) ?_
  show Go p e below T0 (mkF m 12 #[.val (.int n)] []) _
  refine stp (fun _ => XS.iloadN X0.here hx rfl (hb hby d14_12) rfl) ?_
  show Go p e below T0 (mkF m 13 #[.val (.int n)] [(.int n)]) _
  refine stp (fun _ => X0.ldcInt hx hown (mvT hZ (hw _ (List.mem_of_getElem? (i := 66) rfl))) (g := (mkF m 13 #[.val (.int n)] [(.int n)])) rfl (hb hby d14_13) _) ?_
  show Go p e below T0 (mkF m 15 #[.val (.int n)] [(.int (1073741823 : Int32)), (.int n)]) _
  refine stp (fun _ => XS.icmpYes X0.here hx rfl (pc0 := 15) (pc' := 55) rfl (hb hby d14_15) rfl (XT.ii_lt_t (own_umax hN hN1)) (by decide) (by decide)) ?_
  show Go p e below T0 (mkF m 55 #[.val (.int n)] []) _
  refine stp (fun _ => XS.iloadN X0.here hx rfl (hb hby d14_55) rfl) ?_
  refine stp (fun _ => XS.iconst X0.here hx rfl (hb hby d14_56)) ?_
  show Go p e below T0 (mkF m 57 #[.val (.int n)] [(.int (1 : Int32)), (.int n)]) _
  refine stp (fun _ => XS.ishl X0.here hx rfl (hb hby d14_57) rfl) ?_
  show Go p e below T0 (mkF m 58 #[.val (.int n)] [(.int (n <<< ((1 : Int32) &&& 31)))]) _
  refine outI X0 hx hret (hb hby d14_58) hlk (by decide) (by decide) ?_
  exact ⟨own_somei (own_dbl hN hN1), N0, e0⟩
theorem d13_0 : decode jdk_52_method_2_code 0 = .ok (.iload_n 0, 1) := by decide +kernel
theorem d13_1 : decode jdk_52_method_2_code 1 = .ok (.invokestatic 11, 3) := by decide +kernel
theorem pd_0 : parseMethodDescriptor "(I)I" = some ⟨[.int], some .int⟩ := by decide +kernel
theorem d13_4 : decode jdk_52_method_2_code 4 = .ok (.newarray .byte, 2) := by decide +kernel
theorem d13_6 : decode jdk_52_method_2_code 6 = .ok (.areturn, 1) := by decide +kernel
theorem ef_rm_nbf (m : MethodId) (n : Int32)  : entryFrame m #[(.int n)] 1 = mkF m 0 #[.val (.int n)] [] := by first | (simp [entryFrame, mkF, argsToLocals, Value.category]; done) | rfl
def Q_rm_nbf (Z : State) (n : Int32) (cs : List Int32) (h0 : Heap) (n0 : Nat) (v : Option Value) (h : Heap) (L : List Loc) : Prop := ∃ (r : Addr) (k_r : ClassId), v = some (.ref r) ∧ Fr n0 L ∧ Keep h0 h [] ∧ (n0 ≤ r ∧ h0.size ≤ r) ∧ Exa Z h r "[B" ∧ Arf Z h r k_r .byte (2 * cs.length) (fun _ => (.int (0 : Int32)))
theorem pn_1_ : plainName "java/lang/StringUTF16" = true := by first | (simp [plainName, overriddenIn]; done) | decide +kernel
theorem pn_1 : plainFor (⟨"java/lang/StringUTF16", "newBytesFor", "(I)[B"⟩ : MethodName) = true := plainFor_of_name pn_1_
set_option maxRecDepth 65536 in
set_option maxHeartbeats 40000000 in
theorem rm_nbf (l : Launch) (Z : State) (a0 : Array Value) (hw : ∀ d ∈ tables_1, d.before a0 Z = true) (ws : List Jvm.Cond) (n : Int32) (cs : List Int32) (h0 : Heap) (n0 : Nat) (O0 : Old Z n0 h0) (hN : n.toInt = (cs.length : Int)) (hN1 : cs.length ≤ 10) :
    MetFree l (⟨"java/lang/StringUTF16", "newBytesFor", "(I)[B"⟩ : MethodName) (head1 (Jvm.Cond.code (⟨"java/lang/StringUTF16", "newBytesFor", "(I)[B"⟩ : MethodName) jdk_52_method_2_code 1 (some (.array .byte)) :: ws) ({ frames := 1, cells := 1, slots := 20, locals := 12 } : Room)) (fun args_ U => args_ = #[(.int n)] ∧ Z.Warmed39 U.vm ∧ U.heap = h0) (fun _ _ _ _ _ => True) (fun _ U out_ U' => ∃ val_ loc_, out_ = .returned val_ ∧ (Q_rm_nbf Z n cs h0 n0) val_ U'.heap loc_ ∧ FrameEnd U out_ U' loc_ ({ frames := 1, cells := 1, slots := 20, locals := 12 } : Room).cells ({ frames := 1, cells := 1, slots := 20, locals := 12 } : Room).slots) := by
  refine start (Q := (Q_rm_nbf Z n cs h0 n0)) pn_1 ?_
  intro p e s m below meth c T0 X0 hx hby hml hown hnm hret hlk hZ e0
  replace hown : s.vm.findClass "java/lang/StringUTF16" = some m.cls := hown
  replace hml : c.maxLocals = 1 := hml
  refine goAt (ef_rm_nbf m n ) ?_
  have N0 := Fr.nil n0
  show Go p e below T0 (mkF m 0 #[.val (.int n)] []) _
  refine stp (fun _ => XS.iloadN X0.here hx rfl (hb hby d13_0) rfl) ?_
  show Go p e below T0 (mkF m 1 #[.val (.int n)] [(.int n)]) _
  obtain ⟨_, _, ⟨T1, L1, k1, n1⟩, -, X1, ⟨Lc1, hQ1, l1, y1, z1⟩, st1⟩ := Jvm.LawKit.callS X0 hx (y := (⟨"java/lang/StringUTF16", "newBytesLength", "(I)I"⟩ : MethodName)) hown (mvT hZ (hw _ (List.mem_of_getElem? (i := 63) rfl))) (mvT hZ (hw _ (List.mem_of_getElem? (i := 64) rfl))) (mvT hZ (hw _ (List.mem_of_getElem? (i := 52) rfl))) (mvT hZ (hw _ (List.mem_of_getElem? (i := 65) rfl))) (by decide) (backOf (W := 0) (rm_nbl l Z a0 hw [] n cs h0 n0 O0 hN hN1) hZ (hw _ (List.mem_of_getElem? (i := 65) rfl)) (hw _ (List.mem_of_getElem? (i := 52) rfl)) (by decide) (by decide)) (g := (mkF m 1 #[.val (.int n)] [(.int n)])) rfl (by rw [hml]; rfl) (argsL := [(.int n)]) (rest := []) (lenOf pd_0 rfl) rfl (by show 2 * 0 + _ ≤ _; exact Nat.le_of_eq rfl) (hb hby d13_1) (fun _ _ => ⟨rfl, e0, (by decide : 0 + 0 ≤ _), (by decide : 0 + 0 ≤ _)⟩)
  dsimp only [Pt.U, Pt.locs, Pt.cells, Pt.slots] at X1 l1 y1 z1 st1 hQ1
  subst y1 z1
  obtain ⟨rfl, N1q, e1⟩ := hQ1
  have N1 : Fr n0 L1 := by rw [l1]; exact Fr.app N0 N1q
  refine stp st1 ?_
  show Go p e below T1 (mkF m 4 #[.val (.int n)] [(.int (Int32.ofNat (2 * cs.length)))]) _
  obtain ⟨T2, h2, k2, X2, e2, E2, A2, B2, st2⟩ := newPE X1 hx hZ (hw _ (List.mem_of_getElem? (i := 23) rfl)) e1 (g := (mkF m 4 #[.val (.int n)] [(.int (Int32.ofNat (2 * cs.length)))])) rfl (hb hby d13_4) rfl (own_u0 (own_ofNatI (n := 2 * cs.length) (by omega))) (cap := 20) (by rw [own_ofNat (by omega)]; omega) (by decide) (by decide) (by decide) (ad := "[B") (by decide)
  obtain ⟨b2, g2⟩ : ∃ z, z = h0.size := ⟨_, rfl⟩
  rw [← g2] at A2 B2 st2
  have sz_b2 : h0.size ≤ b2 := Nat.le_trans (Keep.refl h0 []).1 (Nat.le_of_eq g2.symm)
  have ge_b2 : n0 ≤ b2 := Nat.le_trans (old_le O0) (Nat.le_of_eq g2.symm)
  have K2 : Keep h0 h2 [] := (Keep.refl h0 []).ext E2
  have O2 := O0.ext E2
  have V2 : Arf Z h2 b2 k2 .byte (2 * cs.length) (fun _ => (.int (0 : Int32))) := Arf.new A2 (own_u0 (own_ofNatI (n := 2 * cs.length) (by omega))) (own_ofNat (by omega))
  refine stp st2 ?_
  show Go p e below T2 (mkF m 6 #[.val (.int n)] [(.ref b2)]) _
  refine outA X2 hx hret rfl rfl (hb hby d13_6) hlk (by decide) (by decide) ?_
  rw [e2]
  exact ⟨b2, k2, rfl, N1, K2, ⟨ge_b2, sz_b2⟩, B2, V2⟩
theorem d15_0 : decode jdk_52_method_4_code 0 = .ok (.getstatic 44, 3) := by decide +kernel
theorem d15_3 : decode jdk_52_method_4_code 3 = .ok (.ifCond .ne 25, 3) := by decide +kernel
theorem d15_28 : decode jdk_52_method_4_code 28 = .ok (.iload_n 1, 1) := by decide +kernel
theorem d15_29 : decode jdk_52_method_4_code 29 = .ok (.iconst 1, 1) := by decide +kernel
theorem d15_30 : decode jdk_52_method_4_code 30 = .ok (.ishl, 1) := by decide +kernel
theorem d15_31 : decode jdk_52_method_4_code 31 = .ok (.istore_n 1, 1) := by decide +kernel
theorem d15_32 : decode jdk_52_method_4_code 32 = .ok (.aload_n 0, 1) := by decide +kernel
theorem d15_33 : decode jdk_52_method_4_code 33 = .ok (.iload_n 1, 1) := by decide +kernel
theorem d15_34 : decode jdk_52_method_4_code 34 = .ok (.iinc 1 1, 3) := by decide +kernel
theorem d15_37 : decode jdk_52_method_4_code 37 = .ok (.iload_n 2, 1) := by decide +kernel
theorem d15_38 : decode jdk_52_method_4_code 38 = .ok (.getstatic 59, 3) := by decide +kernel
theorem d15_41 : decode jdk_52_method_4_code 41 = .ok (.ishr, 1) := by decide +kernel
theorem d15_42 : decode jdk_52_method_4_code 42 = .ok (.i2b, 1) := by decide +kernel
theorem d15_43 : decode jdk_52_method_4_code 43 = .ok (.bastore, 1) := by decide +kernel
theorem d15_44 : decode jdk_52_method_4_code 44 = .ok (.aload_n 0, 1) := by decide +kernel
theorem d15_45 : decode jdk_52_method_4_code 45 = .ok (.iload_n 1, 1) := by decide +kernel
theorem d15_46 : decode jdk_52_method_4_code 46 = .ok (.iload_n 2, 1) := by decide +kernel
theorem d15_47 : decode jdk_52_method_4_code 47 = .ok (.getstatic 63, 3) := by decide +kernel
theorem d15_50 : decode jdk_52_method_4_code 50 = .ok (.ishr, 1) := by decide +kernel
theorem d15_51 : decode jdk_52_method_4_code 51 = .ok (.i2b, 1) := by decide +kernel
theorem d15_52 : decode jdk_52_method_4_code 52 = .ok (.bastore, 1) := by decide +kernel
theorem d15_53 : decode jdk_52_method_4_code 53 = .ok (.return_, 1) := by decide +kernel
theorem ef_rm_put (m : MethodId) (vb : Addr) (i : Int32) (ch : Int32)  : entryFrame m #[(.ref vb), (.int i), (.int ch)] 3 = mkF m 0 #[.val (.ref vb), .val (.int i), .val (.int ch)] [] := by first | (simp [entryFrame, mkF, argsToLocals, Value.category]; done) | rfl
def Q_rm_put (Z : State) (vb : Addr) (i : Int32) (ch : Int32) (M : Nat) (g : Nat → Int32) (j : Nat) (k_vb : ClassId) (h0 : Heap) (n0 : Nat) (v : Option Value) (h : Heap) (L : List Loc) : Prop := v = none ∧ Fr n0 L ∧ Keep h0 h [vb] ∧ Arf Z h vb k_vb .byte M (fun x => (.int (own_put g j ch x)))
theorem pn_2_ : plainName "java/lang/StringUTF16" = true := by first | (simp [plainName, overriddenIn]; done) | decide +kernel
theorem pn_2 : plainFor (⟨"java/lang/StringUTF16", "putChar", "([BII)V"⟩ : MethodName) = true := plainFor_of_name pn_2_
set_option maxRecDepth 65536 in
set_option maxHeartbeats 40000000 in
theorem rm_put (l : Launch) (Z : State) (a0 : Array Value) (hw : ∀ d ∈ tables_1, d.before a0 Z = true) (ws : List Jvm.Cond) (vb : Addr) (i : Int32) (ch : Int32) (M : Nat) (g : Nat → Int32) (j : Nat) (k_vb : ClassId) (h0 : Heap) (n0 : Nat) (O0 : Old Z n0 h0) (V_vb : Arf Z h0 vb k_vb .byte M (fun x => (.int (g x)))) (S__assertionsDisabled : Sta Z Z.heap "java/lang/StringUTF16" "$assertionsDisabled" "Z" (.int (1 : Int32))) (S_HI_BYTE_SHIFT : Sta Z Z.heap "java/lang/StringUTF16" "HI_BYTE_SHIFT" "I" (.int (0 : Int32))) (S_LO_BYTE_SHIFT : Sta Z Z.heap "java/lang/StringUTF16" "LO_BYTE_SHIFT" "I" (.int (8 : Int32))) (ge_vb : n0 ≤ vb) (hi : i.toInt = (j : Int)) (hj : 2 * j + 1 < M) (hM : M ≤ 20) :
    MetFree l (⟨"java/lang/StringUTF16", "putChar", "([BII)V"⟩ : MethodName) (head1 (Jvm.Cond.code (⟨"java/lang/StringUTF16", "putChar", "([BII)V"⟩ : MethodName) jdk_52_method_4_code 3 none :: ws) ({ frames := 0, cells := 0, slots := 0, locals := 0 } : Room)) (fun args_ U => args_ = #[(.ref vb), (.int i), (.int ch)] ∧ Z.Warmed39 U.vm ∧ U.heap = h0) (fun _ _ _ _ _ => True) (fun _ U out_ U' => ∃ val_ loc_, out_ = .returned val_ ∧ (Q_rm_put Z vb i ch M g j k_vb h0 n0) val_ U'.heap loc_ ∧ FrameEnd U out_ U' loc_ ({ frames := 0, cells := 0, slots := 0, locals := 0 } : Room).cells ({ frames := 0, cells := 0, slots := 0, locals := 0 } : Room).slots) := by
  refine start (Q := (Q_rm_put Z vb i ch M g j k_vb h0 n0)) pn_2 ?_
  intro p e s m below meth c T0 X0 hx hby hml hown hnm hret hlk hZ e0
  replace hown : s.vm.findClass "java/lang/StringUTF16" = some m.cls := hown
  replace hml : c.maxLocals = 3 := hml
  refine goAt (ef_rm_put m vb i ch ) ?_
  have N0 := Fr.nil n0
  show Go p e below T0 (mkF m 0 #[.val (.ref vb), .val (.int i), .val (.int ch)] []) _
  obtain ⟨T1, X1, e1, st1⟩ := getS2 X0 hx hZ hown (host := "") (Or.inl (hw _ (List.mem_of_getElem? (i := 70) rfl))) Via.refl e0 (S__assertionsDisabled.ext O0.2) (g := (mkF m 0 #[.val (.ref vb), .val (.int i), .val (.int ch)] [])) rfl (hb hby d15_0)
  refine stp st1 ?_
  show Go p e below T1 (mkF m 3 #[.val (.ref vb), .val (.int i), .val (.int ch)] [(.int (1 : Int32))]) _
  refine stp (fun _ => XS.ifYes X1.here hx rfl (pc0 := 3) (pc' := 28) rfl (hb hby d15_3) rfl (by decide) (by decide) (by decide)) ?_
  show Go p e below T1 (mkF m 28 #[.val (.ref vb), .val (.int i), .val (.int ch)] []) _
  refine stp (fun _ => XS.iloadN X1.here hx rfl (hb hby d15_28) rfl) ?_
  refine stp (fun _ => XS.iconst X1.here hx rfl (hb hby d15_29)) ?_
  show Go p e below T1 (mkF m 30 #[.val (.ref vb), .val (.int i), .val (.int ch)] [(.int (1 : Int32)), (.int i)]) _
  refine stp (fun _ => XS.ishl X1.here hx rfl (hb hby d15_30) rfl) ?_
  show Go p e below T1 (mkF m 31 #[.val (.ref vb), .val (.int i), .val (.int ch)] [(.int (i <<< ((1 : Int32) &&& 31)))]) _
  refine stp (fun _ => XS.istoreN X1.here hx rfl (hb hby d15_31) rfl (l' := #[.val (.ref vb), .val (.int (i <<< ((1 : Int32) &&& 31))), .val (.int ch)]) rfl) ?_
  show Go p e below T1 (mkF m 32 #[.val (.ref vb), .val (.int (i <<< ((1 : Int32) &&& 31))), .val (.int ch)] []) _
  refine stp (fun _ => XS.aloadN X1.here hx rfl (hb hby d15_32) rfl rfl) ?_
  refine stp (fun _ => XS.iloadN X1.here hx rfl (hb hby d15_33) rfl) ?_
  show Go p e below T1 (mkF m 34 #[.val (.ref vb), .val (.int (i <<< ((1 : Int32) &&& 31))), .val (.int ch)] [(.int (i <<< ((1 : Int32) &&& 31))), (.ref vb)]) _
  refine stp (fun _ => XS.iinc X1.here hx rfl (hb hby d15_34) rfl (l' := #[.val (.ref vb), .val (.int ((i <<< ((1 : Int32) &&& 31)) + (1 : Int32))), .val (.int ch)]) rfl) ?_
  show Go p e below T1 (mkF m 37 #[.val (.ref vb), .val (.int ((i <<< ((1 : Int32) &&& 31)) + (1 : Int32))), .val (.int ch)] [(.int (i <<< ((1 : Int32) &&& 31))), (.ref vb)]) _
  refine stp (fun _ => XS.iloadN X1.here hx rfl (hb hby d15_37) rfl) ?_
  show Go p e below T1 (mkF m 38 #[.val (.ref vb), .val (.int ((i <<< ((1 : Int32) &&& 31)) + (1 : Int32))), .val (.int ch)] [(.int ch), (.int (i <<< ((1 : Int32) &&& 31))), (.ref vb)]) _
  obtain ⟨T2, X2, e2, st2⟩ := getS2 X1 hx hZ hown (host := "") (Or.inl (hw _ (List.mem_of_getElem? (i := 71) rfl))) Via.refl e1 (S_HI_BYTE_SHIFT.ext O0.2) (g := (mkF m 38 #[.val (.ref vb), .val (.int ((i <<< ((1 : Int32) &&& 31)) + (1 : Int32))), .val (.int ch)] [(.int ch), (.int (i <<< ((1 : Int32) &&& 31))), (.ref vb)])) rfl (hb hby d15_38)
  refine stp st2 ?_
  show Go p e below T2 (mkF m 41 #[.val (.ref vb), .val (.int ((i <<< ((1 : Int32) &&& 31)) + (1 : Int32))), .val (.int ch)] [(.int (0 : Int32)), (.int ch), (.int (i <<< ((1 : Int32) &&& 31))), (.ref vb)]) _
  refine stp (fun _ => XS.ishr X2.here hx rfl (hb hby d15_41) rfl) ?_
  show Go p e below T2 (mkF m 42 #[.val (.ref vb), .val (.int ((i <<< ((1 : Int32) &&& 31)) + (1 : Int32))), .val (.int ch)] [(.int (ch >>> ((0 : Int32) &&& 31))), (.int (i <<< ((1 : Int32) &&& 31))), (.ref vb)]) _
  refine stp (fun _ => XS.i2b X2.here hx rfl (hb hby d15_42) rfl) ?_
  show Go p e below T2 (mkF m 43 #[.val (.ref vb), .val (.int ((i <<< ((1 : Int32) &&& 31)) + (1 : Int32))), .val (.int ch)] [(.int ((ch >>> ((0 : Int32) &&& 31)).toInt8.toInt32)), (.int (i <<< ((1 : Int32) &&& 31))), (.ref vb)]) _
  obtain ⟨cl3, Ar3, q3, S3, H3, G3⟩ := (id V_vb)
  have in3 : ¬ ((i <<< ((1 : Int32) &&& 31)) < 0 ∨ cl3.slots.size ≤ ((i <<< ((1 : Int32) &&& 31))).toNatClampNeg) := arf_in S3 (own_shlI hi (by omega)) (by omega)
  obtain ⟨T3, h3, X3, e3, W3, st3⟩ := stB X2 hx hZ e2 Ar3 (j := (i <<< ((1 : Int32) &&& 31))) in3 (g := (mkF m 43 #[.val (.ref vb), .val (.int ((i <<< ((1 : Int32) &&& 31)) + (1 : Int32))), .val (.int ch)] [(.int ((ch >>> ((0 : Int32) &&& 31)).toInt8.toInt32)), (.int (i <<< ((1 : Int32) &&& 31))), (.ref vb)])) rfl rfl (hb hby d15_43)
  have V3 := Arf.set Ar3 q3 S3 H3 G3 (ow_fits_byte byte_twice) (arf_ix (own_shlI hi (by omega)) ▸ (ow_wr_byte byte_twice W3)) (by omega)
  have K3 : Keep h0 h3 [vb] := (Keep.refl h0 [vb]).wr W3 (Or.inl (List.mem_of_getElem? (i := 0) rfl))
  have O3 := O0.wr W3 ge_vb
  have N3 := Fr.snoc X3 N0 ge_vb
  refine stp st3 ?_
  show Go p e below T3 (mkF m 44 #[.val (.ref vb), .val (.int ((i <<< ((1 : Int32) &&& 31)) + (1 : Int32))), .val (.int ch)] []) _
  refine stp (fun _ => XS.aloadN X3.here hx rfl (hb hby d15_44) rfl rfl) ?_
  refine stp (fun _ => XS.iloadN X3.here hx rfl (hb hby d15_45) rfl) ?_
  refine stp (fun _ => XS.iloadN X3.here hx rfl (hb hby d15_46) rfl) ?_
  show Go p e below T3 (mkF m 47 #[.val (.ref vb), .val (.int ((i <<< ((1 : Int32) &&& 31)) + (1 : Int32))), .val (.int ch)] [(.int ch), (.int ((i <<< ((1 : Int32) &&& 31)) + (1 : Int32))), (.ref vb)]) _
  obtain ⟨T5, X5, e5, st5⟩ := getS2 X3 hx hZ hown (host := "") (Or.inl (hw _ (List.mem_of_getElem? (i := 72) rfl))) Via.refl e3 (S_LO_BYTE_SHIFT.ext O3.2) (g := (mkF m 47 #[.val (.ref vb), .val (.int ((i <<< ((1 : Int32) &&& 31)) + (1 : Int32))), .val (.int ch)] [(.int ch), (.int ((i <<< ((1 : Int32) &&& 31)) + (1 : Int32))), (.ref vb)])) rfl (hb hby d15_47)
  refine stp st5 ?_
  show Go p e below T5 (mkF m 50 #[.val (.ref vb), .val (.int ((i <<< ((1 : Int32) &&& 31)) + (1 : Int32))), .val (.int ch)] [(.int (8 : Int32)), (.int ch), (.int ((i <<< ((1 : Int32) &&& 31)) + (1 : Int32))), (.ref vb)]) _
  refine stp (fun _ => XS.ishr X5.here hx rfl (hb hby d15_50) rfl) ?_
  show Go p e below T5 (mkF m 51 #[.val (.ref vb), .val (.int ((i <<< ((1 : Int32) &&& 31)) + (1 : Int32))), .val (.int ch)] [(.int (ch >>> ((8 : Int32) &&& 31))), (.int ((i <<< ((1 : Int32) &&& 31)) + (1 : Int32))), (.ref vb)]) _
  refine stp (fun _ => XS.i2b X5.here hx rfl (hb hby d15_51) rfl) ?_
  show Go p e below T5 (mkF m 52 #[.val (.ref vb), .val (.int ((i <<< ((1 : Int32) &&& 31)) + (1 : Int32))), .val (.int ch)] [(.int ((ch >>> ((8 : Int32) &&& 31)).toInt8.toInt32)), (.int ((i <<< ((1 : Int32) &&& 31)) + (1 : Int32))), (.ref vb)]) _
  obtain ⟨cl6, Ar6, q6, S6, H6, G6⟩ := (id V3)
  have in6 : ¬ (((i <<< ((1 : Int32) &&& 31)) + (1 : Int32)) < 0 ∨ cl6.slots.size ≤ (((i <<< ((1 : Int32) &&& 31)) + (1 : Int32))).toNatClampNeg) := arf_in S6 (own_incI (own_shlI hi (by omega)) (by omega)) hj
  obtain ⟨T6, h6, X6, e6, W6, st6⟩ := stB X5 hx hZ e5 Ar6 (j := ((i <<< ((1 : Int32) &&& 31)) + (1 : Int32))) in6 (g := (mkF m 52 #[.val (.ref vb), .val (.int ((i <<< ((1 : Int32) &&& 31)) + (1 : Int32))), .val (.int ch)] [(.int ((ch >>> ((8 : Int32) &&& 31)).toInt8.toInt32)), (.int ((i <<< ((1 : Int32) &&& 31)) + (1 : Int32))), (.ref vb)])) rfl rfl (hb hby d15_52)
  have V6 := Arf.set Ar6 q6 S6 H6 G6 (ow_fits_byte byte_twice) (arf_ix (own_incI (own_shlI hi (by omega)) (by omega)) ▸ (ow_wr_byte byte_twice W6)) hj
  replace V6 : Arf Z h6 vb k_vb .byte M (fun x => (.int (own_put g j ch x))) := V6.congr (fun x _ => own_put_eq g j ch x)
  have K6 : Keep h0 h6 [vb] := K3.wr W6 (Or.inl (List.mem_of_getElem? (i := 0) rfl))
  have O6 := O3.wr W6 ge_vb
  have N6 := Fr.snoc X6 N3 ge_vb
  refine stp st6 ?_
  show Go p e below T6 (mkF m 53 #[.val (.ref vb), .val (.int ((i <<< ((1 : Int32) &&& 31)) + (1 : Int32))), .val (.int ch)] []) _
  refine outV X6 hx hret (hb hby d15_53) hlk (by decide) (by decide) ?_
  rw [e6]
  exact ⟨rfl, N6, K6, V6⟩
theorem d12_0 : decode jdk_52_method_14_code 0 = .ok (.iload_n 2, 1) := by decide +kernel
theorem d12_1 : decode jdk_52_method_14_code 1 = .ok (.invokestatic 107, 3) := by decide +kernel
theorem pd_1 : parseMethodDescriptor "(I)[B" = some ⟨[.int], some (.array .byte)⟩ := by decide +kernel
theorem d12_4 : decode jdk_52_method_14_code 4 = .ok (.astore_n 3, 1) := by decide +kernel
theorem d12_5 : decode jdk_52_method_14_code 5 = .ok (.iconst 0, 1) := by decide +kernel
theorem d12_6 : decode jdk_52_method_14_code 6 = .ok (.istore 4, 2) := by decide +kernel
theorem d12_8 : decode jdk_52_method_14_code 8 = .ok (.iload 4, 2) := by decide +kernel
theorem d12_10 : decode jdk_52_method_14_code 10 = .ok (.iload_n 2, 1) := by decide +kernel
theorem d12_11 : decode jdk_52_method_14_code 11 = .ok (.if_icmp .ge 21, 3) := by decide +kernel
theorem d12_32 : decode jdk_52_method_14_code 32 = .ok (.aload_n 3, 1) := by decide +kernel
theorem d12_33 : decode jdk_52_method_14_code 33 = .ok (.areturn, 1) := by decide +kernel
theorem d12_14 : decode jdk_52_method_14_code 14 = .ok (.aload_n 3, 1) := by decide +kernel
theorem d12_15 : decode jdk_52_method_14_code 15 = .ok (.iload 4, 2) := by decide +kernel
theorem d12_17 : decode jdk_52_method_14_code 17 = .ok (.aload_n 0, 1) := by decide +kernel
theorem d12_18 : decode jdk_52_method_14_code 18 = .ok (.iload_n 1, 1) := by decide +kernel
theorem d12_19 : decode jdk_52_method_14_code 19 = .ok (.caload, 1) := by decide +kernel
theorem d12_20 : decode jdk_52_method_14_code 20 = .ok (.invokestatic 111, 3) := by decide +kernel
theorem pd_2 : parseMethodDescriptor "([BII)V" = some ⟨[(.array .byte), .int, .int], none⟩ := by decide +kernel
theorem d12_23 : decode jdk_52_method_14_code 23 = .ok (.iinc 1 1, 3) := by decide +kernel
theorem d12_26 : decode jdk_52_method_14_code 26 = .ok (.iinc 4 1, 3) := by decide +kernel
theorem d12_29 : decode jdk_52_method_14_code 29 = .ok (.goto (-21), 3) := by decide +kernel
theorem ef_rm_utb (m : MethodId) (ca : Addr) (n : Int32)  : entryFrame m #[(.ref ca), (.int (0 : Int32)), (.int n)] 5 = mkF m 0 #[.val (.ref ca), .val (.int (0 : Int32)), .val (.int n), .unset, .unset] [] := by first | (simp [entryFrame, mkF, argsToLocals, Value.category]; done) | rfl
def Q_rm_utb (Z : State) (ca : Addr) (n : Int32) (cs : List Int32) (k_ca : ClassId) (h0 : Heap) (n0 : Nat) (v : Option Value) (h : Heap) (L : List Loc) : Prop := ∃ (r : Addr) (k_r : ClassId), v = some (.ref r) ∧ Fr n0 L ∧ Keep h0 h [] ∧ (n0 ≤ r ∧ h0.size ≤ r) ∧ Exa Z h r "[B" ∧ Arf Z h r k_r .byte (2 * cs.length) (fun x => (.int (own_ub cs x)))
theorem pn_3_ : plainName "java/lang/StringUTF16" = true := by first | (simp [plainName, overriddenIn]; done) | decide +kernel
theorem pn_3 : plainFor (⟨"java/lang/StringUTF16", "toBytes", "([CII)[B"⟩ : MethodName) = true := plainFor_of_name pn_3_
set_option maxRecDepth 65536 in
set_option maxHeartbeats 40000000 in
theorem rm_utb (l : Launch) (Z : State) (a0 : Array Value) (hw : ∀ d ∈ tables_1, d.before a0 Z = true) (ws : List Jvm.Cond) (ca : Addr) (n : Int32) (cs : List Int32) (k_ca : ClassId) (h0 : Heap) (n0 : Nat) (O0 : Old Z n0 h0) (V_ca : Arf Z h0 ca k_ca .char cs.length (fun i => (.int (own_at cs i)))) (S__assertionsDisabled : Sta Z Z.heap "java/lang/StringUTF16" "$assertionsDisabled" "Z" (.int (1 : Int32))) (S_HI_BYTE_SHIFT : Sta Z Z.heap "java/lang/StringUTF16" "HI_BYTE_SHIFT" "I" (.int (0 : Int32))) (S_LO_BYTE_SHIFT : Sta Z Z.heap "java/lang/StringUTF16" "LO_BYTE_SHIFT" "I" (.int (8 : Int32))) (hN : n.toInt = (cs.length : Int)) (hN1 : cs.length ≤ 10) :
    MetFree l (⟨"java/lang/StringUTF16", "toBytes", "([CII)[B"⟩ : MethodName) (head1 (Jvm.Cond.code (⟨"java/lang/StringUTF16", "toBytes", "([CII)[B"⟩ : MethodName) jdk_52_method_14_code 5 (some (.array .byte)) :: ws) ({ frames := 2, cells := 1, slots := 20, locals := 24 } : Room)) (fun args_ U => args_ = #[(.ref ca), (.int (0 : Int32)), (.int n)] ∧ Z.Warmed39 U.vm ∧ U.heap = h0) (fun _ _ _ _ _ => True) (fun _ U out_ U' => ∃ val_ loc_, out_ = .returned val_ ∧ (Q_rm_utb Z ca n cs k_ca h0 n0) val_ U'.heap loc_ ∧ FrameEnd U out_ U' loc_ ({ frames := 2, cells := 1, slots := 20, locals := 24 } : Room).cells ({ frames := 2, cells := 1, slots := 20, locals := 24 } : Room).slots) := by
  refine start (Q := (Q_rm_utb Z ca n cs k_ca h0 n0)) pn_3 ?_
  intro p e s m below meth c T0 X0 hx hby hml hown hnm hret hlk hZ e0
  replace hown : s.vm.findClass "java/lang/StringUTF16" = some m.cls := hown
  replace hml : c.maxLocals = 5 := hml
  refine goAt (ef_rm_utb m ca n ) ?_
  have N0 := Fr.nil n0
  show Go p e below T0 (mkF m 0 #[.val (.ref ca), .val (.int (0 : Int32)), .val (.int n), .unset, .unset] []) _
  refine stp (fun _ => XS.iloadN X0.here hx rfl (hb hby d12_0) rfl) ?_
  show Go p e below T0 (mkF m 1 #[.val (.ref ca), .val (.int (0 : Int32)), .val (.int n), .unset, .unset] [(.int n)]) _
  obtain ⟨_, _, ⟨T1, L1, k1, n1⟩, -, X1, ⟨Lc1, hQ1, l1, y1, z1⟩, st1⟩ := Jvm.LawKit.callS X0 hx (y := (⟨"java/lang/StringUTF16", "newBytesFor", "(I)[B"⟩ : MethodName)) hown (mvT hZ (hw _ (List.mem_of_getElem? (i := 60) rfl))) (mvT hZ (hw _ (List.mem_of_getElem? (i := 61) rfl))) (mvT hZ (hw _ (List.mem_of_getElem? (i := 52) rfl))) (mvT hZ (hw _ (List.mem_of_getElem? (i := 62) rfl))) (by decide) (backOf (W := 0) (rm_nbf l Z a0 hw [] n cs h0 n0 O0 hN hN1) hZ (hw _ (List.mem_of_getElem? (i := 62) rfl)) (hw _ (List.mem_of_getElem? (i := 52) rfl)) (by decide) (by decide)) (g := (mkF m 1 #[.val (.ref ca), .val (.int (0 : Int32)), .val (.int n), .unset, .unset] [(.int n)])) rfl (by rw [hml]; rfl) (argsL := [(.int n)]) (rest := []) (lenOf pd_1 rfl) rfl (by show 2 * 0 + _ ≤ _; exact Nat.le_of_eq rfl) (hb hby d12_1) (fun _ _ => ⟨rfl, e0, (by decide : 0 + 1 ≤ _), (by decide : 0 + 20 ≤ _)⟩)
  dsimp only [Pt.U, Pt.locs, Pt.cells, Pt.slots] at X1 l1 y1 z1 st1 hQ1
  subst y1 z1
  obtain ⟨r1, k_r1, rfl, N1q, K1q, ⟨ge_r1, sz1_r1⟩, r1_0, r1_1⟩ := hQ1
  have N1 : Fr n0 L1 := by rw [l1]; exact Fr.app N0 N1q
  have ne2 : ca ≠ r1 := Nat.ne_of_lt (Nat.lt_of_lt_of_le V_ca.lt sz1_r1)
  have f3 := V_ca.keep K1q nin0
  have sz_r1 : h0.size ≤ r1 := Nat.le_trans (Keep.refl h0 []).1 sz1_r1
  have K1 : Keep h0 T1.heap [] := (Keep.refl h0 []).trans K1q all0
  have O1 := O0.keep K1q all0
  refine stp st1 ?_
  show Go p e below T1 (mkF m 4 #[.val (.ref ca), .val (.int (0 : Int32)), .val (.int n), .unset, .unset] [(.ref r1)]) _
  refine stp (fun _ => XS.astoreN X1.here hx rfl (hb hby d12_4) rfl rfl (l' := #[.val (.ref ca), .val (.int (0 : Int32)), .val (.int n), .val (.ref r1), .unset]) rfl) ?_
  show Go p e below T1 (mkF m 5 #[.val (.ref ca), .val (.int (0 : Int32)), .val (.int n), .val (.ref r1), .unset] []) _
  refine stp (fun _ => XS.iconst X1.here hx rfl (hb hby d12_5)) ?_
  show Go p e below T1 (mkF m 6 #[.val (.ref ca), .val (.int (0 : Int32)), .val (.int n), .val (.ref r1), .unset] [(.int (0 : Int32))]) _
  refine stp (fun _ => XS.istore X1.here hx rfl (hb hby d12_6) rfl (l' := #[.val (.ref ca), .val (.int (0 : Int32)), .val (.int n), .val (.ref r1), .val (.int (0 : Int32))]) rfl) ?_
  show Go p e below T1 (mkF m 8 #[.val (.ref ca), .val (.int (0 : Int32)), .val (.int n), .val (.ref r1), .val (.int (0 : Int32))] []) _
  have G0 : Arf Z T1.heap r1 k_r1 .byte (2 * cs.length) (fun x => (.int (own_ubj cs 0 x))) := r1_1.congr (fun x _ => congrArg Value.int (own_ubj0 cs x))
  have loop8 : ∀ (d : Nat), ∀ (j : Nat) (i1 : Int32) (i4 : Int32), j + d = cs.length → ∀ (T : State) (locs : List Loc) (hA : Heap) (X : Stand p l e ({ frames := 2, cells := 1, slots := 20, locals := 24 } : Room) s m #[(.ref ca), (.int (0 : Int32)), (.int n)] below meth c T locs 1 20) (eA : T.heap = hA) (NA : Fr n0 locs) (OA : Old Z n0 hA) (KA : Keep h0 hA []) (FA0 : Arf Z hA ca k_ca .char cs.length (fun i => (.int (own_at cs i)))) (FA1 : Arf Z hA r1 k_r1 .byte (2 * cs.length) (fun x => (.int (own_ubj cs j x)))) (FA2 : Exa Z hA r1 "[B"), i1.toInt = (j : Int) → i4.toInt = (j : Int) → Go p e below T (mkF m 8 #[.val (.ref ca), .val (.int i1), .val (.int n), .val (.ref r1), .val (.int i4)] []) (Po s (Q_rm_utb Z ca n cs k_ca h0 n0) ({ frames := 2, cells := 1, slots := 20, locals := 24 } : Room).cells ({ frames := 2, cells := 1, slots := 20, locals := 24 } : Room).slots) := by
    intro d
    induction d with
    | zero =>
      intro j i1 i4 hd_ T locs hA X eA NA OA KA FA0 FA1 FA2 hi1 hi4
      have hjN : j = cs.length := hd_
      show Go p e below T (mkF m 8 #[.val (.ref ca), .val (.int i1), .val (.int n), .val (.ref r1), .val (.int i4)] []) _
      refine stp (fun _ => XS.iload X.here hx rfl (hb hby d12_8) rfl) ?_
      refine stp (fun _ => XS.iloadN X.here hx rfl (hb hby d12_10) rfl) ?_
      show Go p e below T (mkF m 11 #[.val (.ref ca), .val (.int i1), .val (.int n), .val (.ref r1), .val (.int i4)] [(.int n), (.int i4)]) _
      refine stp (fun _ => XS.icmpYes X.here hx rfl (pc0 := 11) (pc' := 32) rfl (hb hby d12_11) rfl (XT.ii_ge_t (own_geI hi4 hN (by omega))) (by decide) (by decide)) ?_
      show Go p e below T (mkF m 32 #[.val (.ref ca), .val (.int i1), .val (.int n), .val (.ref r1), .val (.int i4)] []) _
      have G2 : Arf Z hA r1 k_r1 .byte (2 * cs.length) (fun x => (.int (own_ub cs x))) := FA1.congr (fun x hx_ => congrArg Value.int (by rw [hjN]; exact own_ubjN hx_))
      refine stp (fun _ => XS.aloadN X.here hx rfl (hb hby d12_32) rfl rfl) ?_
      show Go p e below T (mkF m 33 #[.val (.ref ca), .val (.int i1), .val (.int n), .val (.ref r1), .val (.int i4)] [(.ref r1)]) _
      refine outA X hx hret rfl rfl (hb hby d12_33) hlk (by decide) (by decide) ?_
      rw [eA]
      exact ⟨r1, k_r1, rfl, NA, KA, ⟨ge_r1, sz_r1⟩, FA2, G2⟩
    | succ d ih =>
      intro j i1 i4 hd_ T locs hA X eA NA OA KA FA0 FA1 FA2 hi1 hi4
      have hjl : j < cs.length := by omega
      show Go p e below T (mkF m 8 #[.val (.ref ca), .val (.int i1), .val (.int n), .val (.ref r1), .val (.int i4)] []) _
      refine stp (fun _ => XS.iload X.here hx rfl (hb hby d12_8) rfl) ?_
      refine stp (fun _ => XS.iloadN X.here hx rfl (hb hby d12_10) rfl) ?_
      show Go p e below T (mkF m 11 #[.val (.ref ca), .val (.int i1), .val (.int n), .val (.ref r1), .val (.int i4)] [(.int n), (.int i4)]) _
      refine stp (fun _ => XS.icmpNo X.here hx rfl (hb hby d12_11) rfl (XT.ii_ge_f (own_ltI hi4 hN hjl))) ?_
      show Go p e below T (mkF m 14 #[.val (.ref ca), .val (.int i1), .val (.int n), .val (.ref r1), .val (.int i4)] []) _
      refine stp (fun _ => XS.aloadN X.here hx rfl (hb hby d12_14) rfl rfl) ?_
      refine stp (fun _ => XS.iload X.here hx rfl (hb hby d12_15) rfl) ?_
      refine stp (fun _ => XS.aloadN X.here hx rfl (hb hby d12_17) rfl rfl) ?_
      refine stp (fun _ => XS.iloadN X.here hx rfl (hb hby d12_18) rfl) ?_
      show Go p e below T (mkF m 19 #[.val (.ref ca), .val (.int i1), .val (.int n), .val (.ref r1), .val (.int i4)] [(.int i1), (.ref ca), (.int i4), (.ref r1)]) _
      obtain ⟨cl4, Ar4, q4, S4, H4, G4⟩ := (id FA0)
      have in4 : ¬ (i1 < 0 ∨ cl4.slots.size ≤ (i1).toNatClampNeg) := arf_in S4 hi1 hjl
      have at4 : cl4.slots[(i1).toNatClampNeg]? = some (.int (own_at cs j)) := arf_at H4 hi1 hjl
      refine stp (fun _ => X.caload hx (j := i1) (v := (.int (own_at cs j))) (by rw [eA]; exact Ar4.1) (State.isArrayOf_alike hZ.alike Ar4.2.1) Ar4.2.2 in4 at4 (g := (mkF m 19 #[.val (.ref ca), .val (.int i1), .val (.int n), .val (.ref r1), .val (.int i4)] [(.int i1), (.ref ca), (.int i4), (.ref r1)])) rfl rfl (hb hby d12_19) _) ?_
      show Go p e below T (mkF m 20 #[.val (.ref ca), .val (.int i1), .val (.int n), .val (.ref r1), .val (.int i4)] [(.int (own_at cs j)), (.int i4), (.ref r1)]) _
      obtain ⟨_, _, ⟨T5, L5, k5, n5⟩, -, X5, ⟨Lc5, hQ5, l5, y5, z5⟩, st5⟩ := Jvm.LawKit.callS X hx (y := (⟨"java/lang/StringUTF16", "putChar", "([BII)V"⟩ : MethodName)) hown (mvT hZ (hw _ (List.mem_of_getElem? (i := 67) rfl))) (mvT hZ (hw _ (List.mem_of_getElem? (i := 68) rfl))) (mvT hZ (hw _ (List.mem_of_getElem? (i := 52) rfl))) (mvT hZ (hw _ (List.mem_of_getElem? (i := 69) rfl))) (by decide) (backOf (W := 0) (rm_put l Z a0 hw [] r1 i4 (own_at cs j) (2 * cs.length) (own_ubj cs j) j k_r1 hA n0 OA FA1 S__assertionsDisabled S_HI_BYTE_SHIFT S_LO_BYTE_SHIFT ge_r1 hi4 (by omega) (by omega)) hZ (hw _ (List.mem_of_getElem? (i := 69) rfl)) (hw _ (List.mem_of_getElem? (i := 52) rfl)) (by decide) (by decide)) (g := (mkF m 20 #[.val (.ref ca), .val (.int i1), .val (.int n), .val (.ref r1), .val (.int i4)] [(.int (own_at cs j)), (.int i4), (.ref r1)])) rfl (by rw [hml]; rfl) (argsL := [(.ref r1), (.int i4), (.int (own_at cs j))]) (rest := []) (lenOf pd_2 rfl) rfl (by show 2 * 0 + _ ≤ _; exact Nat.le_of_eq rfl) (hb hby d12_20) (fun _ _ => ⟨rfl, eA, (by decide : 1 + 0 ≤ _), (by decide : 20 + 0 ≤ _)⟩)
      dsimp only [Pt.U, Pt.locs, Pt.cells, Pt.slots] at X5 l5 y5 z5 st5 hQ5
      subst y5 z5
      obtain ⟨rfl, N5q, K5q, r5_0⟩ := hQ5
      have N5 : Fr n0 L5 := by rw [l5]; exact Fr.app NA N5q
      have f6 := FA0.keep K5q (ninS ne2 nin0)
      have f7 := FA2.keep K5q
      have K5 : Keep h0 T5.heap [] := KA.trans K5q (allS (Or.inr sz_r1) all0)
      have O5 := OA.keep K5q (allS ge_r1 all0)
      refine stp st5 ?_
      show Go p e below T5 (mkF m 23 #[.val (.ref ca), .val (.int i1), .val (.int n), .val (.ref r1), .val (.int i4)] []) _
      refine stp (fun _ => XS.iinc X5.here hx rfl (hb hby d12_23) rfl (l' := #[.val (.ref ca), .val (.int (i1 + (1 : Int32))), .val (.int n), .val (.ref r1), .val (.int i4)]) rfl) ?_
      show Go p e below T5 (mkF m 26 #[.val (.ref ca), .val (.int (i1 + (1 : Int32))), .val (.int n), .val (.ref r1), .val (.int i4)] []) _
      refine stp (fun _ => XS.iinc X5.here hx rfl (hb hby d12_26) rfl (l' := #[.val (.ref ca), .val (.int (i1 + (1 : Int32))), .val (.int n), .val (.ref r1), .val (.int (i4 + (1 : Int32)))]) rfl) ?_
      show Go p e below T5 (mkF m 29 #[.val (.ref ca), .val (.int (i1 + (1 : Int32))), .val (.int n), .val (.ref r1), .val (.int (i4 + (1 : Int32)))] []) _
      refine stp (fun _ => XS.goto X5.here hx rfl (pc0 := 29) (pc' := 8) rfl (hb hby d12_29) (by decide) (by decide)) ?_
      show Go p e below T5 (mkF m 8 #[.val (.ref ca), .val (.int (i1 + (1 : Int32))), .val (.int n), .val (.ref r1), .val (.int (i4 + (1 : Int32)))] []) _
      have G1 : Arf Z T5.heap r1 k_r1 .byte (2 * cs.length) (fun x => (.int (own_ubj cs (j + 1) x))) := r5_0.congr (fun x _ => congrArg Value.int (own_ubjS cs j x))
      exact ih (j + 1) (i1 + (1 : Int32)) (i4 + (1 : Int32)) (by omega) T5 _ T5.heap X5 rfl N5 O5 K5 f6 G1 f7 (own_incI hi1 (by omega)) (own_incI hi4 (by omega))
  exact loop8 _ 0 (0 : Int32) (0 : Int32) (Nat.zero_add _) T1 _ T1.heap X1 rfl N1 O1 K1 f3 G0 r1_0 rfl rfl
theorem d11_0 : decode jdk_52_method_21_code 0 = .ok (.iconst 0, 1) := by decide +kernel
theorem d11_1 : decode jdk_52_method_21_code 1 = .ok (.istore 5, 2) := by decide +kernel
theorem d11_3 : decode jdk_52_method_21_code 3 = .ok (.iload 5, 2) := by decide +kernel
theorem d11_5 : decode jdk_52_method_21_code 5 = .ok (.iload 4, 2) := by decide +kernel
theorem d11_7 : decode jdk_52_method_21_code 7 = .ok (.if_icmp .ge 37, 3) := by decide +kernel
theorem d11_10 : decode jdk_52_method_21_code 10 = .ok (.aload_n 0, 1) := by decide +kernel
theorem d11_11 : decode jdk_52_method_21_code 11 = .ok (.iload_n 1, 1) := by decide +kernel
theorem d11_12 : decode jdk_52_method_21_code 12 = .ok (.caload, 1) := by decide +kernel
theorem d11_13 : decode jdk_52_method_21_code 13 = .ok (.istore 6, 2) := by decide +kernel
theorem d11_15 : decode jdk_52_method_21_code 15 = .ok (.iload 6, 2) := by decide +kernel
theorem d11_17 : decode jdk_52_method_21_code 17 = .ok (.sipush 255, 3) := by decide +kernel
theorem d11_20 : decode jdk_52_method_21_code 20 = .ok (.if_icmp .le 6, 3) := by decide +kernel
theorem d11_23 : decode jdk_52_method_21_code 23 = .ok (.iload 5, 2) := by decide +kernel
theorem d11_25 : decode jdk_52_method_21_code 25 = .ok (.ireturn, 1) := by decide +kernel
theorem d11_26 : decode jdk_52_method_21_code 26 = .ok (.aload_n 2, 1) := by decide +kernel
theorem d11_27 : decode jdk_52_method_21_code 27 = .ok (.iload_n 3, 1) := by decide +kernel
theorem d11_28 : decode jdk_52_method_21_code 28 = .ok (.iload 6, 2) := by decide +kernel
theorem d11_30 : decode jdk_52_method_21_code 30 = .ok (.i2b, 1) := by decide +kernel
theorem d11_31 : decode jdk_52_method_21_code 31 = .ok (.bastore, 1) := by decide +kernel
theorem d11_32 : decode jdk_52_method_21_code 32 = .ok (.iinc 1 1, 3) := by decide +kernel
theorem d11_35 : decode jdk_52_method_21_code 35 = .ok (.iinc 3 1, 3) := by decide +kernel
theorem d11_38 : decode jdk_52_method_21_code 38 = .ok (.iinc 5 1, 3) := by decide +kernel
theorem d11_41 : decode jdk_52_method_21_code 41 = .ok (.goto (-38), 3) := by decide +kernel
theorem ef_rm_c5 (m : MethodId) (ca : Addr) (vb : Addr) (n : Int32)  : entryFrame m #[(.ref ca), (.int (0 : Int32)), (.ref vb), (.int (0 : Int32)), (.int n)] 7 = mkF m 0 #[.val (.ref ca), .val (.int (0 : Int32)), .val (.ref vb), .val (.int (0 : Int32)), .val (.int n), .unset, .unset] [] := by first | (simp [entryFrame, mkF, argsToLocals, Value.category]; done) | rfl
def Q_rm_c5 (Z : State) (ca : Addr) (vb : Addr) (n : Int32) (cs : List Int32) (g : Nat → Int32) (J : Nat) (k_ca : ClassId) (k_vb : ClassId) (h0 : Heap) (n0 : Nat) (v : Option Value) (h : Heap) (L : List Loc) : Prop := v = some (.int (Int32.ofNat J)) ∧ Fr n0 L ∧ Keep h0 h [vb]
theorem pn_4_ : plainName "java/lang/StringUTF16" = true := by first | (simp [plainName, overriddenIn]; done) | decide +kernel
theorem pn_4 : plainFor (⟨"java/lang/StringUTF16", "compress", "([CI[BII)I"⟩ : MethodName) = true := plainFor_of_name pn_4_
set_option maxRecDepth 65536 in
set_option maxHeartbeats 40000000 in
theorem rm_c5 (l : Launch) (Z : State) (a0 : Array Value) (hw : ∀ d ∈ tables_1, d.before a0 Z = true) (ws : List Jvm.Cond) (ca : Addr) (vb : Addr) (n : Int32) (cs : List Int32) (g : Nat → Int32) (J : Nat) (k_ca : ClassId) (k_vb : ClassId) (h0 : Heap) (n0 : Nat) (O0 : Old Z n0 h0) (V_ca : Arf Z h0 ca k_ca .char cs.length (fun i => (.int (own_at cs i)))) (V_vb : Arf Z h0 vb k_vb .byte cs.length (fun x => (.int (g x)))) (ge_vb : n0 ≤ vb) (ne_ca_vb : ca ≠ vb) (hN : n.toInt = (cs.length : Int)) (hN1 : cs.length ≤ 10) (hJ : J < cs.length) (hgt : (255 : Int32) < own_at cs J) (hle : ∀ i, i < J → ¬ (255 : Int32) < own_at cs i) :
    MetFree l (⟨"java/lang/StringUTF16", "compress", "([CI[BII)I"⟩ : MethodName) (head1 (Jvm.Cond.code (⟨"java/lang/StringUTF16", "compress", "([CI[BII)I"⟩ : MethodName) jdk_52_method_21_code 7 (some .int) :: ws) ({ frames := 0, cells := 0, slots := 0, locals := 0 } : Room)) (fun args_ U => args_ = #[(.ref ca), (.int (0 : Int32)), (.ref vb), (.int (0 : Int32)), (.int n)] ∧ Z.Warmed39 U.vm ∧ U.heap = h0) (fun _ _ _ _ _ => True) (fun _ U out_ U' => ∃ val_ loc_, out_ = .returned val_ ∧ (Q_rm_c5 Z ca vb n cs g J k_ca k_vb h0 n0) val_ U'.heap loc_ ∧ FrameEnd U out_ U' loc_ ({ frames := 0, cells := 0, slots := 0, locals := 0 } : Room).cells ({ frames := 0, cells := 0, slots := 0, locals := 0 } : Room).slots) := by
  refine start (Q := (Q_rm_c5 Z ca vb n cs g J k_ca k_vb h0 n0)) pn_4 ?_
  intro p e s m below meth c T0 X0 hx hby hml hown hnm hret hlk hZ e0
  replace hown : s.vm.findClass "java/lang/StringUTF16" = some m.cls := hown
  replace hml : c.maxLocals = 7 := hml
  refine goAt (ef_rm_c5 m ca vb n ) ?_
  have N0 := Fr.nil n0
  show Go p e below T0 (mkF m 0 #[.val (.ref ca), .val (.int (0 : Int32)), .val (.ref vb), .val (.int (0 : Int32)), .val (.int n), .unset, .unset] []) _
  refine stp (fun _ => XS.iconst X0.here hx rfl (hb hby d11_0)) ?_
  show Go p e below T0 (mkF m 1 #[.val (.ref ca), .val (.int (0 : Int32)), .val (.ref vb), .val (.int (0 : Int32)), .val (.int n), .unset, .unset] [(.int (0 : Int32))]) _
  refine stp (fun _ => XS.istore X0.here hx rfl (hb hby d11_1) rfl (l' := #[.val (.ref ca), .val (.int (0 : Int32)), .val (.ref vb), .val (.int (0 : Int32)), .val (.int n), .val (.int (0 : Int32)), .unset]) rfl) ?_
  show Go p e below T0 (mkF m 3 #[.val (.ref ca), .val (.int (0 : Int32)), .val (.ref vb), .val (.int (0 : Int32)), .val (.int n), .val (.int (0 : Int32)), .unset] []) _
  have loop3 : ∀ (d : Nat), ∀ (j : Nat) (gg : Nat → Int32) (i1 : Int32) (i3 : Int32) (i5 : Int32) (s6 : Slot), j + d = J → ∀ (T : State) (locs : List Loc) (hA : Heap) (X : Stand p l e ({ frames := 0, cells := 0, slots := 0, locals := 0 } : Room) s m #[(.ref ca), (.int (0 : Int32)), (.ref vb), (.int (0 : Int32)), (.int n)] below meth c T locs 0 0) (eA : T.heap = hA) (NA : Fr n0 locs) (OA : Old Z n0 hA) (KA : Keep h0 hA [vb]) (FA0 : Arf Z hA ca k_ca .char cs.length (fun i => (.int (own_at cs i)))) (FA1 : Arf Z hA vb k_vb .byte cs.length (fun x => (.int (gg x)))), i1.toInt = (j : Int) → i3.toInt = (j : Int) → i5.toInt = (j : Int) → (s6 = .unset ∨ ∃ x, s6 = .val (.int x)) → Go p e below T (mkF m 3 #[.val (.ref ca), .val (.int i1), .val (.ref vb), .val (.int i3), .val (.int n), .val (.int i5), s6] []) (Po s (Q_rm_c5 Z ca vb n cs g J k_ca k_vb h0 n0) ({ frames := 0, cells := 0, slots := 0, locals := 0 } : Room).cells ({ frames := 0, cells := 0, slots := 0, locals := 0 } : Room).slots) := by
    intro d
    induction d with
    | zero =>
      intro j gg i1 i3 i5 s6 hd_ T locs hA X eA NA OA KA FA0 FA1 hi1 hi3 hi5 hs6
      have hjJ : j = J := hd_
      have hjl : j < cs.length := by omega
      show Go p e below T (mkF m 3 #[.val (.ref ca), .val (.int i1), .val (.ref vb), .val (.int i3), .val (.int n), .val (.int i5), s6] []) _
      refine stp (fun _ => XS.iload X.here hx rfl (hb hby d11_3) rfl) ?_
      refine stp (fun _ => XS.iload X.here hx rfl (hb hby d11_5) rfl) ?_
      show Go p e below T (mkF m 7 #[.val (.ref ca), .val (.int i1), .val (.ref vb), .val (.int i3), .val (.int n), .val (.int i5), s6] [(.int n), (.int i5)]) _
      refine stp (fun _ => XS.icmpNo X.here hx rfl (hb hby d11_7) rfl (XT.ii_ge_f (own_ltI hi5 hN hjl))) ?_
      show Go p e below T (mkF m 10 #[.val (.ref ca), .val (.int i1), .val (.ref vb), .val (.int i3), .val (.int n), .val (.int i5), s6] []) _
      refine stp (fun _ => XS.aloadN X.here hx rfl (hb hby d11_10) rfl rfl) ?_
      refine stp (fun _ => XS.iloadN X.here hx rfl (hb hby d11_11) rfl) ?_
      show Go p e below T (mkF m 12 #[.val (.ref ca), .val (.int i1), .val (.ref vb), .val (.int i3), .val (.int n), .val (.int i5), s6] [(.int i1), (.ref ca)]) _
      obtain ⟨cl1, Ar1, q1, S1, H1, G1⟩ := (id FA0)
      have in1 : ¬ (i1 < 0 ∨ cl1.slots.size ≤ (i1).toNatClampNeg) := arf_in S1 hi1 hjl
      have at1 : cl1.slots[(i1).toNatClampNeg]? = some (.int (own_at cs j)) := arf_at H1 hi1 hjl
      refine stp (fun _ => X.caload hx (j := i1) (v := (.int (own_at cs j))) (by rw [eA]; exact Ar1.1) (State.isArrayOf_alike hZ.alike Ar1.2.1) Ar1.2.2 in1 at1 (g := (mkF m 12 #[.val (.ref ca), .val (.int i1), .val (.ref vb), .val (.int i3), .val (.int n), .val (.int i5), s6] [(.int i1), (.ref ca)])) rfl rfl (hb hby d11_12) _) ?_
      show Go p e below T (mkF m 13 #[.val (.ref ca), .val (.int i1), .val (.ref vb), .val (.int i3), .val (.int n), .val (.int i5), s6] [(.int (own_at cs j))]) _
      refine stp (fun _ => XS.istore X.here hx rfl (hb hby d11_13) rfl (l' := #[.val (.ref ca), .val (.int i1), .val (.ref vb), .val (.int i3), .val (.int n), .val (.int i5), .val (.int (own_at cs j))]) (by rcases hs6 with h | ⟨x, h⟩ <;> subst h <;> rfl)) ?_
      show Go p e below T (mkF m 15 #[.val (.ref ca), .val (.int i1), .val (.ref vb), .val (.int i3), .val (.int n), .val (.int i5), .val (.int (own_at cs j))] []) _
      refine stp (fun _ => XS.iload X.here hx rfl (hb hby d11_15) rfl) ?_
      refine stp (fun _ => XS.sipush X.here hx rfl (hb hby d11_17)) ?_
      show Go p e below T (mkF m 20 #[.val (.ref ca), .val (.int i1), .val (.ref vb), .val (.int i3), .val (.int n), .val (.int i5), .val (.int (own_at cs j))] [(.int (255 : Int32)), (.int (own_at cs j))]) _
      refine stp (fun _ => XS.icmpNo X.here hx rfl (hb hby d11_20) rfl (XT.ii_le_f (by rw [hjJ]; exact hgt))) ?_
      show Go p e below T (mkF m 23 #[.val (.ref ca), .val (.int i1), .val (.ref vb), .val (.int i3), .val (.int n), .val (.int i5), .val (.int (own_at cs j))] []) _
      refine stp (fun _ => XS.iload X.here hx rfl (hb hby d11_23) rfl) ?_
      show Go p e below T (mkF m 25 #[.val (.ref ca), .val (.int i1), .val (.ref vb), .val (.int i3), .val (.int n), .val (.int i5), .val (.int (own_at cs j))] [(.int i5)]) _
      have e5 : i5 = Int32.ofNat J := own_isN (by rw [← hjJ]; exact hi5) (by omega)
      refine outI X hx hret (hb hby d11_25) hlk (by decide) (by decide) ?_
      rw [eA, e5]
      exact ⟨rfl, NA, KA⟩
    | succ d ih =>
      intro j gg i1 i3 i5 s6 hd_ T locs hA X eA NA OA KA FA0 FA1 hi1 hi3 hi5 hs6
      have hjl : j < cs.length := by omega
      show Go p e below T (mkF m 3 #[.val (.ref ca), .val (.int i1), .val (.ref vb), .val (.int i3), .val (.int n), .val (.int i5), s6] []) _
      refine stp (fun _ => XS.iload X.here hx rfl (hb hby d11_3) rfl) ?_
      refine stp (fun _ => XS.iload X.here hx rfl (hb hby d11_5) rfl) ?_
      show Go p e below T (mkF m 7 #[.val (.ref ca), .val (.int i1), .val (.ref vb), .val (.int i3), .val (.int n), .val (.int i5), s6] [(.int n), (.int i5)]) _
      refine stp (fun _ => XS.icmpNo X.here hx rfl (hb hby d11_7) rfl (XT.ii_ge_f (own_ltI hi5 hN hjl))) ?_
      show Go p e below T (mkF m 10 #[.val (.ref ca), .val (.int i1), .val (.ref vb), .val (.int i3), .val (.int n), .val (.int i5), s6] []) _
      refine stp (fun _ => XS.aloadN X.here hx rfl (hb hby d11_10) rfl rfl) ?_
      refine stp (fun _ => XS.iloadN X.here hx rfl (hb hby d11_11) rfl) ?_
      show Go p e below T (mkF m 12 #[.val (.ref ca), .val (.int i1), .val (.ref vb), .val (.int i3), .val (.int n), .val (.int i5), s6] [(.int i1), (.ref ca)]) _
      obtain ⟨cl2, Ar2, q2, S2, H2, G2⟩ := (id FA0)
      have in2 : ¬ (i1 < 0 ∨ cl2.slots.size ≤ (i1).toNatClampNeg) := arf_in S2 hi1 hjl
      have at2 : cl2.slots[(i1).toNatClampNeg]? = some (.int (own_at cs j)) := arf_at H2 hi1 hjl
      refine stp (fun _ => X.caload hx (j := i1) (v := (.int (own_at cs j))) (by rw [eA]; exact Ar2.1) (State.isArrayOf_alike hZ.alike Ar2.2.1) Ar2.2.2 in2 at2 (g := (mkF m 12 #[.val (.ref ca), .val (.int i1), .val (.ref vb), .val (.int i3), .val (.int n), .val (.int i5), s6] [(.int i1), (.ref ca)])) rfl rfl (hb hby d11_12) _) ?_
      show Go p e below T (mkF m 13 #[.val (.ref ca), .val (.int i1), .val (.ref vb), .val (.int i3), .val (.int n), .val (.int i5), s6] [(.int (own_at cs j))]) _
      refine stp (fun _ => XS.istore X.here hx rfl (hb hby d11_13) rfl (l' := #[.val (.ref ca), .val (.int i1), .val (.ref vb), .val (.int i3), .val (.int n), .val (.int i5), .val (.int (own_at cs j))]) (by rcases hs6 with h | ⟨x, h⟩ <;> subst h <;> rfl)) ?_
      show Go p e below T (mkF m 15 #[.val (.ref ca), .val (.int i1), .val (.ref vb), .val (.int i3), .val (.int n), .val (.int i5), .val (.int (own_at cs j))] []) _
      refine stp (fun _ => XS.iload X.here hx rfl (hb hby d11_15) rfl) ?_
      refine stp (fun _ => XS.sipush X.here hx rfl (hb hby d11_17)) ?_
      show Go p e below T (mkF m 20 #[.val (.ref ca), .val (.int i1), .val (.ref vb), .val (.int i3), .val (.int n), .val (.int i5), .val (.int (own_at cs j))] [(.int (255 : Int32)), (.int (own_at cs j))]) _
      refine stp (fun _ => XS.icmpYes X.here hx rfl (pc0 := 20) (pc' := 26) rfl (hb hby d11_20) rfl (XT.ii_le_t (hle j (by omega))) (by decide) (by decide)) ?_
      show Go p e below T (mkF m 26 #[.val (.ref ca), .val (.int i1), .val (.ref vb), .val (.int i3), .val (.int n), .val (.int i5), .val (.int (own_at cs j))] []) _
      refine stp (fun _ => XS.aloadN X.here hx rfl (hb hby d11_26) rfl rfl) ?_
      refine stp (fun _ => XS.iloadN X.here hx rfl (hb hby d11_27) rfl) ?_
      refine stp (fun _ => XS.iload X.here hx rfl (hb hby d11_28) rfl) ?_
      show Go p e below T (mkF m 30 #[.val (.ref ca), .val (.int i1), .val (.ref vb), .val (.int i3), .val (.int n), .val (.int i5), .val (.int (own_at cs j))] [(.int (own_at cs j)), (.int i3), (.ref vb)]) _
      refine stp (fun _ => XS.i2b X.here hx rfl (hb hby d11_30) rfl) ?_
      show Go p e below T (mkF m 31 #[.val (.ref ca), .val (.int i1), .val (.ref vb), .val (.int i3), .val (.int n), .val (.int i5), .val (.int (own_at cs j))] [(.int ((own_at cs j).toInt8.toInt32)), (.int i3), (.ref vb)]) _
      obtain ⟨cl3, Ar3, q3, S3, H3, G3⟩ := (id FA1)
      have in3 : ¬ (i3 < 0 ∨ cl3.slots.size ≤ (i3).toNatClampNeg) := arf_in S3 hi3 hjl
      obtain ⟨T3, h3, X3, e3, W3, st3⟩ := stB X hx hZ eA Ar3 (j := i3) in3 (g := (mkF m 31 #[.val (.ref ca), .val (.int i1), .val (.ref vb), .val (.int i3), .val (.int n), .val (.int i5), .val (.int (own_at cs j))] [(.int ((own_at cs j).toInt8.toInt32)), (.int i3), (.ref vb)])) rfl rfl (hb hby d11_31)
      have V3 := Arf.set Ar3 q3 S3 H3 G3 (ow_fits_byte byte_twice) (arf_ix hi3 ▸ (ow_wr_byte byte_twice W3)) hjl
      replace V3 : Arf Z h3 vb k_vb .byte cs.length (fun x => (.int (if x = j then ((own_at cs j).toInt8.toInt32) else (gg x)))) := V3.congr (fun x _ => by split <;> rfl)
      have f4 := FA0.other W3 ne_ca_vb
      have K3 : Keep h0 h3 [vb] := KA.wr W3 (Or.inl (List.mem_of_getElem? (i := 0) rfl))
      have O3 := OA.wr W3 ge_vb
      have N3 := Fr.snoc X3 NA ge_vb
      refine stp st3 ?_
      show Go p e below T3 (mkF m 32 #[.val (.ref ca), .val (.int i1), .val (.ref vb), .val (.int i3), .val (.int n), .val (.int i5), .val (.int (own_at cs j))] []) _
      refine stp (fun _ => XS.iinc X3.here hx rfl (hb hby d11_32) rfl (l' := #[.val (.ref ca), .val (.int (i1 + (1 : Int32))), .val (.ref vb), .val (.int i3), .val (.int n), .val (.int i5), .val (.int (own_at cs j))]) rfl) ?_
      show Go p e below T3 (mkF m 35 #[.val (.ref ca), .val (.int (i1 + (1 : Int32))), .val (.ref vb), .val (.int i3), .val (.int n), .val (.int i5), .val (.int (own_at cs j))] []) _
      refine stp (fun _ => XS.iinc X3.here hx rfl (hb hby d11_35) rfl (l' := #[.val (.ref ca), .val (.int (i1 + (1 : Int32))), .val (.ref vb), .val (.int (i3 + (1 : Int32))), .val (.int n), .val (.int i5), .val (.int (own_at cs j))]) rfl) ?_
      show Go p e below T3 (mkF m 38 #[.val (.ref ca), .val (.int (i1 + (1 : Int32))), .val (.ref vb), .val (.int (i3 + (1 : Int32))), .val (.int n), .val (.int i5), .val (.int (own_at cs j))] []) _
      refine stp (fun _ => XS.iinc X3.here hx rfl (hb hby d11_38) rfl (l' := #[.val (.ref ca), .val (.int (i1 + (1 : Int32))), .val (.ref vb), .val (.int (i3 + (1 : Int32))), .val (.int n), .val (.int (i5 + (1 : Int32))), .val (.int (own_at cs j))]) rfl) ?_
      show Go p e below T3 (mkF m 41 #[.val (.ref ca), .val (.int (i1 + (1 : Int32))), .val (.ref vb), .val (.int (i3 + (1 : Int32))), .val (.int n), .val (.int (i5 + (1 : Int32))), .val (.int (own_at cs j))] []) _
      refine stp (fun _ => XS.goto X3.here hx rfl (pc0 := 41) (pc' := 3) rfl (hb hby d11_41) (by decide) (by decide)) ?_
      show Go p e below T3 (mkF m 3 #[.val (.ref ca), .val (.int (i1 + (1 : Int32))), .val (.ref vb), .val (.int (i3 + (1 : Int32))), .val (.int n), .val (.int (i5 + (1 : Int32))), .val (.int (own_at cs j))] []) _
      exact ih (j + 1) _ (i1 + (1 : Int32)) (i3 + (1 : Int32)) (i5 + (1 : Int32)) (.val (.int (own_at cs j))) (by omega) T3 _ h3 X3 e3 N3 O3 K3 f4 V3 (own_incI hi1 (by omega)) (own_incI hi3 (by omega)) (own_incI hi5 (by omega)) (Or.inr ⟨_, rfl⟩)
  exact loop3 _ 0 g (0 : Int32) (0 : Int32) (0 : Int32) .unset (Nat.zero_add _) T0 _ h0 X0 e0 N0 O0 (Keep.refl h0 [vb]) V_ca V_vb rfl rfl rfl (Or.inl rfl)
theorem d16_0 : decode jdk_52_method_5_code 0 = .ok (.getstatic 44, 3) := by decide +kernel
theorem d16_3 : decode jdk_52_method_5_code 3 = .ok (.ifCond .ne 25, 3) := by decide +kernel
theorem d16_28 : decode jdk_52_method_5_code 28 = .ok (.iload_n 1, 1) := by decide +kernel
theorem d16_29 : decode jdk_52_method_5_code 29 = .ok (.iconst 1, 1) := by decide +kernel
theorem d16_30 : decode jdk_52_method_5_code 30 = .ok (.ishl, 1) := by decide +kernel
theorem d16_31 : decode jdk_52_method_5_code 31 = .ok (.istore_n 1, 1) := by decide +kernel
theorem d16_32 : decode jdk_52_method_5_code 32 = .ok (.aload_n 0, 1) := by decide +kernel
theorem d16_33 : decode jdk_52_method_5_code 33 = .ok (.iload_n 1, 1) := by decide +kernel
theorem d16_34 : decode jdk_52_method_5_code 34 = .ok (.iinc 1 1, 3) := by decide +kernel
theorem d16_37 : decode jdk_52_method_5_code 37 = .ok (.baload, 1) := by decide +kernel
theorem d16_38 : decode jdk_52_method_5_code 38 = .ok (.sipush 255, 3) := by decide +kernel
theorem d16_41 : decode jdk_52_method_5_code 41 = .ok (.iand, 1) := by decide +kernel
theorem d16_42 : decode jdk_52_method_5_code 42 = .ok (.getstatic 59, 3) := by decide +kernel
theorem d16_45 : decode jdk_52_method_5_code 45 = .ok (.ishl, 1) := by decide +kernel
theorem d16_46 : decode jdk_52_method_5_code 46 = .ok (.aload_n 0, 1) := by decide +kernel
theorem d16_47 : decode jdk_52_method_5_code 47 = .ok (.iload_n 1, 1) := by decide +kernel
theorem d16_48 : decode jdk_52_method_5_code 48 = .ok (.baload, 1) := by decide +kernel
theorem d16_49 : decode jdk_52_method_5_code 49 = .ok (.sipush 255, 3) := by decide +kernel
theorem d16_52 : decode jdk_52_method_5_code 52 = .ok (.iand, 1) := by decide +kernel
theorem d16_53 : decode jdk_52_method_5_code 53 = .ok (.getstatic 63, 3) := by decide +kernel
theorem d16_56 : decode jdk_52_method_5_code 56 = .ok (.ishl, 1) := by decide +kernel
theorem d16_57 : decode jdk_52_method_5_code 57 = .ok (.ior, 1) := by decide +kernel
theorem d16_58 : decode jdk_52_method_5_code 58 = .ok (.i2c, 1) := by decide +kernel
theorem d16_59 : decode jdk_52_method_5_code 59 = .ok (.ireturn, 1) := by decide +kernel
theorem ef_rm_gc (m : MethodId) (vb : Addr) (i : Int32)  : entryFrame m #[(.ref vb), (.int i)] 2 = mkF m 0 #[.val (.ref vb), .val (.int i)] [] := by first | (simp [entryFrame, mkF, argsToLocals, Value.category]; done) | rfl
def Q_rm_gc (Z : State) (vb : Addr) (i : Int32) (cs : List Int32) (j : Nat) (k_vb : ClassId) (h0 : Heap) (n0 : Nat) (v : Option Value) (h : Heap) (L : List Loc) : Prop := v = some (.int (own_at cs j)) ∧ Fr n0 L ∧ h = h0
theorem pn_5_ : plainName "java/lang/StringUTF16" = true := by first | (simp [plainName, overriddenIn]; done) | decide +kernel
theorem pn_5 : plainFor (⟨"java/lang/StringUTF16", "getChar", "([BI)C"⟩ : MethodName) = true := plainFor_of_name pn_5_
set_option maxRecDepth 65536 in
set_option maxHeartbeats 40000000 in
theorem rm_gc (l : Launch) (Z : State) (a0 : Array Value) (hw : ∀ d ∈ tables_1, d.before a0 Z = true) (ws : List Jvm.Cond) (vb : Addr) (i : Int32) (cs : List Int32) (j : Nat) (k_vb : ClassId) (h0 : Heap) (n0 : Nat) (O0 : Old Z n0 h0) (V_vb : Arf Z h0 vb k_vb .byte (2 * cs.length) (fun x => (.int (own_ub cs x)))) (S__assertionsDisabled : Sta Z Z.heap "java/lang/StringUTF16" "$assertionsDisabled" "Z" (.int (1 : Int32))) (S_HI_BYTE_SHIFT : Sta Z Z.heap "java/lang/StringUTF16" "HI_BYTE_SHIFT" "I" (.int (0 : Int32))) (S_LO_BYTE_SHIFT : Sta Z Z.heap "java/lang/StringUTF16" "LO_BYTE_SHIFT" "I" (.int (8 : Int32))) (hi : i.toInt = (j : Int)) (hj : j < cs.length) (hN1 : cs.length ≤ 10) (hsm : ∀ c ∈ cs, ¬ c < 0 ∧ ¬ (65535 : Int32) < c) :
    MetFree l (⟨"java/lang/StringUTF16", "getChar", "([BI)C"⟩ : MethodName) (head1 (Jvm.Cond.code (⟨"java/lang/StringUTF16", "getChar", "([BI)C"⟩ : MethodName) jdk_52_method_5_code 2 (some .char) :: ws) ({ frames := 0, cells := 0, slots := 0, locals := 0 } : Room)) (fun args_ U => args_ = #[(.ref vb), (.int i)] ∧ Z.Warmed39 U.vm ∧ U.heap = h0) (fun _ _ _ _ _ => True) (fun _ U out_ U' => ∃ val_ loc_, out_ = .returned val_ ∧ (Q_rm_gc Z vb i cs j k_vb h0 n0) val_ U'.heap loc_ ∧ FrameEnd U out_ U' loc_ ({ frames := 0, cells := 0, slots := 0, locals := 0 } : Room).cells ({ frames := 0, cells := 0, slots := 0, locals := 0 } : Room).slots) := by
  refine start (Q := (Q_rm_gc Z vb i cs j k_vb h0 n0)) pn_5 ?_
  intro p e s m below meth c T0 X0 hx hby hml hown hnm hret hlk hZ e0
  replace hown : s.vm.findClass "java/lang/StringUTF16" = some m.cls := hown
  replace hml : c.maxLocals = 2 := hml
  refine goAt (ef_rm_gc m vb i ) ?_
  have N0 := Fr.nil n0
  show Go p e below T0 (mkF m 0 #[.val (.ref vb), .val (.int i)] []) _
  obtain ⟨T1, X1, e1, st1⟩ := getS2 X0 hx hZ hown (host := "") (Or.inl (hw _ (List.mem_of_getElem? (i := 70) rfl))) Via.refl e0 (S__assertionsDisabled.ext O0.2) (g := (mkF m 0 #[.val (.ref vb), .val (.int i)] [])) rfl (hb hby d16_0)
  refine stp st1 ?_
  show Go p e below T1 (mkF m 3 #[.val (.ref vb), .val (.int i)] [(.int (1 : Int32))]) _
  refine stp (fun _ => XS.ifYes X1.here hx rfl (pc0 := 3) (pc' := 28) rfl (hb hby d16_3) rfl (by decide) (by decide) (by decide)) ?_
  show Go p e below T1 (mkF m 28 #[.val (.ref vb), .val (.int i)] []) _
  refine stp (fun _ => XS.iloadN X1.here hx rfl (hb hby d16_28) rfl) ?_
  refine stp (fun _ => XS.iconst X1.here hx rfl (hb hby d16_29)) ?_
  show Go p e below T1 (mkF m 30 #[.val (.ref vb), .val (.int i)] [(.int (1 : Int32)), (.int i)]) _
  refine stp (fun _ => XS.ishl X1.here hx rfl (hb hby d16_30) rfl) ?_
  show Go p e below T1 (mkF m 31 #[.val (.ref vb), .val (.int i)] [(.int (i <<< ((1 : Int32) &&& 31)))]) _
  refine stp (fun _ => XS.istoreN X1.here hx rfl (hb hby d16_31) rfl (l' := #[.val (.ref vb), .val (.int (i <<< ((1 : Int32) &&& 31)))]) rfl) ?_
  show Go p e below T1 (mkF m 32 #[.val (.ref vb), .val (.int (i <<< ((1 : Int32) &&& 31)))] []) _
  refine stp (fun _ => XS.aloadN X1.here hx rfl (hb hby d16_32) rfl rfl) ?_
  refine stp (fun _ => XS.iloadN X1.here hx rfl (hb hby d16_33) rfl) ?_
  show Go p e below T1 (mkF m 34 #[.val (.ref vb), .val (.int (i <<< ((1 : Int32) &&& 31)))] [(.int (i <<< ((1 : Int32) &&& 31))), (.ref vb)]) _
  refine stp (fun _ => XS.iinc X1.here hx rfl (hb hby d16_34) rfl (l' := #[.val (.ref vb), .val (.int ((i <<< ((1 : Int32) &&& 31)) + (1 : Int32)))]) rfl) ?_
  show Go p e below T1 (mkF m 37 #[.val (.ref vb), .val (.int ((i <<< ((1 : Int32) &&& 31)) + (1 : Int32)))] [(.int (i <<< ((1 : Int32) &&& 31))), (.ref vb)]) _
  obtain ⟨cl2, Ar2, q2, S2, H2, G2⟩ := (id V_vb)
  have in2 : ¬ ((i <<< ((1 : Int32) &&& 31)) < 0 ∨ cl2.slots.size ≤ ((i <<< ((1 : Int32) &&& 31))).toNatClampNeg) := arf_in S2 (own_shlI hi (by omega)) (by omega)
  have at2 : cl2.slots[((i <<< ((1 : Int32) &&& 31))).toNatClampNeg]? = some (.int (own_ub cs (2 * j))) := arf_at H2 (own_shlI hi (by omega)) (by omega)
  refine stp (fun _ => X1.baloadBytes hx (j := (i <<< ((1 : Int32) &&& 31))) (v := (.int (own_ub cs (2 * j)))) (by rw [e1]; exact Ar2.1) (State.isArrayOf_alike hZ.alike Ar2.2.1) Ar2.2.2 in2 at2 (g := (mkF m 37 #[.val (.ref vb), .val (.int ((i <<< ((1 : Int32) &&& 31)) + (1 : Int32)))] [(.int (i <<< ((1 : Int32) &&& 31))), (.ref vb)])) rfl rfl (hb hby d16_37) _) ?_
  show Go p e below T1 (mkF m 38 #[.val (.ref vb), .val (.int ((i <<< ((1 : Int32) &&& 31)) + (1 : Int32)))] [(.int (own_ub cs (2 * j)))]) _
  refine stp (fun _ => XS.sipush X1.here hx rfl (hb hby d16_38)) ?_
  show Go p e below T1 (mkF m 41 #[.val (.ref vb), .val (.int ((i <<< ((1 : Int32) &&& 31)) + (1 : Int32)))] [(.int (255 : Int32)), (.int (own_ub cs (2 * j)))]) _
  refine stp (fun _ => XS.iand X1.here hx rfl (hb hby d16_41) rfl) ?_
  show Go p e below T1 (mkF m 42 #[.val (.ref vb), .val (.int ((i <<< ((1 : Int32) &&& 31)) + (1 : Int32)))] [(.int ((own_ub cs (2 * j)) &&& (255 : Int32)))]) _
  obtain ⟨T3, X3, e3, st3⟩ := getS2 X1 hx hZ hown (host := "") (Or.inl (hw _ (List.mem_of_getElem? (i := 71) rfl))) Via.refl e1 (S_HI_BYTE_SHIFT.ext O0.2) (g := (mkF m 42 #[.val (.ref vb), .val (.int ((i <<< ((1 : Int32) &&& 31)) + (1 : Int32)))] [(.int ((own_ub cs (2 * j)) &&& (255 : Int32)))])) rfl (hb hby d16_42)
  refine stp st3 ?_
  show Go p e below T3 (mkF m 45 #[.val (.ref vb), .val (.int ((i <<< ((1 : Int32) &&& 31)) + (1 : Int32)))] [(.int (0 : Int32)), (.int ((own_ub cs (2 * j)) &&& (255 : Int32)))]) _
  refine stp (fun _ => XS.ishl X3.here hx rfl (hb hby d16_45) rfl) ?_
  show Go p e below T3 (mkF m 46 #[.val (.ref vb), .val (.int ((i <<< ((1 : Int32) &&& 31)) + (1 : Int32)))] [(.int (((own_ub cs (2 * j)) &&& (255 : Int32)) <<< ((0 : Int32) &&& 31)))]) _
  refine stp (fun _ => XS.aloadN X3.here hx rfl (hb hby d16_46) rfl rfl) ?_
  refine stp (fun _ => XS.iloadN X3.here hx rfl (hb hby d16_47) rfl) ?_
  show Go p e below T3 (mkF m 48 #[.val (.ref vb), .val (.int ((i <<< ((1 : Int32) &&& 31)) + (1 : Int32)))] [(.int ((i <<< ((1 : Int32) &&& 31)) + (1 : Int32))), (.ref vb), (.int (((own_ub cs (2 * j)) &&& (255 : Int32)) <<< ((0 : Int32) &&& 31)))]) _
  obtain ⟨cl4, Ar4, q4, S4, H4, G4⟩ := (id V_vb)
  have in4 : ¬ (((i <<< ((1 : Int32) &&& 31)) + (1 : Int32)) < 0 ∨ cl4.slots.size ≤ (((i <<< ((1 : Int32) &&& 31)) + (1 : Int32))).toNatClampNeg) := arf_in S4 (own_incI (own_shlI hi (by omega)) (by omega)) (by omega)
  have at4 : cl4.slots[(((i <<< ((1 : Int32) &&& 31)) + (1 : Int32))).toNatClampNeg]? = some (.int (own_ub cs (2 * j + 1))) := arf_at H4 (own_incI (own_shlI hi (by omega)) (by omega)) (by omega)
  refine stp (fun _ => X3.baloadBytes hx (j := ((i <<< ((1 : Int32) &&& 31)) + (1 : Int32))) (v := (.int (own_ub cs (2 * j + 1)))) (by rw [e3]; exact Ar4.1) (State.isArrayOf_alike hZ.alike Ar4.2.1) Ar4.2.2 in4 at4 (g := (mkF m 48 #[.val (.ref vb), .val (.int ((i <<< ((1 : Int32) &&& 31)) + (1 : Int32)))] [(.int ((i <<< ((1 : Int32) &&& 31)) + (1 : Int32))), (.ref vb), (.int (((own_ub cs (2 * j)) &&& (255 : Int32)) <<< ((0 : Int32) &&& 31)))])) rfl rfl (hb hby d16_48) _) ?_
  show Go p e below T3 (mkF m 49 #[.val (.ref vb), .val (.int ((i <<< ((1 : Int32) &&& 31)) + (1 : Int32)))] [(.int (own_ub cs (2 * j + 1))), (.int (((own_ub cs (2 * j)) &&& (255 : Int32)) <<< ((0 : Int32) &&& 31)))]) _
  refine stp (fun _ => XS.sipush X3.here hx rfl (hb hby d16_49)) ?_
  show Go p e below T3 (mkF m 52 #[.val (.ref vb), .val (.int ((i <<< ((1 : Int32) &&& 31)) + (1 : Int32)))] [(.int (255 : Int32)), (.int (own_ub cs (2 * j + 1))), (.int (((own_ub cs (2 * j)) &&& (255 : Int32)) <<< ((0 : Int32) &&& 31)))]) _
  refine stp (fun _ => XS.iand X3.here hx rfl (hb hby d16_52) rfl) ?_
  show Go p e below T3 (mkF m 53 #[.val (.ref vb), .val (.int ((i <<< ((1 : Int32) &&& 31)) + (1 : Int32)))] [(.int ((own_ub cs (2 * j + 1)) &&& (255 : Int32))), (.int (((own_ub cs (2 * j)) &&& (255 : Int32)) <<< ((0 : Int32) &&& 31)))]) _
  obtain ⟨T5, X5, e5, st5⟩ := getS2 X3 hx hZ hown (host := "") (Or.inl (hw _ (List.mem_of_getElem? (i := 72) rfl))) Via.refl e3 (S_LO_BYTE_SHIFT.ext O0.2) (g := (mkF m 53 #[.val (.ref vb), .val (.int ((i <<< ((1 : Int32) &&& 31)) + (1 : Int32)))] [(.int ((own_ub cs (2 * j + 1)) &&& (255 : Int32))), (.int (((own_ub cs (2 * j)) &&& (255 : Int32)) <<< ((0 : Int32) &&& 31)))])) rfl (hb hby d16_53)
  refine stp st5 ?_
  show Go p e below T5 (mkF m 56 #[.val (.ref vb), .val (.int ((i <<< ((1 : Int32) &&& 31)) + (1 : Int32)))] [(.int (8 : Int32)), (.int ((own_ub cs (2 * j + 1)) &&& (255 : Int32))), (.int (((own_ub cs (2 * j)) &&& (255 : Int32)) <<< ((0 : Int32) &&& 31)))]) _
  refine stp (fun _ => XS.ishl X5.here hx rfl (hb hby d16_56) rfl) ?_
  show Go p e below T5 (mkF m 57 #[.val (.ref vb), .val (.int ((i <<< ((1 : Int32) &&& 31)) + (1 : Int32)))] [(.int (((own_ub cs (2 * j + 1)) &&& (255 : Int32)) <<< ((8 : Int32) &&& 31))), (.int (((own_ub cs (2 * j)) &&& (255 : Int32)) <<< ((0 : Int32) &&& 31)))]) _
  refine stp (fun _ => XS.ior X5.here hx rfl (hb hby d16_57) rfl) ?_
  show Go p e below T5 (mkF m 58 #[.val (.ref vb), .val (.int ((i <<< ((1 : Int32) &&& 31)) + (1 : Int32)))] [(.int ((((own_ub cs (2 * j)) &&& (255 : Int32)) <<< ((0 : Int32) &&& 31)) ||| (((own_ub cs (2 * j + 1)) &&& (255 : Int32)) <<< ((8 : Int32) &&& 31))))]) _
  refine stp (fun _ => XS.i2c X5.here hx rfl (hb hby d16_58) rfl) ?_
  show Go p e below T5 (mkF m 59 #[.val (.ref vb), .val (.int ((i <<< ((1 : Int32) &&& 31)) + (1 : Int32)))] [(.int (((((own_ub cs (2 * j)) &&& (255 : Int32)) <<< ((0 : Int32) &&& 31)) ||| (((own_ub cs (2 * j + 1)) &&& (255 : Int32)) <<< ((8 : Int32) &&& 31))).toUInt32.toUInt16.toUInt32.toInt32))]) _
  refine outN X5 hx (t := .char) hret (by simp) (hb hby d16_59) hlk (by decide) (by decide) ?_
  exact ⟨own_somei (by rw [own_ub0, own_ub1, own_join (own_u16all hsm hj), char_small (own_u16all hsm hj).1 (own_u16all hsm hj).2]; exact own_narc (own_u16all hsm hj)), N0, e5⟩
theorem d10_0 : decode jdk_52_method_16_code 0 = .ok (.iload_n 2, 1) := by decide +kernel
theorem d10_1 : decode jdk_52_method_16_code 1 = .ok (.newarray .byte, 2) := by decide +kernel
theorem d10_3 : decode jdk_52_method_16_code 3 = .ok (.astore_n 3, 1) := by decide +kernel
theorem d10_4 : decode jdk_52_method_16_code 4 = .ok (.aload_n 0, 1) := by decide +kernel
theorem d10_5 : decode jdk_52_method_16_code 5 = .ok (.iload_n 1, 1) := by decide +kernel
theorem d10_6 : decode jdk_52_method_16_code 6 = .ok (.aload_n 3, 1) := by decide +kernel
theorem d10_7 : decode jdk_52_method_16_code 7 = .ok (.iconst 0, 1) := by decide +kernel
theorem d10_8 : decode jdk_52_method_16_code 8 = .ok (.iload_n 2, 1) := by decide +kernel
theorem d10_9 : decode jdk_52_method_16_code 9 = .ok (.invokestatic 115, 3) := by decide +kernel
theorem pd_3 : parseMethodDescriptor "([CI[BII)I" = some ⟨[(.array .char), .int, (.array .byte), .int, .int], some .int⟩ := by decide +kernel
theorem d10_12 : decode jdk_52_method_16_code 12 = .ok (.istore 4, 2) := by decide +kernel
theorem d10_14 : decode jdk_52_method_16_code 14 = .ok (.iload 4, 2) := by decide +kernel
theorem d10_16 : decode jdk_52_method_16_code 16 = .ok (.iload_n 2, 1) := by decide +kernel
theorem d10_17 : decode jdk_52_method_16_code 17 = .ok (.if_icmp .eq 40, 3) := by decide +kernel
theorem d10_20 : decode jdk_52_method_16_code 20 = .ok (.aload_n 0, 1) := by decide +kernel
theorem d10_21 : decode jdk_52_method_16_code 21 = .ok (.iload_n 1, 1) := by decide +kernel
theorem d10_22 : decode jdk_52_method_16_code 22 = .ok (.iload_n 2, 1) := by decide +kernel
theorem d10_23 : decode jdk_52_method_16_code 23 = .ok (.invokestatic 119, 3) := by decide +kernel
theorem pd_4 : parseMethodDescriptor "([CII)[B" = some ⟨[(.array .char), .int, .int], some (.array .byte)⟩ := by decide +kernel
theorem d10_26 : decode jdk_52_method_16_code 26 = .ok (.astore 5, 2) := by decide +kernel
theorem d10_28 : decode jdk_52_method_16_code 28 = .ok (.aload 5, 2) := by decide +kernel
theorem d10_30 : decode jdk_52_method_16_code 30 = .ok (.iload 4, 2) := by decide +kernel
theorem d10_32 : decode jdk_52_method_16_code 32 = .ok (.invokestatic 71, 3) := by decide +kernel
theorem pd_5 : parseMethodDescriptor "([BI)C" = some ⟨[(.array .byte), .int], some .char⟩ := by decide +kernel
theorem d10_35 : decode jdk_52_method_16_code 35 = .ok (.sipush 255, 3) := by decide +kernel
theorem d10_38 : decode jdk_52_method_16_code 38 = .ok (.if_icmp .gt 16, 3) := by decide +kernel
theorem d10_54 : decode jdk_52_method_16_code 54 = .ok (.aload 5, 2) := by decide +kernel
theorem d10_56 : decode jdk_52_method_16_code 56 = .ok (.areturn, 1) := by decide +kernel
theorem ef_rm_c3 (m : MethodId) (ca : Addr) (n : Int32)  : entryFrame m #[(.ref ca), (.int (0 : Int32)), (.int n)] 6 = mkF m 0 #[.val (.ref ca), .val (.int (0 : Int32)), .val (.int n), .unset, .unset, .unset] [] := by first | (simp [entryFrame, mkF, argsToLocals, Value.category]; done) | rfl
def Q_rm_c3 (Z : State) (ca : Addr) (n : Int32) (cs : List Int32) (J : Nat) (k_ca : ClassId) (h0 : Heap) (n0 : Nat) (v : Option Value) (h : Heap) (L : List Loc) : Prop := ∃ (r : Addr) (k_r : ClassId), v = some (.ref r) ∧ Fr n0 L ∧ Keep h0 h [] ∧ (n0 ≤ r ∧ h0.size ≤ r) ∧ Exa Z h r "[B" ∧ Arf Z h r k_r .byte (2 * cs.length) (fun x => (.int (own_ub cs x)))
theorem pn_6_ : plainName "java/lang/StringUTF16" = true := by first | (simp [plainName, overriddenIn]; done) | decide +kernel
theorem pn_6 : plainFor (⟨"java/lang/StringUTF16", "compress", "([CII)[B"⟩ : MethodName) = true := plainFor_of_name pn_6_
set_option maxRecDepth 65536 in
set_option maxHeartbeats 40000000 in
theorem rm_c3 (l : Launch) (Z : State) (a0 : Array Value) (hw : ∀ d ∈ tables_1, d.before a0 Z = true) (ws : List Jvm.Cond) (ca : Addr) (n : Int32) (cs : List Int32) (J : Nat) (k_ca : ClassId) (h0 : Heap) (n0 : Nat) (O0 : Old Z n0 h0) (V_ca : Arf Z h0 ca k_ca .char cs.length (fun i => (.int (own_at cs i)))) (S__assertionsDisabled : Sta Z Z.heap "java/lang/StringUTF16" "$assertionsDisabled" "Z" (.int (1 : Int32))) (S_HI_BYTE_SHIFT : Sta Z Z.heap "java/lang/StringUTF16" "HI_BYTE_SHIFT" "I" (.int (0 : Int32))) (S_LO_BYTE_SHIFT : Sta Z Z.heap "java/lang/StringUTF16" "LO_BYTE_SHIFT" "I" (.int (8 : Int32))) (hN : n.toInt = (cs.length : Int)) (hN1 : cs.length ≤ 10) (hsm : ∀ c ∈ cs, ¬ c < 0 ∧ ¬ (65535 : Int32) < c) (hJ : J < cs.length) (hgt : (255 : Int32) < own_at cs J) (hle : ∀ i, i < J → ¬ (255 : Int32) < own_at cs i) :
    MetFree l (⟨"java/lang/StringUTF16", "compress", "([CII)[B"⟩ : MethodName) (head1 (Jvm.Cond.code (⟨"java/lang/StringUTF16", "compress", "([CII)[B"⟩ : MethodName) jdk_52_method_16_code 6 (some (.array .byte)) :: ws) ({ frames := 3, cells := 2, slots := 30, locals := 40 } : Room)) (fun args_ U => args_ = #[(.ref ca), (.int (0 : Int32)), (.int n)] ∧ Z.Warmed39 U.vm ∧ U.heap = h0) (fun _ _ _ _ _ => True) (fun _ U out_ U' => ∃ val_ loc_, out_ = .returned val_ ∧ (Q_rm_c3 Z ca n cs J k_ca h0 n0) val_ U'.heap loc_ ∧ FrameEnd U out_ U' loc_ ({ frames := 3, cells := 2, slots := 30, locals := 40 } : Room).cells ({ frames := 3, cells := 2, slots := 30, locals := 40 } : Room).slots) := by
  refine start (Q := (Q_rm_c3 Z ca n cs J k_ca h0 n0)) pn_6 ?_
  intro p e s m below meth c T0 X0 hx hby hml hown hnm hret hlk hZ e0
  replace hown : s.vm.findClass "java/lang/StringUTF16" = some m.cls := hown
  replace hml : c.maxLocals = 6 := hml
  refine goAt (ef_rm_c3 m ca n ) ?_
  have N0 := Fr.nil n0
  show Go p e below T0 (mkF m 0 #[.val (.ref ca), .val (.int (0 : Int32)), .val (.int n), .unset, .unset, .unset] []) _
  refine stp (fun _ => XS.iloadN X0.here hx rfl (hb hby d10_0) rfl) ?_
  show Go p e below T0 (mkF m 1 #[.val (.ref ca), .val (.int (0 : Int32)), .val (.int n), .unset, .unset, .unset] [(.int n)]) _
  obtain ⟨T1, h1, k1, X1, e1, E1, A1, B1, st1⟩ := newPE X0 hx hZ (hw _ (List.mem_of_getElem? (i := 23) rfl)) e0 (g := (mkF m 1 #[.val (.ref ca), .val (.int (0 : Int32)), .val (.int n), .unset, .unset, .unset] [(.int n)])) rfl (hb hby d10_1) rfl (own_u0 hN) (cap := 10) (by rw [arf_ix hN]; exact hN1) (by decide) (by decide) (by decide) (ad := "[B") (by decide)
  obtain ⟨b1, g1⟩ : ∃ z, z = h0.size := ⟨_, rfl⟩
  rw [← g1] at A1 B1 st1
  have ne2 : ca ≠ b1 := Nat.ne_of_lt (Nat.lt_of_lt_of_le V_ca.lt (Nat.le_of_eq g1.symm))
  have sz_b1 : h0.size ≤ b1 := Nat.le_trans (Keep.refl h0 []).1 (Nat.le_of_eq g1.symm)
  have ge_b1 : n0 ≤ b1 := Nat.le_trans (old_le O0) (Nat.le_of_eq g1.symm)
  have f3 := V_ca.ext E1
  have K1 : Keep h0 h1 [] := (Keep.refl h0 []).ext E1
  have O1 := O0.ext E1
  have V1 : Arf Z h1 b1 k1 .byte cs.length (fun _ => (.int (0 : Int32))) := Arf.new A1 (own_u0 hN) (arf_ix hN)
  refine stp st1 ?_
  show Go p e below T1 (mkF m 3 #[.val (.ref ca), .val (.int (0 : Int32)), .val (.int n), .unset, .unset, .unset] [(.ref b1)]) _
  refine stp (fun _ => XS.astoreN X1.here hx rfl (hb hby d10_3) rfl rfl (l' := #[.val (.ref ca), .val (.int (0 : Int32)), .val (.int n), .val (.ref b1), .unset, .unset]) rfl) ?_
  show Go p e below T1 (mkF m 4 #[.val (.ref ca), .val (.int (0 : Int32)), .val (.int n), .val (.ref b1), .unset, .unset] []) _
  refine stp (fun _ => XS.aloadN X1.here hx rfl (hb hby d10_4) rfl rfl) ?_
  refine stp (fun _ => XS.iloadN X1.here hx rfl (hb hby d10_5) rfl) ?_
  refine stp (fun _ => XS.aloadN X1.here hx rfl (hb hby d10_6) rfl rfl) ?_
  refine stp (fun _ => XS.iconst X1.here hx rfl (hb hby d10_7)) ?_
  refine stp (fun _ => XS.iloadN X1.here hx rfl (hb hby d10_8) rfl) ?_
  show Go p e below T1 (mkF m 9 #[.val (.ref ca), .val (.int (0 : Int32)), .val (.int n), .val (.ref b1), .unset, .unset] [(.int n), (.int (0 : Int32)), (.ref b1), (.int (0 : Int32)), (.ref ca)]) _
  obtain ⟨_, _, ⟨T4, L4, k4, n4⟩, -, X4, ⟨Lc4, hQ4, l4, y4, z4⟩, st4⟩ := Jvm.LawKit.callS X1 hx (y := (⟨"java/lang/StringUTF16", "compress", "([CI[BII)I"⟩ : MethodName)) hown (mvT hZ (hw _ (List.mem_of_getElem? (i := 54) rfl))) (mvT hZ (hw _ (List.mem_of_getElem? (i := 55) rfl))) (mvT hZ (hw _ (List.mem_of_getElem? (i := 52) rfl))) (mvT hZ (hw _ (List.mem_of_getElem? (i := 56) rfl))) (by decide) (backOf (W := 0) (rm_c5 l Z a0 hw [] ca b1 n cs (fun _ => (0 : Int32)) J k_ca k1 h1 n0 O1 f3 V1 ge_b1 ne2 hN hN1 hJ hgt hle) hZ (hw _ (List.mem_of_getElem? (i := 56) rfl)) (hw _ (List.mem_of_getElem? (i := 52) rfl)) (by decide) (by decide)) (g := (mkF m 9 #[.val (.ref ca), .val (.int (0 : Int32)), .val (.int n), .val (.ref b1), .unset, .unset] [(.int n), (.int (0 : Int32)), (.ref b1), (.int (0 : Int32)), (.ref ca)])) rfl (by rw [hml]; rfl) (argsL := [(.ref ca), (.int (0 : Int32)), (.ref b1), (.int (0 : Int32)), (.int n)]) (rest := []) (lenOf pd_3 rfl) rfl (by show 2 * 0 + _ ≤ _; exact Nat.le_of_eq rfl) (hb hby d10_9) (fun _ _ => ⟨rfl, e1, (by decide : 1 + 0 ≤ _), (by decide : 10 + 0 ≤ _)⟩)
  dsimp only [Pt.U, Pt.locs, Pt.cells, Pt.slots] at X4 l4 y4 z4 st4 hQ4
  subst y4 z4
  obtain ⟨rfl, N4q, K4q⟩ := hQ4
  have N4 : Fr n0 L4 := by rw [l4]; exact Fr.app N0 N4q
  have f5 := f3.keep K4q (ninS ne2 nin0)
  have f6 := B1.keep K4q
  have K4 : Keep h0 T4.heap [] := K1.trans K4q (allS (Or.inr sz_b1) all0)
  have O4 := O1.keep K4q (allS ge_b1 all0)
  refine stp st4 ?_
  show Go p e below T4 (mkF m 12 #[.val (.ref ca), .val (.int (0 : Int32)), .val (.int n), .val (.ref b1), .unset, .unset] [(.int (Int32.ofNat J))]) _
  refine stp (fun _ => XS.istore X4.here hx rfl (hb hby d10_12) rfl (l' := #[.val (.ref ca), .val (.int (0 : Int32)), .val (.int n), .val (.ref b1), .val (.int (Int32.ofNat J)), .unset]) rfl) ?_
  show Go p e below T4 (mkF m 14 #[.val (.ref ca), .val (.int (0 : Int32)), .val (.int n), .val (.ref b1), .val (.int (Int32.ofNat J)), .unset] []) _
  refine stp (fun _ => XS.iload X4.here hx rfl (hb hby d10_14) rfl) ?_
  refine stp (fun _ => XS.iloadN X4.here hx rfl (hb hby d10_16) rfl) ?_
  show Go p e below T4 (mkF m 17 #[.val (.ref ca), .val (.int (0 : Int32)), .val (.int n), .val (.ref b1), .val (.int (Int32.ofNat J)), .unset] [(.int n), (.int (Int32.ofNat J))]) _
  refine stp (fun _ => XS.icmpNo X4.here hx rfl (hb hby d10_17) rfl (XT.ii_eq_f (own_neI (own_ofNatI (by omega)) hN (by omega)))) ?_
  show Go p e below T4 (mkF m 20 #[.val (.ref ca), .val (.int (0 : Int32)), .val (.int n), .val (.ref b1), .val (.int (Int32.ofNat J)), .unset] []) _
  refine stp (fun _ => XS.aloadN X4.here hx rfl (hb hby d10_20) rfl rfl) ?_
  refine stp (fun _ => XS.iloadN X4.here hx rfl (hb hby d10_21) rfl) ?_
  refine stp (fun _ => XS.iloadN X4.here hx rfl (hb hby d10_22) rfl) ?_
  show Go p e below T4 (mkF m 23 #[.val (.ref ca), .val (.int (0 : Int32)), .val (.int n), .val (.ref b1), .val (.int (Int32.ofNat J)), .unset] [(.int n), (.int (0 : Int32)), (.ref ca)]) _
  obtain ⟨_, _, ⟨T7, L7, k7, n7⟩, -, X7, ⟨Lc7, hQ7, l7, y7, z7⟩, st7⟩ := Jvm.LawKit.callS X4 hx (y := (⟨"java/lang/StringUTF16", "toBytes", "([CII)[B"⟩ : MethodName)) hown (mvT hZ (hw _ (List.mem_of_getElem? (i := 57) rfl))) (mvT hZ (hw _ (List.mem_of_getElem? (i := 58) rfl))) (mvT hZ (hw _ (List.mem_of_getElem? (i := 52) rfl))) (mvT hZ (hw _ (List.mem_of_getElem? (i := 59) rfl))) (by decide) (backOf (W := 0) (rm_utb l Z a0 hw [] ca n cs k_ca T4.heap n0 O4 f5 S__assertionsDisabled S_HI_BYTE_SHIFT S_LO_BYTE_SHIFT hN hN1) hZ (hw _ (List.mem_of_getElem? (i := 59) rfl)) (hw _ (List.mem_of_getElem? (i := 52) rfl)) (by decide) (by decide)) (g := (mkF m 23 #[.val (.ref ca), .val (.int (0 : Int32)), .val (.int n), .val (.ref b1), .val (.int (Int32.ofNat J)), .unset] [(.int n), (.int (0 : Int32)), (.ref ca)])) rfl (by rw [hml]; rfl) (argsL := [(.ref ca), (.int (0 : Int32)), (.int n)]) (rest := []) (lenOf pd_4 rfl) rfl (by show 2 * 0 + _ ≤ _; exact Nat.le_of_eq rfl) (hb hby d10_23) (fun _ _ => ⟨rfl, rfl, (by decide : 1 + 1 ≤ _), (by decide : 10 + 20 ≤ _)⟩)
  dsimp only [Pt.U, Pt.locs, Pt.cells, Pt.slots] at X7 l7 y7 z7 st7 hQ7
  subst y7 z7
  obtain ⟨r7, k_r7, rfl, N7q, K7q, ⟨ge_r7, sz7_r7⟩, r7_0, r7_1⟩ := hQ7
  have N7 : Fr n0 L7 := by rw [l7]; exact Fr.app N4 N7q
  have ne8 : b1 ≠ r7 := Nat.ne_of_lt (Nat.lt_of_lt_of_le f6.lt sz7_r7)
  have ne9 : ca ≠ r7 := Nat.ne_of_lt (Nat.lt_of_lt_of_le f5.lt sz7_r7)
  have f10 := f5.keep K7q nin0
  have f11 := f6.keep K7q
  have sz_r7 : h0.size ≤ r7 := Nat.le_trans K4.1 sz7_r7
  have K7 : Keep h0 T7.heap [] := K4.trans K7q all0
  have O7 := O4.keep K7q all0
  refine stp st7 ?_
  show Go p e below T7 (mkF m 26 #[.val (.ref ca), .val (.int (0 : Int32)), .val (.int n), .val (.ref b1), .val (.int (Int32.ofNat J)), .unset] [(.ref r7)]) _
  refine stp (fun _ => XS.astore X7.here hx rfl (hb hby d10_26) rfl rfl (l' := #[.val (.ref ca), .val (.int (0 : Int32)), .val (.int n), .val (.ref b1), .val (.int (Int32.ofNat J)), .val (.ref r7)]) rfl) ?_
  show Go p e below T7 (mkF m 28 #[.val (.ref ca), .val (.int (0 : Int32)), .val (.int n), .val (.ref b1), .val (.int (Int32.ofNat J)), .val (.ref r7)] []) _
  refine stp (fun _ => XS.aload X7.here hx rfl (hb hby d10_28) rfl rfl) ?_
  refine stp (fun _ => XS.iload X7.here hx rfl (hb hby d10_30) rfl) ?_
  show Go p e below T7 (mkF m 32 #[.val (.ref ca), .val (.int (0 : Int32)), .val (.int n), .val (.ref b1), .val (.int (Int32.ofNat J)), .val (.ref r7)] [(.int (Int32.ofNat J)), (.ref r7)]) _
  obtain ⟨_, _, ⟨T12, L12, k12, n12⟩, -, X12, ⟨Lc12, hQ12, l12, y12, z12⟩, st12⟩ := Jvm.LawKit.callS X7 hx (y := (⟨"java/lang/StringUTF16", "getChar", "([BI)C"⟩ : MethodName)) hown (mvT hZ (hw _ (List.mem_of_getElem? (i := 73) rfl))) (mvT hZ (hw _ (List.mem_of_getElem? (i := 74) rfl))) (mvT hZ (hw _ (List.mem_of_getElem? (i := 52) rfl))) (mvT hZ (hw _ (List.mem_of_getElem? (i := 75) rfl))) (by decide) (backOf (W := 0) (rm_gc l Z a0 hw [] r7 (Int32.ofNat J) cs J k_r7 T7.heap n0 O7 r7_1 S__assertionsDisabled S_HI_BYTE_SHIFT S_LO_BYTE_SHIFT (own_ofNatI (by omega)) hJ hN1 hsm) hZ (hw _ (List.mem_of_getElem? (i := 75) rfl)) (hw _ (List.mem_of_getElem? (i := 52) rfl)) (by decide) (by decide)) (g := (mkF m 32 #[.val (.ref ca), .val (.int (0 : Int32)), .val (.int n), .val (.ref b1), .val (.int (Int32.ofNat J)), .val (.ref r7)] [(.int (Int32.ofNat J)), (.ref r7)])) rfl (by rw [hml]; rfl) (argsL := [(.ref r7), (.int (Int32.ofNat J))]) (rest := []) (lenOf pd_5 rfl) rfl (by show 2 * 0 + _ ≤ _; exact Nat.le_of_eq rfl) (hb hby d10_32) (fun _ _ => ⟨rfl, rfl, (by decide : 2 + 0 ≤ _), (by decide : 30 + 0 ≤ _)⟩)
  dsimp only [Pt.U, Pt.locs, Pt.cells, Pt.slots] at X12 l12 y12 z12 st12 hQ12
  subst y12 z12
  obtain ⟨rfl, N12q, e12⟩ := hQ12
  have N12 : Fr n0 L12 := by rw [l12]; exact Fr.app N7 N12q
  refine stp st12 ?_
  show Go p e below T12 (mkF m 35 #[.val (.ref ca), .val (.int (0 : Int32)), .val (.int n), .val (.ref b1), .val (.int (Int32.ofNat J)), .val (.ref r7)] [(.int (own_at cs J))]) _
  refine stp (fun _ => XS.sipush X12.here hx rfl (hb hby d10_35)) ?_
  show Go p e below T12 (mkF m 38 #[.val (.ref ca), .val (.int (0 : Int32)), .val (.int n), .val (.ref b1), .val (.int (Int32.ofNat J)), .val (.ref r7)] [(.int (255 : Int32)), (.int (own_at cs J))]) _
  refine stp (fun _ => XS.icmpYes X12.here hx rfl (pc0 := 38) (pc' := 54) rfl (hb hby d10_38) rfl (XT.ii_gt_t hgt) (by decide) (by decide)) ?_
  show Go p e below T12 (mkF m 54 #[.val (.ref ca), .val (.int (0 : Int32)), .val (.int n), .val (.ref b1), .val (.int (Int32.ofNat J)), .val (.ref r7)] []) _
  refine stp (fun _ => XS.aload X12.here hx rfl (hb hby d10_54) rfl rfl) ?_
  show Go p e below T12 (mkF m 56 #[.val (.ref ca), .val (.int (0 : Int32)), .val (.int n), .val (.ref b1), .val (.int (Int32.ofNat J)), .val (.ref r7)] [(.ref r7)]) _
  refine outA X12 hx hret rfl rfl (hb hby d10_56) hlk (by decide) (by decide) ?_
  rw [e12]
  exact ⟨r7, k_r7, rfl, N12, K7, ⟨ge_r7, sz_r7⟩, r7_0, r7_1⟩
theorem d17_0 : decode jdk_52_method_15_code 0 = .ok (.iload_n 1, 1) := by decide +kernel
theorem d17_1 : decode jdk_52_method_15_code 1 = .ok (.aload_n 0, 1) := by decide +kernel
theorem d17_2 : decode jdk_52_method_15_code 2 = .ok (.arraylength, 1) := by decide +kernel
theorem d17_3 : decode jdk_52_method_15_code 3 = .ok (.isub, 1) := by decide +kernel
theorem d17_4 : decode jdk_52_method_15_code 4 = .ok (.bipush 31, 2) := by decide +kernel
theorem d17_6 : decode jdk_52_method_15_code 6 = .ok (.iushr, 1) := by decide +kernel
theorem d17_7 : decode jdk_52_method_15_code 7 = .ok (.i2b, 1) := by decide +kernel
theorem d17_8 : decode jdk_52_method_15_code 8 = .ok (.ireturn, 1) := by decide +kernel
theorem ef_rm_cfa (m : MethodId) (vb : Addr) (n : Int32)  : entryFrame m #[(.ref vb), (.int n)] 2 = mkF m 0 #[.val (.ref vb), .val (.int n)] [] := by first | (simp [entryFrame, mkF, argsToLocals, Value.category]; done) | rfl
def Q_rm_cfa (Z : State) (vb : Addr) (n : Int32) (cs : List Int32) (k_vb : ClassId) (h0 : Heap) (n0 : Nat) (v : Option Value) (h : Heap) (L : List Loc) : Prop := v = some (.int (1 : Int32)) ∧ Fr n0 L ∧ h = h0
theorem pn_7_ : plainName "java/lang/StringUTF16" = true := by first | (simp [plainName, overriddenIn]; done) | decide +kernel
theorem pn_7 : plainFor (⟨"java/lang/StringUTF16", "coderFromArrayLen", "([BI)B"⟩ : MethodName) = true := plainFor_of_name pn_7_
set_option maxRecDepth 65536 in
set_option maxHeartbeats 40000000 in
theorem rm_cfa (l : Launch) (Z : State) (a0 : Array Value) (hw : ∀ d ∈ tables_1, d.before a0 Z = true) (ws : List Jvm.Cond) (vb : Addr) (n : Int32) (cs : List Int32) (k_vb : ClassId) (h0 : Heap) (n0 : Nat) (O0 : Old Z n0 h0) (V_vb : Arf Z h0 vb k_vb .byte (2 * cs.length) (fun x => (.int (own_ub cs x)))) (hN : n.toInt = (cs.length : Int)) (hN1 : cs.length ≤ 10) (h0_ : 0 < cs.length) :
    MetFree l (⟨"java/lang/StringUTF16", "coderFromArrayLen", "([BI)B"⟩ : MethodName) (head1 (Jvm.Cond.code (⟨"java/lang/StringUTF16", "coderFromArrayLen", "([BI)B"⟩ : MethodName) jdk_52_method_15_code 2 (some .byte) :: ws) ({ frames := 0, cells := 0, slots := 0, locals := 0 } : Room)) (fun args_ U => args_ = #[(.ref vb), (.int n)] ∧ Z.Warmed39 U.vm ∧ U.heap = h0) (fun _ _ _ _ _ => True) (fun _ U out_ U' => ∃ val_ loc_, out_ = .returned val_ ∧ (Q_rm_cfa Z vb n cs k_vb h0 n0) val_ U'.heap loc_ ∧ FrameEnd U out_ U' loc_ ({ frames := 0, cells := 0, slots := 0, locals := 0 } : Room).cells ({ frames := 0, cells := 0, slots := 0, locals := 0 } : Room).slots) := by
  refine start (Q := (Q_rm_cfa Z vb n cs k_vb h0 n0)) pn_7 ?_
  intro p e s m below meth c T0 X0 hx hby hml hown hnm hret hlk hZ e0
  replace hown : s.vm.findClass "java/lang/StringUTF16" = some m.cls := hown
  replace hml : c.maxLocals = 2 := hml
  refine goAt (ef_rm_cfa m vb n ) ?_
  have N0 := Fr.nil n0
  show Go p e below T0 (mkF m 0 #[.val (.ref vb), .val (.int n)] []) _
  refine stp (fun _ => XS.iloadN X0.here hx rfl (hb hby d17_0) rfl) ?_
  refine stp (fun _ => XS.aloadN X0.here hx rfl (hb hby d17_1) rfl rfl) ?_
  show Go p e below T0 (mkF m 2 #[.val (.ref vb), .val (.int n)] [(.ref vb), (.int n)]) _
  obtain ⟨cl1, Ar1, -, S1, -, -⟩ := (id V_vb)
  refine stp (fun _ => X0.arraylength hx (by rw [e0]; exact Ar1.1) (State.isArrayOf_alike hZ.alike Ar1.2.1) (g := (mkF m 2 #[.val (.ref vb), .val (.int n)] [(.ref vb), (.int n)])) rfl rfl (hb hby d17_2) _) ?_
  rw [arf_len S1 (z := (Int32.ofNat (2 * cs.length))) (own_ofNatI (by omega))]
  show Go p e below T0 (mkF m 3 #[.val (.ref vb), .val (.int n)] [(.int (Int32.ofNat (2 * cs.length))), (.int n)]) _
  refine stp (fun _ => XS.isub X0.here hx rfl (hb hby d17_3) rfl) ?_
  show Go p e below T0 (mkF m 4 #[.val (.ref vb), .val (.int n)] [(.int (n - (Int32.ofNat (2 * cs.length))))]) _
  refine stp (fun _ => XS.bipush X0.here hx rfl (hb hby d17_4)) ?_
  show Go p e below T0 (mkF m 6 #[.val (.ref vb), .val (.int n)] [(.int (31 : Int32)), (.int (n - (Int32.ofNat (2 * cs.length))))]) _
  refine stp (fun _ => XS.iushr X0.here hx rfl (hb hby d17_6) rfl) ?_
  show Go p e below T0 (mkF m 7 #[.val (.ref vb), .val (.int n)] [(.int (((n - (Int32.ofNat (2 * cs.length))).toUInt32 >>> ((31 : Int32) &&& 31).toUInt32).toInt32))]) _
  refine stp (fun _ => XS.i2b X0.here hx rfl (hb hby d17_7) rfl) ?_
  show Go p e below T0 (mkF m 8 #[.val (.ref vb), .val (.int n)] [(.int ((((n - (Int32.ofNat (2 * cs.length))).toUInt32 >>> ((31 : Int32) &&& 31).toUInt32).toInt32).toInt8.toInt32))]) _
  refine outN X0 hx (t := .byte) hret (by simp) (hb hby d17_8) hlk (by decide) (by decide) ?_
  exact ⟨own_somei (own_cfa hN hN1 h0_), N0, e0⟩
theorem d4_0 : decode jdk_42_method_149_code 0 = .ok (.aload_n 0, 1) := by decide +kernel
theorem d4_1 : decode jdk_42_method_149_code 1 = .ok (.invokespecial 1, 3) := by decide +kernel
theorem d4_4 : decode jdk_42_method_149_code 4 = .ok (.iload_n 3, 1) := by decide +kernel
theorem d4_5 : decode jdk_42_method_149_code 5 = .ok (.ifCond .ne 22, 3) := by decide +kernel
theorem d4_27 : decode jdk_42_method_149_code 27 = .ok (.getstatic 38, 3) := by decide +kernel
theorem d4_30 : decode jdk_42_method_149_code 30 = .ok (.ifCond .eq 28, 3) := by decide +kernel
theorem d4_33 : decode jdk_42_method_149_code 33 = .ok (.aload_n 1, 1) := by decide +kernel
theorem d4_34 : decode jdk_42_method_149_code 34 = .ok (.iload_n 2, 1) := by decide +kernel
theorem d4_35 : decode jdk_42_method_149_code 35 = .ok (.iload_n 3, 1) := by decide +kernel
theorem d4_36 : decode jdk_42_method_149_code 36 = .ok (.invokestatic 177, 3) := by decide +kernel
theorem d4_39 : decode jdk_42_method_149_code 39 = .ok (.astore 5, 2) := by decide +kernel
theorem d4_41 : decode jdk_42_method_149_code 41 = .ok (.aload_n 0, 1) := by decide +kernel
theorem d4_42 : decode jdk_42_method_149_code 42 = .ok (.aload 5, 2) := by decide +kernel
theorem d4_44 : decode jdk_42_method_149_code 44 = .ok (.iload_n 3, 1) := by decide +kernel
theorem d4_45 : decode jdk_42_method_149_code 45 = .ok (.invokestatic 47, 3) := by decide +kernel
theorem pd_6 : parseMethodDescriptor "([BI)B" = some ⟨[(.array .byte), .int], some .byte⟩ := by decide +kernel
theorem d4_48 : decode jdk_42_method_149_code 48 = .ok (.putfield 15, 3) := by decide +kernel
theorem d4_51 : decode jdk_42_method_149_code 51 = .ok (.aload_n 0, 1) := by decide +kernel
theorem d4_52 : decode jdk_42_method_149_code 52 = .ok (.aload 5, 2) := by decide +kernel
theorem d4_54 : decode jdk_42_method_149_code 54 = .ok (.putfield 9, 3) := by decide +kernel
theorem d4_57 : decode jdk_42_method_149_code 57 = .ok (.return_, 1) := by decide +kernel
theorem ef_rm_u4 (m : MethodId) (t : Addr) (ca : Addr) (n : Int32)  : entryFrame m #[(.ref t), (.ref ca), (.int (0 : Int32)), (.int n), .null] 6 = mkF m 0 #[.val (.ref t), .val (.ref ca), .val (.int (0 : Int32)), .val (.int n), .val .null, .unset] [] := by first | (simp [entryFrame, mkF, argsToLocals, Value.category]; done) | rfl
def Q_rm_u4 (Z : State) (t : Addr) (ca : Addr) (n : Int32) (cs : List Int32) (cz : Int32) (J : Nat) (k_ca : ClassId) (h0 : Heap) (n0 : Nat) (v : Option Value) (h : Heap) (L : List Loc) : Prop := v = none ∧ Fr n0 L ∧ Keep h0 h [t] ∧ UStr Z h t cs
theorem pn_8_ : plainName "java/lang/String" = true := by first | (simp [plainName, overriddenIn]; done) | decide +kernel
theorem pn_8 : plainFor (⟨"java/lang/String", "<init>", "([CIILjava/lang/Void;)V"⟩ : MethodName) = true := plainFor_of_name pn_8_
set_option maxRecDepth 65536 in
set_option maxHeartbeats 40000000 in
theorem rm_u4 (l : Launch) (Z : State) (a0 : Array Value) (hw : ∀ d ∈ tables_1, d.before a0 Z = true) (ws : List Jvm.Cond) (t : Addr) (ca : Addr) (n : Int32) (cs : List Int32) (cz : Int32) (J : Nat) (k_ca : ClassId) (h0 : Heap) (n0 : Nat) (O0 : Old Z n0 h0) (E_t : Exa Z h0 t "java/lang/String") (F_t_value : Fld Z h0 t "java/lang/String" "value" "[B" .null) (F_t_coder : Fld Z h0 t "java/lang/String" "coder" "B" (.int (0 : Int32))) (V_ca : Arf Z h0 ca k_ca .char cs.length (fun i => (.int (own_at cs i)))) (S_COMPACT_STRINGS : Sta Z Z.heap "java/lang/String" "COMPACT_STRINGS" "Z" (.int cz)) (S__assertionsDisabled : Sta Z Z.heap "java/lang/StringUTF16" "$assertionsDisabled" "Z" (.int (1 : Int32))) (S_HI_BYTE_SHIFT : Sta Z Z.heap "java/lang/StringUTF16" "HI_BYTE_SHIFT" "I" (.int (0 : Int32))) (S_LO_BYTE_SHIFT : Sta Z Z.heap "java/lang/StringUTF16" "LO_BYTE_SHIFT" "I" (.int (8 : Int32))) (ge_t : n0 ≤ t) (ne_ca_t : ca ≠ t) (hcz : ¬ cz = (0 : Int32)) (hN : n.toInt = (cs.length : Int)) (hN1 : cs.length ≤ 10) (hsm : ∀ c ∈ cs, ¬ c < 0 ∧ ¬ (65535 : Int32) < c) (hJ : J < cs.length) (hgt : (255 : Int32) < own_at cs J) (hle : ∀ i, i < J → ¬ (255 : Int32) < own_at cs i) :
    MetFree l (⟨"java/lang/String", "<init>", "([CIILjava/lang/Void;)V"⟩ : MethodName) (head1 (Jvm.Cond.code (⟨"java/lang/String", "<init>", "([CIILjava/lang/Void;)V"⟩ : MethodName) jdk_42_method_149_code 6 none :: ws) ({ frames := 4, cells := 2, slots := 30, locals := 57 } : Room)) (fun args_ U => args_ = #[(.ref t), (.ref ca), (.int (0 : Int32)), (.int n), .null] ∧ Z.Warmed39 U.vm ∧ U.heap = h0) (fun _ _ _ _ _ => True) (fun _ U out_ U' => ∃ val_ loc_, out_ = .returned val_ ∧ (Q_rm_u4 Z t ca n cs cz J k_ca h0 n0) val_ U'.heap loc_ ∧ FrameEnd U out_ U' loc_ ({ frames := 4, cells := 2, slots := 30, locals := 57 } : Room).cells ({ frames := 4, cells := 2, slots := 30, locals := 57 } : Room).slots) := by
  refine start (Q := (Q_rm_u4 Z t ca n cs cz J k_ca h0 n0)) pn_8 ?_
  intro p e s m below meth c T0 X0 hx hby hml hown hnm hret hlk hZ e0
  replace hown : s.vm.findClass "java/lang/String" = some m.cls := hown
  replace hml : c.maxLocals = 6 := hml
  refine goAt (ef_rm_u4 m t ca n ) ?_
  have N0 := Fr.nil n0
  show Go p e below T0 (mkF m 0 #[.val (.ref t), .val (.ref ca), .val (.int (0 : Int32)), .val (.int n), .val .null, .unset] []) _
  refine stp (fun _ => XS.aloadN X0.here hx rfl (hb hby d4_0) rfl rfl) ?_
  show Go p e below T0 (mkF m 1 #[.val (.ref t), .val (.ref ca), .val (.int (0 : Int32)), .val (.int n), .val .null, .unset] [(.ref t)]) _
  obtain ⟨T1, X1, e1, st1⟩ := initO X0 hx hZ hown (hw _ (List.mem_of_getElem? (i := 19) rfl)) (hw _ (List.mem_of_getElem? (i := 20) rfl)) (hw _ (List.mem_of_getElem? (i := 21) rfl)) e0 (g := (mkF m 1 #[.val (.ref t), .val (.ref ca), .val (.int (0 : Int32)), .val (.int n), .val .null, .unset] [(.ref t)])) rfl (by rw [hml]; rfl) rfl (hb hby d4_1) (by decide) (W := 0) (by show 2 * 0 + _ ≤ _; exact Nat.le_of_eq rfl) (by decide)
  refine stp st1 ?_
  show Go p e below T1 (mkF m 4 #[.val (.ref t), .val (.ref ca), .val (.int (0 : Int32)), .val (.int n), .val .null, .unset] []) _
  refine stp (fun _ => XS.iloadN X1.here hx rfl (hb hby d4_4) rfl) ?_
  show Go p e below T1 (mkF m 5 #[.val (.ref t), .val (.ref ca), .val (.int (0 : Int32)), .val (.int n), .val .null, .unset] [(.int n)]) _
  refine stp (fun _ => XS.ifYes X1.here hx rfl (pc0 := 5) (pc' := 27) rfl (hb hby d4_5) rfl (XT.i0_ne_t (own_uz hN (by omega))) (by decide) (by decide)) ?_
  show Go p e below T1 (mkF m 27 #[.val (.ref t), .val (.ref ca), .val (.int (0 : Int32)), .val (.int n), .val .null, .unset] []) _
  obtain ⟨T2, X2, e2, st2⟩ := getS2 X1 hx hZ hown (host := "") (Or.inl (hw _ (List.mem_of_getElem? (i := 48) rfl))) Via.refl e1 (S_COMPACT_STRINGS.ext O0.2) (g := (mkF m 27 #[.val (.ref t), .val (.ref ca), .val (.int (0 : Int32)), .val (.int n), .val .null, .unset] [])) rfl (hb hby d4_27)
  refine stp st2 ?_
  show Go p e below T2 (mkF m 30 #[.val (.ref t), .val (.ref ca), .val (.int (0 : Int32)), .val (.int n), .val .null, .unset] [(.int cz)]) _
  refine stp (fun _ => XS.ifNo X2.here hx rfl (hb hby d4_30) rfl (XT.i0_eq_f hcz)) ?_
  show Go p e below T2 (mkF m 33 #[.val (.ref t), .val (.ref ca), .val (.int (0 : Int32)), .val (.int n), .val .null, .unset] []) _
  refine stp (fun _ => XS.aloadN X2.here hx rfl (hb hby d4_33) rfl rfl) ?_
  refine stp (fun _ => XS.iloadN X2.here hx rfl (hb hby d4_34) rfl) ?_
  refine stp (fun _ => XS.iloadN X2.here hx rfl (hb hby d4_35) rfl) ?_
  show Go p e below T2 (mkF m 36 #[.val (.ref t), .val (.ref ca), .val (.int (0 : Int32)), .val (.int n), .val .null, .unset] [(.int n), (.int (0 : Int32)), (.ref ca)]) _
  obtain ⟨_, _, ⟨T3, L3, k3, n3⟩, -, X3, ⟨Lc3, hQ3, l3, y3, z3⟩, st3⟩ := Jvm.LawKit.callS X2 hx (y := (⟨"java/lang/StringUTF16", "compress", "([CII)[B"⟩ : MethodName)) hown (mvT hZ (hw _ (List.mem_of_getElem? (i := 50) rfl))) (mvT hZ (hw _ (List.mem_of_getElem? (i := 51) rfl))) (mvT hZ (hw _ (List.mem_of_getElem? (i := 52) rfl))) (mvT hZ (hw _ (List.mem_of_getElem? (i := 53) rfl))) (by decide) (backOf (W := 0) (rm_c3 l Z a0 hw [] ca n cs J k_ca h0 n0 O0 V_ca S__assertionsDisabled S_HI_BYTE_SHIFT S_LO_BYTE_SHIFT hN hN1 hsm hJ hgt hle) hZ (hw _ (List.mem_of_getElem? (i := 53) rfl)) (hw _ (List.mem_of_getElem? (i := 52) rfl)) (by decide) (by decide)) (g := (mkF m 36 #[.val (.ref t), .val (.ref ca), .val (.int (0 : Int32)), .val (.int n), .val .null, .unset] [(.int n), (.int (0 : Int32)), (.ref ca)])) rfl (by rw [hml]; rfl) (argsL := [(.ref ca), (.int (0 : Int32)), (.int n)]) (rest := []) (lenOf pd_4 rfl) rfl (by show 2 * 0 + _ ≤ _; exact Nat.le_of_eq rfl) (hb hby d4_36) (fun _ _ => ⟨rfl, e2, (by decide : 0 + 2 ≤ _), (by decide : 0 + 30 ≤ _)⟩)
  dsimp only [Pt.U, Pt.locs, Pt.cells, Pt.slots] at X3 l3 y3 z3 st3 hQ3
  subst y3 z3
  obtain ⟨r3, k_r3, rfl, N3q, K3q, ⟨ge_r3, sz3_r3⟩, r3_0, r3_1⟩ := hQ3
  have N3 : Fr n0 L3 := by rw [l3]; exact Fr.app N0 N3q
  have ne4 : ca ≠ r3 := Nat.ne_of_lt (Nat.lt_of_lt_of_le V_ca.lt sz3_r3)
  have ne5 : t ≠ r3 := Nat.ne_of_lt (Nat.lt_of_lt_of_le E_t.lt sz3_r3)
  have f6 := E_t.keep K3q
  have f7 := F_t_value.keep K3q nin0
  have f8 := F_t_coder.keep K3q nin0
  have f9 := V_ca.keep K3q nin0
  have sz_r3 : h0.size ≤ r3 := Nat.le_trans (Keep.refl h0 [t]).1 sz3_r3
  have K3 : Keep h0 T3.heap [t] := (Keep.refl h0 [t]).trans K3q all0
  have O3 := O0.keep K3q all0
  refine stp st3 ?_
  show Go p e below T3 (mkF m 39 #[.val (.ref t), .val (.ref ca), .val (.int (0 : Int32)), .val (.int n), .val .null, .unset] [(.ref r3)]) _
  refine stp (fun _ => XS.astore X3.here hx rfl (hb hby d4_39) rfl rfl (l' := #[.val (.ref t), .val (.ref ca), .val (.int (0 : Int32)), .val (.int n), .val .null, .val (.ref r3)]) rfl) ?_
  show Go p e below T3 (mkF m 41 #[.val (.ref t), .val (.ref ca), .val (.int (0 : Int32)), .val (.int n), .val .null, .val (.ref r3)] []) _
  refine stp (fun _ => XS.aloadN X3.here hx rfl (hb hby d4_41) rfl rfl) ?_
  refine stp (fun _ => XS.aload X3.here hx rfl (hb hby d4_42) rfl rfl) ?_
  refine stp (fun _ => XS.iloadN X3.here hx rfl (hb hby d4_44) rfl) ?_
  show Go p e below T3 (mkF m 45 #[.val (.ref t), .val (.ref ca), .val (.int (0 : Int32)), .val (.int n), .val .null, .val (.ref r3)] [(.int n), (.ref r3), (.ref t)]) _
  obtain ⟨_, _, ⟨T10, L10, k10, n10⟩, -, X10, ⟨Lc10, hQ10, l10, y10, z10⟩, st10⟩ := Jvm.LawKit.callS X3 hx (y := (⟨"java/lang/StringUTF16", "coderFromArrayLen", "([BI)B"⟩ : MethodName)) hown (mvT hZ (hw _ (List.mem_of_getElem? (i := 76) rfl))) (mvT hZ (hw _ (List.mem_of_getElem? (i := 77) rfl))) (mvT hZ (hw _ (List.mem_of_getElem? (i := 52) rfl))) (mvT hZ (hw _ (List.mem_of_getElem? (i := 78) rfl))) (by decide) (backOf (W := 1) (rm_cfa l Z a0 hw [] r3 n cs k_r3 T3.heap n0 O3 r3_1 hN hN1 (by omega)) hZ (hw _ (List.mem_of_getElem? (i := 78) rfl)) (hw _ (List.mem_of_getElem? (i := 52) rfl)) (by decide) (by decide)) (g := (mkF m 45 #[.val (.ref t), .val (.ref ca), .val (.int (0 : Int32)), .val (.int n), .val .null, .val (.ref r3)] [(.int n), (.ref r3), (.ref t)])) rfl (by rw [hml]; rfl) (argsL := [(.ref r3), (.int n)]) (rest := [(.ref t)]) (lenOf pd_6 rfl) rfl (by show 2 * 0 + _ ≤ _; exact Nat.le_of_eq rfl) (hb hby d4_45) (fun _ _ => ⟨rfl, rfl, (by decide : 2 + 0 ≤ _), (by decide : 30 + 0 ≤ _)⟩)
  dsimp only [Pt.U, Pt.locs, Pt.cells, Pt.slots] at X10 l10 y10 z10 st10 hQ10
  subst y10 z10
  obtain ⟨rfl, N10q, e10⟩ := hQ10
  have N10 : Fr n0 L10 := by rw [l10]; exact Fr.app N3 N10q
  refine stp st10 ?_
  show Go p e below T10 (mkF m 48 #[.val (.ref t), .val (.ref ca), .val (.int (0 : Int32)), .val (.int n), .val .null, .val (.ref r3)] [(.int (1 : Int32)), (.ref t)]) _
  obtain ⟨T11, h11, X11, e11, W11, st11⟩ := putFN X10 hx hZ hown (hw _ (List.mem_of_getElem? (i := 29) rfl)) Via.refl e10 f8 f6 (Or.inr ⟨(hw _ (List.mem_of_getElem? (i := 25) rfl)), rfl, hnm⟩) (hw _ (List.mem_of_getElem? (i := 10) rfl)) (ty := .byte) (v' := (.int (1 : Int32))) (by decide) rfl rfl (g := (mkF m 48 #[.val (.ref t), .val (.ref ca), .val (.int (0 : Int32)), .val (.int n), .val .null, .val (.ref r3)] [(.int (1 : Int32)), (.ref t)])) rfl rfl (hb hby d4_48)
  have Fw11 := f8.same W11
  have f12 := f6.wr W11
  have f13 := f7.other W11 (Or.inr (slot_ne (Or.inr (hw _ (List.mem_of_getElem? (i := 24) rfl))) (Or.inr (hw _ (List.mem_of_getElem? (i := 25) rfl))) (by decide) (t := (.array .byte)) (t' := .byte) (by decide) (by decide)))
  have f15 := f9.other W11 ne_ca_t
  have f16 := r3_0.wr W11
  have f17 := r3_1.other W11 (Ne.symm ne5)
  have K11 : Keep h0 h11 [t] := K3.wr W11 (Or.inl (List.mem_of_getElem? (i := 0) rfl))
  have O11 := O3.wr W11 ge_t
  have N11 := Fr.snoc X11 N10 ge_t
  refine stp st11 ?_
  show Go p e below T11 (mkF m 51 #[.val (.ref t), .val (.ref ca), .val (.int (0 : Int32)), .val (.int n), .val .null, .val (.ref r3)] []) _
  refine stp (fun _ => XS.aloadN X11.here hx rfl (hb hby d4_51) rfl rfl) ?_
  refine stp (fun _ => XS.aload X11.here hx rfl (hb hby d4_52) rfl rfl) ?_
  show Go p e below T11 (mkF m 54 #[.val (.ref t), .val (.ref ca), .val (.int (0 : Int32)), .val (.int n), .val .null, .val (.ref r3)] [(.ref r3), (.ref t)]) _
  obtain ⟨T18, h18, X18, e18, W18, st18⟩ := putF X11 hx hZ hown (host := "") (Or.inl (hw _ (List.mem_of_getElem? (i := 28) rfl))) Via.refl e11 f13 f12 (Or.inr ⟨(hw _ (List.mem_of_getElem? (i := 24) rfl)), rfl, hnm⟩) (hw _ (List.mem_of_getElem? (i := 10) rfl)) (ty := (.array .byte)) (by decide) rfl rfl (g := (mkF m 54 #[.val (.ref t), .val (.ref ca), .val (.int (0 : Int32)), .val (.int n), .val .null, .val (.ref r3)] [(.ref r3), (.ref t)])) rfl rfl (hb hby d4_54)
  have Fw18 := f13.same W18
  have f19 := f12.wr W18
  have f21 := Fw11.other W18 (Or.inr (slot_ne (Or.inr (hw _ (List.mem_of_getElem? (i := 25) rfl))) (Or.inr (hw _ (List.mem_of_getElem? (i := 24) rfl))) (by decide) (t := .byte) (t' := (.array .byte)) (by decide) (by decide)))
  have f22 := f15.other W18 ne_ca_t
  have f23 := f16.wr W18
  have f24 := f17.other W18 (Ne.symm ne5)
  have K18 : Keep h0 h18 [t] := K11.wr W18 (Or.inl (List.mem_of_getElem? (i := 0) rfl))
  have O18 := O11.wr W18 ge_t
  have N18 := Fr.snoc X18 N11 ge_t
  refine stp st18 ?_
  show Go p e below T18 (mkF m 57 #[.val (.ref t), .val (.ref ca), .val (.int (0 : Int32)), .val (.int n), .val .null, .val (.ref r3)] []) _
  have Q25 : UStr Z h18 t cs := UStr.of16 f19 Fw18 f21 f24 hsm hN1
  refine outV X18 hx hret (hb hby d4_57) hlk (by decide) (by decide) ?_
  rw [e18]
  exact ⟨rfl, N18, K18, Q25⟩
theorem d11_44 : decode jdk_52_method_21_code 44 = .ok (.iload 4, 2) := by decide +kernel
theorem d11_46 : decode jdk_52_method_21_code 46 = .ok (.ireturn, 1) := by decide +kernel
theorem ef_rm_c5a (m : MethodId) (ca : Addr) (vb : Addr) (n : Int32)  : entryFrame m #[(.ref ca), (.int (0 : Int32)), (.ref vb), (.int (0 : Int32)), (.int n)] 7 = mkF m 0 #[.val (.ref ca), .val (.int (0 : Int32)), .val (.ref vb), .val (.int (0 : Int32)), .val (.int n), .unset, .unset] [] := by first | (simp [entryFrame, mkF, argsToLocals, Value.category]; done) | rfl
def Q_rm_c5a (Z : State) (ca : Addr) (vb : Addr) (n : Int32) (cs : List Int32) (g : Nat → Int32) (k_ca : ClassId) (k_vb : ClassId) (h0 : Heap) (n0 : Nat) (v : Option Value) (h : Heap) (L : List Loc) : Prop := v = some (.int n) ∧ Fr n0 L ∧ Keep h0 h [vb] ∧ Arf Z h vb k_vb .byte cs.length (fun i => (.int (own_by cs i)))
set_option maxRecDepth 65536 in
set_option maxHeartbeats 40000000 in
theorem rm_c5a (l : Launch) (Z : State) (a0 : Array Value) (hw : ∀ d ∈ tables_1, d.before a0 Z = true) (ws : List Jvm.Cond) (ca : Addr) (vb : Addr) (n : Int32) (cs : List Int32) (g : Nat → Int32) (k_ca : ClassId) (k_vb : ClassId) (h0 : Heap) (n0 : Nat) (O0 : Old Z n0 h0) (V_ca : Arf Z h0 ca k_ca .char cs.length (fun i => (.int (own_at cs i)))) (V_vb : Arf Z h0 vb k_vb .byte cs.length (fun x => (.int (g x)))) (ge_vb : n0 ≤ vb) (ne_ca_vb : ca ≠ vb) (hN : n.toInt = (cs.length : Int)) (hN1 : cs.length ≤ 10) (hall : ∀ i, i < cs.length → ¬ (255 : Int32) < own_at cs i) :
    MetFree l (⟨"java/lang/StringUTF16", "compress", "([CI[BII)I"⟩ : MethodName) (head1 (Jvm.Cond.code (⟨"java/lang/StringUTF16", "compress", "([CI[BII)I"⟩ : MethodName) jdk_52_method_21_code 7 (some .int) :: ws) ({ frames := 0, cells := 0, slots := 0, locals := 0 } : Room)) (fun args_ U => args_ = #[(.ref ca), (.int (0 : Int32)), (.ref vb), (.int (0 : Int32)), (.int n)] ∧ Z.Warmed39 U.vm ∧ U.heap = h0) (fun _ _ _ _ _ => True) (fun _ U out_ U' => ∃ val_ loc_, out_ = .returned val_ ∧ (Q_rm_c5a Z ca vb n cs g k_ca k_vb h0 n0) val_ U'.heap loc_ ∧ FrameEnd U out_ U' loc_ ({ frames := 0, cells := 0, slots := 0, locals := 0 } : Room).cells ({ frames := 0, cells := 0, slots := 0, locals := 0 } : Room).slots) := by
  refine start (Q := (Q_rm_c5a Z ca vb n cs g k_ca k_vb h0 n0)) pn_4 ?_
  intro p e s m below meth c T0 X0 hx hby hml hown hnm hret hlk hZ e0
  replace hown : s.vm.findClass "java/lang/StringUTF16" = some m.cls := hown
  replace hml : c.maxLocals = 7 := hml
  refine goAt (ef_rm_c5a m ca vb n ) ?_
  have N0 := Fr.nil n0
  show Go p e below T0 (mkF m 0 #[.val (.ref ca), .val (.int (0 : Int32)), .val (.ref vb), .val (.int (0 : Int32)), .val (.int n), .unset, .unset] []) _
  refine stp (fun _ => XS.iconst X0.here hx rfl (hb hby d11_0)) ?_
  show Go p e below T0 (mkF m 1 #[.val (.ref ca), .val (.int (0 : Int32)), .val (.ref vb), .val (.int (0 : Int32)), .val (.int n), .unset, .unset] [(.int (0 : Int32))]) _
  refine stp (fun _ => XS.istore X0.here hx rfl (hb hby d11_1) rfl (l' := #[.val (.ref ca), .val (.int (0 : Int32)), .val (.ref vb), .val (.int (0 : Int32)), .val (.int n), .val (.int (0 : Int32)), .unset]) rfl) ?_
  show Go p e below T0 (mkF m 3 #[.val (.ref ca), .val (.int (0 : Int32)), .val (.ref vb), .val (.int (0 : Int32)), .val (.int n), .val (.int (0 : Int32)), .unset] []) _
  have G0 : Arf Z h0 vb k_vb .byte cs.length (fun x => (.int (own_byj cs g 0 x))) := V_vb.congr (fun x _ => congrArg Value.int (own_byj0 cs g x))
  have loop3 : ∀ (d : Nat), ∀ (j : Nat) (i1 : Int32) (i3 : Int32) (i5 : Int32) (s6 : Slot), j + d = cs.length → ∀ (T : State) (locs : List Loc) (hA : Heap) (X : Stand p l e ({ frames := 0, cells := 0, slots := 0, locals := 0 } : Room) s m #[(.ref ca), (.int (0 : Int32)), (.ref vb), (.int (0 : Int32)), (.int n)] below meth c T locs 0 0) (eA : T.heap = hA) (NA : Fr n0 locs) (OA : Old Z n0 hA) (KA : Keep h0 hA [vb]) (FA0 : Arf Z hA ca k_ca .char cs.length (fun i => (.int (own_at cs i)))) (FA1 : Arf Z hA vb k_vb .byte cs.length (fun x => (.int (own_byj cs g j x)))), i1.toInt = (j : Int) → i3.toInt = (j : Int) → i5.toInt = (j : Int) → (s6 = .unset ∨ ∃ x, s6 = .val (.int x)) → Go p e below T (mkF m 3 #[.val (.ref ca), .val (.int i1), .val (.ref vb), .val (.int i3), .val (.int n), .val (.int i5), s6] []) (Po s (Q_rm_c5a Z ca vb n cs g k_ca k_vb h0 n0) ({ frames := 0, cells := 0, slots := 0, locals := 0 } : Room).cells ({ frames := 0, cells := 0, slots := 0, locals := 0 } : Room).slots) := by
    intro d
    induction d with
    | zero =>
      intro j i1 i3 i5 s6 hd_ T locs hA X eA NA OA KA FA0 FA1 hi1 hi3 hi5 hs6
      have hjN : j = cs.length := hd_
      show Go p e below T (mkF m 3 #[.val (.ref ca), .val (.int i1), .val (.ref vb), .val (.int i3), .val (.int n), .val (.int i5), s6] []) _
      refine stp (fun _ => XS.iload X.here hx rfl (hb hby d11_3) rfl) ?_
      refine stp (fun _ => XS.iload X.here hx rfl (hb hby d11_5) rfl) ?_
      show Go p e below T (mkF m 7 #[.val (.ref ca), .val (.int i1), .val (.ref vb), .val (.int i3), .val (.int n), .val (.int i5), s6] [(.int n), (.int i5)]) _
      refine stp (fun _ => XS.icmpYes X.here hx rfl (pc0 := 7) (pc' := 44) rfl (hb hby d11_7) rfl (XT.ii_ge_t (own_geI hi5 hN (by omega))) (by decide) (by decide)) ?_
      show Go p e below T (mkF m 44 #[.val (.ref ca), .val (.int i1), .val (.ref vb), .val (.int i3), .val (.int n), .val (.int i5), s6] []) _
      have G2 : Arf Z hA vb k_vb .byte cs.length (fun i => (.int (own_by cs i))) := FA1.congr (fun x hx_ => congrArg Value.int (by rw [hjN]; exact own_byjN hx_))
      refine stp (fun _ => XS.iload X.here hx rfl (hb hby d11_44) rfl) ?_
      show Go p e below T (mkF m 46 #[.val (.ref ca), .val (.int i1), .val (.ref vb), .val (.int i3), .val (.int n), .val (.int i5), s6] [(.int n)]) _
      refine outI X hx hret (hb hby d11_46) hlk (by decide) (by decide) ?_
      rw [eA]
      exact ⟨rfl, NA, KA, G2⟩
    | succ d ih =>
      intro j i1 i3 i5 s6 hd_ T locs hA X eA NA OA KA FA0 FA1 hi1 hi3 hi5 hs6
      have hjl : j < cs.length := by omega
      show Go p e below T (mkF m 3 #[.val (.ref ca), .val (.int i1), .val (.ref vb), .val (.int i3), .val (.int n), .val (.int i5), s6] []) _
      refine stp (fun _ => XS.iload X.here hx rfl (hb hby d11_3) rfl) ?_
      refine stp (fun _ => XS.iload X.here hx rfl (hb hby d11_5) rfl) ?_
      show Go p e below T (mkF m 7 #[.val (.ref ca), .val (.int i1), .val (.ref vb), .val (.int i3), .val (.int n), .val (.int i5), s6] [(.int n), (.int i5)]) _
      refine stp (fun _ => XS.icmpNo X.here hx rfl (hb hby d11_7) rfl (XT.ii_ge_f (own_ltI hi5 hN hjl))) ?_
      show Go p e below T (mkF m 10 #[.val (.ref ca), .val (.int i1), .val (.ref vb), .val (.int i3), .val (.int n), .val (.int i5), s6] []) _
      refine stp (fun _ => XS.aloadN X.here hx rfl (hb hby d11_10) rfl rfl) ?_
      refine stp (fun _ => XS.iloadN X.here hx rfl (hb hby d11_11) rfl) ?_
      show Go p e below T (mkF m 12 #[.val (.ref ca), .val (.int i1), .val (.ref vb), .val (.int i3), .val (.int n), .val (.int i5), s6] [(.int i1), (.ref ca)]) _
      obtain ⟨cl1, Ar1, q1, S1, H1, G1⟩ := (id FA0)
      have in1 : ¬ (i1 < 0 ∨ cl1.slots.size ≤ (i1).toNatClampNeg) := arf_in S1 hi1 hjl
      have at1 : cl1.slots[(i1).toNatClampNeg]? = some (.int (own_at cs j)) := arf_at H1 hi1 hjl
      refine stp (fun _ => X.caload hx (j := i1) (v := (.int (own_at cs j))) (by rw [eA]; exact Ar1.1) (State.isArrayOf_alike hZ.alike Ar1.2.1) Ar1.2.2 in1 at1 (g := (mkF m 12 #[.val (.ref ca), .val (.int i1), .val (.ref vb), .val (.int i3), .val (.int n), .val (.int i5), s6] [(.int i1), (.ref ca)])) rfl rfl (hb hby d11_12) _) ?_
      show Go p e below T (mkF m 13 #[.val (.ref ca), .val (.int i1), .val (.ref vb), .val (.int i3), .val (.int n), .val (.int i5), s6] [(.int (own_at cs j))]) _
      refine stp (fun _ => XS.istore X.here hx rfl (hb hby d11_13) rfl (l' := #[.val (.ref ca), .val (.int i1), .val (.ref vb), .val (.int i3), .val (.int n), .val (.int i5), .val (.int (own_at cs j))]) (by rcases hs6 with h | ⟨x, h⟩ <;> subst h <;> rfl)) ?_
      show Go p e below T (mkF m 15 #[.val (.ref ca), .val (.int i1), .val (.ref vb), .val (.int i3), .val (.int n), .val (.int i5), .val (.int (own_at cs j))] []) _
      refine stp (fun _ => XS.iload X.here hx rfl (hb hby d11_15) rfl) ?_
      refine stp (fun _ => XS.sipush X.here hx rfl (hb hby d11_17)) ?_
      show Go p e below T (mkF m 20 #[.val (.ref ca), .val (.int i1), .val (.ref vb), .val (.int i3), .val (.int n), .val (.int i5), .val (.int (own_at cs j))] [(.int (255 : Int32)), (.int (own_at cs j))]) _
      refine stp (fun _ => XS.icmpYes X.here hx rfl (pc0 := 20) (pc' := 26) rfl (hb hby d11_20) rfl (XT.ii_le_t (hall j hjl)) (by decide) (by decide)) ?_
      show Go p e below T (mkF m 26 #[.val (.ref ca), .val (.int i1), .val (.ref vb), .val (.int i3), .val (.int n), .val (.int i5), .val (.int (own_at cs j))] []) _
      refine stp (fun _ => XS.aloadN X.here hx rfl (hb hby d11_26) rfl rfl) ?_
      refine stp (fun _ => XS.iloadN X.here hx rfl (hb hby d11_27) rfl) ?_
      refine stp (fun _ => XS.iload X.here hx rfl (hb hby d11_28) rfl) ?_
      show Go p e below T (mkF m 30 #[.val (.ref ca), .val (.int i1), .val (.ref vb), .val (.int i3), .val (.int n), .val (.int i5), .val (.int (own_at cs j))] [(.int (own_at cs j)), (.int i3), (.ref vb)]) _
      refine stp (fun _ => XS.i2b X.here hx rfl (hb hby d11_30) rfl) ?_
      show Go p e below T (mkF m 31 #[.val (.ref ca), .val (.int i1), .val (.ref vb), .val (.int i3), .val (.int n), .val (.int i5), .val (.int (own_at cs j))] [(.int ((own_at cs j).toInt8.toInt32)), (.int i3), (.ref vb)]) _
      obtain ⟨cl2, Ar2, q2, S2, H2, G2⟩ := (id FA1)
      have in2 : ¬ (i3 < 0 ∨ cl2.slots.size ≤ (i3).toNatClampNeg) := arf_in S2 hi3 hjl
      obtain ⟨T2, h2, X2, e2, W2, st2⟩ := stB X hx hZ eA Ar2 (j := i3) in2 (g := (mkF m 31 #[.val (.ref ca), .val (.int i1), .val (.ref vb), .val (.int i3), .val (.int n), .val (.int i5), .val (.int (own_at cs j))] [(.int ((own_at cs j).toInt8.toInt32)), (.int i3), (.ref vb)])) rfl rfl (hb hby d11_31)
      have V2 := Arf.set Ar2 q2 S2 H2 G2 (ow_fits_byte byte_twice) (arf_ix hi3 ▸ (ow_wr_byte byte_twice W2)) hjl
      replace V2 : Arf Z h2 vb k_vb .byte cs.length (fun x => (.int (own_byj cs g (j + 1) x))) := V2.congr (fun x _ => own_byjS cs g j x)
      have f3 := FA0.other W2 ne_ca_vb
      have K2 : Keep h0 h2 [vb] := KA.wr W2 (Or.inl (List.mem_of_getElem? (i := 0) rfl))
      have O2 := OA.wr W2 ge_vb
      have N2 := Fr.snoc X2 NA ge_vb
      refine stp st2 ?_
      show Go p e below T2 (mkF m 32 #[.val (.ref ca), .val (.int i1), .val (.ref vb), .val (.int i3), .val (.int n), .val (.int i5), .val (.int (own_at cs j))] []) _
      refine stp (fun _ => XS.iinc X2.here hx rfl (hb hby d11_32) rfl (l' := #[.val (.ref ca), .val (.int (i1 + (1 : Int32))), .val (.ref vb), .val (.int i3), .val (.int n), .val (.int i5), .val (.int (own_at cs j))]) rfl) ?_
      show Go p e below T2 (mkF m 35 #[.val (.ref ca), .val (.int (i1 + (1 : Int32))), .val (.ref vb), .val (.int i3), .val (.int n), .val (.int i5), .val (.int (own_at cs j))] []) _
      refine stp (fun _ => XS.iinc X2.here hx rfl (hb hby d11_35) rfl (l' := #[.val (.ref ca), .val (.int (i1 + (1 : Int32))), .val (.ref vb), .val (.int (i3 + (1 : Int32))), .val (.int n), .val (.int i5), .val (.int (own_at cs j))]) rfl) ?_
      show Go p e below T2 (mkF m 38 #[.val (.ref ca), .val (.int (i1 + (1 : Int32))), .val (.ref vb), .val (.int (i3 + (1 : Int32))), .val (.int n), .val (.int i5), .val (.int (own_at cs j))] []) _
      refine stp (fun _ => XS.iinc X2.here hx rfl (hb hby d11_38) rfl (l' := #[.val (.ref ca), .val (.int (i1 + (1 : Int32))), .val (.ref vb), .val (.int (i3 + (1 : Int32))), .val (.int n), .val (.int (i5 + (1 : Int32))), .val (.int (own_at cs j))]) rfl) ?_
      show Go p e below T2 (mkF m 41 #[.val (.ref ca), .val (.int (i1 + (1 : Int32))), .val (.ref vb), .val (.int (i3 + (1 : Int32))), .val (.int n), .val (.int (i5 + (1 : Int32))), .val (.int (own_at cs j))] []) _
      refine stp (fun _ => XS.goto X2.here hx rfl (pc0 := 41) (pc' := 3) rfl (hb hby d11_41) (by decide) (by decide)) ?_
      show Go p e below T2 (mkF m 3 #[.val (.ref ca), .val (.int (i1 + (1 : Int32))), .val (.ref vb), .val (.int (i3 + (1 : Int32))), .val (.int n), .val (.int (i5 + (1 : Int32))), .val (.int (own_at cs j))] []) _
      exact ih (j + 1) (i1 + (1 : Int32)) (i3 + (1 : Int32)) (i5 + (1 : Int32)) (.val (.int (own_at cs j))) (by omega) T2 _ h2 X2 e2 N2 O2 K2 f3 V2 (own_incI hi1 (by omega)) (own_incI hi3 (by omega)) (own_incI hi5 (by omega)) (Or.inr ⟨_, rfl⟩)
  exact loop3 _ 0 (0 : Int32) (0 : Int32) (0 : Int32) .unset (Nat.zero_add _) T0 _ h0 X0 e0 N0 O0 (Keep.refl h0 [vb]) V_ca G0 rfl rfl rfl (Or.inl rfl)
theorem d10_57 : decode jdk_52_method_16_code 57 = .ok (.aload_n 3, 1) := by decide +kernel
theorem d10_58 : decode jdk_52_method_16_code 58 = .ok (.areturn, 1) := by decide +kernel
theorem ef_rm_c3a (m : MethodId) (ca : Addr) (n : Int32)  : entryFrame m #[(.ref ca), (.int (0 : Int32)), (.int n)] 6 = mkF m 0 #[.val (.ref ca), .val (.int (0 : Int32)), .val (.int n), .unset, .unset, .unset] [] := by first | (simp [entryFrame, mkF, argsToLocals, Value.category]; done) | rfl
def Q_rm_c3a (Z : State) (ca : Addr) (n : Int32) (cs : List Int32) (k_ca : ClassId) (h0 : Heap) (n0 : Nat) (v : Option Value) (h : Heap) (L : List Loc) : Prop := ∃ (r : Addr) (k_r : ClassId), v = some (.ref r) ∧ Fr n0 L ∧ Keep h0 h [] ∧ (n0 ≤ r ∧ h0.size ≤ r) ∧ Exa Z h r "[B" ∧ Arf Z h r k_r .byte cs.length (fun i => (.int (own_by cs i)))
set_option maxRecDepth 65536 in
set_option maxHeartbeats 40000000 in
theorem rm_c3a (l : Launch) (Z : State) (a0 : Array Value) (hw : ∀ d ∈ tables_1, d.before a0 Z = true) (ws : List Jvm.Cond) (ca : Addr) (n : Int32) (cs : List Int32) (k_ca : ClassId) (h0 : Heap) (n0 : Nat) (O0 : Old Z n0 h0) (V_ca : Arf Z h0 ca k_ca .char cs.length (fun i => (.int (own_at cs i)))) (hN : n.toInt = (cs.length : Int)) (hN1 : cs.length ≤ 10) (hall : ∀ i, i < cs.length → ¬ (255 : Int32) < own_at cs i) :
    MetFree l (⟨"java/lang/StringUTF16", "compress", "([CII)[B"⟩ : MethodName) (head1 (Jvm.Cond.code (⟨"java/lang/StringUTF16", "compress", "([CII)[B"⟩ : MethodName) jdk_52_method_16_code 6 (some (.array .byte)) :: ws) ({ frames := 1, cells := 1, slots := 10, locals := 18 } : Room)) (fun args_ U => args_ = #[(.ref ca), (.int (0 : Int32)), (.int n)] ∧ Z.Warmed39 U.vm ∧ U.heap = h0) (fun _ _ _ _ _ => True) (fun _ U out_ U' => ∃ val_ loc_, out_ = .returned val_ ∧ (Q_rm_c3a Z ca n cs k_ca h0 n0) val_ U'.heap loc_ ∧ FrameEnd U out_ U' loc_ ({ frames := 1, cells := 1, slots := 10, locals := 18 } : Room).cells ({ frames := 1, cells := 1, slots := 10, locals := 18 } : Room).slots) := by
  refine start (Q := (Q_rm_c3a Z ca n cs k_ca h0 n0)) pn_6 ?_
  intro p e s m below meth c T0 X0 hx hby hml hown hnm hret hlk hZ e0
  replace hown : s.vm.findClass "java/lang/StringUTF16" = some m.cls := hown
  replace hml : c.maxLocals = 6 := hml
  refine goAt (ef_rm_c3a m ca n ) ?_
  have N0 := Fr.nil n0
  show Go p e below T0 (mkF m 0 #[.val (.ref ca), .val (.int (0 : Int32)), .val (.int n), .unset, .unset, .unset] []) _
  refine stp (fun _ => XS.iloadN X0.here hx rfl (hb hby d10_0) rfl) ?_
  show Go p e below T0 (mkF m 1 #[.val (.ref ca), .val (.int (0 : Int32)), .val (.int n), .unset, .unset, .unset] [(.int n)]) _
  obtain ⟨T1, h1, k1, X1, e1, E1, A1, B1, st1⟩ := newPE X0 hx hZ (hw _ (List.mem_of_getElem? (i := 23) rfl)) e0 (g := (mkF m 1 #[.val (.ref ca), .val (.int (0 : Int32)), .val (.int n), .unset, .unset, .unset] [(.int n)])) rfl (hb hby d10_1) rfl (own_u0 hN) (cap := 10) (by rw [arf_ix hN]; exact hN1) (by decide) (by decide) (by decide) (ad := "[B") (by decide)
  obtain ⟨b1, g1⟩ : ∃ z, z = h0.size := ⟨_, rfl⟩
  rw [← g1] at A1 B1 st1
  have ne2 : ca ≠ b1 := Nat.ne_of_lt (Nat.lt_of_lt_of_le V_ca.lt (Nat.le_of_eq g1.symm))
  have sz_b1 : h0.size ≤ b1 := Nat.le_trans (Keep.refl h0 []).1 (Nat.le_of_eq g1.symm)
  have ge_b1 : n0 ≤ b1 := Nat.le_trans (old_le O0) (Nat.le_of_eq g1.symm)
  have f3 := V_ca.ext E1
  have K1 : Keep h0 h1 [] := (Keep.refl h0 []).ext E1
  have O1 := O0.ext E1
  have V1 : Arf Z h1 b1 k1 .byte cs.length (fun _ => (.int (0 : Int32))) := Arf.new A1 (own_u0 hN) (arf_ix hN)
  refine stp st1 ?_
  show Go p e below T1 (mkF m 3 #[.val (.ref ca), .val (.int (0 : Int32)), .val (.int n), .unset, .unset, .unset] [(.ref b1)]) _
  refine stp (fun _ => XS.astoreN X1.here hx rfl (hb hby d10_3) rfl rfl (l' := #[.val (.ref ca), .val (.int (0 : Int32)), .val (.int n), .val (.ref b1), .unset, .unset]) rfl) ?_
  show Go p e below T1 (mkF m 4 #[.val (.ref ca), .val (.int (0 : Int32)), .val (.int n), .val (.ref b1), .unset, .unset] []) _
  refine stp (fun _ => XS.aloadN X1.here hx rfl (hb hby d10_4) rfl rfl) ?_
  refine stp (fun _ => XS.iloadN X1.here hx rfl (hb hby d10_5) rfl) ?_
  refine stp (fun _ => XS.aloadN X1.here hx rfl (hb hby d10_6) rfl rfl) ?_
  refine stp (fun _ => XS.iconst X1.here hx rfl (hb hby d10_7)) ?_
  refine stp (fun _ => XS.iloadN X1.here hx rfl (hb hby d10_8) rfl) ?_
  show Go p e below T1 (mkF m 9 #[.val (.ref ca), .val (.int (0 : Int32)), .val (.int n), .val (.ref b1), .unset, .unset] [(.int n), (.int (0 : Int32)), (.ref b1), (.int (0 : Int32)), (.ref ca)]) _
  obtain ⟨_, _, ⟨T4, L4, k4, n4⟩, -, X4, ⟨Lc4, hQ4, l4, y4, z4⟩, st4⟩ := Jvm.LawKit.callS X1 hx (y := (⟨"java/lang/StringUTF16", "compress", "([CI[BII)I"⟩ : MethodName)) hown (mvT hZ (hw _ (List.mem_of_getElem? (i := 54) rfl))) (mvT hZ (hw _ (List.mem_of_getElem? (i := 55) rfl))) (mvT hZ (hw _ (List.mem_of_getElem? (i := 52) rfl))) (mvT hZ (hw _ (List.mem_of_getElem? (i := 56) rfl))) (by decide) (backOf (W := 0) (rm_c5a l Z a0 hw [] ca b1 n cs (fun _ => (0 : Int32)) k_ca k1 h1 n0 O1 f3 V1 ge_b1 ne2 hN hN1 hall) hZ (hw _ (List.mem_of_getElem? (i := 56) rfl)) (hw _ (List.mem_of_getElem? (i := 52) rfl)) (by decide) (by decide)) (g := (mkF m 9 #[.val (.ref ca), .val (.int (0 : Int32)), .val (.int n), .val (.ref b1), .unset, .unset] [(.int n), (.int (0 : Int32)), (.ref b1), (.int (0 : Int32)), (.ref ca)])) rfl (by rw [hml]; rfl) (argsL := [(.ref ca), (.int (0 : Int32)), (.ref b1), (.int (0 : Int32)), (.int n)]) (rest := []) (lenOf pd_3 rfl) rfl (by show 2 * 0 + _ ≤ _; exact Nat.le_of_eq rfl) (hb hby d10_9) (fun _ _ => ⟨rfl, e1, (by decide : 1 + 0 ≤ _), (by decide : 10 + 0 ≤ _)⟩)
  dsimp only [Pt.U, Pt.locs, Pt.cells, Pt.slots] at X4 l4 y4 z4 st4 hQ4
  subst y4 z4
  obtain ⟨rfl, N4q, K4q, r4_0⟩ := hQ4
  have N4 : Fr n0 L4 := by rw [l4]; exact Fr.app N0 N4q
  have f5 := f3.keep K4q (ninS ne2 nin0)
  have f6 := B1.keep K4q
  have K4 : Keep h0 T4.heap [] := K1.trans K4q (allS (Or.inr sz_b1) all0)
  have O4 := O1.keep K4q (allS ge_b1 all0)
  refine stp st4 ?_
  show Go p e below T4 (mkF m 12 #[.val (.ref ca), .val (.int (0 : Int32)), .val (.int n), .val (.ref b1), .unset, .unset] [(.int n)]) _
  refine stp (fun _ => XS.istore X4.here hx rfl (hb hby d10_12) rfl (l' := #[.val (.ref ca), .val (.int (0 : Int32)), .val (.int n), .val (.ref b1), .val (.int n), .unset]) rfl) ?_
  show Go p e below T4 (mkF m 14 #[.val (.ref ca), .val (.int (0 : Int32)), .val (.int n), .val (.ref b1), .val (.int n), .unset] []) _
  refine stp (fun _ => XS.iload X4.here hx rfl (hb hby d10_14) rfl) ?_
  refine stp (fun _ => XS.iloadN X4.here hx rfl (hb hby d10_16) rfl) ?_
  show Go p e below T4 (mkF m 17 #[.val (.ref ca), .val (.int (0 : Int32)), .val (.int n), .val (.ref b1), .val (.int n), .unset] [(.int n), (.int n)]) _
  refine stp (fun _ => XS.icmpYes X4.here hx rfl (pc0 := 17) (pc' := 57) rfl (hb hby d10_17) rfl (XT.ii_eq_t rfl) (by decide) (by decide)) ?_
  show Go p e below T4 (mkF m 57 #[.val (.ref ca), .val (.int (0 : Int32)), .val (.int n), .val (.ref b1), .val (.int n), .unset] []) _
  refine stp (fun _ => XS.aloadN X4.here hx rfl (hb hby d10_57) rfl rfl) ?_
  show Go p e below T4 (mkF m 58 #[.val (.ref ca), .val (.int (0 : Int32)), .val (.int n), .val (.ref b1), .val (.int n), .unset] [(.ref b1)]) _
  refine outA X4 hx hret rfl rfl (hb hby d10_58) hlk (by decide) (by decide) ?_
  exact ⟨b1, k1, rfl, N4, K4, ⟨ge_b1, sz_b1⟩, f6, r4_0⟩
theorem ef_rm_cfaa (m : MethodId) (vb : Addr) (n : Int32)  : entryFrame m #[(.ref vb), (.int n)] 2 = mkF m 0 #[.val (.ref vb), .val (.int n)] [] := by first | (simp [entryFrame, mkF, argsToLocals, Value.category]; done) | rfl
def Q_rm_cfaa (Z : State) (vb : Addr) (n : Int32) (cs : List Int32) (k_vb : ClassId) (h0 : Heap) (n0 : Nat) (v : Option Value) (h : Heap) (L : List Loc) : Prop := v = some (.int (0 : Int32)) ∧ Fr n0 L ∧ h = h0
set_option maxRecDepth 65536 in
set_option maxHeartbeats 40000000 in
theorem rm_cfaa (l : Launch) (Z : State) (a0 : Array Value) (hw : ∀ d ∈ tables_1, d.before a0 Z = true) (ws : List Jvm.Cond) (vb : Addr) (n : Int32) (cs : List Int32) (k_vb : ClassId) (h0 : Heap) (n0 : Nat) (O0 : Old Z n0 h0) (V_vb : Arf Z h0 vb k_vb .byte cs.length (fun i => (.int (own_by cs i)))) (hN : n.toInt = (cs.length : Int)) (hN1 : cs.length ≤ 10) :
    MetFree l (⟨"java/lang/StringUTF16", "coderFromArrayLen", "([BI)B"⟩ : MethodName) (head1 (Jvm.Cond.code (⟨"java/lang/StringUTF16", "coderFromArrayLen", "([BI)B"⟩ : MethodName) jdk_52_method_15_code 2 (some .byte) :: ws) ({ frames := 0, cells := 0, slots := 0, locals := 0 } : Room)) (fun args_ U => args_ = #[(.ref vb), (.int n)] ∧ Z.Warmed39 U.vm ∧ U.heap = h0) (fun _ _ _ _ _ => True) (fun _ U out_ U' => ∃ val_ loc_, out_ = .returned val_ ∧ (Q_rm_cfaa Z vb n cs k_vb h0 n0) val_ U'.heap loc_ ∧ FrameEnd U out_ U' loc_ ({ frames := 0, cells := 0, slots := 0, locals := 0 } : Room).cells ({ frames := 0, cells := 0, slots := 0, locals := 0 } : Room).slots) := by
  refine start (Q := (Q_rm_cfaa Z vb n cs k_vb h0 n0)) pn_7 ?_
  intro p e s m below meth c T0 X0 hx hby hml hown hnm hret hlk hZ e0
  replace hown : s.vm.findClass "java/lang/StringUTF16" = some m.cls := hown
  replace hml : c.maxLocals = 2 := hml
  refine goAt (ef_rm_cfaa m vb n ) ?_
  have N0 := Fr.nil n0
  show Go p e below T0 (mkF m 0 #[.val (.ref vb), .val (.int n)] []) _
  refine stp (fun _ => XS.iloadN X0.here hx rfl (hb hby d17_0) rfl) ?_
  refine stp (fun _ => XS.aloadN X0.here hx rfl (hb hby d17_1) rfl rfl) ?_
  show Go p e below T0 (mkF m 2 #[.val (.ref vb), .val (.int n)] [(.ref vb), (.int n)]) _
  obtain ⟨cl1, Ar1, -, S1, -, -⟩ := (id V_vb)
  refine stp (fun _ => X0.arraylength hx (by rw [e0]; exact Ar1.1) (State.isArrayOf_alike hZ.alike Ar1.2.1) (g := (mkF m 2 #[.val (.ref vb), .val (.int n)] [(.ref vb), (.int n)])) rfl rfl (hb hby d17_2) _) ?_
  rw [arf_len S1 (z := (Int32.ofNat cs.length)) (own_ofNatI (by omega))]
  show Go p e below T0 (mkF m 3 #[.val (.ref vb), .val (.int n)] [(.int (Int32.ofNat cs.length)), (.int n)]) _
  refine stp (fun _ => XS.isub X0.here hx rfl (hb hby d17_3) rfl) ?_
  show Go p e below T0 (mkF m 4 #[.val (.ref vb), .val (.int n)] [(.int (n - (Int32.ofNat cs.length)))]) _
  refine stp (fun _ => XS.bipush X0.here hx rfl (hb hby d17_4)) ?_
  show Go p e below T0 (mkF m 6 #[.val (.ref vb), .val (.int n)] [(.int (31 : Int32)), (.int (n - (Int32.ofNat cs.length)))]) _
  refine stp (fun _ => XS.iushr X0.here hx rfl (hb hby d17_6) rfl) ?_
  show Go p e below T0 (mkF m 7 #[.val (.ref vb), .val (.int n)] [(.int (((n - (Int32.ofNat cs.length)).toUInt32 >>> ((31 : Int32) &&& 31).toUInt32).toInt32))]) _
  refine stp (fun _ => XS.i2b X0.here hx rfl (hb hby d17_7) rfl) ?_
  show Go p e below T0 (mkF m 8 #[.val (.ref vb), .val (.int n)] [(.int ((((n - (Int32.ofNat cs.length)).toUInt32 >>> ((31 : Int32) &&& 31).toUInt32).toInt32).toInt8.toInt32))]) _
  refine outN X0 hx (t := .byte) hret (by simp) (hb hby d17_8) hlk (by decide) (by decide) ?_
  exact ⟨own_somei (own_cfa0 hN hN1), N0, e0⟩
theorem ef_rm_u4a (m : MethodId) (t : Addr) (ca : Addr) (n : Int32)  : entryFrame m #[(.ref t), (.ref ca), (.int (0 : Int32)), (.int n), .null] 6 = mkF m 0 #[.val (.ref t), .val (.ref ca), .val (.int (0 : Int32)), .val (.int n), .val .null, .unset] [] := by first | (simp [entryFrame, mkF, argsToLocals, Value.category]; done) | rfl
def Q_rm_u4a (Z : State) (t : Addr) (ca : Addr) (n : Int32) (cs : List Int32) (cz : Int32) (k_ca : ClassId) (h0 : Heap) (n0 : Nat) (v : Option Value) (h : Heap) (L : List Loc) : Prop := v = none ∧ Fr n0 L ∧ Keep h0 h [t] ∧ UStr Z h t cs
set_option maxRecDepth 65536 in
set_option maxHeartbeats 40000000 in
theorem rm_u4a (l : Launch) (Z : State) (a0 : Array Value) (hw : ∀ d ∈ tables_1, d.before a0 Z = true) (ws : List Jvm.Cond) (t : Addr) (ca : Addr) (n : Int32) (cs : List Int32) (cz : Int32) (k_ca : ClassId) (h0 : Heap) (n0 : Nat) (O0 : Old Z n0 h0) (E_t : Exa Z h0 t "java/lang/String") (F_t_value : Fld Z h0 t "java/lang/String" "value" "[B" .null) (F_t_coder : Fld Z h0 t "java/lang/String" "coder" "B" (.int (0 : Int32))) (V_ca : Arf Z h0 ca k_ca .char cs.length (fun i => (.int (own_at cs i)))) (S_COMPACT_STRINGS : Sta Z Z.heap "java/lang/String" "COMPACT_STRINGS" "Z" (.int cz)) (ge_t : n0 ≤ t) (ne_ca_t : ca ≠ t) (hcz : ¬ cz = (0 : Int32)) (hN : n.toInt = (cs.length : Int)) (hN1 : cs.length ≤ 10) (hsm : ∀ c ∈ cs, ¬ c < 0 ∧ ¬ (65535 : Int32) < c) (h0_ : 0 < cs.length) (hall : ∀ i, i < cs.length → ¬ (255 : Int32) < own_at cs i) :
    MetFree l (⟨"java/lang/String", "<init>", "([CIILjava/lang/Void;)V"⟩ : MethodName) (head1 (Jvm.Cond.code (⟨"java/lang/String", "<init>", "([CIILjava/lang/Void;)V"⟩ : MethodName) jdk_42_method_149_code 6 none :: ws) ({ frames := 2, cells := 1, slots := 10, locals := 35 } : Room)) (fun args_ U => args_ = #[(.ref t), (.ref ca), (.int (0 : Int32)), (.int n), .null] ∧ Z.Warmed39 U.vm ∧ U.heap = h0) (fun _ _ _ _ _ => True) (fun _ U out_ U' => ∃ val_ loc_, out_ = .returned val_ ∧ (Q_rm_u4a Z t ca n cs cz k_ca h0 n0) val_ U'.heap loc_ ∧ FrameEnd U out_ U' loc_ ({ frames := 2, cells := 1, slots := 10, locals := 35 } : Room).cells ({ frames := 2, cells := 1, slots := 10, locals := 35 } : Room).slots) := by
  refine start (Q := (Q_rm_u4a Z t ca n cs cz k_ca h0 n0)) pn_8 ?_
  intro p e s m below meth c T0 X0 hx hby hml hown hnm hret hlk hZ e0
  replace hown : s.vm.findClass "java/lang/String" = some m.cls := hown
  replace hml : c.maxLocals = 6 := hml
  refine goAt (ef_rm_u4a m t ca n ) ?_
  have N0 := Fr.nil n0
  show Go p e below T0 (mkF m 0 #[.val (.ref t), .val (.ref ca), .val (.int (0 : Int32)), .val (.int n), .val .null, .unset] []) _
  refine stp (fun _ => XS.aloadN X0.here hx rfl (hb hby d4_0) rfl rfl) ?_
  show Go p e below T0 (mkF m 1 #[.val (.ref t), .val (.ref ca), .val (.int (0 : Int32)), .val (.int n), .val .null, .unset] [(.ref t)]) _
  obtain ⟨T1, X1, e1, st1⟩ := initO X0 hx hZ hown (hw _ (List.mem_of_getElem? (i := 19) rfl)) (hw _ (List.mem_of_getElem? (i := 20) rfl)) (hw _ (List.mem_of_getElem? (i := 21) rfl)) e0 (g := (mkF m 1 #[.val (.ref t), .val (.ref ca), .val (.int (0 : Int32)), .val (.int n), .val .null, .unset] [(.ref t)])) rfl (by rw [hml]; rfl) rfl (hb hby d4_1) (by decide) (W := 0) (by show 2 * 0 + _ ≤ _; exact Nat.le_of_eq rfl) (by decide)
  refine stp st1 ?_
  show Go p e below T1 (mkF m 4 #[.val (.ref t), .val (.ref ca), .val (.int (0 : Int32)), .val (.int n), .val .null, .unset] []) _
  refine stp (fun _ => XS.iloadN X1.here hx rfl (hb hby d4_4) rfl) ?_
  show Go p e below T1 (mkF m 5 #[.val (.ref t), .val (.ref ca), .val (.int (0 : Int32)), .val (.int n), .val .null, .unset] [(.int n)]) _
  refine stp (fun _ => XS.ifYes X1.here hx rfl (pc0 := 5) (pc' := 27) rfl (hb hby d4_5) rfl (XT.i0_ne_t (own_uz hN h0_)) (by decide) (by decide)) ?_
  show Go p e below T1 (mkF m 27 #[.val (.ref t), .val (.ref ca), .val (.int (0 : Int32)), .val (.int n), .val .null, .unset] []) _
  obtain ⟨T2, X2, e2, st2⟩ := getS2 X1 hx hZ hown (host := "") (Or.inl (hw _ (List.mem_of_getElem? (i := 48) rfl))) Via.refl e1 (S_COMPACT_STRINGS.ext O0.2) (g := (mkF m 27 #[.val (.ref t), .val (.ref ca), .val (.int (0 : Int32)), .val (.int n), .val .null, .unset] [])) rfl (hb hby d4_27)
  refine stp st2 ?_
  show Go p e below T2 (mkF m 30 #[.val (.ref t), .val (.ref ca), .val (.int (0 : Int32)), .val (.int n), .val .null, .unset] [(.int cz)]) _
  refine stp (fun _ => XS.ifNo X2.here hx rfl (hb hby d4_30) rfl (XT.i0_eq_f hcz)) ?_
  show Go p e below T2 (mkF m 33 #[.val (.ref t), .val (.ref ca), .val (.int (0 : Int32)), .val (.int n), .val .null, .unset] []) _
  refine stp (fun _ => XS.aloadN X2.here hx rfl (hb hby d4_33) rfl rfl) ?_
  refine stp (fun _ => XS.iloadN X2.here hx rfl (hb hby d4_34) rfl) ?_
  refine stp (fun _ => XS.iloadN X2.here hx rfl (hb hby d4_35) rfl) ?_
  show Go p e below T2 (mkF m 36 #[.val (.ref t), .val (.ref ca), .val (.int (0 : Int32)), .val (.int n), .val .null, .unset] [(.int n), (.int (0 : Int32)), (.ref ca)]) _
  obtain ⟨_, _, ⟨T3, L3, k3, n3⟩, -, X3, ⟨Lc3, hQ3, l3, y3, z3⟩, st3⟩ := Jvm.LawKit.callS X2 hx (y := (⟨"java/lang/StringUTF16", "compress", "([CII)[B"⟩ : MethodName)) hown (mvT hZ (hw _ (List.mem_of_getElem? (i := 50) rfl))) (mvT hZ (hw _ (List.mem_of_getElem? (i := 51) rfl))) (mvT hZ (hw _ (List.mem_of_getElem? (i := 52) rfl))) (mvT hZ (hw _ (List.mem_of_getElem? (i := 53) rfl))) (by decide) (backOf (W := 0) (rm_c3a l Z a0 hw [] ca n cs k_ca h0 n0 O0 V_ca hN hN1 hall) hZ (hw _ (List.mem_of_getElem? (i := 53) rfl)) (hw _ (List.mem_of_getElem? (i := 52) rfl)) (by decide) (by decide)) (g := (mkF m 36 #[.val (.ref t), .val (.ref ca), .val (.int (0 : Int32)), .val (.int n), .val .null, .unset] [(.int n), (.int (0 : Int32)), (.ref ca)])) rfl (by rw [hml]; rfl) (argsL := [(.ref ca), (.int (0 : Int32)), (.int n)]) (rest := []) (lenOf pd_4 rfl) rfl (by show 2 * 0 + _ ≤ _; exact Nat.le_of_eq rfl) (hb hby d4_36) (fun _ _ => ⟨rfl, e2, (by decide : 0 + 1 ≤ _), (by decide : 0 + 10 ≤ _)⟩)
  dsimp only [Pt.U, Pt.locs, Pt.cells, Pt.slots] at X3 l3 y3 z3 st3 hQ3
  subst y3 z3
  obtain ⟨r3, k_r3, rfl, N3q, K3q, ⟨ge_r3, sz3_r3⟩, r3_0, r3_1⟩ := hQ3
  have N3 : Fr n0 L3 := by rw [l3]; exact Fr.app N0 N3q
  have ne4 : ca ≠ r3 := Nat.ne_of_lt (Nat.lt_of_lt_of_le V_ca.lt sz3_r3)
  have ne5 : t ≠ r3 := Nat.ne_of_lt (Nat.lt_of_lt_of_le E_t.lt sz3_r3)
  have f6 := E_t.keep K3q
  have f7 := F_t_value.keep K3q nin0
  have f8 := F_t_coder.keep K3q nin0
  have f9 := V_ca.keep K3q nin0
  have sz_r3 : h0.size ≤ r3 := Nat.le_trans (Keep.refl h0 [t]).1 sz3_r3
  have K3 : Keep h0 T3.heap [t] := (Keep.refl h0 [t]).trans K3q all0
  have O3 := O0.keep K3q all0
  refine stp st3 ?_
  show Go p e below T3 (mkF m 39 #[.val (.ref t), .val (.ref ca), .val (.int (0 : Int32)), .val (.int n), .val .null, .unset] [(.ref r3)]) _
  refine stp (fun _ => XS.astore X3.here hx rfl (hb hby d4_39) rfl rfl (l' := #[.val (.ref t), .val (.ref ca), .val (.int (0 : Int32)), .val (.int n), .val .null, .val (.ref r3)]) rfl) ?_
  show Go p e below T3 (mkF m 41 #[.val (.ref t), .val (.ref ca), .val (.int (0 : Int32)), .val (.int n), .val .null, .val (.ref r3)] []) _
  refine stp (fun _ => XS.aloadN X3.here hx rfl (hb hby d4_41) rfl rfl) ?_
  refine stp (fun _ => XS.aload X3.here hx rfl (hb hby d4_42) rfl rfl) ?_
  refine stp (fun _ => XS.iloadN X3.here hx rfl (hb hby d4_44) rfl) ?_
  show Go p e below T3 (mkF m 45 #[.val (.ref t), .val (.ref ca), .val (.int (0 : Int32)), .val (.int n), .val .null, .val (.ref r3)] [(.int n), (.ref r3), (.ref t)]) _
  obtain ⟨_, _, ⟨T10, L10, k10, n10⟩, -, X10, ⟨Lc10, hQ10, l10, y10, z10⟩, st10⟩ := Jvm.LawKit.callS X3 hx (y := (⟨"java/lang/StringUTF16", "coderFromArrayLen", "([BI)B"⟩ : MethodName)) hown (mvT hZ (hw _ (List.mem_of_getElem? (i := 76) rfl))) (mvT hZ (hw _ (List.mem_of_getElem? (i := 77) rfl))) (mvT hZ (hw _ (List.mem_of_getElem? (i := 52) rfl))) (mvT hZ (hw _ (List.mem_of_getElem? (i := 78) rfl))) (by decide) (backOf (W := 1) (rm_cfaa l Z a0 hw [] r3 n cs k_r3 T3.heap n0 O3 r3_1 hN hN1) hZ (hw _ (List.mem_of_getElem? (i := 78) rfl)) (hw _ (List.mem_of_getElem? (i := 52) rfl)) (by decide) (by decide)) (g := (mkF m 45 #[.val (.ref t), .val (.ref ca), .val (.int (0 : Int32)), .val (.int n), .val .null, .val (.ref r3)] [(.int n), (.ref r3), (.ref t)])) rfl (by rw [hml]; rfl) (argsL := [(.ref r3), (.int n)]) (rest := [(.ref t)]) (lenOf pd_6 rfl) rfl (by show 2 * 0 + _ ≤ _; exact Nat.le_of_eq rfl) (hb hby d4_45) (fun _ _ => ⟨rfl, rfl, (by decide : 1 + 0 ≤ _), (by decide : 10 + 0 ≤ _)⟩)
  dsimp only [Pt.U, Pt.locs, Pt.cells, Pt.slots] at X10 l10 y10 z10 st10 hQ10
  subst y10 z10
  obtain ⟨rfl, N10q, e10⟩ := hQ10
  have N10 : Fr n0 L10 := by rw [l10]; exact Fr.app N3 N10q
  refine stp st10 ?_
  show Go p e below T10 (mkF m 48 #[.val (.ref t), .val (.ref ca), .val (.int (0 : Int32)), .val (.int n), .val .null, .val (.ref r3)] [(.int (0 : Int32)), (.ref t)]) _
  obtain ⟨T11, h11, X11, e11, W11, st11⟩ := putFN X10 hx hZ hown (hw _ (List.mem_of_getElem? (i := 29) rfl)) Via.refl e10 f8 f6 (Or.inr ⟨(hw _ (List.mem_of_getElem? (i := 25) rfl)), rfl, hnm⟩) (hw _ (List.mem_of_getElem? (i := 10) rfl)) (ty := .byte) (v' := (.int (0 : Int32))) (by decide) rfl rfl (g := (mkF m 48 #[.val (.ref t), .val (.ref ca), .val (.int (0 : Int32)), .val (.int n), .val .null, .val (.ref r3)] [(.int (0 : Int32)), (.ref t)])) rfl rfl (hb hby d4_48)
  have Fw11 := f8.same W11
  have f12 := f6.wr W11
  have f13 := f7.other W11 (Or.inr (slot_ne (Or.inr (hw _ (List.mem_of_getElem? (i := 24) rfl))) (Or.inr (hw _ (List.mem_of_getElem? (i := 25) rfl))) (by decide) (t := (.array .byte)) (t' := .byte) (by decide) (by decide)))
  have f15 := f9.other W11 ne_ca_t
  have f16 := r3_0.wr W11
  have f17 := r3_1.other W11 (Ne.symm ne5)
  have K11 : Keep h0 h11 [t] := K3.wr W11 (Or.inl (List.mem_of_getElem? (i := 0) rfl))
  have O11 := O3.wr W11 ge_t
  have N11 := Fr.snoc X11 N10 ge_t
  refine stp st11 ?_
  show Go p e below T11 (mkF m 51 #[.val (.ref t), .val (.ref ca), .val (.int (0 : Int32)), .val (.int n), .val .null, .val (.ref r3)] []) _
  refine stp (fun _ => XS.aloadN X11.here hx rfl (hb hby d4_51) rfl rfl) ?_
  refine stp (fun _ => XS.aload X11.here hx rfl (hb hby d4_52) rfl rfl) ?_
  show Go p e below T11 (mkF m 54 #[.val (.ref t), .val (.ref ca), .val (.int (0 : Int32)), .val (.int n), .val .null, .val (.ref r3)] [(.ref r3), (.ref t)]) _
  obtain ⟨T18, h18, X18, e18, W18, st18⟩ := putF X11 hx hZ hown (host := "") (Or.inl (hw _ (List.mem_of_getElem? (i := 28) rfl))) Via.refl e11 f13 f12 (Or.inr ⟨(hw _ (List.mem_of_getElem? (i := 24) rfl)), rfl, hnm⟩) (hw _ (List.mem_of_getElem? (i := 10) rfl)) (ty := (.array .byte)) (by decide) rfl rfl (g := (mkF m 54 #[.val (.ref t), .val (.ref ca), .val (.int (0 : Int32)), .val (.int n), .val .null, .val (.ref r3)] [(.ref r3), (.ref t)])) rfl rfl (hb hby d4_54)
  have Fw18 := f13.same W18
  have f19 := f12.wr W18
  have f21 := Fw11.other W18 (Or.inr (slot_ne (Or.inr (hw _ (List.mem_of_getElem? (i := 25) rfl))) (Or.inr (hw _ (List.mem_of_getElem? (i := 24) rfl))) (by decide) (t := .byte) (t' := (.array .byte)) (by decide) (by decide)))
  have f22 := f15.other W18 ne_ca_t
  have f23 := f16.wr W18
  have f24 := f17.other W18 (Ne.symm ne5)
  have K18 : Keep h0 h18 [t] := K11.wr W18 (Or.inl (List.mem_of_getElem? (i := 0) rfl))
  have O18 := O11.wr W18 ge_t
  have N18 := Fr.snoc X18 N11 ge_t
  refine stp st18 ?_
  show Go p e below T18 (mkF m 57 #[.val (.ref t), .val (.ref ca), .val (.int (0 : Int32)), .val (.int n), .val .null, .val (.ref r3)] []) _
  have Q25 : UStr Z h18 t cs := UStr.of8 f19 Fw18 f21 f24 hsm hall (by omega)
  refine outV X18 hx hret (hb hby d4_57) hlk (by decide) (by decide) ?_
  rw [e18]
  exact ⟨rfl, N18, K18, Q25⟩
theorem d3_0 : decode jdk_42_method_3_code 0 = .ok (.aload_n 0, 1) := by decide +kernel
theorem d3_1 : decode jdk_42_method_3_code 1 = .ok (.aload_n 1, 1) := by decide +kernel
theorem d3_2 : decode jdk_42_method_3_code 2 = .ok (.iconst 0, 1) := by decide +kernel
theorem d3_3 : decode jdk_42_method_3_code 3 = .ok (.aload_n 1, 1) := by decide +kernel
theorem d3_4 : decode jdk_42_method_3_code 4 = .ok (.arraylength, 1) := by decide +kernel
theorem d3_5 : decode jdk_42_method_3_code 5 = .ok (.aconst_null, 1) := by decide +kernel
theorem d3_6 : decode jdk_42_method_3_code 6 = .ok (.invokespecial 27, 3) := by decide +kernel
theorem pd_7 : parseMethodDescriptor "([CIILjava/lang/Void;)V" = some ⟨[(.array .char), .int, .int, (.object "java/lang/Void")], none⟩ := by decide +kernel
theorem d3_9 : decode jdk_42_method_3_code 9 = .ok (.return_, 1) := by decide +kernel
theorem ef_rm_u1 (m : MethodId) (t : Addr) (ca : Addr)  : entryFrame m #[(.ref t), (.ref ca)] 2 = mkF m 0 #[.val (.ref t), .val (.ref ca)] [] := by first | (simp [entryFrame, mkF, argsToLocals, Value.category]; done) | rfl
def Q_rm_u1 (Z : State) (t : Addr) (ca : Addr) (cs : List Int32) (cz : Int32) (k_ca : ClassId) (h0 : Heap) (n0 : Nat) (v : Option Value) (h : Heap) (L : List Loc) : Prop := v = none ∧ Fr n0 L ∧ Keep h0 h [t] ∧ UStr Z h t cs
theorem pn_9_ : plainName "java/lang/String" = true := by first | (simp [plainName, overriddenIn]; done) | decide +kernel
theorem pn_9 : plainFor (⟨"java/lang/String", "<init>", "([C)V"⟩ : MethodName) = true := plainFor_of_name pn_9_
set_option maxRecDepth 65536 in
set_option maxHeartbeats 40000000 in
theorem rm_u1 (l : Launch) (Z : State) (a0 : Array Value) (hw : ∀ d ∈ tables_1, d.before a0 Z = true) (ws : List Jvm.Cond) (t : Addr) (ca : Addr) (cs : List Int32) (cz : Int32) (k_ca : ClassId) (h0 : Heap) (n0 : Nat) (O0 : Old Z n0 h0) (E_t : Exa Z h0 t "java/lang/String") (F_t_value : Fld Z h0 t "java/lang/String" "value" "[B" .null) (F_t_coder : Fld Z h0 t "java/lang/String" "coder" "B" (.int (0 : Int32))) (V_ca : Arf Z h0 ca k_ca .char cs.length (fun i => (.int (own_at cs i)))) (S_COMPACT_STRINGS : Sta Z Z.heap "java/lang/String" "COMPACT_STRINGS" "Z" (.int cz)) (S__assertionsDisabled : Sta Z Z.heap "java/lang/StringUTF16" "$assertionsDisabled" "Z" (.int (1 : Int32))) (S_HI_BYTE_SHIFT : Sta Z Z.heap "java/lang/StringUTF16" "HI_BYTE_SHIFT" "I" (.int (0 : Int32))) (S_LO_BYTE_SHIFT : Sta Z Z.heap "java/lang/StringUTF16" "LO_BYTE_SHIFT" "I" (.int (8 : Int32))) (ge_t : n0 ≤ t) (ne_ca_t : ca ≠ t) (hcz : ¬ cz = (0 : Int32)) (hN1 : cs.length ≤ 10) (hsm : ∀ c ∈ cs, ¬ c < 0 ∧ ¬ (65535 : Int32) < c) (h0_ : 0 < cs.length) :
    MetFree l (⟨"java/lang/String", "<init>", "([C)V"⟩ : MethodName) (head1 (Jvm.Cond.code (⟨"java/lang/String", "<init>", "([C)V"⟩ : MethodName) jdk_42_method_3_code 2 none :: ws) ({ frames := 5, cells := 2, slots := 30, locals := 74 } : Room)) (fun args_ U => args_ = #[(.ref t), (.ref ca)] ∧ Z.Warmed39 U.vm ∧ U.heap = h0) (fun _ _ _ _ _ => True) (fun _ U out_ U' => ∃ val_ loc_, out_ = .returned val_ ∧ (Q_rm_u1 Z t ca cs cz k_ca h0 n0) val_ U'.heap loc_ ∧ FrameEnd U out_ U' loc_ ({ frames := 5, cells := 2, slots := 30, locals := 74 } : Room).cells ({ frames := 5, cells := 2, slots := 30, locals := 74 } : Room).slots) := by
  refine start (Q := (Q_rm_u1 Z t ca cs cz k_ca h0 n0)) pn_9 ?_
  intro p e s m below meth c T0 X0 hx hby hml hown hnm hret hlk hZ e0
  replace hown : s.vm.findClass "java/lang/String" = some m.cls := hown
  replace hml : c.maxLocals = 2 := hml
  refine goAt (ef_rm_u1 m t ca ) ?_
  have N0 := Fr.nil n0
  show Go p e below T0 (mkF m 0 #[.val (.ref t), .val (.ref ca)] []) _
  by_cases hall : ∀ i, i < cs.length → ¬ (255 : Int32) < own_at cs i
  · show Go p e below T0 (mkF m 0 #[.val (.ref t), .val (.ref ca)] []) _
    refine stp (fun _ => XS.aloadN X0.here hx rfl (hb hby d3_0) rfl rfl) ?_
    refine stp (fun _ => XS.aloadN X0.here hx rfl (hb hby d3_1) rfl rfl) ?_
    refine stp (fun _ => XS.iconst X0.here hx rfl (hb hby d3_2)) ?_
    refine stp (fun _ => XS.aloadN X0.here hx rfl (hb hby d3_3) rfl rfl) ?_
    show Go p e below T0 (mkF m 4 #[.val (.ref t), .val (.ref ca)] [(.ref ca), (.int (0 : Int32)), (.ref ca), (.ref t)]) _
    obtain ⟨cl1, Ar1, -, S1, -, -⟩ := (id V_ca)
    refine stp (fun _ => X0.arraylength hx (by rw [e0]; exact Ar1.1) (State.isArrayOf_alike hZ.alike Ar1.2.1) (g := (mkF m 4 #[.val (.ref t), .val (.ref ca)] [(.ref ca), (.int (0 : Int32)), (.ref ca), (.ref t)])) rfl rfl (hb hby d3_4) _) ?_
    rw [arf_len S1 (z := (Int32.ofNat cs.length)) (own_ofNatI (by omega))]
    show Go p e below T0 (mkF m 5 #[.val (.ref t), .val (.ref ca)] [(.int (Int32.ofNat cs.length)), (.int (0 : Int32)), (.ref ca), (.ref t)]) _
    refine stp (fun _ => XS.aconstNull X0.here hx rfl (hb hby d3_5)) ?_
    show Go p e below T0 (mkF m 6 #[.val (.ref t), .val (.ref ca)] [.null, (.int (Int32.ofNat cs.length)), (.int (0 : Int32)), (.ref ca), (.ref t)]) _
    obtain ⟨_, _, ⟨T2, L2, k2, n2⟩, -, X2, ⟨Lc2, hQ2, l2, y2, z2⟩, st2⟩ := X0.specialBack hx (y := (⟨"java/lang/String", "<init>", "([CIILjava/lang/Void;)V"⟩ : MethodName)) rfl hown (mvT hZ (hw _ (List.mem_of_getElem? (i := 15) rfl))) (mvT hZ (hw _ (List.mem_of_getElem? (i := 16) rfl))) (mvT hZ (hw _ (List.mem_of_getElem? (i := 18) rfl))) (by decide) (backOf (W := 0) (rm_u4a l Z a0 hw [] t ca (Int32.ofNat cs.length) cs cz k_ca h0 n0 O0 E_t F_t_value F_t_coder V_ca S_COMPACT_STRINGS ge_t ne_ca_t hcz (own_ofNatI (by omega)) hN1 hsm h0_ hall) hZ (hw _ (List.mem_of_getElem? (i := 18) rfl)) (hw _ (List.mem_of_getElem? (i := 11) rfl)) (by decide) (by decide)) (g := (mkF m 6 #[.val (.ref t), .val (.ref ca)] [.null, (.int (Int32.ofNat cs.length)), (.int (0 : Int32)), (.ref ca), (.ref t)])) rfl (by rw [hml]; rfl) (Steps.refl _) (a := t) (argsL := [(.ref ca), (.int (0 : Int32)), (.int (Int32.ofNat cs.length)), .null]) (rest := []) (lenOf pd_7 rfl) rfl (by show 2 * 0 + _ ≤ _; exact Nat.le_of_eq rfl) (hb hby d3_6) (fun _ _ => ⟨rfl, e0, (by decide : 0 + 1 ≤ _), (by decide : 0 + 10 ≤ _)⟩)
    dsimp only [Pt.U, Pt.locs, Pt.cells, Pt.slots] at X2 l2 y2 z2 st2 hQ2
    subst y2 z2
    obtain ⟨rfl, N2q, K2q, r2_0⟩ := hQ2
    have N2 : Fr n0 L2 := by rw [l2]; exact Fr.app N0 N2q
    have f3 := E_t.keep K2q
    have f4 := V_ca.keep K2q (ninS ne_ca_t nin0)
    have K2 : Keep h0 T2.heap [t] := (Keep.refl h0 [t]).trans K2q (allS (Or.inl (List.mem_of_getElem? (i := 0) rfl)) all0)
    have O2 := O0.keep K2q (allS ge_t all0)
    refine stt st2 ?_
    show Go p e below T2 (mkF m 9 #[.val (.ref t), .val (.ref ca)] []) _
    refine outV X2 hx hret (hb hby d3_9) hlk (by decide) (by decide) ?_
    exact ⟨rfl, N2, K2, r2_0⟩
  · obtain ⟨J, hJ, hgt, hle⟩ := own_first _ hall
    show Go p e below T0 (mkF m 0 #[.val (.ref t), .val (.ref ca)] []) _
    refine stp (fun _ => XS.aloadN X0.here hx rfl (hb hby d3_0) rfl rfl) ?_
    refine stp (fun _ => XS.aloadN X0.here hx rfl (hb hby d3_1) rfl rfl) ?_
    refine stp (fun _ => XS.iconst X0.here hx rfl (hb hby d3_2)) ?_
    refine stp (fun _ => XS.aloadN X0.here hx rfl (hb hby d3_3) rfl rfl) ?_
    show Go p e below T0 (mkF m 4 #[.val (.ref t), .val (.ref ca)] [(.ref ca), (.int (0 : Int32)), (.ref ca), (.ref t)]) _
    obtain ⟨cl5, Ar5, -, S5, -, -⟩ := (id V_ca)
    refine stp (fun _ => X0.arraylength hx (by rw [e0]; exact Ar5.1) (State.isArrayOf_alike hZ.alike Ar5.2.1) (g := (mkF m 4 #[.val (.ref t), .val (.ref ca)] [(.ref ca), (.int (0 : Int32)), (.ref ca), (.ref t)])) rfl rfl (hb hby d3_4) _) ?_
    rw [arf_len S5 (z := (Int32.ofNat cs.length)) (own_ofNatI (by omega))]
    show Go p e below T0 (mkF m 5 #[.val (.ref t), .val (.ref ca)] [(.int (Int32.ofNat cs.length)), (.int (0 : Int32)), (.ref ca), (.ref t)]) _
    refine stp (fun _ => XS.aconstNull X0.here hx rfl (hb hby d3_5)) ?_
    show Go p e below T0 (mkF m 6 #[.val (.ref t), .val (.ref ca)] [.null, (.int (Int32.ofNat cs.length)), (.int (0 : Int32)), (.ref ca), (.ref t)]) _
    obtain ⟨_, _, ⟨T6, L6, k6, n6⟩, -, X6, ⟨Lc6, hQ6, l6, y6, z6⟩, st6⟩ := X0.specialBack hx (y := (⟨"java/lang/String", "<init>", "([CIILjava/lang/Void;)V"⟩ : MethodName)) rfl hown (mvT hZ (hw _ (List.mem_of_getElem? (i := 15) rfl))) (mvT hZ (hw _ (List.mem_of_getElem? (i := 16) rfl))) (mvT hZ (hw _ (List.mem_of_getElem? (i := 18) rfl))) (by decide) (backOf (W := 0) (rm_u4 l Z a0 hw [] t ca (Int32.ofNat cs.length) cs cz J k_ca h0 n0 O0 E_t F_t_value F_t_coder V_ca S_COMPACT_STRINGS S__assertionsDisabled S_HI_BYTE_SHIFT S_LO_BYTE_SHIFT ge_t ne_ca_t hcz (own_ofNatI (by omega)) hN1 hsm hJ hgt hle) hZ (hw _ (List.mem_of_getElem? (i := 18) rfl)) (hw _ (List.mem_of_getElem? (i := 11) rfl)) (by decide) (by decide)) (g := (mkF m 6 #[.val (.ref t), .val (.ref ca)] [.null, (.int (Int32.ofNat cs.length)), (.int (0 : Int32)), (.ref ca), (.ref t)])) rfl (by rw [hml]; rfl) (Steps.refl _) (a := t) (argsL := [(.ref ca), (.int (0 : Int32)), (.int (Int32.ofNat cs.length)), .null]) (rest := []) (lenOf pd_7 rfl) rfl (by show 2 * 0 + _ ≤ _; exact Nat.le_of_eq rfl) (hb hby d3_6) (fun _ _ => ⟨rfl, e0, (by decide : 0 + 2 ≤ _), (by decide : 0 + 30 ≤ _)⟩)
    dsimp only [Pt.U, Pt.locs, Pt.cells, Pt.slots] at X6 l6 y6 z6 st6 hQ6
    subst y6 z6
    obtain ⟨rfl, N6q, K6q, r6_0⟩ := hQ6
    have N6 : Fr n0 L6 := by rw [l6]; exact Fr.app N0 N6q
    have f7 := E_t.keep K6q
    have f8 := V_ca.keep K6q (ninS ne_ca_t nin0)
    have K6 : Keep h0 T6.heap [t] := (Keep.refl h0 [t]).trans K6q (allS (Or.inl (List.mem_of_getElem? (i := 0) rfl)) all0)
    have O6 := O0.keep K6q (allS ge_t all0)
    refine stt st6 ?_
    show Go p e below T6 (mkF m 9 #[.val (.ref t), .val (.ref ca)] []) _
    refine outV X6 hx hret (hb hby d3_9) hlk (by decide) (by decide) ?_
    exact ⟨rfl, N6, K6, r6_0⟩
theorem d9_0 : decode jdk_42_method_152_code 0 = .ok (.getstatic 38, 3) := by decide +kernel
theorem d9_3 : decode jdk_42_method_152_code 3 = .ok (.ifCond .eq 10, 3) := by decide +kernel
theorem d9_6 : decode jdk_42_method_152_code 6 = .ok (.aload_n 0, 1) := by decide +kernel
theorem d9_7 : decode jdk_42_method_152_code 7 = .ok (.getfield 15, 3) := by decide +kernel
theorem d9_10 : decode jdk_42_method_152_code 10 = .ok (.goto 4, 3) := by decide +kernel
theorem d9_14 : decode jdk_42_method_152_code 14 = .ok (.ireturn, 1) := by decide +kernel
theorem ef_rm_co0 (m : MethodId) (t : Addr)  : entryFrame m #[(.ref t)] 1 = mkF m 0 #[.val (.ref t)] [] := by first | (simp [entryFrame, mkF, argsToLocals, Value.category]; done) | rfl
def Q_rm_co0 (Z : State) (t : Addr) (cz : Int32) (h0 : Heap) (n0 : Nat) (v : Option Value) (h : Heap) (L : List Loc) : Prop := v = some (.int (0 : Int32)) ∧ Fr n0 L ∧ h = h0
theorem pn_10_ : plainName "java/lang/String" = true := by first | (simp [plainName, overriddenIn]; done) | decide +kernel
theorem pn_10 : plainFor (⟨"java/lang/String", "coder", "()B"⟩ : MethodName) = true := plainFor_of_name pn_10_
set_option maxRecDepth 65536 in
set_option maxHeartbeats 40000000 in
theorem rm_co0 (l : Launch) (Z : State) (a0 : Array Value) (hw : ∀ d ∈ tables_1, d.before a0 Z = true) (ws : List Jvm.Cond) (t : Addr) (cz : Int32) (h0 : Heap) (n0 : Nat) (O0 : Old Z n0 h0) (F_t_coder : Fld Z h0 t "java/lang/String" "coder" "B" (.int (0 : Int32))) (S_COMPACT_STRINGS : Sta Z Z.heap "java/lang/String" "COMPACT_STRINGS" "Z" (.int cz)) (hcz : ¬ cz = (0 : Int32)) :
    MetFree l (⟨"java/lang/String", "coder", "()B"⟩ : MethodName) (head1 (Jvm.Cond.code (⟨"java/lang/String", "coder", "()B"⟩ : MethodName) jdk_42_method_152_code 1 (some .byte) :: ws) ({ frames := 0, cells := 0, slots := 0, locals := 0 } : Room)) (fun args_ U => args_ = #[(.ref t)] ∧ Z.Warmed39 U.vm ∧ U.heap = h0) (fun _ _ _ _ _ => True) (fun _ U out_ U' => ∃ val_ loc_, out_ = .returned val_ ∧ (Q_rm_co0 Z t cz h0 n0) val_ U'.heap loc_ ∧ FrameEnd U out_ U' loc_ ({ frames := 0, cells := 0, slots := 0, locals := 0 } : Room).cells ({ frames := 0, cells := 0, slots := 0, locals := 0 } : Room).slots) := by
  refine start (Q := (Q_rm_co0 Z t cz h0 n0)) pn_10 ?_
  intro p e s m below meth c T0 X0 hx hby hml hown hnm hret hlk hZ e0
  replace hown : s.vm.findClass "java/lang/String" = some m.cls := hown
  replace hml : c.maxLocals = 1 := hml
  refine goAt (ef_rm_co0 m t ) ?_
  have N0 := Fr.nil n0
  show Go p e below T0 (mkF m 0 #[.val (.ref t)] []) _
  obtain ⟨T1, X1, e1, st1⟩ := getS2 X0 hx hZ hown (host := "") (Or.inl (hw _ (List.mem_of_getElem? (i := 48) rfl))) Via.refl e0 (S_COMPACT_STRINGS.ext O0.2) (g := (mkF m 0 #[.val (.ref t)] [])) rfl (hb hby d9_0)
  refine stp st1 ?_
  show Go p e below T1 (mkF m 3 #[.val (.ref t)] [(.int cz)]) _
  refine stp (fun _ => XS.ifNo X1.here hx rfl (hb hby d9_3) rfl (XT.i0_eq_f hcz)) ?_
  show Go p e below T1 (mkF m 6 #[.val (.ref t)] []) _
  refine stp (fun _ => XS.aloadN X1.here hx rfl (hb hby d9_6) rfl rfl) ?_
  show Go p e below T1 (mkF m 7 #[.val (.ref t)] [(.ref t)]) _
  obtain ⟨T2, X2, e2, st2⟩ := getF X1 hx hZ hown (host := "") (Or.inl (hw _ (List.mem_of_getElem? (i := 29) rfl))) Via.refl e1 F_t_coder (g := (mkF m 7 #[.val (.ref t)] [(.ref t)])) rfl rfl (hb hby d9_7)
  refine stp st2 ?_
  show Go p e below T2 (mkF m 10 #[.val (.ref t)] [(.int (0 : Int32))]) _
  refine stp (fun _ => XS.goto X2.here hx rfl (pc0 := 10) (pc' := 14) rfl (hb hby d9_10) (by decide) (by decide)) ?_
  show Go p e below T2 (mkF m 14 #[.val (.ref t)] [(.int (0 : Int32))]) _
  refine outN X2 hx (t := .byte) hret (by simp) (hb hby d9_14) hlk (by decide) (by decide) ?_
  exact ⟨rfl, N0, e2⟩
theorem d19_0 : decode jdk_42_method_154_code 0 = .ok (.getstatic 38, 3) := by decide +kernel
theorem d19_3 : decode jdk_42_method_154_code 3 = .ok (.ifCond .eq 14, 3) := by decide +kernel
theorem d19_6 : decode jdk_42_method_154_code 6 = .ok (.aload_n 0, 1) := by decide +kernel
theorem d19_7 : decode jdk_42_method_154_code 7 = .ok (.getfield 15, 3) := by decide +kernel
theorem d19_10 : decode jdk_42_method_154_code 10 = .ok (.ifCond .ne 7, 3) := by decide +kernel
theorem d19_13 : decode jdk_42_method_154_code 13 = .ok (.iconst 1, 1) := by decide +kernel
theorem d19_14 : decode jdk_42_method_154_code 14 = .ok (.goto 4, 3) := by decide +kernel
theorem d19_18 : decode jdk_42_method_154_code 18 = .ok (.ireturn, 1) := by decide +kernel
theorem ef_rm_il0 (m : MethodId) (t : Addr)  : entryFrame m #[(.ref t)] 1 = mkF m 0 #[.val (.ref t)] [] := by first | (simp [entryFrame, mkF, argsToLocals, Value.category]; done) | rfl
def Q_rm_il0 (Z : State) (t : Addr) (cz : Int32) (h0 : Heap) (n0 : Nat) (v : Option Value) (h : Heap) (L : List Loc) : Prop := v = some (.int (1 : Int32)) ∧ Fr n0 L ∧ h = h0
theorem pn_11_ : plainName "java/lang/String" = true := by first | (simp [plainName, overriddenIn]; done) | decide +kernel
theorem pn_11 : plainFor (⟨"java/lang/String", "isLatin1", "()Z"⟩ : MethodName) = true := plainFor_of_name pn_11_
set_option maxRecDepth 65536 in
set_option maxHeartbeats 40000000 in
theorem rm_il0 (l : Launch) (Z : State) (a0 : Array Value) (hw : ∀ d ∈ tables_1, d.before a0 Z = true) (ws : List Jvm.Cond) (t : Addr) (cz : Int32) (h0 : Heap) (n0 : Nat) (O0 : Old Z n0 h0) (F_t_coder : Fld Z h0 t "java/lang/String" "coder" "B" (.int (0 : Int32))) (S_COMPACT_STRINGS : Sta Z Z.heap "java/lang/String" "COMPACT_STRINGS" "Z" (.int cz)) (hcz : ¬ cz = (0 : Int32)) :
    MetFree l (⟨"java/lang/String", "isLatin1", "()Z"⟩ : MethodName) (head1 (Jvm.Cond.code (⟨"java/lang/String", "isLatin1", "()Z"⟩ : MethodName) jdk_42_method_154_code 1 (some .boolean) :: ws) ({ frames := 0, cells := 0, slots := 0, locals := 0 } : Room)) (fun args_ U => args_ = #[(.ref t)] ∧ Z.Warmed39 U.vm ∧ U.heap = h0) (fun _ _ _ _ _ => True) (fun _ U out_ U' => ∃ val_ loc_, out_ = .returned val_ ∧ (Q_rm_il0 Z t cz h0 n0) val_ U'.heap loc_ ∧ FrameEnd U out_ U' loc_ ({ frames := 0, cells := 0, slots := 0, locals := 0 } : Room).cells ({ frames := 0, cells := 0, slots := 0, locals := 0 } : Room).slots) := by
  refine start (Q := (Q_rm_il0 Z t cz h0 n0)) pn_11 ?_
  intro p e s m below meth c T0 X0 hx hby hml hown hnm hret hlk hZ e0
  replace hown : s.vm.findClass "java/lang/String" = some m.cls := hown
  replace hml : c.maxLocals = 1 := hml
  refine goAt (ef_rm_il0 m t ) ?_
  have N0 := Fr.nil n0
  show Go p e below T0 (mkF m 0 #[.val (.ref t)] []) _
  obtain ⟨T1, X1, e1, st1⟩ := getS2 X0 hx hZ hown (host := "") (Or.inl (hw _ (List.mem_of_getElem? (i := 48) rfl))) Via.refl e0 (S_COMPACT_STRINGS.ext O0.2) (g := (mkF m 0 #[.val (.ref t)] [])) rfl (hb hby d19_0)
  refine stp st1 ?_
  show Go p e below T1 (mkF m 3 #[.val (.ref t)] [(.int cz)]) _
  refine stp (fun _ => XS.ifNo X1.here hx rfl (hb hby d19_3) rfl (XT.i0_eq_f hcz)) ?_
  show Go p e below T1 (mkF m 6 #[.val (.ref t)] []) _
  refine stp (fun _ => XS.aloadN X1.here hx rfl (hb hby d19_6) rfl rfl) ?_
  show Go p e below T1 (mkF m 7 #[.val (.ref t)] [(.ref t)]) _
  obtain ⟨T2, X2, e2, st2⟩ := getF X1 hx hZ hown (host := "") (Or.inl (hw _ (List.mem_of_getElem? (i := 29) rfl))) Via.refl e1 F_t_coder (g := (mkF m 7 #[.val (.ref t)] [(.ref t)])) rfl rfl (hb hby d19_7)
  refine stp st2 ?_
  show Go p e below T2 (mkF m 10 #[.val (.ref t)] [(.int (0 : Int32))]) _
  refine stp (fun _ => XS.ifNo X2.here hx rfl (hb hby d19_10) rfl (by decide)) ?_
  show Go p e below T2 (mkF m 13 #[.val (.ref t)] []) _
  refine stp (fun _ => XS.iconst X2.here hx rfl (hb hby d19_13)) ?_
  show Go p e below T2 (mkF m 14 #[.val (.ref t)] [(.int (1 : Int32))]) _
  refine stp (fun _ => XS.goto X2.here hx rfl (pc0 := 14) (pc' := 18) rfl (hb hby d19_14) (by decide) (by decide)) ?_
  show Go p e below T2 (mkF m 18 #[.val (.ref t)] [(.int (1 : Int32))]) _
  refine outN X2 hx (t := .boolean) hret (by simp) (hb hby d19_18) hlk (by decide) (by decide) ?_
  exact ⟨rfl, N0, e2⟩
theorem ef_rm_co1 (m : MethodId) (t : Addr)  : entryFrame m #[(.ref t)] 1 = mkF m 0 #[.val (.ref t)] [] := by first | (simp [entryFrame, mkF, argsToLocals, Value.category]; done) | rfl
def Q_rm_co1 (Z : State) (t : Addr) (cz : Int32) (h0 : Heap) (n0 : Nat) (v : Option Value) (h : Heap) (L : List Loc) : Prop := v = some (.int (1 : Int32)) ∧ Fr n0 L ∧ h = h0
set_option maxRecDepth 65536 in
set_option maxHeartbeats 40000000 in
theorem rm_co1 (l : Launch) (Z : State) (a0 : Array Value) (hw : ∀ d ∈ tables_1, d.before a0 Z = true) (ws : List Jvm.Cond) (t : Addr) (cz : Int32) (h0 : Heap) (n0 : Nat) (O0 : Old Z n0 h0) (F_t_coder : Fld Z h0 t "java/lang/String" "coder" "B" (.int (1 : Int32))) (S_COMPACT_STRINGS : Sta Z Z.heap "java/lang/String" "COMPACT_STRINGS" "Z" (.int cz)) (hcz : ¬ cz = (0 : Int32)) :
    MetFree l (⟨"java/lang/String", "coder", "()B"⟩ : MethodName) (head1 (Jvm.Cond.code (⟨"java/lang/String", "coder", "()B"⟩ : MethodName) jdk_42_method_152_code 1 (some .byte) :: ws) ({ frames := 0, cells := 0, slots := 0, locals := 0 } : Room)) (fun args_ U => args_ = #[(.ref t)] ∧ Z.Warmed39 U.vm ∧ U.heap = h0) (fun _ _ _ _ _ => True) (fun _ U out_ U' => ∃ val_ loc_, out_ = .returned val_ ∧ (Q_rm_co1 Z t cz h0 n0) val_ U'.heap loc_ ∧ FrameEnd U out_ U' loc_ ({ frames := 0, cells := 0, slots := 0, locals := 0 } : Room).cells ({ frames := 0, cells := 0, slots := 0, locals := 0 } : Room).slots) := by
  refine start (Q := (Q_rm_co1 Z t cz h0 n0)) pn_10 ?_
  intro p e s m below meth c T0 X0 hx hby hml hown hnm hret hlk hZ e0
  replace hown : s.vm.findClass "java/lang/String" = some m.cls := hown
  replace hml : c.maxLocals = 1 := hml
  refine goAt (ef_rm_co1 m t ) ?_
  have N0 := Fr.nil n0
  show Go p e below T0 (mkF m 0 #[.val (.ref t)] []) _
  obtain ⟨T1, X1, e1, st1⟩ := getS2 X0 hx hZ hown (host := "") (Or.inl (hw _ (List.mem_of_getElem? (i := 48) rfl))) Via.refl e0 (S_COMPACT_STRINGS.ext O0.2) (g := (mkF m 0 #[.val (.ref t)] [])) rfl (hb hby d9_0)
  refine stp st1 ?_
  show Go p e below T1 (mkF m 3 #[.val (.ref t)] [(.int cz)]) _
  refine stp (fun _ => XS.ifNo X1.here hx rfl (hb hby d9_3) rfl (XT.i0_eq_f hcz)) ?_
  show Go p e below T1 (mkF m 6 #[.val (.ref t)] []) _
  refine stp (fun _ => XS.aloadN X1.here hx rfl (hb hby d9_6) rfl rfl) ?_
  show Go p e below T1 (mkF m 7 #[.val (.ref t)] [(.ref t)]) _
  obtain ⟨T2, X2, e2, st2⟩ := getF X1 hx hZ hown (host := "") (Or.inl (hw _ (List.mem_of_getElem? (i := 29) rfl))) Via.refl e1 F_t_coder (g := (mkF m 7 #[.val (.ref t)] [(.ref t)])) rfl rfl (hb hby d9_7)
  refine stp st2 ?_
  show Go p e below T2 (mkF m 10 #[.val (.ref t)] [(.int (1 : Int32))]) _
  refine stp (fun _ => XS.goto X2.here hx rfl (pc0 := 10) (pc' := 14) rfl (hb hby d9_10) (by decide) (by decide)) ?_
  show Go p e below T2 (mkF m 14 #[.val (.ref t)] [(.int (1 : Int32))]) _
  refine outN X2 hx (t := .byte) hret (by simp) (hb hby d9_14) hlk (by decide) (by decide) ?_
  exact ⟨rfl, N0, e2⟩
theorem d19_17 : decode jdk_42_method_154_code 17 = .ok (.iconst 0, 1) := by decide +kernel
theorem ef_rm_il1 (m : MethodId) (t : Addr)  : entryFrame m #[(.ref t)] 1 = mkF m 0 #[.val (.ref t)] [] := by first | (simp [entryFrame, mkF, argsToLocals, Value.category]; done) | rfl
def Q_rm_il1 (Z : State) (t : Addr) (cz : Int32) (h0 : Heap) (n0 : Nat) (v : Option Value) (h : Heap) (L : List Loc) : Prop := v = some (.int (0 : Int32)) ∧ Fr n0 L ∧ h = h0
set_option maxRecDepth 65536 in
set_option maxHeartbeats 40000000 in
theorem rm_il1 (l : Launch) (Z : State) (a0 : Array Value) (hw : ∀ d ∈ tables_1, d.before a0 Z = true) (ws : List Jvm.Cond) (t : Addr) (cz : Int32) (h0 : Heap) (n0 : Nat) (O0 : Old Z n0 h0) (F_t_coder : Fld Z h0 t "java/lang/String" "coder" "B" (.int (1 : Int32))) (S_COMPACT_STRINGS : Sta Z Z.heap "java/lang/String" "COMPACT_STRINGS" "Z" (.int cz)) (hcz : ¬ cz = (0 : Int32)) :
    MetFree l (⟨"java/lang/String", "isLatin1", "()Z"⟩ : MethodName) (head1 (Jvm.Cond.code (⟨"java/lang/String", "isLatin1", "()Z"⟩ : MethodName) jdk_42_method_154_code 1 (some .boolean) :: ws) ({ frames := 0, cells := 0, slots := 0, locals := 0 } : Room)) (fun args_ U => args_ = #[(.ref t)] ∧ Z.Warmed39 U.vm ∧ U.heap = h0) (fun _ _ _ _ _ => True) (fun _ U out_ U' => ∃ val_ loc_, out_ = .returned val_ ∧ (Q_rm_il1 Z t cz h0 n0) val_ U'.heap loc_ ∧ FrameEnd U out_ U' loc_ ({ frames := 0, cells := 0, slots := 0, locals := 0 } : Room).cells ({ frames := 0, cells := 0, slots := 0, locals := 0 } : Room).slots) := by
  refine start (Q := (Q_rm_il1 Z t cz h0 n0)) pn_11 ?_
  intro p e s m below meth c T0 X0 hx hby hml hown hnm hret hlk hZ e0
  replace hown : s.vm.findClass "java/lang/String" = some m.cls := hown
  replace hml : c.maxLocals = 1 := hml
  refine goAt (ef_rm_il1 m t ) ?_
  have N0 := Fr.nil n0
  show Go p e below T0 (mkF m 0 #[.val (.ref t)] []) _
  obtain ⟨T1, X1, e1, st1⟩ := getS2 X0 hx hZ hown (host := "") (Or.inl (hw _ (List.mem_of_getElem? (i := 48) rfl))) Via.refl e0 (S_COMPACT_STRINGS.ext O0.2) (g := (mkF m 0 #[.val (.ref t)] [])) rfl (hb hby d19_0)
  refine stp st1 ?_
  show Go p e below T1 (mkF m 3 #[.val (.ref t)] [(.int cz)]) _
  refine stp (fun _ => XS.ifNo X1.here hx rfl (hb hby d19_3) rfl (XT.i0_eq_f hcz)) ?_
  show Go p e below T1 (mkF m 6 #[.val (.ref t)] []) _
  refine stp (fun _ => XS.aloadN X1.here hx rfl (hb hby d19_6) rfl rfl) ?_
  show Go p e below T1 (mkF m 7 #[.val (.ref t)] [(.ref t)]) _
  obtain ⟨T2, X2, e2, st2⟩ := getF X1 hx hZ hown (host := "") (Or.inl (hw _ (List.mem_of_getElem? (i := 29) rfl))) Via.refl e1 F_t_coder (g := (mkF m 7 #[.val (.ref t)] [(.ref t)])) rfl rfl (hb hby d19_7)
  refine stp st2 ?_
  show Go p e below T2 (mkF m 10 #[.val (.ref t)] [(.int (1 : Int32))]) _
  refine stp (fun _ => XS.ifYes X2.here hx rfl (pc0 := 10) (pc' := 17) rfl (hb hby d19_10) rfl (by decide) (by decide) (by decide)) ?_
  show Go p e below T2 (mkF m 17 #[.val (.ref t)] []) _
  refine stp (fun _ => XS.iconst X2.here hx rfl (hb hby d19_17)) ?_
  show Go p e below T2 (mkF m 18 #[.val (.ref t)] [(.int (0 : Int32))]) _
  refine outN X2 hx (t := .boolean) hret (by simp) (hb hby d19_18) hlk (by decide) (by decide) ?_
  exact ⟨rfl, N0, e2⟩
theorem d8_0 : decode jdk_42_method_54_code 0 = .ok (.aload_n 0, 1) := by decide +kernel
theorem d8_1 : decode jdk_42_method_54_code 1 = .ok (.getfield 9, 3) := by decide +kernel
theorem d8_4 : decode jdk_42_method_54_code 4 = .ok (.arraylength, 1) := by decide +kernel
theorem d8_5 : decode jdk_42_method_54_code 5 = .ok (.aload_n 0, 1) := by decide +kernel
theorem d8_6 : decode jdk_42_method_54_code 6 = .ok (.invokevirtual 335, 3) := by decide +kernel
theorem pd_8 : parseMethodDescriptor "()B" = some ⟨[], some .byte⟩ := by decide +kernel
theorem d8_9 : decode jdk_42_method_54_code 9 = .ok (.ishr, 1) := by decide +kernel
theorem d8_10 : decode jdk_42_method_54_code 10 = .ok (.ireturn, 1) := by decide +kernel
theorem ef_rm_ulen (m : MethodId) (t : Addr)  : entryFrame m #[(.ref t)] 1 = mkF m 0 #[.val (.ref t)] [] := by first | (simp [entryFrame, mkF, argsToLocals, Value.category]; done) | rfl
def Q_rm_ulen (Z : State) (t : Addr) (cs : List Int32) (cz : Int32) (h0 : Heap) (n0 : Nat) (v : Option Value) (h : Heap) (L : List Loc) : Prop := v = some (.int (Int32.ofNat cs.length)) ∧ Fr n0 L ∧ h = h0
theorem pn_12_ : plainName "java/lang/String" = true := by first | (simp [plainName, overriddenIn]; done) | decide +kernel
theorem pn_12 : plainFor (⟨"java/lang/String", "length", "()I"⟩ : MethodName) = true := plainFor_of_name pn_12_
set_option maxRecDepth 65536 in
set_option maxHeartbeats 40000000 in
theorem rm_ulen (l : Launch) (Z : State) (a0 : Array Value) (hw : ∀ d ∈ tables_1, d.before a0 Z = true) (ws : List Jvm.Cond) (t : Addr) (cs : List Int32) (cz : Int32) (h0 : Heap) (n0 : Nat) (O0 : Old Z n0 h0) (Q_t : UStr Z h0 t cs) (S_COMPACT_STRINGS : Sta Z Z.heap "java/lang/String" "COMPACT_STRINGS" "Z" (.int cz)) (hcz : ¬ cz = (0 : Int32)) :
    MetFree l (⟨"java/lang/String", "length", "()I"⟩ : MethodName) (head1 (Jvm.Cond.code (⟨"java/lang/String", "length", "()I"⟩ : MethodName) jdk_42_method_54_code 1 (some .int) :: ws) ({ frames := 1, cells := 0, slots := 0, locals := 13 } : Room)) (fun args_ U => args_ = #[(.ref t)] ∧ Z.Warmed39 U.vm ∧ U.heap = h0) (fun _ _ _ _ _ => True) (fun _ U out_ U' => ∃ val_ loc_, out_ = .returned val_ ∧ (Q_rm_ulen Z t cs cz h0 n0) val_ U'.heap loc_ ∧ FrameEnd U out_ U' loc_ ({ frames := 1, cells := 0, slots := 0, locals := 13 } : Room).cells ({ frames := 1, cells := 0, slots := 0, locals := 13 } : Room).slots) := by
  refine start (Q := (Q_rm_ulen Z t cs cz h0 n0)) pn_12 ?_
  intro p e s m below meth c T0 X0 hx hby hml hown hnm hret hlk hZ e0
  replace hown : s.vm.findClass "java/lang/String" = some m.cls := hown
  replace hml : c.maxLocals = 1 := hml
  refine goAt (ef_rm_ulen m t ) ?_
  have N0 := Fr.nil n0
  show Go p e below T0 (mkF m 0 #[.val (.ref t)] []) _
  rcases (id Q_t) with Q_t | Q_t
  · obtain ⟨tv_t, kv_t, Eo_t, Fv_t, Fc_t, Va_t, hp_t, hl_t⟩ := (id Q_t)
    show Go p e below T0 (mkF m 0 #[.val (.ref t)] []) _
    refine stp (fun _ => XS.aloadN X0.here hx rfl (hb hby d8_0) rfl rfl) ?_
    show Go p e below T0 (mkF m 1 #[.val (.ref t)] [(.ref t)]) _
    obtain ⟨T1, X1, e1, st1⟩ := getF X0 hx hZ hown (host := "") (Or.inl (hw _ (List.mem_of_getElem? (i := 28) rfl))) Via.refl e0 Fv_t (g := (mkF m 1 #[.val (.ref t)] [(.ref t)])) rfl rfl (hb hby d8_1)
    refine stp st1 ?_
    show Go p e below T1 (mkF m 4 #[.val (.ref t)] [(.ref tv_t)]) _
    obtain ⟨cl2, Ar2, -, S2, -, -⟩ := (id Va_t)
    refine stp (fun _ => X1.arraylength hx (by rw [e1]; exact Ar2.1) (State.isArrayOf_alike hZ.alike Ar2.2.1) (g := (mkF m 4 #[.val (.ref t)] [(.ref tv_t)])) rfl rfl (hb hby d8_4) _) ?_
    rw [arf_len S2 (z := (Int32.ofNat cs.length)) (own_ofNatI hl_t)]
    show Go p e below T1 (mkF m 5 #[.val (.ref t)] [(.int (Int32.ofNat cs.length))]) _
    refine stp (fun _ => XS.aloadN X1.here hx rfl (hb hby d8_5) rfl rfl) ?_
    show Go p e below T1 (mkF m 6 #[.val (.ref t)] [(.ref t), (.int (Int32.ofNat cs.length))]) _
    obtain ⟨cq3, kq3, q3a, q3b, q3c⟩ := isOf hZ e1 Eo_t
    obtain ⟨_, _, ⟨T3, L3, k3, n3⟩, -, X3, ⟨Lc3, hQ3, l3, y3, z3⟩, st3⟩ := X1.virtualBack hx (y := (⟨"java/lang/String", "coder", "()B"⟩ : MethodName)) (z := (⟨"java/lang/String", "coder", "()B"⟩ : MethodName)) hown (mvT hZ (hw _ (List.mem_of_getElem? (i := 43) rfl))) (mvT hZ (hw _ (List.mem_of_getElem? (i := 44) rfl))) (notFace_of_selects (args := #[]) (mvT hZ (hw _ (List.mem_of_getElem? (i := 46) rfl)))) (mvT hZ (hw _ (List.mem_of_getElem? (i := 46) rfl))) (mvT hZ (hw _ (List.mem_of_getElem? (i := 45) rfl))) (by decide) (backOf (W := 1) (rm_co0 l Z a0 hw [] t cz h0 n0 O0 Fc_t S_COMPACT_STRINGS hcz) hZ (hw _ (List.mem_of_getElem? (i := 47) rfl)) (hw _ (List.mem_of_getElem? (i := 11) rfl)) (by decide) (by decide)) q3a q3c (g := (mkF m 6 #[.val (.ref t)] [(.ref t), (.int (Int32.ofNat cs.length))])) rfl (by rw [hml]; rfl) (Steps.refl _) (argsL := []) (rest := [(.int (Int32.ofNat cs.length))]) (lenOf pd_8 rfl) rfl (by show 2 * 0 + _ ≤ _; exact Nat.le_of_eq rfl) (hb hby d8_6) (fun _ _ => ⟨rfl, e1, (by decide : 0 + 0 ≤ _), (by decide : 0 + 0 ≤ _)⟩)
    dsimp only [Pt.U, Pt.locs, Pt.cells, Pt.slots] at X3 l3 y3 z3 st3 hQ3
    subst y3 z3
    obtain ⟨rfl, N3q, e3⟩ := hQ3
    have N3 : Fr n0 L3 := by rw [l3]; exact Fr.app N0 N3q
    refine stt st3 ?_
    show Go p e below T3 (mkF m 9 #[.val (.ref t)] [(.int (0 : Int32)), (.int (Int32.ofNat cs.length))]) _
    refine stp (fun _ => XS.ishr X3.here hx rfl (hb hby d8_9) rfl) ?_
    show Go p e below T3 (mkF m 10 #[.val (.ref t)] [(.int ((Int32.ofNat cs.length) >>> ((0 : Int32) &&& 31)))]) _
    refine outI X3 hx hret (hb hby d8_10) hlk (by decide) (by decide) ?_
    exact ⟨own_somei own_sh0, N3, e3⟩
  · obtain ⟨tv_t, kv_t, Eo_t, Fv_t, Fc_t, Va_t, hp_t, hl_t⟩ := (id Q_t)
    show Go p e below T0 (mkF m 0 #[.val (.ref t)] []) _
    refine stp (fun _ => XS.aloadN X0.here hx rfl (hb hby d8_0) rfl rfl) ?_
    show Go p e below T0 (mkF m 1 #[.val (.ref t)] [(.ref t)]) _
    obtain ⟨T4, X4, e4, st4⟩ := getF X0 hx hZ hown (host := "") (Or.inl (hw _ (List.mem_of_getElem? (i := 28) rfl))) Via.refl e0 Fv_t (g := (mkF m 1 #[.val (.ref t)] [(.ref t)])) rfl rfl (hb hby d8_1)
    refine stp st4 ?_
    show Go p e below T4 (mkF m 4 #[.val (.ref t)] [(.ref tv_t)]) _
    obtain ⟨cl5, Ar5, -, S5, -, -⟩ := (id Va_t)
    refine stp (fun _ => X4.arraylength hx (by rw [e4]; exact Ar5.1) (State.isArrayOf_alike hZ.alike Ar5.2.1) (g := (mkF m 4 #[.val (.ref t)] [(.ref tv_t)])) rfl rfl (hb hby d8_4) _) ?_
    rw [arf_len S5 (z := (Int32.ofNat (2 * cs.length))) (own_ofNatI (by omega))]
    show Go p e below T4 (mkF m 5 #[.val (.ref t)] [(.int (Int32.ofNat (2 * cs.length)))]) _
    refine stp (fun _ => XS.aloadN X4.here hx rfl (hb hby d8_5) rfl rfl) ?_
    show Go p e below T4 (mkF m 6 #[.val (.ref t)] [(.ref t), (.int (Int32.ofNat (2 * cs.length)))]) _
    obtain ⟨cq6, kq6, q6a, q6b, q6c⟩ := isOf hZ e4 Eo_t
    obtain ⟨_, _, ⟨T6, L6, k6, n6⟩, -, X6, ⟨Lc6, hQ6, l6, y6, z6⟩, st6⟩ := X4.virtualBack hx (y := (⟨"java/lang/String", "coder", "()B"⟩ : MethodName)) (z := (⟨"java/lang/String", "coder", "()B"⟩ : MethodName)) hown (mvT hZ (hw _ (List.mem_of_getElem? (i := 43) rfl))) (mvT hZ (hw _ (List.mem_of_getElem? (i := 44) rfl))) (notFace_of_selects (args := #[]) (mvT hZ (hw _ (List.mem_of_getElem? (i := 46) rfl)))) (mvT hZ (hw _ (List.mem_of_getElem? (i := 46) rfl))) (mvT hZ (hw _ (List.mem_of_getElem? (i := 45) rfl))) (by decide) (backOf (W := 1) (rm_co1 l Z a0 hw [] t cz h0 n0 O0 Fc_t S_COMPACT_STRINGS hcz) hZ (hw _ (List.mem_of_getElem? (i := 47) rfl)) (hw _ (List.mem_of_getElem? (i := 11) rfl)) (by decide) (by decide)) q6a q6c (g := (mkF m 6 #[.val (.ref t)] [(.ref t), (.int (Int32.ofNat (2 * cs.length)))])) rfl (by rw [hml]; rfl) (Steps.refl _) (argsL := []) (rest := [(.int (Int32.ofNat (2 * cs.length)))]) (lenOf pd_8 rfl) rfl (by show 2 * 0 + _ ≤ _; exact Nat.le_of_eq rfl) (hb hby d8_6) (fun _ _ => ⟨rfl, e4, (by decide : 0 + 0 ≤ _), (by decide : 0 + 0 ≤ _)⟩)
    dsimp only [Pt.U, Pt.locs, Pt.cells, Pt.slots] at X6 l6 y6 z6 st6 hQ6
    subst y6 z6
    obtain ⟨rfl, N6q, e6⟩ := hQ6
    have N6 : Fr n0 L6 := by rw [l6]; exact Fr.app N0 N6q
    refine stt st6 ?_
    show Go p e below T6 (mkF m 9 #[.val (.ref t)] [(.int (1 : Int32)), (.int (Int32.ofNat (2 * cs.length)))]) _
    refine stp (fun _ => XS.ishr X6.here hx rfl (hb hby d8_9) rfl) ?_
    show Go p e below T6 (mkF m 10 #[.val (.ref t)] [(.int ((Int32.ofNat (2 * cs.length)) >>> ((1 : Int32) &&& 31)))]) _
    refine outI X6 hx hret (hb hby d8_10) hlk (by decide) (by decide) ?_
    exact ⟨own_somei (own_sh1 hl_t), N6, e6⟩
theorem d24_0 : decode jdk_41_method_11_code 0 = .ok (.iload_n 0, 1) := by decide +kernel
theorem d24_1 : decode jdk_41_method_11_code 1 = .ok (.ifCond .lt 8, 3) := by decide +kernel
theorem d24_4 : decode jdk_41_method_11_code 4 = .ok (.iload_n 0, 1) := by decide +kernel
theorem d24_5 : decode jdk_41_method_11_code 5 = .ok (.iload_n 1, 1) := by decide +kernel
theorem d24_6 : decode jdk_41_method_11_code 6 = .ok (.if_icmp .lt 10, 3) := by decide +kernel
theorem d24_16 : decode jdk_41_method_11_code 16 = .ok (.iload_n 0, 1) := by decide +kernel
theorem d24_17 : decode jdk_41_method_11_code 17 = .ok (.ireturn, 1) := by decide +kernel
theorem ef_rm_pci (m : MethodId) (i : Int32) (n : Int32) (fm : Value) (cat_fm : fm.category = 1) : entryFrame m #[(.int i), (.int n), fm] 3 = mkF m 0 #[.val (.int i), .val (.int n), .val fm] [] := by first | (simp [entryFrame, mkF, argsToLocals, Value.category, cat_fm]; done) | rfl | (cases fm <;> first | rfl | (exact absurd cat_fm (show ¬ (2 : Nat) = 1 by decide)))
def Q_rm_pci (Z : State) (i : Int32) (n : Int32) (fm : Value)  (h0 : Heap) (n0 : Nat) (v : Option Value) (h : Heap) (L : List Loc) : Prop := v = some (.int i) ∧ Fr n0 L ∧ h = h0
theorem pn_13_ : plainName "jdk/internal/util/Preconditions" = true := by first | (simp [plainName, overriddenIn]; done) | decide +kernel
theorem pn_13 : plainFor (⟨"jdk/internal/util/Preconditions", "checkIndex", "(IILjava/util/function/BiFunction;)I"⟩ : MethodName) = true := plainFor_of_name pn_13_
set_option maxRecDepth 65536 in
set_option maxHeartbeats 40000000 in
theorem rm_pci (l : Launch) (Z : State) (a0 : Array Value) (hw : ∀ d ∈ tables_1, d.before a0 Z = true) (ws : List Jvm.Cond) (i : Int32) (n : Int32) (fm : Value)  (h0 : Heap) (n0 : Nat) (O0 : Old Z n0 h0) (hfm : fm.isRef = true) (h0_ : ¬ i < 0) (h1_ : i < n) :
    MetFree l (⟨"jdk/internal/util/Preconditions", "checkIndex", "(IILjava/util/function/BiFunction;)I"⟩ : MethodName) (head1 (Jvm.Cond.code (⟨"jdk/internal/util/Preconditions", "checkIndex", "(IILjava/util/function/BiFunction;)I"⟩ : MethodName) jdk_41_method_11_code 3 (some .int) :: ws) ({ frames := 0, cells := 0, slots := 0, locals := 0 } : Room)) (fun args_ U => args_ = #[(.int i), (.int n), fm] ∧ Z.Warmed39 U.vm ∧ U.heap = h0) (fun _ _ _ _ _ => True) (fun _ U out_ U' => ∃ val_ loc_, out_ = .returned val_ ∧ (Q_rm_pci Z i n fm h0 n0) val_ U'.heap loc_ ∧ FrameEnd U out_ U' loc_ ({ frames := 0, cells := 0, slots := 0, locals := 0 } : Room).cells ({ frames := 0, cells := 0, slots := 0, locals := 0 } : Room).slots) := by
  refine start (Q := (Q_rm_pci Z i n fm h0 n0)) pn_13 ?_
  intro p e s m below meth c T0 X0 hx hby hml hown hnm hret hlk hZ e0
  replace hown : s.vm.findClass "jdk/internal/util/Preconditions" = some m.cls := hown
  replace hml : c.maxLocals = 3 := hml
  refine goAt (ef_rm_pci m i n fm (cat_ref hfm)) ?_
  have N0 := Fr.nil n0
  show Go p e below T0 (mkF m 0 #[.val (.int i), .val (.int n), .val fm] []) _
  refine stp (fun _ => XS.iloadN X0.here hx rfl (hb hby d24_0) rfl) ?_
  show Go p e below T0 (mkF m 1 #[.val (.int i), .val (.int n), .val fm] [(.int i)]) _
  refine stp (fun _ => XS.ifNo X0.here hx rfl (hb hby d24_1) rfl (XT.i0_lt_f h0_)) ?_
  show Go p e below T0 (mkF m 4 #[.val (.int i), .val (.int n), .val fm] []) _
  refine stp (fun _ => XS.iloadN X0.here hx rfl (hb hby d24_4) rfl) ?_
  refine stp (fun _ => XS.iloadN X0.here hx rfl (hb hby d24_5) rfl) ?_
  show Go p e below T0 (mkF m 6 #[.val (.int i), .val (.int n), .val fm] [(.int n), (.int i)]) _
  refine stp (fun _ => XS.icmpYes X0.here hx rfl (pc0 := 6) (pc' := 16) rfl (hb hby d24_6) rfl (XT.ii_lt_t h1_) (by decide) (by decide)) ?_
  show Go p e below T0 (mkF m 16 #[.val (.int i), .val (.int n), .val fm] []) _
  refine stp (fun _ => XS.iloadN X0.here hx rfl (hb hby d24_16) rfl) ?_
  show Go p e below T0 (mkF m 17 #[.val (.int i), .val (.int n), .val fm] [(.int i)]) _
  refine outI X0 hx hret (hb hby d24_17) hlk (by decide) (by decide) ?_
  exact ⟨rfl, N0, e0⟩
theorem d23_0 : decode jdk_42_method_155_code 0 = .ok (.iload_n 0, 1) := by decide +kernel
theorem d23_1 : decode jdk_42_method_155_code 1 = .ok (.iload_n 1, 1) := by decide +kernel
theorem d23_2 : decode jdk_42_method_155_code 2 = .ok (.getstatic 1053, 3) := by decide +kernel
theorem d23_5 : decode jdk_42_method_155_code 5 = .ok (.invokestatic 1059, 3) := by decide +kernel
theorem pd_9 : parseMethodDescriptor "(IILjava/util/function/BiFunction;)I" = some ⟨[.int, .int, (.object "java/util/function/BiFunction")], some .int⟩ := by decide +kernel
theorem d23_8 : decode jdk_42_method_155_code 8 = .ok (.pop, 1) := by decide +kernel
theorem d23_9 : decode jdk_42_method_155_code 9 = .ok (.return_, 1) := by decide +kernel
theorem ef_rm_sci (m : MethodId) (i : Int32) (n : Int32)  : entryFrame m #[(.int i), (.int n)] 2 = mkF m 0 #[.val (.int i), .val (.int n)] [] := by first | (simp [entryFrame, mkF, argsToLocals, Value.category]; done) | rfl
def Q_rm_sci (Z : State) (i : Int32) (n : Int32) (fm : Value) (h0 : Heap) (n0 : Nat) (v : Option Value) (h : Heap) (L : List Loc) : Prop := v = none ∧ Fr n0 L ∧ h = h0
theorem pn_14_ : plainName "java/lang/String" = true := by first | (simp [plainName, overriddenIn]; done) | decide +kernel
theorem pn_14 : plainFor (⟨"java/lang/String", "checkIndex", "(II)V"⟩ : MethodName) = true := plainFor_of_name pn_14_
set_option maxRecDepth 65536 in
set_option maxHeartbeats 40000000 in
theorem rm_sci (l : Launch) (Z : State) (a0 : Array Value) (hw : ∀ d ∈ tables_1, d.before a0 Z = true) (ws : List Jvm.Cond) (i : Int32) (n : Int32) (fm : Value) (h0 : Heap) (n0 : Nat) (O0 : Old Z n0 h0) (S_SIOOBE_FORMATTER : Sta Z Z.heap "jdk/internal/util/Preconditions" "SIOOBE_FORMATTER" "Ljava/util/function/BiFunction;" fm) (hfm : fm.isRef = true) (h0_ : ¬ i < 0) (h1_ : i < n) :
    MetFree l (⟨"java/lang/String", "checkIndex", "(II)V"⟩ : MethodName) (head1 (Jvm.Cond.code (⟨"java/lang/String", "checkIndex", "(II)V"⟩ : MethodName) jdk_42_method_155_code 2 none :: ws) ({ frames := 1, cells := 0, slots := 0, locals := 14 } : Room)) (fun args_ U => args_ = #[(.int i), (.int n)] ∧ Z.Warmed39 U.vm ∧ U.heap = h0) (fun _ _ _ _ _ => True) (fun _ U out_ U' => ∃ val_ loc_, out_ = .returned val_ ∧ (Q_rm_sci Z i n fm h0 n0) val_ U'.heap loc_ ∧ FrameEnd U out_ U' loc_ ({ frames := 1, cells := 0, slots := 0, locals := 14 } : Room).cells ({ frames := 1, cells := 0, slots := 0, locals := 14 } : Room).slots) := by
  refine start (Q := (Q_rm_sci Z i n fm h0 n0)) pn_14 ?_
  intro p e s m below meth c T0 X0 hx hby hml hown hnm hret hlk hZ e0
  replace hown : s.vm.findClass "java/lang/String" = some m.cls := hown
  replace hml : c.maxLocals = 2 := hml
  refine goAt (ef_rm_sci m i n ) ?_
  have N0 := Fr.nil n0
  show Go p e below T0 (mkF m 0 #[.val (.int i), .val (.int n)] []) _
  refine stp (fun _ => XS.iloadN X0.here hx rfl (hb hby d23_0) rfl) ?_
  refine stp (fun _ => XS.iloadN X0.here hx rfl (hb hby d23_1) rfl) ?_
  show Go p e below T0 (mkF m 2 #[.val (.int i), .val (.int n)] [(.int n), (.int i)]) _
  obtain ⟨T1, X1, e1, st1⟩ := getS2 X0 hx hZ hown (host := "") (Or.inl (hw _ (List.mem_of_getElem? (i := 102) rfl))) Via.refl e0 (S_SIOOBE_FORMATTER.ext O0.2) (g := (mkF m 2 #[.val (.int i), .val (.int n)] [(.int n), (.int i)])) rfl (hb hby d23_2)
  refine stp st1 ?_
  show Go p e below T1 (mkF m 5 #[.val (.int i), .val (.int n)] [fm, (.int n), (.int i)]) _
  obtain ⟨_, _, ⟨T2, L2, k2, n2⟩, -, X2, ⟨Lc2, hQ2, l2, y2, z2⟩, st2⟩ := Jvm.LawKit.callS X1 hx (y := (⟨"jdk/internal/util/Preconditions", "checkIndex", "(IILjava/util/function/BiFunction;)I"⟩ : MethodName)) hown (mvT hZ (hw _ (List.mem_of_getElem? (i := 104) rfl))) (mvT hZ (hw _ (List.mem_of_getElem? (i := 105) rfl))) (mvT hZ (hw _ (List.mem_of_getElem? (i := 103) rfl))) (mvT hZ (hw _ (List.mem_of_getElem? (i := 106) rfl))) (by decide) (backOf (W := 0) (rm_pci l Z a0 hw [] i n fm  h0 n0 O0 hfm h0_ h1_) hZ (hw _ (List.mem_of_getElem? (i := 106) rfl)) (hw _ (List.mem_of_getElem? (i := 103) rfl)) (by decide) (by decide)) (g := (mkF m 5 #[.val (.int i), .val (.int n)] [fm, (.int n), (.int i)])) rfl (by rw [hml]; rfl) (argsL := [(.int i), (.int n), fm]) (rest := []) (lenOf pd_9 rfl) rfl (by show 2 * 0 + _ ≤ _; exact Nat.le_of_eq rfl) (hb hby d23_5) (fun _ _ => ⟨rfl, e1, (by decide : 0 + 0 ≤ _), (by decide : 0 + 0 ≤ _)⟩)
  dsimp only [Pt.U, Pt.locs, Pt.cells, Pt.slots] at X2 l2 y2 z2 st2 hQ2
  subst y2 z2
  obtain ⟨rfl, N2q, e2⟩ := hQ2
  have N2 : Fr n0 L2 := by rw [l2]; exact Fr.app N0 N2q
  refine stp st2 ?_
  show Go p e below T2 (mkF m 8 #[.val (.int i), .val (.int n)] [(.int i)]) _
  refine stp (fun _ => XS.pop X2.here hx rfl (hb hby d23_8) rfl rfl) ?_
  show Go p e below T2 (mkF m 9 #[.val (.int i), .val (.int n)] []) _
  refine outV X2 hx hret (hb hby d23_9) hlk (by decide) (by decide) ?_
  exact ⟨rfl, N2, e2⟩
theorem d25_0 : decode jdk_43_method_2_code 0 = .ok (.iload_n 1, 1) := by decide +kernel
theorem d25_1 : decode jdk_43_method_2_code 1 = .ok (.aload_n 0, 1) := by decide +kernel
theorem d25_2 : decode jdk_43_method_2_code 2 = .ok (.arraylength, 1) := by decide +kernel
theorem d25_3 : decode jdk_43_method_2_code 3 = .ok (.invokestatic 9, 3) := by decide +kernel
theorem pd_10 : parseMethodDescriptor "(II)V" = some ⟨[.int, .int], none⟩ := by decide +kernel
theorem d25_6 : decode jdk_43_method_2_code 6 = .ok (.aload_n 0, 1) := by decide +kernel
theorem d25_7 : decode jdk_43_method_2_code 7 = .ok (.iload_n 1, 1) := by decide +kernel
theorem d25_8 : decode jdk_43_method_2_code 8 = .ok (.baload, 1) := by decide +kernel
theorem d25_9 : decode jdk_43_method_2_code 9 = .ok (.sipush 255, 3) := by decide +kernel
theorem d25_12 : decode jdk_43_method_2_code 12 = .ok (.iand, 1) := by decide +kernel
theorem d25_13 : decode jdk_43_method_2_code 13 = .ok (.i2c, 1) := by decide +kernel
theorem d25_14 : decode jdk_43_method_2_code 14 = .ok (.ireturn, 1) := by decide +kernel
theorem ef_rm_lca (m : MethodId) (vb : Addr) (i : Int32)  : entryFrame m #[(.ref vb), (.int i)] 2 = mkF m 0 #[.val (.ref vb), .val (.int i)] [] := by first | (simp [entryFrame, mkF, argsToLocals, Value.category]; done) | rfl
def Q_rm_lca (Z : State) (vb : Addr) (i : Int32) (cs : List Int32) (j : Nat) (fm : Value) (k_vb : ClassId) (h0 : Heap) (n0 : Nat) (v : Option Value) (h : Heap) (L : List Loc) : Prop := v = some (.int (own_at cs j)) ∧ Fr n0 L ∧ h = h0
theorem pn_15_ : plainName "java/lang/StringLatin1" = true := by first | (simp [plainName, overriddenIn]; done) | decide +kernel
theorem pn_15 : plainFor (⟨"java/lang/StringLatin1", "charAt", "([BI)C"⟩ : MethodName) = true := plainFor_of_name pn_15_
set_option maxRecDepth 65536 in
set_option maxHeartbeats 40000000 in
theorem rm_lca (l : Launch) (Z : State) (a0 : Array Value) (hw : ∀ d ∈ tables_1, d.before a0 Z = true) (ws : List Jvm.Cond) (vb : Addr) (i : Int32) (cs : List Int32) (j : Nat) (fm : Value) (k_vb : ClassId) (h0 : Heap) (n0 : Nat) (O0 : Old Z n0 h0) (V_vb : Arf Z h0 vb k_vb .byte cs.length (fun i => (.int (own_by cs i)))) (S_SIOOBE_FORMATTER : Sta Z Z.heap "jdk/internal/util/Preconditions" "SIOOBE_FORMATTER" "Ljava/util/function/BiFunction;" fm) (hfm : fm.isRef = true) (hi : i.toInt = (j : Int)) (hj : j < cs.length) (hl : cs.length ≤ 4000) (hs8 : ∀ c ∈ cs, ¬ c < 0 ∧ ¬ (255 : Int32) < c) :
    MetFree l (⟨"java/lang/StringLatin1", "charAt", "([BI)C"⟩ : MethodName) (head1 (Jvm.Cond.code (⟨"java/lang/StringLatin1", "charAt", "([BI)C"⟩ : MethodName) jdk_43_method_2_code 2 (some .char) :: ws) ({ frames := 2, cells := 0, slots := 0, locals := 27 } : Room)) (fun args_ U => args_ = #[(.ref vb), (.int i)] ∧ Z.Warmed39 U.vm ∧ U.heap = h0) (fun _ _ _ _ _ => True) (fun _ U out_ U' => ∃ val_ loc_, out_ = .returned val_ ∧ (Q_rm_lca Z vb i cs j fm k_vb h0 n0) val_ U'.heap loc_ ∧ FrameEnd U out_ U' loc_ ({ frames := 2, cells := 0, slots := 0, locals := 27 } : Room).cells ({ frames := 2, cells := 0, slots := 0, locals := 27 } : Room).slots) := by
  refine start (Q := (Q_rm_lca Z vb i cs j fm k_vb h0 n0)) pn_15 ?_
  intro p e s m below meth c T0 X0 hx hby hml hown hnm hret hlk hZ e0
  replace hown : s.vm.findClass "java/lang/StringLatin1" = some m.cls := hown
  replace hml : c.maxLocals = 2 := hml
  refine goAt (ef_rm_lca m vb i ) ?_
  have N0 := Fr.nil n0
  show Go p e below T0 (mkF m 0 #[.val (.ref vb), .val (.int i)] []) _
  refine stp (fun _ => XS.iloadN X0.here hx rfl (hb hby d25_0) rfl) ?_
  refine stp (fun _ => XS.aloadN X0.here hx rfl (hb hby d25_1) rfl rfl) ?_
  show Go p e below T0 (mkF m 2 #[.val (.ref vb), .val (.int i)] [(.ref vb), (.int i)]) _
  obtain ⟨cl1, Ar1, -, S1, -, -⟩ := (id V_vb)
  refine stp (fun _ => X0.arraylength hx (by rw [e0]; exact Ar1.1) (State.isArrayOf_alike hZ.alike Ar1.2.1) (g := (mkF m 2 #[.val (.ref vb), .val (.int i)] [(.ref vb), (.int i)])) rfl rfl (hb hby d25_2) _) ?_
  rw [arf_len S1 (z := (Int32.ofNat cs.length)) (own_ofNatI hl)]
  show Go p e below T0 (mkF m 3 #[.val (.ref vb), .val (.int i)] [(.int (Int32.ofNat cs.length)), (.int i)]) _
  obtain ⟨_, _, ⟨T2, L2, k2, n2⟩, -, X2, ⟨Lc2, hQ2, l2, y2, z2⟩, st2⟩ := Jvm.LawKit.callS X0 hx (y := (⟨"java/lang/String", "checkIndex", "(II)V"⟩ : MethodName)) hown (mvT hZ (hw _ (List.mem_of_getElem? (i := 111) rfl))) (mvT hZ (hw _ (List.mem_of_getElem? (i := 100) rfl))) (mvT hZ (hw _ (List.mem_of_getElem? (i := 11) rfl))) (mvT hZ (hw _ (List.mem_of_getElem? (i := 101) rfl))) (by decide) (backOf (W := 0) (rm_sci l Z a0 hw [] i (Int32.ofNat cs.length) fm h0 n0 O0 S_SIOOBE_FORMATTER hfm (own_u0 hi) (own_ltI hi (own_ofNatI hl) hj)) hZ (hw _ (List.mem_of_getElem? (i := 101) rfl)) (hw _ (List.mem_of_getElem? (i := 11) rfl)) (by decide) (by decide)) (g := (mkF m 3 #[.val (.ref vb), .val (.int i)] [(.int (Int32.ofNat cs.length)), (.int i)])) rfl (by rw [hml]; rfl) (argsL := [(.int i), (.int (Int32.ofNat cs.length))]) (rest := []) (lenOf pd_10 rfl) rfl (by show 2 * 0 + _ ≤ _; exact Nat.le_of_eq rfl) (hb hby d25_3) (fun _ _ => ⟨rfl, e0, (by decide : 0 + 0 ≤ _), (by decide : 0 + 0 ≤ _)⟩)
  dsimp only [Pt.U, Pt.locs, Pt.cells, Pt.slots] at X2 l2 y2 z2 st2 hQ2
  subst y2 z2
  obtain ⟨rfl, N2q, e2⟩ := hQ2
  have N2 : Fr n0 L2 := by rw [l2]; exact Fr.app N0 N2q
  refine stp st2 ?_
  show Go p e below T2 (mkF m 6 #[.val (.ref vb), .val (.int i)] []) _
  refine stp (fun _ => XS.aloadN X2.here hx rfl (hb hby d25_6) rfl rfl) ?_
  refine stp (fun _ => XS.iloadN X2.here hx rfl (hb hby d25_7) rfl) ?_
  show Go p e below T2 (mkF m 8 #[.val (.ref vb), .val (.int i)] [(.int i), (.ref vb)]) _
  obtain ⟨cl3, Ar3, q3, S3, H3, G3⟩ := (id V_vb)
  have in3 : ¬ (i < 0 ∨ cl3.slots.size ≤ (i).toNatClampNeg) := arf_in S3 hi hj
  have at3 : cl3.slots[(i).toNatClampNeg]? = some (.int (own_by cs j)) := arf_at H3 hi hj
  refine stp (fun _ => X2.baloadBytes hx (j := i) (v := (.int (own_by cs j))) (by rw [e2]; exact Ar3.1) (State.isArrayOf_alike hZ.alike Ar3.2.1) Ar3.2.2 in3 at3 (g := (mkF m 8 #[.val (.ref vb), .val (.int i)] [(.int i), (.ref vb)])) rfl rfl (hb hby d25_8) _) ?_
  show Go p e below T2 (mkF m 9 #[.val (.ref vb), .val (.int i)] [(.int (own_by cs j))]) _
  refine stp (fun _ => XS.sipush X2.here hx rfl (hb hby d25_9)) ?_
  show Go p e below T2 (mkF m 12 #[.val (.ref vb), .val (.int i)] [(.int (255 : Int32)), (.int (own_by cs j))]) _
  refine stp (fun _ => XS.iand X2.here hx rfl (hb hby d25_12) rfl) ?_
  show Go p e below T2 (mkF m 13 #[.val (.ref vb), .val (.int i)] [(.int ((own_by cs j) &&& (255 : Int32)))]) _
  refine stp (fun _ => XS.i2c X2.here hx rfl (hb hby d25_13) rfl) ?_
  show Go p e below T2 (mkF m 14 #[.val (.ref vb), .val (.int i)] [(.int (((own_by cs j) &&& (255 : Int32)).toUInt32.toUInt16.toUInt32.toInt32))]) _
  refine outN X2 hx (t := .char) hret (by simp) (hb hby d25_14) hlk (by decide) (by decide) ?_
  exact ⟨own_somei (by rw [own_by_at, own_lat (hs8 _ (own_at_mem hj)), char255 (hs8 _ (own_at_mem hj))]; exact own_narc (own_up16 (hs8 _ (own_at_mem hj)))), N2, e2⟩
theorem d22_0 : decode jdk_52_method_6_code 0 = .ok (.aload_n 0, 1) := by decide +kernel
theorem d22_1 : decode jdk_52_method_6_code 1 = .ok (.arraylength, 1) := by decide +kernel
theorem d22_2 : decode jdk_52_method_6_code 2 = .ok (.iconst 1, 1) := by decide +kernel
theorem d22_3 : decode jdk_52_method_6_code 3 = .ok (.ishr, 1) := by decide +kernel
theorem d22_4 : decode jdk_52_method_6_code 4 = .ok (.ireturn, 1) := by decide +kernel
theorem ef_rm_ul (m : MethodId) (vb : Addr)  : entryFrame m #[(.ref vb)] 1 = mkF m 0 #[.val (.ref vb)] [] := by first | (simp [entryFrame, mkF, argsToLocals, Value.category]; done) | rfl
def Q_rm_ul (Z : State) (vb : Addr) (cs : List Int32) (k_vb : ClassId) (h0 : Heap) (n0 : Nat) (v : Option Value) (h : Heap) (L : List Loc) : Prop := v = some (.int (Int32.ofNat cs.length)) ∧ Fr n0 L ∧ h = h0
theorem pn_16_ : plainName "java/lang/StringUTF16" = true := by first | (simp [plainName, overriddenIn]; done) | decide +kernel
theorem pn_16 : plainFor (⟨"java/lang/StringUTF16", "length", "([B)I"⟩ : MethodName) = true := plainFor_of_name pn_16_
set_option maxRecDepth 65536 in
set_option maxHeartbeats 40000000 in
theorem rm_ul (l : Launch) (Z : State) (a0 : Array Value) (hw : ∀ d ∈ tables_1, d.before a0 Z = true) (ws : List Jvm.Cond) (vb : Addr) (cs : List Int32) (k_vb : ClassId) (h0 : Heap) (n0 : Nat) (O0 : Old Z n0 h0) (V_vb : Arf Z h0 vb k_vb .byte (2 * cs.length) (fun x => (.int (own_ub cs x)))) (hN1 : cs.length ≤ 10) :
    MetFree l (⟨"java/lang/StringUTF16", "length", "([B)I"⟩ : MethodName) (head1 (Jvm.Cond.code (⟨"java/lang/StringUTF16", "length", "([B)I"⟩ : MethodName) jdk_52_method_6_code 1 (some .int) :: ws) ({ frames := 0, cells := 0, slots := 0, locals := 0 } : Room)) (fun args_ U => args_ = #[(.ref vb)] ∧ Z.Warmed39 U.vm ∧ U.heap = h0) (fun _ _ _ _ _ => True) (fun _ U out_ U' => ∃ val_ loc_, out_ = .returned val_ ∧ (Q_rm_ul Z vb cs k_vb h0 n0) val_ U'.heap loc_ ∧ FrameEnd U out_ U' loc_ ({ frames := 0, cells := 0, slots := 0, locals := 0 } : Room).cells ({ frames := 0, cells := 0, slots := 0, locals := 0 } : Room).slots) := by
  refine start (Q := (Q_rm_ul Z vb cs k_vb h0 n0)) pn_16 ?_
  intro p e s m below meth c T0 X0 hx hby hml hown hnm hret hlk hZ e0
  replace hown : s.vm.findClass "java/lang/StringUTF16" = some m.cls := hown
  replace hml : c.maxLocals = 1 := hml
  refine goAt (ef_rm_ul m vb ) ?_
  have N0 := Fr.nil n0
  show Go p e below T0 (mkF m 0 #[.val (.ref vb)] []) _
  refine stp (fun _ => XS.aloadN X0.here hx rfl (hb hby d22_0) rfl rfl) ?_
  show Go p e below T0 (mkF m 1 #[.val (.ref vb)] [(.ref vb)]) _
  obtain ⟨cl1, Ar1, -, S1, -, -⟩ := (id V_vb)
  refine stp (fun _ => X0.arraylength hx (by rw [e0]; exact Ar1.1) (State.isArrayOf_alike hZ.alike Ar1.2.1) (g := (mkF m 1 #[.val (.ref vb)] [(.ref vb)])) rfl rfl (hb hby d22_1) _) ?_
  rw [arf_len S1 (z := (Int32.ofNat (2 * cs.length))) (own_ofNatI (by omega))]
  show Go p e below T0 (mkF m 2 #[.val (.ref vb)] [(.int (Int32.ofNat (2 * cs.length)))]) _
  refine stp (fun _ => XS.iconst X0.here hx rfl (hb hby d22_2)) ?_
  show Go p e below T0 (mkF m 3 #[.val (.ref vb)] [(.int (1 : Int32)), (.int (Int32.ofNat (2 * cs.length)))]) _
  refine stp (fun _ => XS.ishr X0.here hx rfl (hb hby d22_3) rfl) ?_
  show Go p e below T0 (mkF m 4 #[.val (.ref vb)] [(.int ((Int32.ofNat (2 * cs.length)) >>> ((1 : Int32) &&& 31)))]) _
  refine outI X0 hx hret (hb hby d22_4) hlk (by decide) (by decide) ?_
  exact ⟨own_somei (own_sh1 hN1), N0, e0⟩
theorem d21_0 : decode jdk_52_method_91_code 0 = .ok (.iload_n 0, 1) := by decide +kernel
theorem d21_1 : decode jdk_52_method_91_code 1 = .ok (.aload_n 1, 1) := by decide +kernel
theorem d21_2 : decode jdk_52_method_91_code 2 = .ok (.invokestatic 48, 3) := by decide +kernel
theorem pd_11 : parseMethodDescriptor "([B)I" = some ⟨[(.array .byte)], some .int⟩ := by decide +kernel
theorem d21_5 : decode jdk_52_method_91_code 5 = .ok (.invokestatic 414, 3) := by decide +kernel
theorem d21_8 : decode jdk_52_method_91_code 8 = .ok (.return_, 1) := by decide +kernel
theorem ef_rm_uci (m : MethodId) (i : Int32) (vb : Addr)  : entryFrame m #[(.int i), (.ref vb)] 2 = mkF m 0 #[.val (.int i), .val (.ref vb)] [] := by first | (simp [entryFrame, mkF, argsToLocals, Value.category]; done) | rfl
def Q_rm_uci (Z : State) (i : Int32) (vb : Addr) (cs : List Int32) (j : Nat) (fm : Value) (k_vb : ClassId) (h0 : Heap) (n0 : Nat) (v : Option Value) (h : Heap) (L : List Loc) : Prop := v = none ∧ Fr n0 L ∧ h = h0
theorem pn_17_ : plainName "java/lang/StringUTF16" = true := by first | (simp [plainName, overriddenIn]; done) | decide +kernel
theorem pn_17 : plainFor (⟨"java/lang/StringUTF16", "checkIndex", "(I[B)V"⟩ : MethodName) = true := plainFor_of_name pn_17_
set_option maxRecDepth 65536 in
set_option maxHeartbeats 40000000 in
theorem rm_uci (l : Launch) (Z : State) (a0 : Array Value) (hw : ∀ d ∈ tables_1, d.before a0 Z = true) (ws : List Jvm.Cond) (i : Int32) (vb : Addr) (cs : List Int32) (j : Nat) (fm : Value) (k_vb : ClassId) (h0 : Heap) (n0 : Nat) (O0 : Old Z n0 h0) (V_vb : Arf Z h0 vb k_vb .byte (2 * cs.length) (fun x => (.int (own_ub cs x)))) (S_SIOOBE_FORMATTER : Sta Z Z.heap "jdk/internal/util/Preconditions" "SIOOBE_FORMATTER" "Ljava/util/function/BiFunction;" fm) (hfm : fm.isRef = true) (hi : i.toInt = (j : Int)) (hj : j < cs.length) (hN1 : cs.length ≤ 10) :
    MetFree l (⟨"java/lang/StringUTF16", "checkIndex", "(I[B)V"⟩ : MethodName) (head1 (Jvm.Cond.code (⟨"java/lang/StringUTF16", "checkIndex", "(I[B)V"⟩ : MethodName) jdk_52_method_91_code 2 none :: ws) ({ frames := 2, cells := 0, slots := 0, locals := 27 } : Room)) (fun args_ U => args_ = #[(.int i), (.ref vb)] ∧ Z.Warmed39 U.vm ∧ U.heap = h0) (fun _ _ _ _ _ => True) (fun _ U out_ U' => ∃ val_ loc_, out_ = .returned val_ ∧ (Q_rm_uci Z i vb cs j fm k_vb h0 n0) val_ U'.heap loc_ ∧ FrameEnd U out_ U' loc_ ({ frames := 2, cells := 0, slots := 0, locals := 27 } : Room).cells ({ frames := 2, cells := 0, slots := 0, locals := 27 } : Room).slots) := by
  refine start (Q := (Q_rm_uci Z i vb cs j fm k_vb h0 n0)) pn_17 ?_
  intro p e s m below meth c T0 X0 hx hby hml hown hnm hret hlk hZ e0
  replace hown : s.vm.findClass "java/lang/StringUTF16" = some m.cls := hown
  replace hml : c.maxLocals = 2 := hml
  refine goAt (ef_rm_uci m i vb ) ?_
  have N0 := Fr.nil n0
  show Go p e below T0 (mkF m 0 #[.val (.int i), .val (.ref vb)] []) _
  refine stp (fun _ => XS.iloadN X0.here hx rfl (hb hby d21_0) rfl) ?_
  refine stp (fun _ => XS.aloadN X0.here hx rfl (hb hby d21_1) rfl rfl) ?_
  show Go p e below T0 (mkF m 2 #[.val (.int i), .val (.ref vb)] [(.ref vb), (.int i)]) _
  obtain ⟨_, _, ⟨T1, L1, k1, n1⟩, -, X1, ⟨Lc1, hQ1, l1, y1, z1⟩, st1⟩ := Jvm.LawKit.callS X0 hx (y := (⟨"java/lang/StringUTF16", "length", "([B)I"⟩ : MethodName)) hown (mvT hZ (hw _ (List.mem_of_getElem? (i := 96) rfl))) (mvT hZ (hw _ (List.mem_of_getElem? (i := 97) rfl))) (mvT hZ (hw _ (List.mem_of_getElem? (i := 52) rfl))) (mvT hZ (hw _ (List.mem_of_getElem? (i := 98) rfl))) (by decide) (backOf (W := 1) (rm_ul l Z a0 hw [] vb cs k_vb h0 n0 O0 V_vb hN1) hZ (hw _ (List.mem_of_getElem? (i := 98) rfl)) (hw _ (List.mem_of_getElem? (i := 52) rfl)) (by decide) (by decide)) (g := (mkF m 2 #[.val (.int i), .val (.ref vb)] [(.ref vb), (.int i)])) rfl (by rw [hml]; rfl) (argsL := [(.ref vb)]) (rest := [(.int i)]) (lenOf pd_11 rfl) rfl (by show 2 * 0 + _ ≤ _; exact Nat.le_of_eq rfl) (hb hby d21_2) (fun _ _ => ⟨rfl, e0, (by decide : 0 + 0 ≤ _), (by decide : 0 + 0 ≤ _)⟩)
  dsimp only [Pt.U, Pt.locs, Pt.cells, Pt.slots] at X1 l1 y1 z1 st1 hQ1
  subst y1 z1
  obtain ⟨rfl, N1q, e1⟩ := hQ1
  have N1 : Fr n0 L1 := by rw [l1]; exact Fr.app N0 N1q
  refine stp st1 ?_
  show Go p e below T1 (mkF m 5 #[.val (.int i), .val (.ref vb)] [(.int (Int32.ofNat cs.length)), (.int i)]) _
  obtain ⟨_, _, ⟨T2, L2, k2, n2⟩, -, X2, ⟨Lc2, hQ2, l2, y2, z2⟩, st2⟩ := Jvm.LawKit.callS X1 hx (y := (⟨"java/lang/String", "checkIndex", "(II)V"⟩ : MethodName)) hown (mvT hZ (hw _ (List.mem_of_getElem? (i := 99) rfl))) (mvT hZ (hw _ (List.mem_of_getElem? (i := 100) rfl))) (mvT hZ (hw _ (List.mem_of_getElem? (i := 11) rfl))) (mvT hZ (hw _ (List.mem_of_getElem? (i := 101) rfl))) (by decide) (backOf (W := 0) (rm_sci l Z a0 hw [] i (Int32.ofNat cs.length) fm h0 n0 O0 S_SIOOBE_FORMATTER hfm (own_u0 hi) (own_ltI hi (own_ofNatI (by omega)) hj)) hZ (hw _ (List.mem_of_getElem? (i := 101) rfl)) (hw _ (List.mem_of_getElem? (i := 11) rfl)) (by decide) (by decide)) (g := (mkF m 5 #[.val (.int i), .val (.ref vb)] [(.int (Int32.ofNat cs.length)), (.int i)])) rfl (by rw [hml]; rfl) (argsL := [(.int i), (.int (Int32.ofNat cs.length))]) (rest := []) (lenOf pd_10 rfl) rfl (by show 2 * 0 + _ ≤ _; exact Nat.le_of_eq rfl) (hb hby d21_5) (fun _ _ => ⟨rfl, e1, (by decide : 0 + 0 ≤ _), (by decide : 0 + 0 ≤ _)⟩)
  dsimp only [Pt.U, Pt.locs, Pt.cells, Pt.slots] at X2 l2 y2 z2 st2 hQ2
  subst y2 z2
  obtain ⟨rfl, N2q, e2⟩ := hQ2
  have N2 : Fr n0 L2 := by rw [l2]; exact Fr.app N1 N2q
  refine stp st2 ?_
  show Go p e below T2 (mkF m 8 #[.val (.int i), .val (.ref vb)] []) _
  refine outV X2 hx hret (hb hby d21_8) hlk (by decide) (by decide) ?_
  exact ⟨rfl, N2, e2⟩
theorem d20_0 : decode jdk_52_method_83_code 0 = .ok (.iload_n 1, 1) := by decide +kernel
theorem d20_1 : decode jdk_52_method_83_code 1 = .ok (.aload_n 0, 1) := by decide +kernel
theorem d20_2 : decode jdk_52_method_83_code 2 = .ok (.invokestatic 67, 3) := by decide +kernel
theorem pd_12 : parseMethodDescriptor "(I[B)V" = some ⟨[.int, (.array .byte)], none⟩ := by decide +kernel
theorem d20_5 : decode jdk_52_method_83_code 5 = .ok (.aload_n 0, 1) := by decide +kernel
theorem d20_6 : decode jdk_52_method_83_code 6 = .ok (.iload_n 1, 1) := by decide +kernel
theorem d20_7 : decode jdk_52_method_83_code 7 = .ok (.invokestatic 71, 3) := by decide +kernel
theorem d20_10 : decode jdk_52_method_83_code 10 = .ok (.ireturn, 1) := by decide +kernel
theorem ef_rm_uca (m : MethodId) (vb : Addr) (i : Int32)  : entryFrame m #[(.ref vb), (.int i)] 2 = mkF m 0 #[.val (.ref vb), .val (.int i)] [] := by first | (simp [entryFrame, mkF, argsToLocals, Value.category]; done) | rfl
def Q_rm_uca (Z : State) (vb : Addr) (i : Int32) (cs : List Int32) (j : Nat) (fm : Value) (k_vb : ClassId) (h0 : Heap) (n0 : Nat) (v : Option Value) (h : Heap) (L : List Loc) : Prop := v = some (.int (own_at cs j)) ∧ Fr n0 L ∧ h = h0
theorem pn_18_ : plainName "java/lang/StringUTF16" = true := by first | (simp [plainName, overriddenIn]; done) | decide +kernel
theorem pn_18 : plainFor (⟨"java/lang/StringUTF16", "charAt", "([BI)C"⟩ : MethodName) = true := plainFor_of_name pn_18_
set_option maxRecDepth 65536 in
set_option maxHeartbeats 40000000 in
theorem rm_uca (l : Launch) (Z : State) (a0 : Array Value) (hw : ∀ d ∈ tables_1, d.before a0 Z = true) (ws : List Jvm.Cond) (vb : Addr) (i : Int32) (cs : List Int32) (j : Nat) (fm : Value) (k_vb : ClassId) (h0 : Heap) (n0 : Nat) (O0 : Old Z n0 h0) (V_vb : Arf Z h0 vb k_vb .byte (2 * cs.length) (fun x => (.int (own_ub cs x)))) (S_SIOOBE_FORMATTER : Sta Z Z.heap "jdk/internal/util/Preconditions" "SIOOBE_FORMATTER" "Ljava/util/function/BiFunction;" fm) (S__assertionsDisabled : Sta Z Z.heap "java/lang/StringUTF16" "$assertionsDisabled" "Z" (.int (1 : Int32))) (S_HI_BYTE_SHIFT : Sta Z Z.heap "java/lang/StringUTF16" "HI_BYTE_SHIFT" "I" (.int (0 : Int32))) (S_LO_BYTE_SHIFT : Sta Z Z.heap "java/lang/StringUTF16" "LO_BYTE_SHIFT" "I" (.int (8 : Int32))) (hfm : fm.isRef = true) (hi : i.toInt = (j : Int)) (hj : j < cs.length) (hN1 : cs.length ≤ 10) (hsm : ∀ c ∈ cs, ¬ c < 0 ∧ ¬ (65535 : Int32) < c) :
    MetFree l (⟨"java/lang/StringUTF16", "charAt", "([BI)C"⟩ : MethodName) (head1 (Jvm.Cond.code (⟨"java/lang/StringUTF16", "charAt", "([BI)C"⟩ : MethodName) jdk_52_method_83_code 2 (some .char) :: ws) ({ frames := 3, cells := 0, slots := 0, locals := 40 } : Room)) (fun args_ U => args_ = #[(.ref vb), (.int i)] ∧ Z.Warmed39 U.vm ∧ U.heap = h0) (fun _ _ _ _ _ => True) (fun _ U out_ U' => ∃ val_ loc_, out_ = .returned val_ ∧ (Q_rm_uca Z vb i cs j fm k_vb h0 n0) val_ U'.heap loc_ ∧ FrameEnd U out_ U' loc_ ({ frames := 3, cells := 0, slots := 0, locals := 40 } : Room).cells ({ frames := 3, cells := 0, slots := 0, locals := 40 } : Room).slots) := by
  refine start (Q := (Q_rm_uca Z vb i cs j fm k_vb h0 n0)) pn_18 ?_
  intro p e s m below meth c T0 X0 hx hby hml hown hnm hret hlk hZ e0
  replace hown : s.vm.findClass "java/lang/StringUTF16" = some m.cls := hown
  replace hml : c.maxLocals = 2 := hml
  refine goAt (ef_rm_uca m vb i ) ?_
  have N0 := Fr.nil n0
  show Go p e below T0 (mkF m 0 #[.val (.ref vb), .val (.int i)] []) _
  refine stp (fun _ => XS.iloadN X0.here hx rfl (hb hby d20_0) rfl) ?_
  refine stp (fun _ => XS.aloadN X0.here hx rfl (hb hby d20_1) rfl rfl) ?_
  show Go p e below T0 (mkF m 2 #[.val (.ref vb), .val (.int i)] [(.ref vb), (.int i)]) _
  obtain ⟨_, _, ⟨T1, L1, k1, n1⟩, -, X1, ⟨Lc1, hQ1, l1, y1, z1⟩, st1⟩ := Jvm.LawKit.callS X0 hx (y := (⟨"java/lang/StringUTF16", "checkIndex", "(I[B)V"⟩ : MethodName)) hown (mvT hZ (hw _ (List.mem_of_getElem? (i := 93) rfl))) (mvT hZ (hw _ (List.mem_of_getElem? (i := 94) rfl))) (mvT hZ (hw _ (List.mem_of_getElem? (i := 52) rfl))) (mvT hZ (hw _ (List.mem_of_getElem? (i := 95) rfl))) (by decide) (backOf (W := 0) (rm_uci l Z a0 hw [] i vb cs j fm k_vb h0 n0 O0 V_vb S_SIOOBE_FORMATTER hfm hi hj hN1) hZ (hw _ (List.mem_of_getElem? (i := 95) rfl)) (hw _ (List.mem_of_getElem? (i := 52) rfl)) (by decide) (by decide)) (g := (mkF m 2 #[.val (.ref vb), .val (.int i)] [(.ref vb), (.int i)])) rfl (by rw [hml]; rfl) (argsL := [(.int i), (.ref vb)]) (rest := []) (lenOf pd_12 rfl) rfl (by show 2 * 0 + _ ≤ _; exact Nat.le_of_eq rfl) (hb hby d20_2) (fun _ _ => ⟨rfl, e0, (by decide : 0 + 0 ≤ _), (by decide : 0 + 0 ≤ _)⟩)
  dsimp only [Pt.U, Pt.locs, Pt.cells, Pt.slots] at X1 l1 y1 z1 st1 hQ1
  subst y1 z1
  obtain ⟨rfl, N1q, e1⟩ := hQ1
  have N1 : Fr n0 L1 := by rw [l1]; exact Fr.app N0 N1q
  refine stp st1 ?_
  show Go p e below T1 (mkF m 5 #[.val (.ref vb), .val (.int i)] []) _
  refine stp (fun _ => XS.aloadN X1.here hx rfl (hb hby d20_5) rfl rfl) ?_
  refine stp (fun _ => XS.iloadN X1.here hx rfl (hb hby d20_6) rfl) ?_
  show Go p e below T1 (mkF m 7 #[.val (.ref vb), .val (.int i)] [(.int i), (.ref vb)]) _
  obtain ⟨_, _, ⟨T2, L2, k2, n2⟩, -, X2, ⟨Lc2, hQ2, l2, y2, z2⟩, st2⟩ := Jvm.LawKit.callS X1 hx (y := (⟨"java/lang/StringUTF16", "getChar", "([BI)C"⟩ : MethodName)) hown (mvT hZ (hw _ (List.mem_of_getElem? (i := 73) rfl))) (mvT hZ (hw _ (List.mem_of_getElem? (i := 74) rfl))) (mvT hZ (hw _ (List.mem_of_getElem? (i := 52) rfl))) (mvT hZ (hw _ (List.mem_of_getElem? (i := 75) rfl))) (by decide) (backOf (W := 0) (rm_gc l Z a0 hw [] vb i cs j k_vb h0 n0 O0 V_vb S__assertionsDisabled S_HI_BYTE_SHIFT S_LO_BYTE_SHIFT hi hj hN1 hsm) hZ (hw _ (List.mem_of_getElem? (i := 75) rfl)) (hw _ (List.mem_of_getElem? (i := 52) rfl)) (by decide) (by decide)) (g := (mkF m 7 #[.val (.ref vb), .val (.int i)] [(.int i), (.ref vb)])) rfl (by rw [hml]; rfl) (argsL := [(.ref vb), (.int i)]) (rest := []) (lenOf pd_5 rfl) rfl (by show 2 * 0 + _ ≤ _; exact Nat.le_of_eq rfl) (hb hby d20_7) (fun _ _ => ⟨rfl, e1, (by decide : 0 + 0 ≤ _), (by decide : 0 + 0 ≤ _)⟩)
  dsimp only [Pt.U, Pt.locs, Pt.cells, Pt.slots] at X2 l2 y2 z2 st2 hQ2
  subst y2 z2
  obtain ⟨rfl, N2q, e2⟩ := hQ2
  have N2 : Fr n0 L2 := by rw [l2]; exact Fr.app N1 N2q
  refine stp st2 ?_
  show Go p e below T2 (mkF m 10 #[.val (.ref vb), .val (.int i)] [(.int (own_at cs j))]) _
  refine outN X2 hx (t := .char) hret (by simp) (hb hby d20_10) hlk (by decide) (by decide) ?_
  exact ⟨own_somei (own_narc (own_u16all hsm hj)), N2, e2⟩
theorem d18_0 : decode jdk_42_method_56_code 0 = .ok (.aload_n 0, 1) := by decide +kernel
theorem d18_1 : decode jdk_42_method_56_code 1 = .ok (.invokevirtual 492, 3) := by decide +kernel
theorem pd_13 : parseMethodDescriptor "()Z" = some ⟨[], some .boolean⟩ := by decide +kernel
theorem d18_4 : decode jdk_42_method_56_code 4 = .ok (.ifCond .eq 12, 3) := by decide +kernel
theorem d18_7 : decode jdk_42_method_56_code 7 = .ok (.aload_n 0, 1) := by decide +kernel
theorem d18_8 : decode jdk_42_method_56_code 8 = .ok (.getfield 9, 3) := by decide +kernel
theorem d18_11 : decode jdk_42_method_56_code 11 = .ok (.iload_n 1, 1) := by decide +kernel
theorem d18_12 : decode jdk_42_method_56_code 12 = .ok (.invokestatic 495, 3) := by decide +kernel
theorem d18_15 : decode jdk_42_method_56_code 15 = .ok (.ireturn, 1) := by decide +kernel
theorem d18_16 : decode jdk_42_method_56_code 16 = .ok (.aload_n 0, 1) := by decide +kernel
theorem d18_17 : decode jdk_42_method_56_code 17 = .ok (.getfield 9, 3) := by decide +kernel
theorem d18_20 : decode jdk_42_method_56_code 20 = .ok (.iload_n 1, 1) := by decide +kernel
theorem d18_21 : decode jdk_42_method_56_code 21 = .ok (.invokestatic 498, 3) := by decide +kernel
theorem d18_24 : decode jdk_42_method_56_code 24 = .ok (.ireturn, 1) := by decide +kernel
theorem ef_rm_uch (m : MethodId) (t : Addr) (i : Int32)  : entryFrame m #[(.ref t), (.int i)] 2 = mkF m 0 #[.val (.ref t), .val (.int i)] [] := by first | (simp [entryFrame, mkF, argsToLocals, Value.category]; done) | rfl
def Q_rm_uch (Z : State) (t : Addr) (i : Int32) (cs : List Int32) (cz : Int32) (fm : Value) (j : Nat) (h0 : Heap) (n0 : Nat) (v : Option Value) (h : Heap) (L : List Loc) : Prop := v = some (.int (own_at cs j)) ∧ Fr n0 L ∧ h = h0
theorem pn_19_ : plainName "java/lang/String" = true := by first | (simp [plainName, overriddenIn]; done) | decide +kernel
theorem pn_19 : plainFor (⟨"java/lang/String", "charAt", "(I)C"⟩ : MethodName) = true := plainFor_of_name pn_19_
set_option maxRecDepth 65536 in
set_option maxHeartbeats 40000000 in
theorem rm_uch (l : Launch) (Z : State) (a0 : Array Value) (hw : ∀ d ∈ tables_1, d.before a0 Z = true) (ws : List Jvm.Cond) (t : Addr) (i : Int32) (cs : List Int32) (cz : Int32) (fm : Value) (j : Nat) (h0 : Heap) (n0 : Nat) (O0 : Old Z n0 h0) (Q_t : UStr Z h0 t cs) (S_COMPACT_STRINGS : Sta Z Z.heap "java/lang/String" "COMPACT_STRINGS" "Z" (.int cz)) (S_SIOOBE_FORMATTER : Sta Z Z.heap "jdk/internal/util/Preconditions" "SIOOBE_FORMATTER" "Ljava/util/function/BiFunction;" fm) (S__assertionsDisabled : Sta Z Z.heap "java/lang/StringUTF16" "$assertionsDisabled" "Z" (.int (1 : Int32))) (S_HI_BYTE_SHIFT : Sta Z Z.heap "java/lang/StringUTF16" "HI_BYTE_SHIFT" "I" (.int (0 : Int32))) (S_LO_BYTE_SHIFT : Sta Z Z.heap "java/lang/StringUTF16" "LO_BYTE_SHIFT" "I" (.int (8 : Int32))) (hcz : ¬ cz = (0 : Int32)) (hfm : fm.isRef = true) (hi : i.toInt = (j : Int)) (hj : j < cs.length) :
    MetFree l (⟨"java/lang/String", "charAt", "(I)C"⟩ : MethodName) (head1 (Jvm.Cond.code (⟨"java/lang/String", "charAt", "(I)C"⟩ : MethodName) jdk_42_method_56_code 2 (some .char) :: ws) ({ frames := 4, cells := 0, slots := 0, locals := 53 } : Room)) (fun args_ U => args_ = #[(.ref t), (.int i)] ∧ Z.Warmed39 U.vm ∧ U.heap = h0) (fun _ _ _ _ _ => True) (fun _ U out_ U' => ∃ val_ loc_, out_ = .returned val_ ∧ (Q_rm_uch Z t i cs cz fm j h0 n0) val_ U'.heap loc_ ∧ FrameEnd U out_ U' loc_ ({ frames := 4, cells := 0, slots := 0, locals := 53 } : Room).cells ({ frames := 4, cells := 0, slots := 0, locals := 53 } : Room).slots) := by
  refine start (Q := (Q_rm_uch Z t i cs cz fm j h0 n0)) pn_19 ?_
  intro p e s m below meth c T0 X0 hx hby hml hown hnm hret hlk hZ e0
  replace hown : s.vm.findClass "java/lang/String" = some m.cls := hown
  replace hml : c.maxLocals = 2 := hml
  refine goAt (ef_rm_uch m t i ) ?_
  have N0 := Fr.nil n0
  show Go p e below T0 (mkF m 0 #[.val (.ref t), .val (.int i)] []) _
  rcases (id Q_t) with Q_t | Q_t
  · obtain ⟨tv_t, kv_t, Eo_t, Fv_t, Fc_t, Va_t, hp_t, hl_t⟩ := (id Q_t)
    show Go p e below T0 (mkF m 0 #[.val (.ref t), .val (.int i)] []) _
    refine stp (fun _ => XS.aloadN X0.here hx rfl (hb hby d18_0) rfl rfl) ?_
    show Go p e below T0 (mkF m 1 #[.val (.ref t), .val (.int i)] [(.ref t)]) _
    obtain ⟨cq1, kq1, q1a, q1b, q1c⟩ := isOf hZ e0 Eo_t
    obtain ⟨_, _, ⟨T1, L1, k1, n1⟩, -, X1, ⟨Lc1, hQ1, l1, y1, z1⟩, st1⟩ := X0.virtualBack hx (y := (⟨"java/lang/String", "isLatin1", "()Z"⟩ : MethodName)) (z := (⟨"java/lang/String", "isLatin1", "()Z"⟩ : MethodName)) hown (mvT hZ (hw _ (List.mem_of_getElem? (i := 85) rfl))) (mvT hZ (hw _ (List.mem_of_getElem? (i := 86) rfl))) (notFace_of_selects (args := #[]) (mvT hZ (hw _ (List.mem_of_getElem? (i := 88) rfl)))) (mvT hZ (hw _ (List.mem_of_getElem? (i := 88) rfl))) (mvT hZ (hw _ (List.mem_of_getElem? (i := 87) rfl))) (by decide) (backOf (W := 0) (rm_il0 l Z a0 hw [] t cz h0 n0 O0 Fc_t S_COMPACT_STRINGS hcz) hZ (hw _ (List.mem_of_getElem? (i := 89) rfl)) (hw _ (List.mem_of_getElem? (i := 11) rfl)) (by decide) (by decide)) q1a q1c (g := (mkF m 1 #[.val (.ref t), .val (.int i)] [(.ref t)])) rfl (by rw [hml]; rfl) (Steps.refl _) (argsL := []) (rest := []) (lenOf pd_13 rfl) rfl (by show 2 * 0 + _ ≤ _; exact Nat.le_of_eq rfl) (hb hby d18_1) (fun _ _ => ⟨rfl, e0, (by decide : 0 + 0 ≤ _), (by decide : 0 + 0 ≤ _)⟩)
    dsimp only [Pt.U, Pt.locs, Pt.cells, Pt.slots] at X1 l1 y1 z1 st1 hQ1
    subst y1 z1
    obtain ⟨rfl, N1q, e1⟩ := hQ1
    have N1 : Fr n0 L1 := by rw [l1]; exact Fr.app N0 N1q
    refine stt st1 ?_
    show Go p e below T1 (mkF m 4 #[.val (.ref t), .val (.int i)] [(.int (1 : Int32))]) _
    refine stp (fun _ => XS.ifNo X1.here hx rfl (hb hby d18_4) rfl (by decide)) ?_
    show Go p e below T1 (mkF m 7 #[.val (.ref t), .val (.int i)] []) _
    refine stp (fun _ => XS.aloadN X1.here hx rfl (hb hby d18_7) rfl rfl) ?_
    show Go p e below T1 (mkF m 8 #[.val (.ref t), .val (.int i)] [(.ref t)]) _
    obtain ⟨T2, X2, e2, st2⟩ := getF X1 hx hZ hown (host := "") (Or.inl (hw _ (List.mem_of_getElem? (i := 28) rfl))) Via.refl e1 Fv_t (g := (mkF m 8 #[.val (.ref t), .val (.int i)] [(.ref t)])) rfl rfl (hb hby d18_8)
    refine stp st2 ?_
    show Go p e below T2 (mkF m 11 #[.val (.ref t), .val (.int i)] [(.ref tv_t)]) _
    refine stp (fun _ => XS.iloadN X2.here hx rfl (hb hby d18_11) rfl) ?_
    show Go p e below T2 (mkF m 12 #[.val (.ref t), .val (.int i)] [(.int i), (.ref tv_t)]) _
    obtain ⟨_, _, ⟨T3, L3, k3, n3⟩, -, X3, ⟨Lc3, hQ3, l3, y3, z3⟩, st3⟩ := Jvm.LawKit.callS X2 hx (y := (⟨"java/lang/StringLatin1", "charAt", "([BI)C"⟩ : MethodName)) hown (mvT hZ (hw _ (List.mem_of_getElem? (i := 107) rfl))) (mvT hZ (hw _ (List.mem_of_getElem? (i := 108) rfl))) (mvT hZ (hw _ (List.mem_of_getElem? (i := 109) rfl))) (mvT hZ (hw _ (List.mem_of_getElem? (i := 110) rfl))) (by decide) (backOf (W := 0) (rm_lca l Z a0 hw [] tv_t i cs j fm kv_t h0 n0 O0 Va_t S_SIOOBE_FORMATTER hfm hi hj hl_t hp_t) hZ (hw _ (List.mem_of_getElem? (i := 110) rfl)) (hw _ (List.mem_of_getElem? (i := 109) rfl)) (by decide) (by decide)) (g := (mkF m 12 #[.val (.ref t), .val (.int i)] [(.int i), (.ref tv_t)])) rfl (by rw [hml]; rfl) (argsL := [(.ref tv_t), (.int i)]) (rest := []) (lenOf pd_5 rfl) rfl (by show 2 * 0 + _ ≤ _; exact Nat.le_of_eq rfl) (hb hby d18_12) (fun _ _ => ⟨rfl, e2, (by decide : 0 + 0 ≤ _), (by decide : 0 + 0 ≤ _)⟩)
    dsimp only [Pt.U, Pt.locs, Pt.cells, Pt.slots] at X3 l3 y3 z3 st3 hQ3
    subst y3 z3
    obtain ⟨rfl, N3q, e3⟩ := hQ3
    have N3 : Fr n0 L3 := by rw [l3]; exact Fr.app N1 N3q
    refine stp st3 ?_
    show Go p e below T3 (mkF m 15 #[.val (.ref t), .val (.int i)] [(.int (own_at cs j))]) _
    refine outN X3 hx (t := .char) hret (by simp) (hb hby d18_15) hlk (by decide) (by decide) ?_
    exact ⟨own_somei (own_narc (own_up16 (hp_t _ (own_at_mem hj)))), N3, e3⟩
  · obtain ⟨tv_t, kv_t, Eo_t, Fv_t, Fc_t, Va_t, hp_t, hl_t⟩ := (id Q_t)
    show Go p e below T0 (mkF m 0 #[.val (.ref t), .val (.int i)] []) _
    refine stp (fun _ => XS.aloadN X0.here hx rfl (hb hby d18_0) rfl rfl) ?_
    show Go p e below T0 (mkF m 1 #[.val (.ref t), .val (.int i)] [(.ref t)]) _
    obtain ⟨cq4, kq4, q4a, q4b, q4c⟩ := isOf hZ e0 Eo_t
    obtain ⟨_, _, ⟨T4, L4, k4, n4⟩, -, X4, ⟨Lc4, hQ4, l4, y4, z4⟩, st4⟩ := X0.virtualBack hx (y := (⟨"java/lang/String", "isLatin1", "()Z"⟩ : MethodName)) (z := (⟨"java/lang/String", "isLatin1", "()Z"⟩ : MethodName)) hown (mvT hZ (hw _ (List.mem_of_getElem? (i := 85) rfl))) (mvT hZ (hw _ (List.mem_of_getElem? (i := 86) rfl))) (notFace_of_selects (args := #[]) (mvT hZ (hw _ (List.mem_of_getElem? (i := 88) rfl)))) (mvT hZ (hw _ (List.mem_of_getElem? (i := 88) rfl))) (mvT hZ (hw _ (List.mem_of_getElem? (i := 87) rfl))) (by decide) (backOf (W := 0) (rm_il1 l Z a0 hw [] t cz h0 n0 O0 Fc_t S_COMPACT_STRINGS hcz) hZ (hw _ (List.mem_of_getElem? (i := 89) rfl)) (hw _ (List.mem_of_getElem? (i := 11) rfl)) (by decide) (by decide)) q4a q4c (g := (mkF m 1 #[.val (.ref t), .val (.int i)] [(.ref t)])) rfl (by rw [hml]; rfl) (Steps.refl _) (argsL := []) (rest := []) (lenOf pd_13 rfl) rfl (by show 2 * 0 + _ ≤ _; exact Nat.le_of_eq rfl) (hb hby d18_1) (fun _ _ => ⟨rfl, e0, (by decide : 0 + 0 ≤ _), (by decide : 0 + 0 ≤ _)⟩)
    dsimp only [Pt.U, Pt.locs, Pt.cells, Pt.slots] at X4 l4 y4 z4 st4 hQ4
    subst y4 z4
    obtain ⟨rfl, N4q, e4⟩ := hQ4
    have N4 : Fr n0 L4 := by rw [l4]; exact Fr.app N0 N4q
    refine stt st4 ?_
    show Go p e below T4 (mkF m 4 #[.val (.ref t), .val (.int i)] [(.int (0 : Int32))]) _
    refine stp (fun _ => XS.ifYes X4.here hx rfl (pc0 := 4) (pc' := 16) rfl (hb hby d18_4) rfl (by decide) (by decide) (by decide)) ?_
    show Go p e below T4 (mkF m 16 #[.val (.ref t), .val (.int i)] []) _
    refine stp (fun _ => XS.aloadN X4.here hx rfl (hb hby d18_16) rfl rfl) ?_
    show Go p e below T4 (mkF m 17 #[.val (.ref t), .val (.int i)] [(.ref t)]) _
    obtain ⟨T5, X5, e5, st5⟩ := getF X4 hx hZ hown (host := "") (Or.inl (hw _ (List.mem_of_getElem? (i := 28) rfl))) Via.refl e4 Fv_t (g := (mkF m 17 #[.val (.ref t), .val (.int i)] [(.ref t)])) rfl rfl (hb hby d18_17)
    refine stp st5 ?_
    show Go p e below T5 (mkF m 20 #[.val (.ref t), .val (.int i)] [(.ref tv_t)]) _
    refine stp (fun _ => XS.iloadN X5.here hx rfl (hb hby d18_20) rfl) ?_
    show Go p e below T5 (mkF m 21 #[.val (.ref t), .val (.int i)] [(.int i), (.ref tv_t)]) _
    obtain ⟨_, _, ⟨T6, L6, k6, n6⟩, -, X6, ⟨Lc6, hQ6, l6, y6, z6⟩, st6⟩ := Jvm.LawKit.callS X5 hx (y := (⟨"java/lang/StringUTF16", "charAt", "([BI)C"⟩ : MethodName)) hown (mvT hZ (hw _ (List.mem_of_getElem? (i := 90) rfl))) (mvT hZ (hw _ (List.mem_of_getElem? (i := 91) rfl))) (mvT hZ (hw _ (List.mem_of_getElem? (i := 52) rfl))) (mvT hZ (hw _ (List.mem_of_getElem? (i := 92) rfl))) (by decide) (backOf (W := 0) (rm_uca l Z a0 hw [] tv_t i cs j fm kv_t h0 n0 O0 Va_t S_SIOOBE_FORMATTER S__assertionsDisabled S_HI_BYTE_SHIFT S_LO_BYTE_SHIFT hfm hi hj hl_t hp_t) hZ (hw _ (List.mem_of_getElem? (i := 92) rfl)) (hw _ (List.mem_of_getElem? (i := 52) rfl)) (by decide) (by decide)) (g := (mkF m 21 #[.val (.ref t), .val (.int i)] [(.int i), (.ref tv_t)])) rfl (by rw [hml]; rfl) (argsL := [(.ref tv_t), (.int i)]) (rest := []) (lenOf pd_5 rfl) rfl (by show 2 * 0 + _ ≤ _; exact Nat.le_of_eq rfl) (hb hby d18_21) (fun _ _ => ⟨rfl, e5, (by decide : 0 + 0 ≤ _), (by decide : 0 + 0 ≤ _)⟩)
    dsimp only [Pt.U, Pt.locs, Pt.cells, Pt.slots] at X6 l6 y6 z6 st6 hQ6
    subst y6 z6
    obtain ⟨rfl, N6q, e6⟩ := hQ6
    have N6 : Fr n0 L6 := by rw [l6]; exact Fr.app N4 N6q
    refine stp st6 ?_
    show Go p e below T6 (mkF m 24 #[.val (.ref t), .val (.int i)] [(.int (own_at cs j))]) _
    refine outN X6 hx (t := .char) hret (by simp) (hb hby d18_24) hlk (by decide) (by decide) ?_
    exact ⟨own_somei (own_narc (own_u16all hp_t hj)), N6, e6⟩
theorem d4_8 : decode jdk_42_method_149_code 8 = .ok (.aload_n 0, 1) := by decide +kernel
theorem d4_9 : decode jdk_42_method_149_code 9 = .ok (.ldc 7, 2) := by decide +kernel
theorem d4_11 : decode jdk_42_method_149_code 11 = .ok (.getfield 9, 3) := by decide +kernel
theorem d4_14 : decode jdk_42_method_149_code 14 = .ok (.putfield 9, 3) := by decide +kernel
theorem d4_17 : decode jdk_42_method_149_code 17 = .ok (.aload_n 0, 1) := by decide +kernel
theorem d4_18 : decode jdk_42_method_149_code 18 = .ok (.ldc 7, 2) := by decide +kernel
theorem d4_20 : decode jdk_42_method_149_code 20 = .ok (.getfield 15, 3) := by decide +kernel
theorem d4_23 : decode jdk_42_method_149_code 23 = .ok (.putfield 15, 3) := by decide +kernel
theorem d4_26 : decode jdk_42_method_149_code 26 = .ok (.return_, 1) := by decide +kernel
theorem ef_rm_s0v (m : MethodId) (t : Addr) (ca : Addr)  : entryFrame m #[(.ref t), (.ref ca), (.int (0 : Int32)), (.int (0 : Int32)), .null] 6 = mkF m 0 #[.val (.ref t), .val (.ref ca), .val (.int (0 : Int32)), .val (.int (0 : Int32)), .val .null, .unset] [] := by first | (simp [entryFrame, mkF, argsToLocals, Value.category]; done) | rfl
def Q_rm_s0v (Z : State) (t : Addr) (ca : Addr)  (h0 : Heap) (n0 : Nat) (v : Option Value) (h : Heap) (L : List Loc) : Prop := v = none ∧ Fr n0 L ∧ Keep h0 h [t] ∧ UStr Z h t []
set_option maxRecDepth 65536 in
set_option maxHeartbeats 40000000 in
theorem rm_s0v (l : Launch) (Z : State) (a0 : Array Value) (hw : ∀ d ∈ tables_1, d.before a0 Z = true) (ws : List Jvm.Cond) (t : Addr) (ca : Addr)  (h0 : Heap) (n0 : Nat) (O0 : Old Z n0 h0) (hEL : EW Z a0 consts_1) (E_t : Exa Z h0 t "java/lang/String") (F_t_value : Fld Z h0 t "java/lang/String" "value" "[B" .null) (F_t_coder : Fld Z h0 t "java/lang/String" "coder" "B" (.int (0 : Int32))) (ge_t : n0 ≤ t) :
    MetFree l (⟨"java/lang/String", "<init>", "([CIILjava/lang/Void;)V"⟩ : MethodName) (head1 (Jvm.Cond.code (⟨"java/lang/String", "<init>", "([CIILjava/lang/Void;)V"⟩ : MethodName) jdk_42_method_149_code 6 none :: ws) ({ frames := 1, cells := 2, slots := 4, locals := 12 } : Room)) (fun args_ U => args_ = #[(.ref t), (.ref ca), (.int (0 : Int32)), (.int (0 : Int32)), .null] ∧ Z.Warmed39 U.vm ∧ U.heap = h0 ∧ CHv Z consts_1 U.vm h0) (fun _ _ _ _ _ => True) (fun _ U out_ U' => ∃ val_ loc_, out_ = .returned val_ ∧ (Q_rm_s0v Z t ca h0 n0) val_ U'.heap loc_ ∧ CHr Z consts_1 U.vm U.heap U'.vm U'.heap ∧ ReturnedEndW U out_ U' loc_ ({ frames := 1, cells := 2, slots := 4, locals := 12 } : Room).cells ({ frames := 1, cells := 2, slots := 4, locals := 12 } : Room).slots) := by
  refine startW (Q := (Q_rm_s0v Z t ca h0 n0)) pn_8 ?_
  intro p e s m below meth c T0 X0 hx hby hml hown hnm hret hlk hZ e0 hS CR
  have hk : 0 ≤ h0.size := Nat.zero_le _
  have wS : ∀ a ∈ Bundle.stringAtoms, a.before a0 Z = true := own_wS hw
  replace hown : s.vm.findClass "java/lang/String" = some m.cls := hown
  replace hml : c.maxLocals = 6 := hml
  refine goAt (ef_rm_s0v m t ca ) ?_
  have N0 := Fr.nil n0
  have Sf_t := safeNull (EL := consts_1) hZ.alike E_t F_t_value
  show Go p e below T0 (mkF m 0 #[.val (.ref t), .val (.ref ca), .val (.int (0 : Int32)), .val (.int (0 : Int32)), .val .null, .unset] []) _
  refine stp (fun _ => XS.aloadN X0.here hx rfl (hb hby d4_0) rfl rfl) ?_
  show Go p e below T0 (mkF m 1 #[.val (.ref t), .val (.ref ca), .val (.int (0 : Int32)), .val (.int (0 : Int32)), .val .null, .unset] [(.ref t)]) _
  obtain ⟨T1, X1, e1, st1⟩ := initO X0 hx hZ hown (hw _ (List.mem_of_getElem? (i := 19) rfl)) (hw _ (List.mem_of_getElem? (i := 20) rfl)) (hw _ (List.mem_of_getElem? (i := 21) rfl)) e0 (g := (mkF m 1 #[.val (.ref t), .val (.ref ca), .val (.int (0 : Int32)), .val (.int (0 : Int32)), .val .null, .unset] [(.ref t)])) rfl (by rw [hml]; rfl) rfl (hb hby d4_1) (by decide) (W := 0) (by show 2 * 0 + _ ≤ _; exact Nat.le_of_eq rfl) (by decide)
  refine stp st1 ?_
  show Go p e below T1 (mkF m 4 #[.val (.ref t), .val (.ref ca), .val (.int (0 : Int32)), .val (.int (0 : Int32)), .val .null, .unset] []) _
  refine stp (fun _ => XS.iloadN X1.here hx rfl (hb hby d4_4) rfl) ?_
  show Go p e below T1 (mkF m 5 #[.val (.ref t), .val (.ref ca), .val (.int (0 : Int32)), .val (.int (0 : Int32)), .val .null, .unset] [(.int (0 : Int32))]) _
  refine stp (fun _ => XS.ifNo X1.here hx rfl (hb hby d4_5) rfl (by decide)) ?_
  show Go p e below T1 (mkF m 8 #[.val (.ref t), .val (.ref ca), .val (.int (0 : Int32)), .val (.int (0 : Int32)), .val .null, .unset] []) _
  refine stp (fun _ => XS.aloadN X1.here hx rfl (hb hby d4_8) rfl rfl) ?_
  show Go p e below T1 (mkF m 9 #[.val (.ref t), .val (.ref ca), .val (.int (0 : Int32)), .val (.int (0 : Int32)), .val .null, .unset] [(.ref t)]) _
  obtain ⟨la2, T2, h2, k1_2, lb2, kl2, X2, e2, E2, hS, hk', hZ, hown, Ea2, Ca2, Va2, Ba2, lta2, ltb2, CRn2, Li2, hne2, st2⟩ := ldcCH X1 hx hZ hown (hw _ (List.mem_of_getElem? (i := 22) rfl)) wS e1 hS hk hEL (by decide) CR.1 (vs := []) (z := (0 : Int32)) ⟨by decide +kernel, by decide +kernel⟩ (by decide) (by decide) (g := (mkF m 9 #[.val (.ref t), .val (.ref ca), .val (.int (0 : Int32)), .val (.int (0 : Int32)), .val .null, .unset] [(.ref t)])) rfl (hb hby d4_9) (n := 0) (by decide +kernel) (by decide) (by decide) (by decide)
  have f3 := E_t.ext E2
  have f4 := F_t_value.ext E2
  have f5 := F_t_coder.ext E2
  have f6 := (CRn2.safe F_t_coder.lt Sf_t)
  have hk := hk'
  have CR := CR.trans CRn2
  have K2 : Keep h0 h2 [t] := (Keep.refl h0 [t]).ext E2
  have O2 := O0.ext E2
  have ne7 := hne2 t f6
  refine stp st2 ?_
  show Go p e below T2 (mkF m 11 #[.val (.ref t), .val (.ref ca), .val (.int (0 : Int32)), .val (.int (0 : Int32)), .val .null, .unset] [(.ref la2), (.ref t)]) _
  obtain ⟨T8, X8, e8, st8⟩ := getF X2 hx hZ hown (host := "") (Or.inl (hw _ (List.mem_of_getElem? (i := 28) rfl))) Via.refl e2 Va2 (g := (mkF m 11 #[.val (.ref t), .val (.ref ca), .val (.int (0 : Int32)), .val (.int (0 : Int32)), .val .null, .unset] [(.ref la2), (.ref t)])) rfl rfl (hb hby d4_11)
  refine stp st8 ?_
  show Go p e below T8 (mkF m 14 #[.val (.ref t), .val (.ref ca), .val (.int (0 : Int32)), .val (.int (0 : Int32)), .val .null, .unset] [(.ref lb2), (.ref t)]) _
  obtain ⟨T9, h9, X9, e9, W9, st9⟩ := putF X8 hx hZ hown (host := "") (Or.inl (hw _ (List.mem_of_getElem? (i := 28) rfl))) Via.refl e8 f4 f3 (Or.inr ⟨(hw _ (List.mem_of_getElem? (i := 24) rfl)), rfl, hnm⟩) (hw _ (List.mem_of_getElem? (i := 10) rfl)) (ty := (.array .byte)) (by decide) rfl rfl (g := (mkF m 14 #[.val (.ref t), .val (.ref ca), .val (.int (0 : Int32)), .val (.int (0 : Int32)), .val .null, .unset] [(.ref lb2), (.ref t)])) rfl rfl (hb hby d4_14)
  have Fw9 := f4.same W9
  have f10 := f3.wr W9
  have f12 := f5.other W9 (Or.inr (slot_ne (Or.inr (hw _ (List.mem_of_getElem? (i := 25) rfl))) (Or.inr (hw _ (List.mem_of_getElem? (i := 24) rfl))) (by decide) (t := .byte) (t' := (.array .byte)) (by decide) (by decide)))
  have f13 := Safe.wr W9 f6 CR.1 f6
  have f14 := Ea2.wr W9
  have f15 := Ca2.other W9 (Or.inl (Ne.symm ne7.1))
  have f16 := Va2.other W9 (Or.inl (Ne.symm ne7.1))
  have f17 := Ba2.other W9 (Ne.symm ne7.2)
  have hk := Nat.le_trans hk (Keep.of_wr W9).1
  have CR := CR.trans (CHr.wr W9 f6 CR.1)
  have K9 : Keep h0 h9 [t] := K2.wr W9 (Or.inl (List.mem_of_getElem? (i := 0) rfl))
  have O9 := O2.wr W9 ge_t
  have N9 := Fr.snoc X9 N0 ge_t
  refine stp st9 ?_
  show Go p e below T9 (mkF m 17 #[.val (.ref t), .val (.ref ca), .val (.int (0 : Int32)), .val (.int (0 : Int32)), .val .null, .unset] []) _
  refine stp (fun _ => XS.aloadN X9.here hx rfl (hb hby d4_17) rfl rfl) ?_
  show Go p e below T9 (mkF m 18 #[.val (.ref t), .val (.ref ca), .val (.int (0 : Int32)), .val (.int (0 : Int32)), .val .null, .unset] [(.ref t)]) _
  refine stp (fun _ => ldcAgain X9 hx hZ hown (hw _ (List.mem_of_getElem? (i := 22) rfl)) Li2 (g := (mkF m 18 #[.val (.ref t), .val (.ref ca), .val (.int (0 : Int32)), .val (.int (0 : Int32)), .val .null, .unset] [(.ref t)])) rfl (hb hby d4_18) _) ?_
  show Go p e below T9 (mkF m 20 #[.val (.ref t), .val (.ref ca), .val (.int (0 : Int32)), .val (.int (0 : Int32)), .val .null, .unset] [(.ref la2), (.ref t)]) _
  obtain ⟨T18, X18, e18, st18⟩ := getF X9 hx hZ hown (host := "") (Or.inl (hw _ (List.mem_of_getElem? (i := 29) rfl))) Via.refl e9 f15 (g := (mkF m 20 #[.val (.ref t), .val (.ref ca), .val (.int (0 : Int32)), .val (.int (0 : Int32)), .val .null, .unset] [(.ref la2), (.ref t)])) rfl rfl (hb hby d4_20)
  refine stp st18 ?_
  show Go p e below T18 (mkF m 23 #[.val (.ref t), .val (.ref ca), .val (.int (0 : Int32)), .val (.int (0 : Int32)), .val .null, .unset] [(.int (0 : Int32)), (.ref t)]) _
  obtain ⟨T19, h19, X19, e19, W19, st19⟩ := putFN X18 hx hZ hown (hw _ (List.mem_of_getElem? (i := 29) rfl)) Via.refl e18 f12 f10 (Or.inr ⟨(hw _ (List.mem_of_getElem? (i := 25) rfl)), rfl, hnm⟩) (hw _ (List.mem_of_getElem? (i := 10) rfl)) (ty := .byte) (v' := (.int (0 : Int32))) (by decide) rfl rfl (g := (mkF m 23 #[.val (.ref t), .val (.ref ca), .val (.int (0 : Int32)), .val (.int (0 : Int32)), .val .null, .unset] [(.int (0 : Int32)), (.ref t)])) rfl rfl (hb hby d4_23)
  have Fw19 := f12.same W19
  have f20 := f10.wr W19
  have f21 := Fw9.other W19 (Or.inr (slot_ne (Or.inr (hw _ (List.mem_of_getElem? (i := 24) rfl))) (Or.inr (hw _ (List.mem_of_getElem? (i := 25) rfl))) (by decide) (t := (.array .byte)) (t' := .byte) (by decide) (by decide)))
  have f23 := Safe.wr W19 f13 CR.1 f13
  have f24 := f14.wr W19
  have f25 := f15.other W19 (Or.inl (Ne.symm ne7.1))
  have f26 := f16.other W19 (Or.inl (Ne.symm ne7.1))
  have f27 := f17.other W19 (Ne.symm ne7.2)
  have hk := Nat.le_trans hk (Keep.of_wr W19).1
  have CR := CR.trans (CHr.wr W19 f13 CR.1)
  have K19 : Keep h0 h19 [t] := K9.wr W19 (Or.inl (List.mem_of_getElem? (i := 0) rfl))
  have O19 := O9.wr W19 ge_t
  have N19 := Fr.snoc X19 N9 ge_t
  refine stp st19 ?_
  show Go p e below T19 (mkF m 26 #[.val (.ref t), .val (.ref ca), .val (.int (0 : Int32)), .val (.int (0 : Int32)), .val .null, .unset] []) _
  have Q28 : StrIs Z h19 t [] := StrIs.of f20 f21 Fw19 f27 rfl rfl (fun _ q => nomatch q) (Nat.le_of_ble_eq_true rfl)
  refine outVW X19 hx hZ hEL e19 hS hk CR hret (hb hby d4_26) hlk (by decide) (by decide) ?_
  rw [e19]
  exact ⟨rfl, N19, K19, (UStr.ofIs Q28)⟩
theorem ef_rm_s0 (m : MethodId) (t : Addr) (ca : Addr)  : entryFrame m #[(.ref t), (.ref ca)] 2 = mkF m 0 #[.val (.ref t), .val (.ref ca)] [] := by first | (simp [entryFrame, mkF, argsToLocals, Value.category]; done) | rfl
def Q_rm_s0 (Z : State) (t : Addr) (ca : Addr) (k_ca : ClassId) (h0 : Heap) (n0 : Nat) (v : Option Value) (h : Heap) (L : List Loc) : Prop := v = none ∧ Fr n0 L ∧ Keep h0 h [t] ∧ UStr Z h t []
set_option maxRecDepth 65536 in
set_option maxHeartbeats 40000000 in
theorem rm_s0 (l : Launch) (Z : State) (a0 : Array Value) (hw : ∀ d ∈ tables_1, d.before a0 Z = true) (ws : List Jvm.Cond) (t : Addr) (ca : Addr) (k_ca : ClassId) (h0 : Heap) (n0 : Nat) (O0 : Old Z n0 h0) (hEL : EW Z a0 consts_1) (E_t : Exa Z h0 t "java/lang/String") (F_t_value : Fld Z h0 t "java/lang/String" "value" "[B" .null) (F_t_coder : Fld Z h0 t "java/lang/String" "coder" "B" (.int (0 : Int32))) (V_ca : Arv Z h0 ca k_ca .char (0 : Int32) [] (.int (0 : Int32))) (ge_t : n0 ≤ t) (ne_ca_t : ca ≠ t) :
    MetFree l (⟨"java/lang/String", "<init>", "([C)V"⟩ : MethodName) (head1 (Jvm.Cond.code (⟨"java/lang/String", "<init>", "([C)V"⟩ : MethodName) jdk_42_method_3_code 2 none :: ws) ({ frames := 2, cells := 2, slots := 4, locals := 29 } : Room)) (fun args_ U => args_ = #[(.ref t), (.ref ca)] ∧ Z.Warmed39 U.vm ∧ U.heap = h0 ∧ CHv Z consts_1 U.vm h0) (fun _ _ _ _ _ => True) (fun _ U out_ U' => ∃ val_ loc_, out_ = .returned val_ ∧ (Q_rm_s0 Z t ca k_ca h0 n0) val_ U'.heap loc_ ∧ CHr Z consts_1 U.vm U.heap U'.vm U'.heap ∧ ReturnedEndW U out_ U' loc_ ({ frames := 2, cells := 2, slots := 4, locals := 29 } : Room).cells ({ frames := 2, cells := 2, slots := 4, locals := 29 } : Room).slots) := by
  refine startW (Q := (Q_rm_s0 Z t ca k_ca h0 n0)) pn_9 ?_
  intro p e s m below meth c T0 X0 hx hby hml hown hnm hret hlk hZ e0 hS CR
  have hk : 0 ≤ h0.size := Nat.zero_le _
  have wS : ∀ a ∈ Bundle.stringAtoms, a.before a0 Z = true := own_wS hw
  replace hown : s.vm.findClass "java/lang/String" = some m.cls := hown
  replace hml : c.maxLocals = 2 := hml
  refine goAt (ef_rm_s0 m t ca ) ?_
  have N0 := Fr.nil n0
  have Sf_t := safeNull (EL := consts_1) hZ.alike E_t F_t_value
  show Go p e below T0 (mkF m 0 #[.val (.ref t), .val (.ref ca)] []) _
  refine stp (fun _ => XS.aloadN X0.here hx rfl (hb hby d3_0) rfl rfl) ?_
  refine stp (fun _ => XS.aloadN X0.here hx rfl (hb hby d3_1) rfl rfl) ?_
  refine stp (fun _ => XS.iconst X0.here hx rfl (hb hby d3_2)) ?_
  refine stp (fun _ => XS.aloadN X0.here hx rfl (hb hby d3_3) rfl rfl) ?_
  show Go p e below T0 (mkF m 4 #[.val (.ref t), .val (.ref ca)] [(.ref ca), (.int (0 : Int32)), (.ref ca), (.ref t)]) _
  obtain ⟨cl1, Ar1, -, S1, M1, -, -⟩ := (id V_ca)
  refine stp (fun _ => X0.arraylength hx (by rw [e0]; exact Ar1.1) (State.isArrayOf_alike hZ.alike Ar1.2.1) (g := (mkF m 4 #[.val (.ref t), .val (.ref ca)] [(.ref ca), (.int (0 : Int32)), (.ref ca), (.ref t)])) rfl rfl (hb hby d3_4) _) ?_
  rw [len_of S1 M1]
  show Go p e below T0 (mkF m 5 #[.val (.ref t), .val (.ref ca)] [(.int (0 : Int32)), (.int (0 : Int32)), (.ref ca), (.ref t)]) _
  refine stp (fun _ => XS.aconstNull X0.here hx rfl (hb hby d3_5)) ?_
  show Go p e below T0 (mkF m 6 #[.val (.ref t), .val (.ref ca)] [.null, (.int (0 : Int32)), (.int (0 : Int32)), (.ref ca), (.ref t)]) _
  obtain ⟨_, _, ⟨T2, L2, k2, n2⟩, -, X2, hS2, gg2, ⟨Lc2, hQ2, l2, y2, z2, CRn2⟩, st2⟩ := X0.specialBackS hx (y := (⟨"java/lang/String", "<init>", "([CIILjava/lang/Void;)V"⟩ : MethodName)) rfl hown (mvT hZ (hw _ (List.mem_of_getElem? (i := 15) rfl))) (mvT hZ (hw _ (List.mem_of_getElem? (i := 16) rfl))) (mvT hZ (hw _ (List.mem_of_getElem? (i := 18) rfl))) (by decide) (backOfSH (W := 0) (rm_s0v l Z a0 hw [] t ca  h0 n0 O0 hEL E_t F_t_value F_t_coder ge_t) hZ (hw _ (List.mem_of_getElem? (i := 18) rfl)) (hw _ (List.mem_of_getElem? (i := 11) rfl)) (by decide) (by decide) hEL CR.1) (g := (mkF m 6 #[.val (.ref t), .val (.ref ca)] [.null, (.int (0 : Int32)), (.int (0 : Int32)), (.ref ca), (.ref t)])) rfl (by rw [hml]; rfl) (Steps.refl _) (a := t) (argsL := [(.ref ca), (.int (0 : Int32)), (.int (0 : Int32)), .null]) (rest := []) (lenOf pd_7 rfl) rfl (by show 2 * 0 + _ ≤ _; exact Nat.le_of_eq rfl) (hb hby d3_6) (fun _ _ => ⟨rfl, e0, (by decide : 0 + 2 ≤ _), (by decide : 0 + 4 ≤ _)⟩)
  dsimp only [Pt.U, Pt.locs, Pt.cells, Pt.slots] at X2 hS2 gg2 l2 y2 z2 st2 hQ2 CRn2
  subst y2 z2
  obtain ⟨X2, hS, hZ, hown⟩ := rebS hS (by rw [e0]; exact hk) X2 hS2 gg2 hZ hown
  obtain ⟨rfl, N2q, K2q, r2_0⟩ := hQ2
  have N2 : Fr n0 L2 := by rw [l2]; exact Fr.app N0 N2q
  have f3 := E_t.keep K2q
  have f4 := V_ca.keep K2q (ninS ne_ca_t nin0)
  have f5 := CRn2.safe F_t_coder.lt Sf_t
  have K2 : Keep h0 T2.heap [t] := (Keep.refl h0 [t]).trans K2q (allS (Or.inl (List.mem_of_getElem? (i := 0) rfl)) all0)
  have O2 := O0.keep K2q (allS ge_t all0)
  have hk : T2.heap.size ≤ T2.heap.size := Nat.le_refl _
  have CR := CR.trans CRn2
  refine stt st2 ?_
  show Go p e below T2 (mkF m 9 #[.val (.ref t), .val (.ref ca)] []) _
  refine outVW X2 hx hZ hEL rfl hS hk CR hret (hb hby d3_9) hlk (by decide) (by decide) ?_
  exact ⟨rfl, N2, K2, r2_0⟩
theorem d1_0 : decode method_2_code 0 = .ok (.lload_n 0, 1) := by decide +kernel
theorem d1_1 : decode method_2_code 1 = .ok (.iload_n 2, 1) := by decide +kernel
theorem d1_2 : decode method_2_code 2 = .ok (.lushr, 1) := by decide +kernel
theorem d1_3 : decode method_2_code 3 = .ok (.l2i, 1) := by decide +kernel
theorem d1_4 : decode method_2_code 4 = .ok (.i2c, 1) := by decide +kernel
theorem d1_5 : decode method_2_code 5 = .ok (.istore 5, 2) := by decide +kernel
theorem d1_7 : decode method_2_code 7 = .ok (.iload_n 3, 1) := by decide +kernel
theorem d1_8 : decode method_2_code 8 = .ok (.iload 4, 2) := by decide +kernel
theorem d1_10 : decode method_2_code 10 = .ok (.iushr, 1) := by decide +kernel
theorem d1_11 : decode method_2_code 11 = .ok (.iconst 1, 1) := by decide +kernel
theorem d1_12 : decode method_2_code 12 = .ok (.iand, 1) := by decide +kernel
theorem d1_13 : decode method_2_code 13 = .ok (.ifCond .eq 12, 3) := by decide +kernel
theorem d1_25 : decode method_2_code 25 = .ok (.iload 5, 2) := by decide +kernel
theorem d1_27 : decode method_2_code 27 = .ok (.ireturn, 1) := by decide +kernel
theorem d1_16 : decode method_2_code 16 = .ok (.iload 5, 2) := by decide +kernel
theorem d1_18 : decode method_2_code 18 = .ok (.bipush 127, 2) := by decide +kernel
theorem d1_20 : decode method_2_code 20 = .ok (.iand, 1) := by decide +kernel
theorem d1_21 : decode method_2_code 21 = .ok (.i2c, 1) := by decide +kernel
theorem d1_22 : decode method_2_code 22 = .ok (.goto 5, 3) := by decide +kernel
theorem ef_rm_ch (m : MethodId) (w : Int64) (sh : Int32) (se : Int32) (bi : Int32)  : entryFrame m #[(.long w), (.int sh), (.int se), (.int bi)] 6 = mkF m 0 #[.val (.long w), .second, .val (.int sh), .val (.int se), .val (.int bi), .unset] [] := by first | (simp [entryFrame, mkF, argsToLocals, Value.category]; done) | rfl
def Q_rm_ch (Z : State) (w : Int64) (sh : Int32) (se : Int32) (bi : Int32)  (h0 : Heap) (n0 : Nat) (v : Option Value) (h : Heap) (L : List Loc) : Prop := v = some (.int (own_ch w sh se bi)) ∧ Fr n0 L ∧ h = h0
theorem pn_20_ : plainName "com/example/heedful_rank/heedfulrank/history/ByteOrderPrefixKeyPinLaw" = true := by first | (simp [plainName, overriddenIn]; done) | decide +kernel
theorem pn_20 : plainFor (⟨"com/example/heedful_rank/heedfulrank/history/ByteOrderPrefixKeyPinLaw", "ch", "(JIII)C"⟩ : MethodName) = true := plainFor_of_name pn_20_
set_option maxRecDepth 65536 in
set_option maxHeartbeats 40000000 in
theorem rm_ch (l : Launch) (Z : State) (a0 : Array Value) (hw : ∀ d ∈ tables_1, d.before a0 Z = true) (ws : List Jvm.Cond) (w : Int64) (sh : Int32) (se : Int32) (bi : Int32)  (h0 : Heap) (n0 : Nat) (O0 : Old Z n0 h0)  :
    MetFree l (⟨"com/example/heedful_rank/heedfulrank/history/ByteOrderPrefixKeyPinLaw", "ch", "(JIII)C"⟩ : MethodName) (head1 (Jvm.Cond.code (⟨"com/example/heedful_rank/heedfulrank/history/ByteOrderPrefixKeyPinLaw", "ch", "(JIII)C"⟩ : MethodName) method_2_code 6 (some .char) :: ws) ({ frames := 0, cells := 0, slots := 0, locals := 0 } : Room)) (fun args_ U => args_ = #[(.long w), (.int sh), (.int se), (.int bi)] ∧ Z.Warmed39 U.vm ∧ U.heap = h0) (fun _ _ _ _ _ => True) (fun _ U out_ U' => ∃ val_ loc_, out_ = .returned val_ ∧ (Q_rm_ch Z w sh se bi h0 n0) val_ U'.heap loc_ ∧ FrameEnd U out_ U' loc_ ({ frames := 0, cells := 0, slots := 0, locals := 0 } : Room).cells ({ frames := 0, cells := 0, slots := 0, locals := 0 } : Room).slots) := by
  refine start (Q := (Q_rm_ch Z w sh se bi h0 n0)) pn_20 ?_
  intro p e s m below meth c T0 X0 hx hby hml hown hnm hret hlk hZ e0
  replace hown : s.vm.findClass "com/example/heedful_rank/heedfulrank/history/ByteOrderPrefixKeyPinLaw" = some m.cls := hown
  replace hml : c.maxLocals = 6 := hml
  refine goAt (ef_rm_ch m w sh se bi ) ?_
  have N0 := Fr.nil n0
  show Go p e below T0 (mkF m 0 #[.val (.long w), .second, .val (.int sh), .val (.int se), .val (.int bi), .unset] []) _
  refine stp (fun _ => XS.lloadN X0.here hx rfl (hb hby d1_0) rfl) ?_
  refine stp (fun _ => XS.iloadN X0.here hx rfl (hb hby d1_1) rfl) ?_
  show Go p e below T0 (mkF m 2 #[.val (.long w), .second, .val (.int sh), .val (.int se), .val (.int bi), .unset] [(.int sh), (.long w)]) _
  refine stp (fun _ => XS.lushr X0.here hx rfl (hb hby d1_2) rfl) ?_
  show Go p e below T0 (mkF m 3 #[.val (.long w), .second, .val (.int sh), .val (.int se), .val (.int bi), .unset] [(.long ((w.toUInt64 >>> (sh &&& 0x3f).toInt64.toUInt64).toInt64))]) _
  refine stp (fun _ => XS.l2i X0.here hx rfl (hb hby d1_3) rfl) ?_
  show Go p e below T0 (mkF m 4 #[.val (.long w), .second, .val (.int sh), .val (.int se), .val (.int bi), .unset] [(.int (((w.toUInt64 >>> (sh &&& 0x3f).toInt64.toUInt64).toInt64).toInt32))]) _
  refine stp (fun _ => XS.i2c X0.here hx rfl (hb hby d1_4) rfl) ?_
  show Go p e below T0 (mkF m 5 #[.val (.long w), .second, .val (.int sh), .val (.int se), .val (.int bi), .unset] [(.int ((((w.toUInt64 >>> (sh &&& 0x3f).toInt64.toUInt64).toInt64).toInt32).toUInt32.toUInt16.toUInt32.toInt32))]) _
  refine stp (fun _ => XS.istore X0.here hx rfl (hb hby d1_5) rfl (l' := #[.val (.long w), .second, .val (.int sh), .val (.int se), .val (.int bi), .val (.int ((((w.toUInt64 >>> (sh &&& 0x3f).toInt64.toUInt64).toInt64).toInt32).toUInt32.toUInt16.toUInt32.toInt32))]) rfl) ?_
  show Go p e below T0 (mkF m 7 #[.val (.long w), .second, .val (.int sh), .val (.int se), .val (.int bi), .val (.int ((((w.toUInt64 >>> (sh &&& 0x3f).toInt64.toUInt64).toInt64).toInt32).toUInt32.toUInt16.toUInt32.toInt32))] []) _
  refine stp (fun _ => XS.iloadN X0.here hx rfl (hb hby d1_7) rfl) ?_
  refine stp (fun _ => XS.iload X0.here hx rfl (hb hby d1_8) rfl) ?_
  show Go p e below T0 (mkF m 10 #[.val (.long w), .second, .val (.int sh), .val (.int se), .val (.int bi), .val (.int ((((w.toUInt64 >>> (sh &&& 0x3f).toInt64.toUInt64).toInt64).toInt32).toUInt32.toUInt16.toUInt32.toInt32))] [(.int bi), (.int se)]) _
  refine stp (fun _ => XS.iushr X0.here hx rfl (hb hby d1_10) rfl) ?_
  show Go p e below T0 (mkF m 11 #[.val (.long w), .second, .val (.int sh), .val (.int se), .val (.int bi), .val (.int ((((w.toUInt64 >>> (sh &&& 0x3f).toInt64.toUInt64).toInt64).toInt32).toUInt32.toUInt16.toUInt32.toInt32))] [(.int ((se.toUInt32 >>> (bi &&& 31).toUInt32).toInt32))]) _
  refine stp (fun _ => XS.iconst X0.here hx rfl (hb hby d1_11)) ?_
  show Go p e below T0 (mkF m 12 #[.val (.long w), .second, .val (.int sh), .val (.int se), .val (.int bi), .val (.int ((((w.toUInt64 >>> (sh &&& 0x3f).toInt64.toUInt64).toInt64).toInt32).toUInt32.toUInt16.toUInt32.toInt32))] [(.int (1 : Int32)), (.int ((se.toUInt32 >>> (bi &&& 31).toUInt32).toInt32))]) _
  refine stp (fun _ => XS.iand X0.here hx rfl (hb hby d1_12) rfl) ?_
  show Go p e below T0 (mkF m 13 #[.val (.long w), .second, .val (.int sh), .val (.int se), .val (.int bi), .val (.int ((((w.toUInt64 >>> (sh &&& 0x3f).toInt64.toUInt64).toInt64).toInt32).toUInt32.toUInt16.toUInt32.toInt32))] [(.int (((se.toUInt32 >>> (bi &&& 31).toUInt32).toInt32) &&& (1 : Int32)))]) _
  by_cases q13_1 : (((se.toUInt32 >>> (bi &&& 31).toUInt32).toInt32) &&& (1 : Int32)) = 0
  · refine stp (fun _ => XS.ifYes X0.here hx rfl (pc0 := 13) (pc' := 25) rfl (hb hby d1_13) rfl (XT.i0_eq_t q13_1) (by decide) (by decide)) ?_
    show Go p e below T0 (mkF m 25 #[.val (.long w), .second, .val (.int sh), .val (.int se), .val (.int bi), .val (.int ((((w.toUInt64 >>> (sh &&& 0x3f).toInt64.toUInt64).toInt64).toInt32).toUInt32.toUInt16.toUInt32.toInt32))] []) _
    refine stp (fun _ => XS.iload X0.here hx rfl (hb hby d1_25) rfl) ?_
    show Go p e below T0 (mkF m 27 #[.val (.long w), .second, .val (.int sh), .val (.int se), .val (.int bi), .val (.int ((((w.toUInt64 >>> (sh &&& 0x3f).toInt64.toUInt64).toInt64).toInt32).toUInt32.toUInt16.toUInt32.toInt32))] [(.int ((((w.toUInt64 >>> (sh &&& 0x3f).toInt64.toUInt64).toInt64).toInt32).toUInt32.toUInt16.toUInt32.toInt32))]) _
    refine outN X0 hx (t := .char) hret (by simp) (hb hby d1_27) hlk (by decide) (by decide) ?_
    exact ⟨own_somei (by simp only [own_ch, if_pos q13_1]; exact own_narc (own_i2c_sm _)), N0, e0⟩
  refine stp (fun _ => XS.ifNo X0.here hx rfl (hb hby d1_13) rfl (XT.i0_eq_f q13_1)) ?_
  show Go p e below T0 (mkF m 16 #[.val (.long w), .second, .val (.int sh), .val (.int se), .val (.int bi), .val (.int ((((w.toUInt64 >>> (sh &&& 0x3f).toInt64.toUInt64).toInt64).toInt32).toUInt32.toUInt16.toUInt32.toInt32))] []) _
  refine stp (fun _ => XS.iload X0.here hx rfl (hb hby d1_16) rfl) ?_
  refine stp (fun _ => XS.bipush X0.here hx rfl (hb hby d1_18)) ?_
  show Go p e below T0 (mkF m 20 #[.val (.long w), .second, .val (.int sh), .val (.int se), .val (.int bi), .val (.int ((((w.toUInt64 >>> (sh &&& 0x3f).toInt64.toUInt64).toInt64).toInt32).toUInt32.toUInt16.toUInt32.toInt32))] [(.int (127 : Int32)), (.int ((((w.toUInt64 >>> (sh &&& 0x3f).toInt64.toUInt64).toInt64).toInt32).toUInt32.toUInt16.toUInt32.toInt32))]) _
  refine stp (fun _ => XS.iand X0.here hx rfl (hb hby d1_20) rfl) ?_
  show Go p e below T0 (mkF m 21 #[.val (.long w), .second, .val (.int sh), .val (.int se), .val (.int bi), .val (.int ((((w.toUInt64 >>> (sh &&& 0x3f).toInt64.toUInt64).toInt64).toInt32).toUInt32.toUInt16.toUInt32.toInt32))] [(.int (((((w.toUInt64 >>> (sh &&& 0x3f).toInt64.toUInt64).toInt64).toInt32).toUInt32.toUInt16.toUInt32.toInt32) &&& (127 : Int32)))]) _
  refine stp (fun _ => XS.i2c X0.here hx rfl (hb hby d1_21) rfl) ?_
  show Go p e below T0 (mkF m 22 #[.val (.long w), .second, .val (.int sh), .val (.int se), .val (.int bi), .val (.int ((((w.toUInt64 >>> (sh &&& 0x3f).toInt64.toUInt64).toInt64).toInt32).toUInt32.toUInt16.toUInt32.toInt32))] [(.int ((((((w.toUInt64 >>> (sh &&& 0x3f).toInt64.toUInt64).toInt64).toInt32).toUInt32.toUInt16.toUInt32.toInt32) &&& (127 : Int32)).toUInt32.toUInt16.toUInt32.toInt32))]) _
  refine stp (fun _ => XS.goto X0.here hx rfl (pc0 := 22) (pc' := 27) rfl (hb hby d1_22) (by decide) (by decide)) ?_
  show Go p e below T0 (mkF m 27 #[.val (.long w), .second, .val (.int sh), .val (.int se), .val (.int bi), .val (.int ((((w.toUInt64 >>> (sh &&& 0x3f).toInt64.toUInt64).toInt64).toInt32).toUInt32.toUInt16.toUInt32.toInt32))] [(.int ((((((w.toUInt64 >>> (sh &&& 0x3f).toInt64.toUInt64).toInt64).toInt32).toUInt32.toUInt16.toUInt32.toInt32) &&& (127 : Int32)).toUInt32.toUInt16.toUInt32.toInt32))]) _
  refine outN X0 hx (t := .char) hret (by simp) (hb hby d1_27) hlk (by decide) (by decide) ?_
  exact ⟨own_somei (by simp only [own_ch, if_neg q13_1]; exact own_narc (own_i2c_sm _)), N0, e0⟩
theorem d6_0 : decode method_3_code 0 = .ok (.iload_n 0, 1) := by decide +kernel
theorem d6_1 : decode method_3_code 1 = .ok (.ifCond .eq 20, 3) := by decide +kernel
theorem d6_21 : decode method_3_code 21 = .ok (.lconst 0, 1) := by decide +kernel
theorem d6_22 : decode method_3_code 22 = .ok (.lreturn, 1) := by decide +kernel
theorem d6_4 : decode method_3_code 4 = .ok (.iload_n 1, 1) := by decide +kernel
theorem d6_5 : decode method_3_code 5 = .ok (.bipush 127, 2) := by decide +kernel
theorem d6_7 : decode method_3_code 7 = .ok (.if_icmp .le 9, 3) := by decide +kernel
theorem d6_10 : decode method_3_code 10 = .ok (.ldc2_w 7, 3) := by decide +kernel
theorem d6_13 : decode method_3_code 13 = .ok (.goto 9, 3) := by decide +kernel
theorem d6_16 : decode method_3_code 16 = .ok (.iload_n 1, 1) := by decide +kernel
theorem d6_17 : decode method_3_code 17 = .ok (.i2l, 1) := by decide +kernel
theorem d6_18 : decode method_3_code 18 = .ok (.goto 4, 3) := by decide +kernel
theorem ef_rm_b (m : MethodId) (lv : Int32) (cc : Int32)  : entryFrame m #[(.int lv), (.int cc)] 2 = mkF m 0 #[.val (.int lv), .val (.int cc)] [] := by first | (simp [entryFrame, mkF, argsToLocals, Value.category]; done) | rfl
def Q_rm_b (Z : State) (lv : Int32) (cc : Int32)  (h0 : Heap) (n0 : Nat) (v : Option Value) (h : Heap) (L : List Loc) : Prop := v = some (.long (own_b lv cc)) ∧ Fr n0 L ∧ h = h0
theorem pn_21_ : plainName "com/example/heedful_rank/heedfulrank/history/ByteOrderPrefixKeyPinLaw" = true := by first | (simp [plainName, overriddenIn]; done) | decide +kernel
theorem pn_21 : plainFor (⟨"com/example/heedful_rank/heedfulrank/history/ByteOrderPrefixKeyPinLaw", "b", "(ZC)J"⟩ : MethodName) = true := plainFor_of_name pn_21_
set_option maxRecDepth 65536 in
set_option maxHeartbeats 40000000 in
theorem rm_b (l : Launch) (Z : State) (a0 : Array Value) (hw : ∀ d ∈ tables_1, d.before a0 Z = true) (ws : List Jvm.Cond) (lv : Int32) (cc : Int32)  (h0 : Heap) (n0 : Nat) (O0 : Old Z n0 h0)  :
    MetFree l (⟨"com/example/heedful_rank/heedfulrank/history/ByteOrderPrefixKeyPinLaw", "b", "(ZC)J"⟩ : MethodName) (head1 (Jvm.Cond.code (⟨"com/example/heedful_rank/heedfulrank/history/ByteOrderPrefixKeyPinLaw", "b", "(ZC)J"⟩ : MethodName) method_3_code 2 (some .long) :: ws) ({ frames := 0, cells := 0, slots := 0, locals := 0 } : Room)) (fun args_ U => args_ = #[(.int lv), (.int cc)] ∧ Z.Warmed39 U.vm ∧ U.heap = h0) (fun _ _ _ _ _ => True) (fun _ U out_ U' => ∃ val_ loc_, out_ = .returned val_ ∧ (Q_rm_b Z lv cc h0 n0) val_ U'.heap loc_ ∧ FrameEnd U out_ U' loc_ ({ frames := 0, cells := 0, slots := 0, locals := 0 } : Room).cells ({ frames := 0, cells := 0, slots := 0, locals := 0 } : Room).slots) := by
  refine start (Q := (Q_rm_b Z lv cc h0 n0)) pn_21 ?_
  intro p e s m below meth c T0 X0 hx hby hml hown hnm hret hlk hZ e0
  replace hown : s.vm.findClass "com/example/heedful_rank/heedfulrank/history/ByteOrderPrefixKeyPinLaw" = some m.cls := hown
  replace hml : c.maxLocals = 2 := hml
  refine goAt (ef_rm_b m lv cc ) ?_
  have N0 := Fr.nil n0
  show Go p e below T0 (mkF m 0 #[.val (.int lv), .val (.int cc)] []) _
  refine stp (fun _ => XS.iloadN X0.here hx rfl (hb hby d6_0) rfl) ?_
  show Go p e below T0 (mkF m 1 #[.val (.int lv), .val (.int cc)] [(.int lv)]) _
  by_cases q1_1 : lv = 0
  · refine stp (fun _ => XS.ifYes X0.here hx rfl (pc0 := 1) (pc' := 21) rfl (hb hby d6_1) rfl (XT.i0_eq_t q1_1) (by decide) (by decide)) ?_
    show Go p e below T0 (mkF m 21 #[.val (.int lv), .val (.int cc)] []) _
    refine stp (fun _ => XS.lconst X0.here hx rfl (hb hby d6_21)) ?_
    show Go p e below T0 (mkF m 22 #[.val (.int lv), .val (.int cc)] [(.long (0 : Int64))]) _
    refine outJ X0 hx hret (hb hby d6_22) hlk (by decide) (by decide) ?_
    exact ⟨own_somej (by simp only [own_b, if_pos q1_1]), N0, e0⟩
  refine stp (fun _ => XS.ifNo X0.here hx rfl (hb hby d6_1) rfl (XT.i0_eq_f q1_1)) ?_
  show Go p e below T0 (mkF m 4 #[.val (.int lv), .val (.int cc)] []) _
  refine stp (fun _ => XS.iloadN X0.here hx rfl (hb hby d6_4) rfl) ?_
  refine stp (fun _ => XS.bipush X0.here hx rfl (hb hby d6_5)) ?_
  show Go p e below T0 (mkF m 7 #[.val (.int lv), .val (.int cc)] [(.int (127 : Int32)), (.int cc)]) _
  by_cases q7_2 : (127 : Int32) < cc
  · refine stp (fun _ => XS.icmpNo X0.here hx rfl (hb hby d6_7) rfl (XT.ii_le_f q7_2)) ?_
    show Go p e below T0 (mkF m 10 #[.val (.int lv), .val (.int cc)] []) _
    refine stp (fun _ => X0.ldc2Long hx hown (mvT hZ (hw _ (List.mem_of_getElem? (i := 79) rfl))) (g := (mkF m 10 #[.val (.int lv), .val (.int cc)] [])) rfl (hb hby d6_10) _) ?_
    show Go p e below T0 (mkF m 13 #[.val (.int lv), .val (.int cc)] [(.long (255 : Int64))]) _
    refine stp (fun _ => XS.goto X0.here hx rfl (pc0 := 13) (pc' := 22) rfl (hb hby d6_13) (by decide) (by decide)) ?_
    show Go p e below T0 (mkF m 22 #[.val (.int lv), .val (.int cc)] [(.long (255 : Int64))]) _
    refine outJ X0 hx hret (hb hby d6_22) hlk (by decide) (by decide) ?_
    exact ⟨own_somej (by simp only [own_b, if_neg q1_1, if_pos q7_2]), N0, e0⟩
  refine stp (fun _ => XS.icmpYes X0.here hx rfl (pc0 := 7) (pc' := 16) rfl (hb hby d6_7) rfl (XT.ii_le_t q7_2) (by decide) (by decide)) ?_
  show Go p e below T0 (mkF m 16 #[.val (.int lv), .val (.int cc)] []) _
  refine stp (fun _ => XS.iloadN X0.here hx rfl (hb hby d6_16) rfl) ?_
  show Go p e below T0 (mkF m 17 #[.val (.int lv), .val (.int cc)] [(.int cc)]) _
  refine stp (fun _ => XS.i2l X0.here hx rfl (hb hby d6_17) rfl) ?_
  show Go p e below T0 (mkF m 18 #[.val (.int lv), .val (.int cc)] [(.long (cc.toInt64))]) _
  refine stp (fun _ => XS.goto X0.here hx rfl (pc0 := 18) (pc' := 22) rfl (hb hby d6_18) (by decide) (by decide)) ?_
  show Go p e below T0 (mkF m 22 #[.val (.int lv), .val (.int cc)] [(.long (cc.toInt64))]) _
  refine outJ X0 hx hret (hb hby d6_22) hlk (by decide) (by decide) ?_
  exact ⟨own_somej (by simp only [own_b, if_neg q1_1, if_neg q7_2]), N0, e0⟩
theorem d2_0 : decode method_4_code 0 = .ok (.iload_n 1, 1) := by decide +kernel
theorem d2_1 : decode method_4_code 1 = .ok (.ifCond .ne 14, 3) := by decide +kernel
theorem d2_4 : decode method_4_code 4 = .ok (.new 9, 3) := by decide +kernel
theorem d2_7 : decode method_4_code 7 = .ok (.dup, 1) := by decide +kernel
theorem d2_8 : decode method_4_code 8 = .ok (.iconst 0, 1) := by decide +kernel
theorem d2_9 : decode method_4_code 9 = .ok (.newarray .char, 2) := by decide +kernel
theorem d2_11 : decode method_4_code 11 = .ok (.invokespecial 11, 3) := by decide +kernel
theorem pd_14 : parseMethodDescriptor "([C)V" = some ⟨[(.array .char)], none⟩ := by decide +kernel
theorem d2_14 : decode method_4_code 14 = .ok (.areturn, 1) := by decide +kernel
theorem d2_15 : decode method_4_code 15 = .ok (.iload_n 1, 1) := by decide +kernel
theorem d2_16 : decode method_4_code 16 = .ok (.iconst 1, 1) := by decide +kernel
theorem d2_17 : decode method_4_code 17 = .ok (.if_icmp .ne 20, 3) := by decide +kernel
theorem d2_20 : decode method_4_code 20 = .ok (.new 9, 3) := by decide +kernel
theorem d2_23 : decode method_4_code 23 = .ok (.dup, 1) := by decide +kernel
theorem d2_24 : decode method_4_code 24 = .ok (.iconst 1, 1) := by decide +kernel
theorem d2_25 : decode method_4_code 25 = .ok (.newarray .char, 2) := by decide +kernel
theorem d2_27 : decode method_4_code 27 = .ok (.dup, 1) := by decide +kernel
theorem d2_28 : decode method_4_code 28 = .ok (.iconst 0, 1) := by decide +kernel
theorem d2_29 : decode method_4_code 29 = .ok (.aload_n 0, 1) := by decide +kernel
theorem d2_30 : decode method_4_code 30 = .ok (.iconst 0, 1) := by decide +kernel
theorem d2_31 : decode method_4_code 31 = .ok (.caload, 1) := by decide +kernel
theorem d2_32 : decode method_4_code 32 = .ok (.castore, 1) := by decide +kernel
theorem d2_33 : decode method_4_code 33 = .ok (.invokespecial 11, 3) := by decide +kernel
theorem d2_36 : decode method_4_code 36 = .ok (.areturn, 1) := by decide +kernel
theorem d2_37 : decode method_4_code 37 = .ok (.iload_n 1, 1) := by decide +kernel
theorem d2_38 : decode method_4_code 38 = .ok (.iconst 2, 1) := by decide +kernel
theorem d2_39 : decode method_4_code 39 = .ok (.if_icmp .ne 26, 3) := by decide +kernel
theorem d2_42 : decode method_4_code 42 = .ok (.new 9, 3) := by decide +kernel
theorem d2_45 : decode method_4_code 45 = .ok (.dup, 1) := by decide +kernel
theorem d2_46 : decode method_4_code 46 = .ok (.iconst 2, 1) := by decide +kernel
theorem d2_47 : decode method_4_code 47 = .ok (.newarray .char, 2) := by decide +kernel
theorem d2_49 : decode method_4_code 49 = .ok (.dup, 1) := by decide +kernel
theorem d2_50 : decode method_4_code 50 = .ok (.iconst 0, 1) := by decide +kernel
theorem d2_51 : decode method_4_code 51 = .ok (.aload_n 0, 1) := by decide +kernel
theorem d2_52 : decode method_4_code 52 = .ok (.iconst 0, 1) := by decide +kernel
theorem d2_53 : decode method_4_code 53 = .ok (.caload, 1) := by decide +kernel
theorem d2_54 : decode method_4_code 54 = .ok (.castore, 1) := by decide +kernel
theorem d2_55 : decode method_4_code 55 = .ok (.dup, 1) := by decide +kernel
theorem d2_56 : decode method_4_code 56 = .ok (.iconst 1, 1) := by decide +kernel
theorem d2_57 : decode method_4_code 57 = .ok (.aload_n 0, 1) := by decide +kernel
theorem d2_58 : decode method_4_code 58 = .ok (.iconst 1, 1) := by decide +kernel
theorem d2_59 : decode method_4_code 59 = .ok (.caload, 1) := by decide +kernel
theorem d2_60 : decode method_4_code 60 = .ok (.castore, 1) := by decide +kernel
theorem d2_61 : decode method_4_code 61 = .ok (.invokespecial 11, 3) := by decide +kernel
theorem d2_64 : decode method_4_code 64 = .ok (.areturn, 1) := by decide +kernel
theorem d2_65 : decode method_4_code 65 = .ok (.iload_n 1, 1) := by decide +kernel
theorem d2_66 : decode method_4_code 66 = .ok (.iconst 3, 1) := by decide +kernel
theorem d2_67 : decode method_4_code 67 = .ok (.if_icmp .ne 32, 3) := by decide +kernel
theorem d2_70 : decode method_4_code 70 = .ok (.new 9, 3) := by decide +kernel
theorem d2_73 : decode method_4_code 73 = .ok (.dup, 1) := by decide +kernel
theorem d2_74 : decode method_4_code 74 = .ok (.iconst 3, 1) := by decide +kernel
theorem d2_75 : decode method_4_code 75 = .ok (.newarray .char, 2) := by decide +kernel
theorem d2_77 : decode method_4_code 77 = .ok (.dup, 1) := by decide +kernel
theorem d2_78 : decode method_4_code 78 = .ok (.iconst 0, 1) := by decide +kernel
theorem d2_79 : decode method_4_code 79 = .ok (.aload_n 0, 1) := by decide +kernel
theorem d2_80 : decode method_4_code 80 = .ok (.iconst 0, 1) := by decide +kernel
theorem d2_81 : decode method_4_code 81 = .ok (.caload, 1) := by decide +kernel
theorem d2_82 : decode method_4_code 82 = .ok (.castore, 1) := by decide +kernel
theorem d2_83 : decode method_4_code 83 = .ok (.dup, 1) := by decide +kernel
theorem d2_84 : decode method_4_code 84 = .ok (.iconst 1, 1) := by decide +kernel
theorem d2_85 : decode method_4_code 85 = .ok (.aload_n 0, 1) := by decide +kernel
theorem d2_86 : decode method_4_code 86 = .ok (.iconst 1, 1) := by decide +kernel
theorem d2_87 : decode method_4_code 87 = .ok (.caload, 1) := by decide +kernel
theorem d2_88 : decode method_4_code 88 = .ok (.castore, 1) := by decide +kernel
theorem d2_89 : decode method_4_code 89 = .ok (.dup, 1) := by decide +kernel
theorem d2_90 : decode method_4_code 90 = .ok (.iconst 2, 1) := by decide +kernel
theorem d2_91 : decode method_4_code 91 = .ok (.aload_n 0, 1) := by decide +kernel
theorem d2_92 : decode method_4_code 92 = .ok (.iconst 2, 1) := by decide +kernel
theorem d2_93 : decode method_4_code 93 = .ok (.caload, 1) := by decide +kernel
theorem d2_94 : decode method_4_code 94 = .ok (.castore, 1) := by decide +kernel
theorem d2_95 : decode method_4_code 95 = .ok (.invokespecial 11, 3) := by decide +kernel
theorem d2_98 : decode method_4_code 98 = .ok (.areturn, 1) := by decide +kernel
theorem d2_99 : decode method_4_code 99 = .ok (.iload_n 1, 1) := by decide +kernel
theorem d2_100 : decode method_4_code 100 = .ok (.iconst 4, 1) := by decide +kernel
theorem d2_101 : decode method_4_code 101 = .ok (.if_icmp .ne 38, 3) := by decide +kernel
theorem d2_104 : decode method_4_code 104 = .ok (.new 9, 3) := by decide +kernel
theorem d2_107 : decode method_4_code 107 = .ok (.dup, 1) := by decide +kernel
theorem d2_108 : decode method_4_code 108 = .ok (.iconst 4, 1) := by decide +kernel
theorem d2_109 : decode method_4_code 109 = .ok (.newarray .char, 2) := by decide +kernel
theorem d2_111 : decode method_4_code 111 = .ok (.dup, 1) := by decide +kernel
theorem d2_112 : decode method_4_code 112 = .ok (.iconst 0, 1) := by decide +kernel
theorem d2_113 : decode method_4_code 113 = .ok (.aload_n 0, 1) := by decide +kernel
theorem d2_114 : decode method_4_code 114 = .ok (.iconst 0, 1) := by decide +kernel
theorem d2_115 : decode method_4_code 115 = .ok (.caload, 1) := by decide +kernel
theorem d2_116 : decode method_4_code 116 = .ok (.castore, 1) := by decide +kernel
theorem d2_117 : decode method_4_code 117 = .ok (.dup, 1) := by decide +kernel
theorem d2_118 : decode method_4_code 118 = .ok (.iconst 1, 1) := by decide +kernel
theorem d2_119 : decode method_4_code 119 = .ok (.aload_n 0, 1) := by decide +kernel
theorem d2_120 : decode method_4_code 120 = .ok (.iconst 1, 1) := by decide +kernel
theorem d2_121 : decode method_4_code 121 = .ok (.caload, 1) := by decide +kernel
theorem d2_122 : decode method_4_code 122 = .ok (.castore, 1) := by decide +kernel
theorem d2_123 : decode method_4_code 123 = .ok (.dup, 1) := by decide +kernel
theorem d2_124 : decode method_4_code 124 = .ok (.iconst 2, 1) := by decide +kernel
theorem d2_125 : decode method_4_code 125 = .ok (.aload_n 0, 1) := by decide +kernel
theorem d2_126 : decode method_4_code 126 = .ok (.iconst 2, 1) := by decide +kernel
theorem d2_127 : decode method_4_code 127 = .ok (.caload, 1) := by decide +kernel
theorem d2_128 : decode method_4_code 128 = .ok (.castore, 1) := by decide +kernel
theorem d2_129 : decode method_4_code 129 = .ok (.dup, 1) := by decide +kernel
theorem d2_130 : decode method_4_code 130 = .ok (.iconst 3, 1) := by decide +kernel
theorem d2_131 : decode method_4_code 131 = .ok (.aload_n 0, 1) := by decide +kernel
theorem d2_132 : decode method_4_code 132 = .ok (.iconst 3, 1) := by decide +kernel
theorem d2_133 : decode method_4_code 133 = .ok (.caload, 1) := by decide +kernel
theorem d2_134 : decode method_4_code 134 = .ok (.castore, 1) := by decide +kernel
theorem d2_135 : decode method_4_code 135 = .ok (.invokespecial 11, 3) := by decide +kernel
theorem d2_138 : decode method_4_code 138 = .ok (.areturn, 1) := by decide +kernel
theorem d2_139 : decode method_4_code 139 = .ok (.iload_n 1, 1) := by decide +kernel
theorem d2_140 : decode method_4_code 140 = .ok (.iconst 5, 1) := by decide +kernel
theorem d2_141 : decode method_4_code 141 = .ok (.if_icmp .ne 44, 3) := by decide +kernel
theorem d2_144 : decode method_4_code 144 = .ok (.new 9, 3) := by decide +kernel
theorem d2_147 : decode method_4_code 147 = .ok (.dup, 1) := by decide +kernel
theorem d2_148 : decode method_4_code 148 = .ok (.iconst 5, 1) := by decide +kernel
theorem d2_149 : decode method_4_code 149 = .ok (.newarray .char, 2) := by decide +kernel
theorem d2_151 : decode method_4_code 151 = .ok (.dup, 1) := by decide +kernel
theorem d2_152 : decode method_4_code 152 = .ok (.iconst 0, 1) := by decide +kernel
theorem d2_153 : decode method_4_code 153 = .ok (.aload_n 0, 1) := by decide +kernel
theorem d2_154 : decode method_4_code 154 = .ok (.iconst 0, 1) := by decide +kernel
theorem d2_155 : decode method_4_code 155 = .ok (.caload, 1) := by decide +kernel
theorem d2_156 : decode method_4_code 156 = .ok (.castore, 1) := by decide +kernel
theorem d2_157 : decode method_4_code 157 = .ok (.dup, 1) := by decide +kernel
theorem d2_158 : decode method_4_code 158 = .ok (.iconst 1, 1) := by decide +kernel
theorem d2_159 : decode method_4_code 159 = .ok (.aload_n 0, 1) := by decide +kernel
theorem d2_160 : decode method_4_code 160 = .ok (.iconst 1, 1) := by decide +kernel
theorem d2_161 : decode method_4_code 161 = .ok (.caload, 1) := by decide +kernel
theorem d2_162 : decode method_4_code 162 = .ok (.castore, 1) := by decide +kernel
theorem d2_163 : decode method_4_code 163 = .ok (.dup, 1) := by decide +kernel
theorem d2_164 : decode method_4_code 164 = .ok (.iconst 2, 1) := by decide +kernel
theorem d2_165 : decode method_4_code 165 = .ok (.aload_n 0, 1) := by decide +kernel
theorem d2_166 : decode method_4_code 166 = .ok (.iconst 2, 1) := by decide +kernel
theorem d2_167 : decode method_4_code 167 = .ok (.caload, 1) := by decide +kernel
theorem d2_168 : decode method_4_code 168 = .ok (.castore, 1) := by decide +kernel
theorem d2_169 : decode method_4_code 169 = .ok (.dup, 1) := by decide +kernel
theorem d2_170 : decode method_4_code 170 = .ok (.iconst 3, 1) := by decide +kernel
theorem d2_171 : decode method_4_code 171 = .ok (.aload_n 0, 1) := by decide +kernel
theorem d2_172 : decode method_4_code 172 = .ok (.iconst 3, 1) := by decide +kernel
theorem d2_173 : decode method_4_code 173 = .ok (.caload, 1) := by decide +kernel
theorem d2_174 : decode method_4_code 174 = .ok (.castore, 1) := by decide +kernel
theorem d2_175 : decode method_4_code 175 = .ok (.dup, 1) := by decide +kernel
theorem d2_176 : decode method_4_code 176 = .ok (.iconst 4, 1) := by decide +kernel
theorem d2_177 : decode method_4_code 177 = .ok (.aload_n 0, 1) := by decide +kernel
theorem d2_178 : decode method_4_code 178 = .ok (.iconst 4, 1) := by decide +kernel
theorem d2_179 : decode method_4_code 179 = .ok (.caload, 1) := by decide +kernel
theorem d2_180 : decode method_4_code 180 = .ok (.castore, 1) := by decide +kernel
theorem d2_181 : decode method_4_code 181 = .ok (.invokespecial 11, 3) := by decide +kernel
theorem d2_184 : decode method_4_code 184 = .ok (.areturn, 1) := by decide +kernel
theorem d2_185 : decode method_4_code 185 = .ok (.iload_n 1, 1) := by decide +kernel
theorem d2_186 : decode method_4_code 186 = .ok (.bipush 6, 2) := by decide +kernel
theorem d2_188 : decode method_4_code 188 = .ok (.if_icmp .ne 51, 3) := by decide +kernel
theorem d2_191 : decode method_4_code 191 = .ok (.new 9, 3) := by decide +kernel
theorem d2_194 : decode method_4_code 194 = .ok (.dup, 1) := by decide +kernel
theorem d2_195 : decode method_4_code 195 = .ok (.bipush 6, 2) := by decide +kernel
theorem d2_197 : decode method_4_code 197 = .ok (.newarray .char, 2) := by decide +kernel
theorem d2_199 : decode method_4_code 199 = .ok (.dup, 1) := by decide +kernel
theorem d2_200 : decode method_4_code 200 = .ok (.iconst 0, 1) := by decide +kernel
theorem d2_201 : decode method_4_code 201 = .ok (.aload_n 0, 1) := by decide +kernel
theorem d2_202 : decode method_4_code 202 = .ok (.iconst 0, 1) := by decide +kernel
theorem d2_203 : decode method_4_code 203 = .ok (.caload, 1) := by decide +kernel
theorem d2_204 : decode method_4_code 204 = .ok (.castore, 1) := by decide +kernel
theorem d2_205 : decode method_4_code 205 = .ok (.dup, 1) := by decide +kernel
theorem d2_206 : decode method_4_code 206 = .ok (.iconst 1, 1) := by decide +kernel
theorem d2_207 : decode method_4_code 207 = .ok (.aload_n 0, 1) := by decide +kernel
theorem d2_208 : decode method_4_code 208 = .ok (.iconst 1, 1) := by decide +kernel
theorem d2_209 : decode method_4_code 209 = .ok (.caload, 1) := by decide +kernel
theorem d2_210 : decode method_4_code 210 = .ok (.castore, 1) := by decide +kernel
theorem d2_211 : decode method_4_code 211 = .ok (.dup, 1) := by decide +kernel
theorem d2_212 : decode method_4_code 212 = .ok (.iconst 2, 1) := by decide +kernel
theorem d2_213 : decode method_4_code 213 = .ok (.aload_n 0, 1) := by decide +kernel
theorem d2_214 : decode method_4_code 214 = .ok (.iconst 2, 1) := by decide +kernel
theorem d2_215 : decode method_4_code 215 = .ok (.caload, 1) := by decide +kernel
theorem d2_216 : decode method_4_code 216 = .ok (.castore, 1) := by decide +kernel
theorem d2_217 : decode method_4_code 217 = .ok (.dup, 1) := by decide +kernel
theorem d2_218 : decode method_4_code 218 = .ok (.iconst 3, 1) := by decide +kernel
theorem d2_219 : decode method_4_code 219 = .ok (.aload_n 0, 1) := by decide +kernel
theorem d2_220 : decode method_4_code 220 = .ok (.iconst 3, 1) := by decide +kernel
theorem d2_221 : decode method_4_code 221 = .ok (.caload, 1) := by decide +kernel
theorem d2_222 : decode method_4_code 222 = .ok (.castore, 1) := by decide +kernel
theorem d2_223 : decode method_4_code 223 = .ok (.dup, 1) := by decide +kernel
theorem d2_224 : decode method_4_code 224 = .ok (.iconst 4, 1) := by decide +kernel
theorem d2_225 : decode method_4_code 225 = .ok (.aload_n 0, 1) := by decide +kernel
theorem d2_226 : decode method_4_code 226 = .ok (.iconst 4, 1) := by decide +kernel
theorem d2_227 : decode method_4_code 227 = .ok (.caload, 1) := by decide +kernel
theorem d2_228 : decode method_4_code 228 = .ok (.castore, 1) := by decide +kernel
theorem d2_229 : decode method_4_code 229 = .ok (.dup, 1) := by decide +kernel
theorem d2_230 : decode method_4_code 230 = .ok (.iconst 5, 1) := by decide +kernel
theorem d2_231 : decode method_4_code 231 = .ok (.aload_n 0, 1) := by decide +kernel
theorem d2_232 : decode method_4_code 232 = .ok (.iconst 5, 1) := by decide +kernel
theorem d2_233 : decode method_4_code 233 = .ok (.caload, 1) := by decide +kernel
theorem d2_234 : decode method_4_code 234 = .ok (.castore, 1) := by decide +kernel
theorem d2_235 : decode method_4_code 235 = .ok (.invokespecial 11, 3) := by decide +kernel
theorem d2_238 : decode method_4_code 238 = .ok (.areturn, 1) := by decide +kernel
theorem d2_239 : decode method_4_code 239 = .ok (.iload_n 1, 1) := by decide +kernel
theorem d2_240 : decode method_4_code 240 = .ok (.bipush 7, 2) := by decide +kernel
theorem d2_242 : decode method_4_code 242 = .ok (.if_icmp .ne 59, 3) := by decide +kernel
theorem d2_245 : decode method_4_code 245 = .ok (.new 9, 3) := by decide +kernel
theorem d2_248 : decode method_4_code 248 = .ok (.dup, 1) := by decide +kernel
theorem d2_249 : decode method_4_code 249 = .ok (.bipush 7, 2) := by decide +kernel
theorem d2_251 : decode method_4_code 251 = .ok (.newarray .char, 2) := by decide +kernel
theorem d2_253 : decode method_4_code 253 = .ok (.dup, 1) := by decide +kernel
theorem d2_254 : decode method_4_code 254 = .ok (.iconst 0, 1) := by decide +kernel
theorem d2_255 : decode method_4_code 255 = .ok (.aload_n 0, 1) := by decide +kernel
theorem d2_256 : decode method_4_code 256 = .ok (.iconst 0, 1) := by decide +kernel
theorem d2_257 : decode method_4_code 257 = .ok (.caload, 1) := by decide +kernel
theorem d2_258 : decode method_4_code 258 = .ok (.castore, 1) := by decide +kernel
theorem d2_259 : decode method_4_code 259 = .ok (.dup, 1) := by decide +kernel
theorem d2_260 : decode method_4_code 260 = .ok (.iconst 1, 1) := by decide +kernel
theorem d2_261 : decode method_4_code 261 = .ok (.aload_n 0, 1) := by decide +kernel
theorem d2_262 : decode method_4_code 262 = .ok (.iconst 1, 1) := by decide +kernel
theorem d2_263 : decode method_4_code 263 = .ok (.caload, 1) := by decide +kernel
theorem d2_264 : decode method_4_code 264 = .ok (.castore, 1) := by decide +kernel
theorem d2_265 : decode method_4_code 265 = .ok (.dup, 1) := by decide +kernel
theorem d2_266 : decode method_4_code 266 = .ok (.iconst 2, 1) := by decide +kernel
theorem d2_267 : decode method_4_code 267 = .ok (.aload_n 0, 1) := by decide +kernel
theorem d2_268 : decode method_4_code 268 = .ok (.iconst 2, 1) := by decide +kernel
theorem d2_269 : decode method_4_code 269 = .ok (.caload, 1) := by decide +kernel
theorem d2_270 : decode method_4_code 270 = .ok (.castore, 1) := by decide +kernel
theorem d2_271 : decode method_4_code 271 = .ok (.dup, 1) := by decide +kernel
theorem d2_272 : decode method_4_code 272 = .ok (.iconst 3, 1) := by decide +kernel
theorem d2_273 : decode method_4_code 273 = .ok (.aload_n 0, 1) := by decide +kernel
theorem d2_274 : decode method_4_code 274 = .ok (.iconst 3, 1) := by decide +kernel
theorem d2_275 : decode method_4_code 275 = .ok (.caload, 1) := by decide +kernel
theorem d2_276 : decode method_4_code 276 = .ok (.castore, 1) := by decide +kernel
theorem d2_277 : decode method_4_code 277 = .ok (.dup, 1) := by decide +kernel
theorem d2_278 : decode method_4_code 278 = .ok (.iconst 4, 1) := by decide +kernel
theorem d2_279 : decode method_4_code 279 = .ok (.aload_n 0, 1) := by decide +kernel
theorem d2_280 : decode method_4_code 280 = .ok (.iconst 4, 1) := by decide +kernel
theorem d2_281 : decode method_4_code 281 = .ok (.caload, 1) := by decide +kernel
theorem d2_282 : decode method_4_code 282 = .ok (.castore, 1) := by decide +kernel
theorem d2_283 : decode method_4_code 283 = .ok (.dup, 1) := by decide +kernel
theorem d2_284 : decode method_4_code 284 = .ok (.iconst 5, 1) := by decide +kernel
theorem d2_285 : decode method_4_code 285 = .ok (.aload_n 0, 1) := by decide +kernel
theorem d2_286 : decode method_4_code 286 = .ok (.iconst 5, 1) := by decide +kernel
theorem d2_287 : decode method_4_code 287 = .ok (.caload, 1) := by decide +kernel
theorem d2_288 : decode method_4_code 288 = .ok (.castore, 1) := by decide +kernel
theorem d2_289 : decode method_4_code 289 = .ok (.dup, 1) := by decide +kernel
theorem d2_290 : decode method_4_code 290 = .ok (.bipush 6, 2) := by decide +kernel
theorem d2_292 : decode method_4_code 292 = .ok (.aload_n 0, 1) := by decide +kernel
theorem d2_293 : decode method_4_code 293 = .ok (.bipush 6, 2) := by decide +kernel
theorem d2_295 : decode method_4_code 295 = .ok (.caload, 1) := by decide +kernel
theorem d2_296 : decode method_4_code 296 = .ok (.castore, 1) := by decide +kernel
theorem d2_297 : decode method_4_code 297 = .ok (.invokespecial 11, 3) := by decide +kernel
theorem d2_300 : decode method_4_code 300 = .ok (.areturn, 1) := by decide +kernel
theorem d2_301 : decode method_4_code 301 = .ok (.iload_n 1, 1) := by decide +kernel
theorem d2_302 : decode method_4_code 302 = .ok (.bipush 8, 2) := by decide +kernel
theorem d2_304 : decode method_4_code 304 = .ok (.if_icmp .ne 67, 3) := by decide +kernel
theorem d2_307 : decode method_4_code 307 = .ok (.new 9, 3) := by decide +kernel
theorem d2_310 : decode method_4_code 310 = .ok (.dup, 1) := by decide +kernel
theorem d2_311 : decode method_4_code 311 = .ok (.bipush 8, 2) := by decide +kernel
theorem d2_313 : decode method_4_code 313 = .ok (.newarray .char, 2) := by decide +kernel
theorem d2_315 : decode method_4_code 315 = .ok (.dup, 1) := by decide +kernel
theorem d2_316 : decode method_4_code 316 = .ok (.iconst 0, 1) := by decide +kernel
theorem d2_317 : decode method_4_code 317 = .ok (.aload_n 0, 1) := by decide +kernel
theorem d2_318 : decode method_4_code 318 = .ok (.iconst 0, 1) := by decide +kernel
theorem d2_319 : decode method_4_code 319 = .ok (.caload, 1) := by decide +kernel
theorem d2_320 : decode method_4_code 320 = .ok (.castore, 1) := by decide +kernel
theorem d2_321 : decode method_4_code 321 = .ok (.dup, 1) := by decide +kernel
theorem d2_322 : decode method_4_code 322 = .ok (.iconst 1, 1) := by decide +kernel
theorem d2_323 : decode method_4_code 323 = .ok (.aload_n 0, 1) := by decide +kernel
theorem d2_324 : decode method_4_code 324 = .ok (.iconst 1, 1) := by decide +kernel
theorem d2_325 : decode method_4_code 325 = .ok (.caload, 1) := by decide +kernel
theorem d2_326 : decode method_4_code 326 = .ok (.castore, 1) := by decide +kernel
theorem d2_327 : decode method_4_code 327 = .ok (.dup, 1) := by decide +kernel
theorem d2_328 : decode method_4_code 328 = .ok (.iconst 2, 1) := by decide +kernel
theorem d2_329 : decode method_4_code 329 = .ok (.aload_n 0, 1) := by decide +kernel
theorem d2_330 : decode method_4_code 330 = .ok (.iconst 2, 1) := by decide +kernel
theorem d2_331 : decode method_4_code 331 = .ok (.caload, 1) := by decide +kernel
theorem d2_332 : decode method_4_code 332 = .ok (.castore, 1) := by decide +kernel
theorem d2_333 : decode method_4_code 333 = .ok (.dup, 1) := by decide +kernel
theorem d2_334 : decode method_4_code 334 = .ok (.iconst 3, 1) := by decide +kernel
theorem d2_335 : decode method_4_code 335 = .ok (.aload_n 0, 1) := by decide +kernel
theorem d2_336 : decode method_4_code 336 = .ok (.iconst 3, 1) := by decide +kernel
theorem d2_337 : decode method_4_code 337 = .ok (.caload, 1) := by decide +kernel
theorem d2_338 : decode method_4_code 338 = .ok (.castore, 1) := by decide +kernel
theorem d2_339 : decode method_4_code 339 = .ok (.dup, 1) := by decide +kernel
theorem d2_340 : decode method_4_code 340 = .ok (.iconst 4, 1) := by decide +kernel
theorem d2_341 : decode method_4_code 341 = .ok (.aload_n 0, 1) := by decide +kernel
theorem d2_342 : decode method_4_code 342 = .ok (.iconst 4, 1) := by decide +kernel
theorem d2_343 : decode method_4_code 343 = .ok (.caload, 1) := by decide +kernel
theorem d2_344 : decode method_4_code 344 = .ok (.castore, 1) := by decide +kernel
theorem d2_345 : decode method_4_code 345 = .ok (.dup, 1) := by decide +kernel
theorem d2_346 : decode method_4_code 346 = .ok (.iconst 5, 1) := by decide +kernel
theorem d2_347 : decode method_4_code 347 = .ok (.aload_n 0, 1) := by decide +kernel
theorem d2_348 : decode method_4_code 348 = .ok (.iconst 5, 1) := by decide +kernel
theorem d2_349 : decode method_4_code 349 = .ok (.caload, 1) := by decide +kernel
theorem d2_350 : decode method_4_code 350 = .ok (.castore, 1) := by decide +kernel
theorem d2_351 : decode method_4_code 351 = .ok (.dup, 1) := by decide +kernel
theorem d2_352 : decode method_4_code 352 = .ok (.bipush 6, 2) := by decide +kernel
theorem d2_354 : decode method_4_code 354 = .ok (.aload_n 0, 1) := by decide +kernel
theorem d2_355 : decode method_4_code 355 = .ok (.bipush 6, 2) := by decide +kernel
theorem d2_357 : decode method_4_code 357 = .ok (.caload, 1) := by decide +kernel
theorem d2_358 : decode method_4_code 358 = .ok (.castore, 1) := by decide +kernel
theorem d2_359 : decode method_4_code 359 = .ok (.dup, 1) := by decide +kernel
theorem d2_360 : decode method_4_code 360 = .ok (.bipush 7, 2) := by decide +kernel
theorem d2_362 : decode method_4_code 362 = .ok (.aload_n 0, 1) := by decide +kernel
theorem d2_363 : decode method_4_code 363 = .ok (.bipush 7, 2) := by decide +kernel
theorem d2_365 : decode method_4_code 365 = .ok (.caload, 1) := by decide +kernel
theorem d2_366 : decode method_4_code 366 = .ok (.castore, 1) := by decide +kernel
theorem d2_367 : decode method_4_code 367 = .ok (.invokespecial 11, 3) := by decide +kernel
theorem d2_370 : decode method_4_code 370 = .ok (.areturn, 1) := by decide +kernel
theorem d2_371 : decode method_4_code 371 = .ok (.new 9, 3) := by decide +kernel
theorem d2_374 : decode method_4_code 374 = .ok (.dup, 1) := by decide +kernel
theorem d2_375 : decode method_4_code 375 = .ok (.bipush 9, 2) := by decide +kernel
theorem d2_377 : decode method_4_code 377 = .ok (.newarray .char, 2) := by decide +kernel
theorem d2_379 : decode method_4_code 379 = .ok (.dup, 1) := by decide +kernel
theorem d2_380 : decode method_4_code 380 = .ok (.iconst 0, 1) := by decide +kernel
theorem d2_381 : decode method_4_code 381 = .ok (.aload_n 0, 1) := by decide +kernel
theorem d2_382 : decode method_4_code 382 = .ok (.iconst 0, 1) := by decide +kernel
theorem d2_383 : decode method_4_code 383 = .ok (.caload, 1) := by decide +kernel
theorem d2_384 : decode method_4_code 384 = .ok (.castore, 1) := by decide +kernel
theorem d2_385 : decode method_4_code 385 = .ok (.dup, 1) := by decide +kernel
theorem d2_386 : decode method_4_code 386 = .ok (.iconst 1, 1) := by decide +kernel
theorem d2_387 : decode method_4_code 387 = .ok (.aload_n 0, 1) := by decide +kernel
theorem d2_388 : decode method_4_code 388 = .ok (.iconst 1, 1) := by decide +kernel
theorem d2_389 : decode method_4_code 389 = .ok (.caload, 1) := by decide +kernel
theorem d2_390 : decode method_4_code 390 = .ok (.castore, 1) := by decide +kernel
theorem d2_391 : decode method_4_code 391 = .ok (.dup, 1) := by decide +kernel
theorem d2_392 : decode method_4_code 392 = .ok (.iconst 2, 1) := by decide +kernel
theorem d2_393 : decode method_4_code 393 = .ok (.aload_n 0, 1) := by decide +kernel
theorem d2_394 : decode method_4_code 394 = .ok (.iconst 2, 1) := by decide +kernel
theorem d2_395 : decode method_4_code 395 = .ok (.caload, 1) := by decide +kernel
theorem d2_396 : decode method_4_code 396 = .ok (.castore, 1) := by decide +kernel
theorem d2_397 : decode method_4_code 397 = .ok (.dup, 1) := by decide +kernel
theorem d2_398 : decode method_4_code 398 = .ok (.iconst 3, 1) := by decide +kernel
theorem d2_399 : decode method_4_code 399 = .ok (.aload_n 0, 1) := by decide +kernel
theorem d2_400 : decode method_4_code 400 = .ok (.iconst 3, 1) := by decide +kernel
theorem d2_401 : decode method_4_code 401 = .ok (.caload, 1) := by decide +kernel
theorem d2_402 : decode method_4_code 402 = .ok (.castore, 1) := by decide +kernel
theorem d2_403 : decode method_4_code 403 = .ok (.dup, 1) := by decide +kernel
theorem d2_404 : decode method_4_code 404 = .ok (.iconst 4, 1) := by decide +kernel
theorem d2_405 : decode method_4_code 405 = .ok (.aload_n 0, 1) := by decide +kernel
theorem d2_406 : decode method_4_code 406 = .ok (.iconst 4, 1) := by decide +kernel
theorem d2_407 : decode method_4_code 407 = .ok (.caload, 1) := by decide +kernel
theorem d2_408 : decode method_4_code 408 = .ok (.castore, 1) := by decide +kernel
theorem d2_409 : decode method_4_code 409 = .ok (.dup, 1) := by decide +kernel
theorem d2_410 : decode method_4_code 410 = .ok (.iconst 5, 1) := by decide +kernel
theorem d2_411 : decode method_4_code 411 = .ok (.aload_n 0, 1) := by decide +kernel
theorem d2_412 : decode method_4_code 412 = .ok (.iconst 5, 1) := by decide +kernel
theorem d2_413 : decode method_4_code 413 = .ok (.caload, 1) := by decide +kernel
theorem d2_414 : decode method_4_code 414 = .ok (.castore, 1) := by decide +kernel
theorem d2_415 : decode method_4_code 415 = .ok (.dup, 1) := by decide +kernel
theorem d2_416 : decode method_4_code 416 = .ok (.bipush 6, 2) := by decide +kernel
theorem d2_418 : decode method_4_code 418 = .ok (.aload_n 0, 1) := by decide +kernel
theorem d2_419 : decode method_4_code 419 = .ok (.bipush 6, 2) := by decide +kernel
theorem d2_421 : decode method_4_code 421 = .ok (.caload, 1) := by decide +kernel
theorem d2_422 : decode method_4_code 422 = .ok (.castore, 1) := by decide +kernel
theorem d2_423 : decode method_4_code 423 = .ok (.dup, 1) := by decide +kernel
theorem d2_424 : decode method_4_code 424 = .ok (.bipush 7, 2) := by decide +kernel
theorem d2_426 : decode method_4_code 426 = .ok (.aload_n 0, 1) := by decide +kernel
theorem d2_427 : decode method_4_code 427 = .ok (.bipush 7, 2) := by decide +kernel
theorem d2_429 : decode method_4_code 429 = .ok (.caload, 1) := by decide +kernel
theorem d2_430 : decode method_4_code 430 = .ok (.castore, 1) := by decide +kernel
theorem d2_431 : decode method_4_code 431 = .ok (.dup, 1) := by decide +kernel
theorem d2_432 : decode method_4_code 432 = .ok (.bipush 8, 2) := by decide +kernel
theorem d2_434 : decode method_4_code 434 = .ok (.aload_n 0, 1) := by decide +kernel
theorem d2_435 : decode method_4_code 435 = .ok (.bipush 8, 2) := by decide +kernel
theorem d2_437 : decode method_4_code 437 = .ok (.caload, 1) := by decide +kernel
theorem d2_438 : decode method_4_code 438 = .ok (.castore, 1) := by decide +kernel
theorem d2_439 : decode method_4_code 439 = .ok (.invokespecial 11, 3) := by decide +kernel
theorem d2_442 : decode method_4_code 442 = .ok (.areturn, 1) := by decide +kernel
theorem ef_rm_make (m : MethodId) (ca : Addr) (n : Int32)  : entryFrame m #[(.ref ca), (.int n)] 2 = mkF m 0 #[.val (.ref ca), .val (.int n)] [] := by first | (simp [entryFrame, mkF, argsToLocals, Value.category]; done) | rfl
def Q_rm_make (Z : State) (ca : Addr) (n : Int32) (s0 : Int32) (s1 : Int32) (s2 : Int32) (s3 : Int32) (s4 : Int32) (s5 : Int32) (s6 : Int32) (s7 : Int32) (s8 : Int32) (cz : Int32) (k_ca : ClassId) (h0 : Heap) (n0 : Nat) (v : Option Value) (h : Heap) (L : List Loc) : Prop := ∃ (r : Addr), v = some (.ref r) ∧ Fr n0 L ∧ Keep h0 h [] ∧ (n0 ≤ r ∧ h0.size ≤ r) ∧ UStr Z h r (own_mk s0 s1 s2 s3 s4 s5 s6 s7 s8 n)
theorem pn_22_ : plainName "com/example/heedful_rank/heedfulrank/history/ByteOrderPrefixKeyPinLaw" = true := by first | (simp [plainName, overriddenIn]; done) | decide +kernel
theorem pn_22 : plainFor (⟨"com/example/heedful_rank/heedfulrank/history/ByteOrderPrefixKeyPinLaw", "make", "([CI)Ljava/lang/String;"⟩ : MethodName) = true := plainFor_of_name pn_22_
set_option maxRecDepth 65536 in
set_option maxHeartbeats 40000000 in
theorem rm_make (l : Launch) (Z : State) (a0 : Array Value) (hw : ∀ d ∈ tables_1, d.before a0 Z = true) (ws : List Jvm.Cond) (ca : Addr) (n : Int32) (s0 : Int32) (s1 : Int32) (s2 : Int32) (s3 : Int32) (s4 : Int32) (s5 : Int32) (s6 : Int32) (s7 : Int32) (s8 : Int32) (cz : Int32) (k_ca : ClassId) (h0 : Heap) (n0 : Nat) (O0 : Old Z n0 h0) (hEL : EW Z a0 consts_1) (V_ca : Arv Z h0 ca k_ca .char (9 : Int32) [(.int s0), (.int s1), (.int s2), (.int s3), (.int s4), (.int s5), (.int s6), (.int s7), (.int s8)] (.int (0 : Int32))) (S_COMPACT_STRINGS : Sta Z Z.heap "java/lang/String" "COMPACT_STRINGS" "Z" (.int cz)) (S__assertionsDisabled : Sta Z Z.heap "java/lang/StringUTF16" "$assertionsDisabled" "Z" (.int (1 : Int32))) (S_HI_BYTE_SHIFT : Sta Z Z.heap "java/lang/StringUTF16" "HI_BYTE_SHIFT" "I" (.int (0 : Int32))) (S_LO_BYTE_SHIFT : Sta Z Z.heap "java/lang/StringUTF16" "LO_BYTE_SHIFT" "I" (.int (8 : Int32))) (hcz : ¬ cz = (0 : Int32)) (hs0 : ¬ s0 < 0 ∧ ¬ (65535 : Int32) < s0) (hs1 : ¬ s1 < 0 ∧ ¬ (65535 : Int32) < s1) (hs2 : ¬ s2 < 0 ∧ ¬ (65535 : Int32) < s2) (hs3 : ¬ s3 < 0 ∧ ¬ (65535 : Int32) < s3) (hs4 : ¬ s4 < 0 ∧ ¬ (65535 : Int32) < s4) (hs5 : ¬ s5 < 0 ∧ ¬ (65535 : Int32) < s5) (hs6 : ¬ s6 < 0 ∧ ¬ (65535 : Int32) < s6) (hs7 : ¬ s7 < 0 ∧ ¬ (65535 : Int32) < s7) (hs8 : ¬ s8 < 0 ∧ ¬ (65535 : Int32) < s8) :
    MetFree l (⟨"com/example/heedful_rank/heedfulrank/history/ByteOrderPrefixKeyPinLaw", "make", "([CI)Ljava/lang/String;"⟩ : MethodName) (head1 (Jvm.Cond.code (⟨"com/example/heedful_rank/heedfulrank/history/ByteOrderPrefixKeyPinLaw", "make", "([CI)Ljava/lang/String;"⟩ : MethodName) method_4_code 2 (some (.object "java/lang/String")) :: ws) ({ frames := 6, cells := 4, slots := 43, locals := 88 } : Room)) (fun args_ U => args_ = #[(.ref ca), (.int n)] ∧ Z.Warmed39 U.vm ∧ U.heap = h0 ∧ CHv Z consts_1 U.vm h0) (fun _ _ _ _ _ => True) (fun _ U out_ U' => ∃ val_ loc_, out_ = .returned val_ ∧ (Q_rm_make Z ca n s0 s1 s2 s3 s4 s5 s6 s7 s8 cz k_ca h0 n0) val_ U'.heap loc_ ∧ CHr Z consts_1 U.vm U.heap U'.vm U'.heap ∧ ReturnedEndW U out_ U' loc_ ({ frames := 6, cells := 4, slots := 43, locals := 88 } : Room).cells ({ frames := 6, cells := 4, slots := 43, locals := 88 } : Room).slots) := by
  refine startW (Q := (Q_rm_make Z ca n s0 s1 s2 s3 s4 s5 s6 s7 s8 cz k_ca h0 n0)) pn_22 ?_
  intro p e s m below meth c T0 X0 hx hby hml hown hnm hret hlk hZ e0 hS CR
  have hk : 0 ≤ h0.size := Nat.zero_le _
  have wS : ∀ a ∈ Bundle.stringAtoms, a.before a0 Z = true := own_wS hw
  replace hown : s.vm.findClass "com/example/heedful_rank/heedfulrank/history/ByteOrderPrefixKeyPinLaw" = some m.cls := hown
  replace hml : c.maxLocals = 2 := hml
  refine goAt (ef_rm_make m ca n ) ?_
  have N0 := Fr.nil n0
  show Go p e below T0 (mkF m 0 #[.val (.ref ca), .val (.int n)] []) _
  refine stp (fun _ => XS.iloadN X0.here hx rfl (hb hby d2_0) rfl) ?_
  show Go p e below T0 (mkF m 1 #[.val (.ref ca), .val (.int n)] [(.int n)]) _
  by_cases q1_1 : n = 0
  · refine stp (fun _ => XS.ifNo X0.here hx rfl (hb hby d2_1) rfl (XT.i0_ne_f q1_1)) ?_
    show Go p e below T0 (mkF m 4 #[.val (.ref ca), .val (.int n)] []) _
    obtain ⟨T2, h2, X2, e2, E2, A2, D2, -, st2⟩ := newO X0 hx hZ hown (hw _ (List.mem_of_getElem? (i := 9) rfl)) (hw _ (List.mem_of_getElem? (i := 10) rfl)) (hw _ (List.mem_of_getElem? (i := 11) rfl)) e0 (g := (mkF m 4 #[.val (.ref ca), .val (.int n)] [])) rfl (hb hby d2_4) (by decide) (by decide)
    obtain ⟨b2, g2⟩ : ∃ z, z = h0.size := ⟨_, rfl⟩
    rw [← g2] at A2 D2 st2
    have ne3 : ca ≠ b2 := Nat.ne_of_lt (Nat.lt_of_lt_of_le V_ca.lt (Nat.le_of_eq g2.symm))
    have sz_b2 : h0.size ≤ b2 := Nat.le_trans (Keep.refl h0 []).1 (Nat.le_of_eq g2.symm)
    have ge_b2 : n0 ≤ b2 := Nat.le_trans (old_le O0) (Nat.le_of_eq g2.symm)
    have f4 := V_ca.ext E2
    have Sf2 := (Safe.new (Z := Z) (EL := consts_1) (Nat.le_of_eq g2.symm)).ext E2 CR.1
    have hk := Nat.le_trans hk E2.1
    have CR := CR.trans (CHr.ext E2 CR.1)
    have K2 : Keep h0 h2 [] := (Keep.refl h0 []).ext E2
    have O2 := O0.ext E2
    have F5 : Fld Z h2 b2 "java/lang/String" "value" "[B" .null := D2 (Or.inr (hw _ (List.mem_of_getElem? (i := 24) rfl))) (ty := (.array .byte)) (by decide)
    have F6 : Fld Z h2 b2 "java/lang/String" "coder" "B" (.int (0 : Int32)) := D2 (Or.inr (hw _ (List.mem_of_getElem? (i := 25) rfl))) (ty := .byte) (by decide)
    refine stp st2 ?_
    show Go p e below T2 (mkF m 7 #[.val (.ref ca), .val (.int n)] [(.ref b2)]) _
    refine stp (fun _ => XS.dup X2.here hx rfl (hb hby d2_7) rfl rfl) ?_
    refine stp (fun _ => XS.iconst X2.here hx rfl (hb hby d2_8)) ?_
    show Go p e below T2 (mkF m 9 #[.val (.ref ca), .val (.int n)] [(.int (0 : Int32)), (.ref b2), (.ref b2)]) _
    obtain ⟨T7, h7, k7, X7, e7, E7, A7, B7, st7⟩ := newPE X2 hx hZ (hw _ (List.mem_of_getElem? (i := 1) rfl)) e2 (g := (mkF m 9 #[.val (.ref ca), .val (.int n)] [(.int (0 : Int32)), (.ref b2), (.ref b2)])) rfl (hb hby d2_9) rfl (by decide) (cap := 0) (by decide) (by decide) (by decide) (by decide) (ad := "[C") (by decide)
    obtain ⟨b7, g7⟩ : ∃ z, z = h2.size := ⟨_, rfl⟩
    rw [← g7] at A7 B7 st7
    have ne8 : b2 ≠ b7 := Nat.ne_of_lt (Nat.lt_of_lt_of_le A2.lt (Nat.le_of_eq g7.symm))
    have ne9 : ca ≠ b7 := Nat.ne_of_lt (Nat.lt_of_lt_of_le f4.lt (Nat.le_of_eq g7.symm))
    have sz_b7 : h0.size ≤ b7 := Nat.le_trans K2.1 (Nat.le_of_eq g7.symm)
    have ge_b7 : n0 ≤ b7 := Nat.le_trans (old_le O2) (Nat.le_of_eq g7.symm)
    have f10 := f4.ext E7
    have f11 := Sf2.ext E7 CR.1
    have f12 := A2.ext E7
    have f13 := F5.ext E7
    have f14 := F6.ext E7
    have hk := Nat.le_trans hk E7.1
    have CR := CR.trans (CHr.ext E7 CR.1)
    have K7 : Keep h0 h7 [] := K2.ext E7
    have O7 := O2.ext E7
    have V7 : Arv Z h7 b7 k7 .char (0 : Int32) [] (.int (0 : Int32)) := (Arv.new A7 (by decide)).pad (pad_rep [] (.int (0 : Int32)) 0)
    refine stp st7 ?_
    show Go p e below T7 (mkF m 11 #[.val (.ref ca), .val (.int n)] [(.ref b7), (.ref b2), (.ref b2)]) _
    obtain ⟨_, _, ⟨T15, L15, k15, n15⟩, -, X15, hS15, gg15, ⟨Lc15, hQ15, l15, y15, z15, CRn15⟩, st15⟩ := X7.specialBackS hx (y := (⟨"java/lang/String", "<init>", "([C)V"⟩ : MethodName)) rfl hown (mvT hZ (hw _ (List.mem_of_getElem? (i := 12) rfl))) (mvT hZ (hw _ (List.mem_of_getElem? (i := 13) rfl))) (mvT hZ (hw _ (List.mem_of_getElem? (i := 14) rfl))) (by decide) (backOfSH (W := 1) (rm_s0 l Z a0 hw [] b2 b7 k7 h7 n0 O7 hEL f12 f13 f14 V7 ge_b2 (Ne.symm ne8)) hZ (hw _ (List.mem_of_getElem? (i := 14) rfl)) (hw _ (List.mem_of_getElem? (i := 11) rfl)) (by decide) (by decide) hEL CR.1) (g := (mkF m 11 #[.val (.ref ca), .val (.int n)] [(.ref b7), (.ref b2), (.ref b2)])) rfl (by rw [hml]; rfl) (Steps.refl _) (a := b2) (argsL := [(.ref b7)]) (rest := [(.ref b2)]) (lenOf pd_14 rfl) rfl (by show 2 * 0 + _ ≤ _; exact Nat.le_of_eq rfl) (hb hby d2_11) (fun _ _ => ⟨rfl, e7, (by decide : 2 + 2 ≤ _), (by decide : 4 + 4 ≤ _)⟩)
    dsimp only [Pt.U, Pt.locs, Pt.cells, Pt.slots] at X15 hS15 gg15 l15 y15 z15 st15 hQ15 CRn15
    subst y15 z15
    obtain ⟨X15, hS, hZ, hown⟩ := rebS hS (by rw [e7]; exact hk) X15 hS15 gg15 hZ hown
    obtain ⟨rfl, N15q, K15q, r15_0⟩ := hQ15
    have N15 : Fr n0 L15 := by rw [l15]; exact Fr.app N0 N15q
    have f16 := f10.keep K15q (ninS ne3 nin0)
    have f17 := CRn15.safe f14.lt f11
    have f18 := f12.keep K15q
    have f19 := B7.keep K15q
    have f20 := V7.keep K15q (ninS (Ne.symm ne8) nin0)
    have K15 : Keep h0 T15.heap [] := K7.trans K15q (allS (Or.inr sz_b2) all0)
    have O15 := O7.keep K15q (allS ge_b2 all0)
    have hk : T15.heap.size ≤ T15.heap.size := Nat.le_refl _
    have CR := CR.trans CRn15
    refine stt st15 ?_
    show Go p e below T15 (mkF m 14 #[.val (.ref ca), .val (.int n)] [(.ref b2)]) _
    refine outAW X15 hx hZ hEL rfl hS hk CR hret rfl rfl (hb hby d2_14) hlk (by decide) (by decide) ?_
    exact ⟨b2, rfl, N15, K15, ⟨ge_b2, sz_b2⟩, (own_ucs_of (by simp only [own_mk, if_pos q1_1]) r15_0)⟩
  refine stp (fun _ => XS.ifYes X0.here hx rfl (pc0 := 1) (pc' := 15) rfl (hb hby d2_1) rfl (XT.i0_ne_t q1_1) (by decide) (by decide)) ?_
  show Go p e below T0 (mkF m 15 #[.val (.ref ca), .val (.int n)] []) _
  refine stp (fun _ => XS.iloadN X0.here hx rfl (hb hby d2_15) rfl) ?_
  refine stp (fun _ => XS.iconst X0.here hx rfl (hb hby d2_16)) ?_
  show Go p e below T0 (mkF m 17 #[.val (.ref ca), .val (.int n)] [(.int (1 : Int32)), (.int n)]) _
  by_cases q17_21 : n = (1 : Int32)
  · refine stp (fun _ => XS.icmpNo X0.here hx rfl (hb hby d2_17) rfl (XT.ii_ne_f q17_21)) ?_
    show Go p e below T0 (mkF m 20 #[.val (.ref ca), .val (.int n)] []) _
    obtain ⟨T22, h22, X22, e22, E22, A22, D22, -, st22⟩ := newO X0 hx hZ hown (hw _ (List.mem_of_getElem? (i := 9) rfl)) (hw _ (List.mem_of_getElem? (i := 10) rfl)) (hw _ (List.mem_of_getElem? (i := 11) rfl)) e0 (g := (mkF m 20 #[.val (.ref ca), .val (.int n)] [])) rfl (hb hby d2_20) (by decide) (by decide)
    obtain ⟨b22, g22⟩ : ∃ z, z = h0.size := ⟨_, rfl⟩
    rw [← g22] at A22 D22 st22
    have ne23 : ca ≠ b22 := Nat.ne_of_lt (Nat.lt_of_lt_of_le V_ca.lt (Nat.le_of_eq g22.symm))
    have sz_b22 : h0.size ≤ b22 := Nat.le_trans (Keep.refl h0 []).1 (Nat.le_of_eq g22.symm)
    have ge_b22 : n0 ≤ b22 := Nat.le_trans (old_le O0) (Nat.le_of_eq g22.symm)
    have f24 := V_ca.ext E22
    have Sf22 := (Safe.new (Z := Z) (EL := consts_1) (Nat.le_of_eq g22.symm)).ext E22 CR.1
    have hk := Nat.le_trans hk E22.1
    have CR := CR.trans (CHr.ext E22 CR.1)
    have K22 : Keep h0 h22 [] := (Keep.refl h0 []).ext E22
    have O22 := O0.ext E22
    have F25 : Fld Z h22 b22 "java/lang/String" "value" "[B" .null := D22 (Or.inr (hw _ (List.mem_of_getElem? (i := 24) rfl))) (ty := (.array .byte)) (by decide)
    have F26 : Fld Z h22 b22 "java/lang/String" "coder" "B" (.int (0 : Int32)) := D22 (Or.inr (hw _ (List.mem_of_getElem? (i := 25) rfl))) (ty := .byte) (by decide)
    refine stp st22 ?_
    show Go p e below T22 (mkF m 23 #[.val (.ref ca), .val (.int n)] [(.ref b22)]) _
    refine stp (fun _ => XS.dup X22.here hx rfl (hb hby d2_23) rfl rfl) ?_
    refine stp (fun _ => XS.iconst X22.here hx rfl (hb hby d2_24)) ?_
    show Go p e below T22 (mkF m 25 #[.val (.ref ca), .val (.int n)] [(.int (1 : Int32)), (.ref b22), (.ref b22)]) _
    obtain ⟨T27, h27, k27, X27, e27, E27, A27, B27, st27⟩ := newPE X22 hx hZ (hw _ (List.mem_of_getElem? (i := 1) rfl)) e22 (g := (mkF m 25 #[.val (.ref ca), .val (.int n)] [(.int (1 : Int32)), (.ref b22), (.ref b22)])) rfl (hb hby d2_25) rfl (by decide) (cap := 1) (by decide) (by decide) (by decide) (by decide) (ad := "[C") (by decide)
    obtain ⟨b27, g27⟩ : ∃ z, z = h22.size := ⟨_, rfl⟩
    rw [← g27] at A27 B27 st27
    have ne28 : b22 ≠ b27 := Nat.ne_of_lt (Nat.lt_of_lt_of_le A22.lt (Nat.le_of_eq g27.symm))
    have ne29 : ca ≠ b27 := Nat.ne_of_lt (Nat.lt_of_lt_of_le f24.lt (Nat.le_of_eq g27.symm))
    have sz_b27 : h0.size ≤ b27 := Nat.le_trans K22.1 (Nat.le_of_eq g27.symm)
    have ge_b27 : n0 ≤ b27 := Nat.le_trans (old_le O22) (Nat.le_of_eq g27.symm)
    have f30 := f24.ext E27
    have f31 := Sf22.ext E27 CR.1
    have f32 := A22.ext E27
    have f33 := F25.ext E27
    have f34 := F26.ext E27
    have hk := Nat.le_trans hk E27.1
    have CR := CR.trans (CHr.ext E27 CR.1)
    have K27 : Keep h0 h27 [] := K22.ext E27
    have O27 := O22.ext E27
    have V27 : Arv Z h27 b27 k27 .char (1 : Int32) [(.int (0 : Int32))] (.int (0 : Int32)) := (Arv.new A27 (by decide)).pad (pad_rep [] (.int (0 : Int32)) 1)
    refine stp st27 ?_
    show Go p e below T27 (mkF m 27 #[.val (.ref ca), .val (.int n)] [(.ref b27), (.ref b22), (.ref b22)]) _
    refine stp (fun _ => XS.dup X27.here hx rfl (hb hby d2_27) rfl rfl) ?_
    refine stp (fun _ => XS.iconst X27.here hx rfl (hb hby d2_28)) ?_
    refine stp (fun _ => XS.aloadN X27.here hx rfl (hb hby d2_29) rfl rfl) ?_
    refine stp (fun _ => XS.iconst X27.here hx rfl (hb hby d2_30)) ?_
    show Go p e below T27 (mkF m 31 #[.val (.ref ca), .val (.int n)] [(.int (0 : Int32)), (.ref ca), (.int (0 : Int32)), (.ref b27), (.ref b27), (.ref b22), (.ref b22)]) _
    obtain ⟨cl35, Ar35, q35, S35, M35, H35, G35⟩ := (id f30)
    have in35 : ¬ ((0 : Int32) < 0 ∨ cl35.slots.size ≤ ((0 : Int32)).toNatClampNeg) := inb_of S35 ⟨by decide, by decide⟩
    have at35 : cl35.slots[((0 : Int32)).toNatClampNeg]? = some (.int s0) := H35.at in35 rfl
    refine stp (fun _ => X27.caload hx (j := (0 : Int32)) (v := (.int s0)) (by rw [e27]; exact Ar35.1) (State.isArrayOf_alike hZ.alike Ar35.2.1) Ar35.2.2 in35 at35 (g := (mkF m 31 #[.val (.ref ca), .val (.int n)] [(.int (0 : Int32)), (.ref ca), (.int (0 : Int32)), (.ref b27), (.ref b27), (.ref b22), (.ref b22)])) rfl rfl (hb hby d2_31) _) ?_
    show Go p e below T27 (mkF m 32 #[.val (.ref ca), .val (.int n)] [(.int s0), (.int (0 : Int32)), (.ref b27), (.ref b27), (.ref b22), (.ref b22)]) _
    obtain ⟨cl36, Ar36, q36, S36, M36, H36, G36⟩ := (id V27)
    have in36 : ¬ ((0 : Int32) < 0 ∨ cl36.slots.size ≤ ((0 : Int32)).toNatClampNeg) := inb_of S36 ⟨by decide, by decide⟩
    obtain ⟨T36, h36, X36, e36, W36, st36⟩ := stC X27 hx hZ e27 Ar36 (j := (0 : Int32)) in36 (g := (mkF m 32 #[.val (.ref ca), .val (.int n)] [(.int s0), (.int (0 : Int32)), (.ref b27), (.ref b27), (.ref b22), (.ref b22)])) rfl rfl (hb hby d2_32)
    have V36 : Arv Z h36 b27 k27 .char (1 : Int32) [(.int s0)] (.int (0 : Int32)) := Arv.set Ar36 q36 S36 M36 H36 G36 (ow_fits_char (own_cs16 hs0)) (ow_wr_char (own_cs16 hs0) W36) 0 rfl (Nat.le_of_ble_eq_true rfl)
    have f37 := f30.other W36 ne29
    have f38 := Safe.wr W36 (Safe.exa hZ.alike B27 (by decide) (by decide)) CR.1 f31
    have f39 := f32.wr W36
    have f40 := f33.other W36 (Or.inl ne28)
    have f41 := f34.other W36 (Or.inl ne28)
    have f42 := B27.wr W36
    have hk := Nat.le_trans hk (Keep.of_wr W36).1
    have CR := CR.trans (CHr.wr W36 (Safe.exa hZ.alike B27 (by decide) (by decide)) CR.1)
    have K36 : Keep h0 h36 [] := K27.wr W36 (Or.inr sz_b27)
    have O36 := O27.wr W36 ge_b27
    have N36 := Fr.snoc X36 N0 ge_b27
    refine stp st36 ?_
    show Go p e below T36 (mkF m 33 #[.val (.ref ca), .val (.int n)] [(.ref b27), (.ref b22), (.ref b22)]) _
    have V44 : Arf Z h36 b27 k27 .char ([s0] : List Int32).length (fun i => (.int (own_at ([s0] : List Int32) i))) := (Arv.arf V36 rfl).congr (fun i _ => own_atv ([s0] : List Int32) i)
    obtain ⟨_, _, ⟨T45, L45, k45, n45⟩, -, X45, ⟨Lc45, hQ45, l45, y45, z45⟩, st45⟩ := X36.specialBack hx (y := (⟨"java/lang/String", "<init>", "([C)V"⟩ : MethodName)) rfl hown (mvT hZ (hw _ (List.mem_of_getElem? (i := 12) rfl))) (mvT hZ (hw _ (List.mem_of_getElem? (i := 13) rfl))) (mvT hZ (hw _ (List.mem_of_getElem? (i := 14) rfl))) (by decide) (backOf (W := 1) (rm_u1 l Z a0 hw [] b22 b27 ([s0] : List Int32) cz k27 h36 n0 O36 f39 f40 f41 V44 S_COMPACT_STRINGS S__assertionsDisabled S_HI_BYTE_SHIFT S_LO_BYTE_SHIFT ge_b22 (Ne.symm ne28) hcz (Nat.le_of_ble_eq_true rfl) (own_m1 (P := (fun c => ¬ c < 0 ∧ ¬ (65535 : Int32) < c)) hs0 (own_m0 (P := (fun c => ¬ c < 0 ∧ ¬ (65535 : Int32) < c)))) (Nat.succ_pos _)) hZ (hw _ (List.mem_of_getElem? (i := 14) rfl)) (hw _ (List.mem_of_getElem? (i := 11) rfl)) (by decide) (by decide)) (g := (mkF m 33 #[.val (.ref ca), .val (.int n)] [(.ref b27), (.ref b22), (.ref b22)])) rfl (by rw [hml]; rfl) (Steps.refl _) (a := b22) (argsL := [(.ref b27)]) (rest := [(.ref b22)]) (lenOf pd_14 rfl) rfl (by show 2 * 0 + _ ≤ _; exact Nat.le_of_eq rfl) (hb hby d2_33) (fun _ _ => ⟨rfl, e36, (by decide : 2 + 2 ≤ _), (by decide : 5 + 30 ≤ _)⟩)
    dsimp only [Pt.U, Pt.locs, Pt.cells, Pt.slots] at X45 l45 y45 z45 st45 hQ45
    subst y45 z45
    obtain ⟨rfl, N45q, K45q, r45_0⟩ := hQ45
    have N45 : Fr n0 L45 := by rw [l45]; exact Fr.app N36 N45q
    have f46 := f37.keep K45q (ninS ne23 nin0)
    have f47 := f38.keep K45q (sfS f38 sf0) CR.1
    have f48 := f39.keep K45q
    have f49 := f42.keep K45q
    have f50 := V44.keep K45q (ninS (Ne.symm ne28) nin0)
    have hk := Nat.le_trans hk K45q.1
    have CR := CR.trans (CHr.keep K45q (sfS f38 sf0) CR.1)
    have K45 : Keep h0 T45.heap [] := K36.trans K45q (allS (Or.inr sz_b22) all0)
    have O45 := O36.keep K45q (allS ge_b22 all0)
    refine stt st45 ?_
    show Go p e below T45 (mkF m 36 #[.val (.ref ca), .val (.int n)] [(.ref b22)]) _
    refine outAW X45 hx hZ hEL rfl hS hk CR hret rfl rfl (hb hby d2_36) hlk (by decide) (by decide) ?_
    exact ⟨b22, rfl, N45, K45, ⟨ge_b22, sz_b22⟩, (own_ucs_of (by simp only [own_mk, if_neg q1_1, if_pos q17_21]) r45_0)⟩
  refine stp (fun _ => XS.icmpYes X0.here hx rfl (pc0 := 17) (pc' := 37) rfl (hb hby d2_17) rfl (XT.ii_ne_t q17_21) (by decide) (by decide)) ?_
  show Go p e below T0 (mkF m 37 #[.val (.ref ca), .val (.int n)] []) _
  refine stp (fun _ => XS.iloadN X0.here hx rfl (hb hby d2_37) rfl) ?_
  refine stp (fun _ => XS.iconst X0.here hx rfl (hb hby d2_38)) ?_
  show Go p e below T0 (mkF m 39 #[.val (.ref ca), .val (.int n)] [(.int (2 : Int32)), (.int n)]) _
  by_cases q39_51 : n = (2 : Int32)
  · refine stp (fun _ => XS.icmpNo X0.here hx rfl (hb hby d2_39) rfl (XT.ii_ne_f q39_51)) ?_
    show Go p e below T0 (mkF m 42 #[.val (.ref ca), .val (.int n)] []) _
    obtain ⟨T52, h52, X52, e52, E52, A52, D52, -, st52⟩ := newO X0 hx hZ hown (hw _ (List.mem_of_getElem? (i := 9) rfl)) (hw _ (List.mem_of_getElem? (i := 10) rfl)) (hw _ (List.mem_of_getElem? (i := 11) rfl)) e0 (g := (mkF m 42 #[.val (.ref ca), .val (.int n)] [])) rfl (hb hby d2_42) (by decide) (by decide)
    obtain ⟨b52, g52⟩ : ∃ z, z = h0.size := ⟨_, rfl⟩
    rw [← g52] at A52 D52 st52
    have ne53 : ca ≠ b52 := Nat.ne_of_lt (Nat.lt_of_lt_of_le V_ca.lt (Nat.le_of_eq g52.symm))
    have sz_b52 : h0.size ≤ b52 := Nat.le_trans (Keep.refl h0 []).1 (Nat.le_of_eq g52.symm)
    have ge_b52 : n0 ≤ b52 := Nat.le_trans (old_le O0) (Nat.le_of_eq g52.symm)
    have f54 := V_ca.ext E52
    have Sf52 := (Safe.new (Z := Z) (EL := consts_1) (Nat.le_of_eq g52.symm)).ext E52 CR.1
    have hk := Nat.le_trans hk E52.1
    have CR := CR.trans (CHr.ext E52 CR.1)
    have K52 : Keep h0 h52 [] := (Keep.refl h0 []).ext E52
    have O52 := O0.ext E52
    have F55 : Fld Z h52 b52 "java/lang/String" "value" "[B" .null := D52 (Or.inr (hw _ (List.mem_of_getElem? (i := 24) rfl))) (ty := (.array .byte)) (by decide)
    have F56 : Fld Z h52 b52 "java/lang/String" "coder" "B" (.int (0 : Int32)) := D52 (Or.inr (hw _ (List.mem_of_getElem? (i := 25) rfl))) (ty := .byte) (by decide)
    refine stp st52 ?_
    show Go p e below T52 (mkF m 45 #[.val (.ref ca), .val (.int n)] [(.ref b52)]) _
    refine stp (fun _ => XS.dup X52.here hx rfl (hb hby d2_45) rfl rfl) ?_
    refine stp (fun _ => XS.iconst X52.here hx rfl (hb hby d2_46)) ?_
    show Go p e below T52 (mkF m 47 #[.val (.ref ca), .val (.int n)] [(.int (2 : Int32)), (.ref b52), (.ref b52)]) _
    obtain ⟨T57, h57, k57, X57, e57, E57, A57, B57, st57⟩ := newPE X52 hx hZ (hw _ (List.mem_of_getElem? (i := 1) rfl)) e52 (g := (mkF m 47 #[.val (.ref ca), .val (.int n)] [(.int (2 : Int32)), (.ref b52), (.ref b52)])) rfl (hb hby d2_47) rfl (by decide) (cap := 2) (by decide) (by decide) (by decide) (by decide) (ad := "[C") (by decide)
    obtain ⟨b57, g57⟩ : ∃ z, z = h52.size := ⟨_, rfl⟩
    rw [← g57] at A57 B57 st57
    have ne58 : b52 ≠ b57 := Nat.ne_of_lt (Nat.lt_of_lt_of_le A52.lt (Nat.le_of_eq g57.symm))
    have ne59 : ca ≠ b57 := Nat.ne_of_lt (Nat.lt_of_lt_of_le f54.lt (Nat.le_of_eq g57.symm))
    have sz_b57 : h0.size ≤ b57 := Nat.le_trans K52.1 (Nat.le_of_eq g57.symm)
    have ge_b57 : n0 ≤ b57 := Nat.le_trans (old_le O52) (Nat.le_of_eq g57.symm)
    have f60 := f54.ext E57
    have f61 := Sf52.ext E57 CR.1
    have f62 := A52.ext E57
    have f63 := F55.ext E57
    have f64 := F56.ext E57
    have hk := Nat.le_trans hk E57.1
    have CR := CR.trans (CHr.ext E57 CR.1)
    have K57 : Keep h0 h57 [] := K52.ext E57
    have O57 := O52.ext E57
    have V57 : Arv Z h57 b57 k57 .char (2 : Int32) [(.int (0 : Int32)), (.int (0 : Int32))] (.int (0 : Int32)) := (Arv.new A57 (by decide)).pad (pad_rep [] (.int (0 : Int32)) 2)
    refine stp st57 ?_
    show Go p e below T57 (mkF m 49 #[.val (.ref ca), .val (.int n)] [(.ref b57), (.ref b52), (.ref b52)]) _
    refine stp (fun _ => XS.dup X57.here hx rfl (hb hby d2_49) rfl rfl) ?_
    refine stp (fun _ => XS.iconst X57.here hx rfl (hb hby d2_50)) ?_
    refine stp (fun _ => XS.aloadN X57.here hx rfl (hb hby d2_51) rfl rfl) ?_
    refine stp (fun _ => XS.iconst X57.here hx rfl (hb hby d2_52)) ?_
    show Go p e below T57 (mkF m 53 #[.val (.ref ca), .val (.int n)] [(.int (0 : Int32)), (.ref ca), (.int (0 : Int32)), (.ref b57), (.ref b57), (.ref b52), (.ref b52)]) _
    obtain ⟨cl65, Ar65, q65, S65, M65, H65, G65⟩ := (id f60)
    have in65 : ¬ ((0 : Int32) < 0 ∨ cl65.slots.size ≤ ((0 : Int32)).toNatClampNeg) := inb_of S65 ⟨by decide, by decide⟩
    have at65 : cl65.slots[((0 : Int32)).toNatClampNeg]? = some (.int s0) := H65.at in65 rfl
    refine stp (fun _ => X57.caload hx (j := (0 : Int32)) (v := (.int s0)) (by rw [e57]; exact Ar65.1) (State.isArrayOf_alike hZ.alike Ar65.2.1) Ar65.2.2 in65 at65 (g := (mkF m 53 #[.val (.ref ca), .val (.int n)] [(.int (0 : Int32)), (.ref ca), (.int (0 : Int32)), (.ref b57), (.ref b57), (.ref b52), (.ref b52)])) rfl rfl (hb hby d2_53) _) ?_
    show Go p e below T57 (mkF m 54 #[.val (.ref ca), .val (.int n)] [(.int s0), (.int (0 : Int32)), (.ref b57), (.ref b57), (.ref b52), (.ref b52)]) _
    obtain ⟨cl66, Ar66, q66, S66, M66, H66, G66⟩ := (id V57)
    have in66 : ¬ ((0 : Int32) < 0 ∨ cl66.slots.size ≤ ((0 : Int32)).toNatClampNeg) := inb_of S66 ⟨by decide, by decide⟩
    obtain ⟨T66, h66, X66, e66, W66, st66⟩ := stC X57 hx hZ e57 Ar66 (j := (0 : Int32)) in66 (g := (mkF m 54 #[.val (.ref ca), .val (.int n)] [(.int s0), (.int (0 : Int32)), (.ref b57), (.ref b57), (.ref b52), (.ref b52)])) rfl rfl (hb hby d2_54)
    have V66 : Arv Z h66 b57 k57 .char (2 : Int32) [(.int s0), (.int (0 : Int32))] (.int (0 : Int32)) := Arv.set Ar66 q66 S66 M66 H66 G66 (ow_fits_char (own_cs16 hs0)) (ow_wr_char (own_cs16 hs0) W66) 0 rfl (Nat.le_of_ble_eq_true rfl)
    have f67 := f60.other W66 ne59
    have f68 := Safe.wr W66 (Safe.exa hZ.alike B57 (by decide) (by decide)) CR.1 f61
    have f69 := f62.wr W66
    have f70 := f63.other W66 (Or.inl ne58)
    have f71 := f64.other W66 (Or.inl ne58)
    have f72 := B57.wr W66
    have hk := Nat.le_trans hk (Keep.of_wr W66).1
    have CR := CR.trans (CHr.wr W66 (Safe.exa hZ.alike B57 (by decide) (by decide)) CR.1)
    have K66 : Keep h0 h66 [] := K57.wr W66 (Or.inr sz_b57)
    have O66 := O57.wr W66 ge_b57
    have N66 := Fr.snoc X66 N0 ge_b57
    refine stp st66 ?_
    show Go p e below T66 (mkF m 55 #[.val (.ref ca), .val (.int n)] [(.ref b57), (.ref b52), (.ref b52)]) _
    refine stp (fun _ => XS.dup X66.here hx rfl (hb hby d2_55) rfl rfl) ?_
    refine stp (fun _ => XS.iconst X66.here hx rfl (hb hby d2_56)) ?_
    refine stp (fun _ => XS.aloadN X66.here hx rfl (hb hby d2_57) rfl rfl) ?_
    refine stp (fun _ => XS.iconst X66.here hx rfl (hb hby d2_58)) ?_
    show Go p e below T66 (mkF m 59 #[.val (.ref ca), .val (.int n)] [(.int (1 : Int32)), (.ref ca), (.int (1 : Int32)), (.ref b57), (.ref b57), (.ref b52), (.ref b52)]) _
    obtain ⟨cl74, Ar74, q74, S74, M74, H74, G74⟩ := (id f67)
    have in74 : ¬ ((1 : Int32) < 0 ∨ cl74.slots.size ≤ ((1 : Int32)).toNatClampNeg) := inb_of S74 ⟨by decide, by decide⟩
    have at74 : cl74.slots[((1 : Int32)).toNatClampNeg]? = some (.int s1) := H74.at in74 rfl
    refine stp (fun _ => X66.caload hx (j := (1 : Int32)) (v := (.int s1)) (by rw [e66]; exact Ar74.1) (State.isArrayOf_alike hZ.alike Ar74.2.1) Ar74.2.2 in74 at74 (g := (mkF m 59 #[.val (.ref ca), .val (.int n)] [(.int (1 : Int32)), (.ref ca), (.int (1 : Int32)), (.ref b57), (.ref b57), (.ref b52), (.ref b52)])) rfl rfl (hb hby d2_59) _) ?_
    show Go p e below T66 (mkF m 60 #[.val (.ref ca), .val (.int n)] [(.int s1), (.int (1 : Int32)), (.ref b57), (.ref b57), (.ref b52), (.ref b52)]) _
    obtain ⟨cl75, Ar75, q75, S75, M75, H75, G75⟩ := (id V66)
    have in75 : ¬ ((1 : Int32) < 0 ∨ cl75.slots.size ≤ ((1 : Int32)).toNatClampNeg) := inb_of S75 ⟨by decide, by decide⟩
    obtain ⟨T75, h75, X75, e75, W75, st75⟩ := stC X66 hx hZ e66 Ar75 (j := (1 : Int32)) in75 (g := (mkF m 60 #[.val (.ref ca), .val (.int n)] [(.int s1), (.int (1 : Int32)), (.ref b57), (.ref b57), (.ref b52), (.ref b52)])) rfl rfl (hb hby d2_60)
    have V75 : Arv Z h75 b57 k57 .char (2 : Int32) [(.int s0), (.int s1)] (.int (0 : Int32)) := Arv.set Ar75 q75 S75 M75 H75 G75 (ow_fits_char (own_cs16 hs1)) (ow_wr_char (own_cs16 hs1) W75) 1 rfl (Nat.le_of_ble_eq_true rfl)
    have f76 := f67.other W75 ne59
    have f77 := Safe.wr W75 (Safe.exa hZ.alike f72 (by decide) (by decide)) CR.1 f68
    have f78 := f69.wr W75
    have f79 := f70.other W75 (Or.inl ne58)
    have f80 := f71.other W75 (Or.inl ne58)
    have f81 := f72.wr W75
    have hk := Nat.le_trans hk (Keep.of_wr W75).1
    have CR := CR.trans (CHr.wr W75 (Safe.exa hZ.alike f72 (by decide) (by decide)) CR.1)
    have K75 : Keep h0 h75 [] := K66.wr W75 (Or.inr sz_b57)
    have O75 := O66.wr W75 ge_b57
    have N75 := Fr.snoc X75 N66 ge_b57
    refine stp st75 ?_
    show Go p e below T75 (mkF m 61 #[.val (.ref ca), .val (.int n)] [(.ref b57), (.ref b52), (.ref b52)]) _
    have V83 : Arf Z h75 b57 k57 .char ([s0, s1] : List Int32).length (fun i => (.int (own_at ([s0, s1] : List Int32) i))) := (Arv.arf V75 rfl).congr (fun i _ => own_atv ([s0, s1] : List Int32) i)
    obtain ⟨_, _, ⟨T84, L84, k84, n84⟩, -, X84, ⟨Lc84, hQ84, l84, y84, z84⟩, st84⟩ := X75.specialBack hx (y := (⟨"java/lang/String", "<init>", "([C)V"⟩ : MethodName)) rfl hown (mvT hZ (hw _ (List.mem_of_getElem? (i := 12) rfl))) (mvT hZ (hw _ (List.mem_of_getElem? (i := 13) rfl))) (mvT hZ (hw _ (List.mem_of_getElem? (i := 14) rfl))) (by decide) (backOf (W := 1) (rm_u1 l Z a0 hw [] b52 b57 ([s0, s1] : List Int32) cz k57 h75 n0 O75 f78 f79 f80 V83 S_COMPACT_STRINGS S__assertionsDisabled S_HI_BYTE_SHIFT S_LO_BYTE_SHIFT ge_b52 (Ne.symm ne58) hcz (Nat.le_of_ble_eq_true rfl) (own_m1 (P := (fun c => ¬ c < 0 ∧ ¬ (65535 : Int32) < c)) hs0 (own_m1 (P := (fun c => ¬ c < 0 ∧ ¬ (65535 : Int32) < c)) hs1 (own_m0 (P := (fun c => ¬ c < 0 ∧ ¬ (65535 : Int32) < c))))) (Nat.succ_pos _)) hZ (hw _ (List.mem_of_getElem? (i := 14) rfl)) (hw _ (List.mem_of_getElem? (i := 11) rfl)) (by decide) (by decide)) (g := (mkF m 61 #[.val (.ref ca), .val (.int n)] [(.ref b57), (.ref b52), (.ref b52)])) rfl (by rw [hml]; rfl) (Steps.refl _) (a := b52) (argsL := [(.ref b57)]) (rest := [(.ref b52)]) (lenOf pd_14 rfl) rfl (by show 2 * 0 + _ ≤ _; exact Nat.le_of_eq rfl) (hb hby d2_61) (fun _ _ => ⟨rfl, e75, (by decide : 2 + 2 ≤ _), (by decide : 6 + 30 ≤ _)⟩)
    dsimp only [Pt.U, Pt.locs, Pt.cells, Pt.slots] at X84 l84 y84 z84 st84 hQ84
    subst y84 z84
    obtain ⟨rfl, N84q, K84q, r84_0⟩ := hQ84
    have N84 : Fr n0 L84 := by rw [l84]; exact Fr.app N75 N84q
    have f85 := f76.keep K84q (ninS ne53 nin0)
    have f86 := f77.keep K84q (sfS f77 sf0) CR.1
    have f87 := f78.keep K84q
    have f88 := f81.keep K84q
    have f89 := V83.keep K84q (ninS (Ne.symm ne58) nin0)
    have hk := Nat.le_trans hk K84q.1
    have CR := CR.trans (CHr.keep K84q (sfS f77 sf0) CR.1)
    have K84 : Keep h0 T84.heap [] := K75.trans K84q (allS (Or.inr sz_b52) all0)
    have O84 := O75.keep K84q (allS ge_b52 all0)
    refine stt st84 ?_
    show Go p e below T84 (mkF m 64 #[.val (.ref ca), .val (.int n)] [(.ref b52)]) _
    refine outAW X84 hx hZ hEL rfl hS hk CR hret rfl rfl (hb hby d2_64) hlk (by decide) (by decide) ?_
    exact ⟨b52, rfl, N84, K84, ⟨ge_b52, sz_b52⟩, (own_ucs_of (by simp only [own_mk, if_neg q1_1, if_neg q17_21, if_pos q39_51]) r84_0)⟩
  refine stp (fun _ => XS.icmpYes X0.here hx rfl (pc0 := 39) (pc' := 65) rfl (hb hby d2_39) rfl (XT.ii_ne_t q39_51) (by decide) (by decide)) ?_
  show Go p e below T0 (mkF m 65 #[.val (.ref ca), .val (.int n)] []) _
  refine stp (fun _ => XS.iloadN X0.here hx rfl (hb hby d2_65) rfl) ?_
  refine stp (fun _ => XS.iconst X0.here hx rfl (hb hby d2_66)) ?_
  show Go p e below T0 (mkF m 67 #[.val (.ref ca), .val (.int n)] [(.int (3 : Int32)), (.int n)]) _
  by_cases q67_90 : n = (3 : Int32)
  · refine stp (fun _ => XS.icmpNo X0.here hx rfl (hb hby d2_67) rfl (XT.ii_ne_f q67_90)) ?_
    show Go p e below T0 (mkF m 70 #[.val (.ref ca), .val (.int n)] []) _
    obtain ⟨T91, h91, X91, e91, E91, A91, D91, -, st91⟩ := newO X0 hx hZ hown (hw _ (List.mem_of_getElem? (i := 9) rfl)) (hw _ (List.mem_of_getElem? (i := 10) rfl)) (hw _ (List.mem_of_getElem? (i := 11) rfl)) e0 (g := (mkF m 70 #[.val (.ref ca), .val (.int n)] [])) rfl (hb hby d2_70) (by decide) (by decide)
    obtain ⟨b91, g91⟩ : ∃ z, z = h0.size := ⟨_, rfl⟩
    rw [← g91] at A91 D91 st91
    have ne92 : ca ≠ b91 := Nat.ne_of_lt (Nat.lt_of_lt_of_le V_ca.lt (Nat.le_of_eq g91.symm))
    have sz_b91 : h0.size ≤ b91 := Nat.le_trans (Keep.refl h0 []).1 (Nat.le_of_eq g91.symm)
    have ge_b91 : n0 ≤ b91 := Nat.le_trans (old_le O0) (Nat.le_of_eq g91.symm)
    have f93 := V_ca.ext E91
    have Sf91 := (Safe.new (Z := Z) (EL := consts_1) (Nat.le_of_eq g91.symm)).ext E91 CR.1
    have hk := Nat.le_trans hk E91.1
    have CR := CR.trans (CHr.ext E91 CR.1)
    have K91 : Keep h0 h91 [] := (Keep.refl h0 []).ext E91
    have O91 := O0.ext E91
    have F94 : Fld Z h91 b91 "java/lang/String" "value" "[B" .null := D91 (Or.inr (hw _ (List.mem_of_getElem? (i := 24) rfl))) (ty := (.array .byte)) (by decide)
    have F95 : Fld Z h91 b91 "java/lang/String" "coder" "B" (.int (0 : Int32)) := D91 (Or.inr (hw _ (List.mem_of_getElem? (i := 25) rfl))) (ty := .byte) (by decide)
    refine stp st91 ?_
    show Go p e below T91 (mkF m 73 #[.val (.ref ca), .val (.int n)] [(.ref b91)]) _
    refine stp (fun _ => XS.dup X91.here hx rfl (hb hby d2_73) rfl rfl) ?_
    refine stp (fun _ => XS.iconst X91.here hx rfl (hb hby d2_74)) ?_
    show Go p e below T91 (mkF m 75 #[.val (.ref ca), .val (.int n)] [(.int (3 : Int32)), (.ref b91), (.ref b91)]) _
    obtain ⟨T96, h96, k96, X96, e96, E96, A96, B96, st96⟩ := newPE X91 hx hZ (hw _ (List.mem_of_getElem? (i := 1) rfl)) e91 (g := (mkF m 75 #[.val (.ref ca), .val (.int n)] [(.int (3 : Int32)), (.ref b91), (.ref b91)])) rfl (hb hby d2_75) rfl (by decide) (cap := 3) (by decide) (by decide) (by decide) (by decide) (ad := "[C") (by decide)
    obtain ⟨b96, g96⟩ : ∃ z, z = h91.size := ⟨_, rfl⟩
    rw [← g96] at A96 B96 st96
    have ne97 : b91 ≠ b96 := Nat.ne_of_lt (Nat.lt_of_lt_of_le A91.lt (Nat.le_of_eq g96.symm))
    have ne98 : ca ≠ b96 := Nat.ne_of_lt (Nat.lt_of_lt_of_le f93.lt (Nat.le_of_eq g96.symm))
    have sz_b96 : h0.size ≤ b96 := Nat.le_trans K91.1 (Nat.le_of_eq g96.symm)
    have ge_b96 : n0 ≤ b96 := Nat.le_trans (old_le O91) (Nat.le_of_eq g96.symm)
    have f99 := f93.ext E96
    have f100 := Sf91.ext E96 CR.1
    have f101 := A91.ext E96
    have f102 := F94.ext E96
    have f103 := F95.ext E96
    have hk := Nat.le_trans hk E96.1
    have CR := CR.trans (CHr.ext E96 CR.1)
    have K96 : Keep h0 h96 [] := K91.ext E96
    have O96 := O91.ext E96
    have V96 : Arv Z h96 b96 k96 .char (3 : Int32) [(.int (0 : Int32)), (.int (0 : Int32)), (.int (0 : Int32))] (.int (0 : Int32)) := (Arv.new A96 (by decide)).pad (pad_rep [] (.int (0 : Int32)) 3)
    refine stp st96 ?_
    show Go p e below T96 (mkF m 77 #[.val (.ref ca), .val (.int n)] [(.ref b96), (.ref b91), (.ref b91)]) _
    refine stp (fun _ => XS.dup X96.here hx rfl (hb hby d2_77) rfl rfl) ?_
    refine stp (fun _ => XS.iconst X96.here hx rfl (hb hby d2_78)) ?_
    refine stp (fun _ => XS.aloadN X96.here hx rfl (hb hby d2_79) rfl rfl) ?_
    refine stp (fun _ => XS.iconst X96.here hx rfl (hb hby d2_80)) ?_
    show Go p e below T96 (mkF m 81 #[.val (.ref ca), .val (.int n)] [(.int (0 : Int32)), (.ref ca), (.int (0 : Int32)), (.ref b96), (.ref b96), (.ref b91), (.ref b91)]) _
    obtain ⟨cl104, Ar104, q104, S104, M104, H104, G104⟩ := (id f99)
    have in104 : ¬ ((0 : Int32) < 0 ∨ cl104.slots.size ≤ ((0 : Int32)).toNatClampNeg) := inb_of S104 ⟨by decide, by decide⟩
    have at104 : cl104.slots[((0 : Int32)).toNatClampNeg]? = some (.int s0) := H104.at in104 rfl
    refine stp (fun _ => X96.caload hx (j := (0 : Int32)) (v := (.int s0)) (by rw [e96]; exact Ar104.1) (State.isArrayOf_alike hZ.alike Ar104.2.1) Ar104.2.2 in104 at104 (g := (mkF m 81 #[.val (.ref ca), .val (.int n)] [(.int (0 : Int32)), (.ref ca), (.int (0 : Int32)), (.ref b96), (.ref b96), (.ref b91), (.ref b91)])) rfl rfl (hb hby d2_81) _) ?_
    show Go p e below T96 (mkF m 82 #[.val (.ref ca), .val (.int n)] [(.int s0), (.int (0 : Int32)), (.ref b96), (.ref b96), (.ref b91), (.ref b91)]) _
    obtain ⟨cl105, Ar105, q105, S105, M105, H105, G105⟩ := (id V96)
    have in105 : ¬ ((0 : Int32) < 0 ∨ cl105.slots.size ≤ ((0 : Int32)).toNatClampNeg) := inb_of S105 ⟨by decide, by decide⟩
    obtain ⟨T105, h105, X105, e105, W105, st105⟩ := stC X96 hx hZ e96 Ar105 (j := (0 : Int32)) in105 (g := (mkF m 82 #[.val (.ref ca), .val (.int n)] [(.int s0), (.int (0 : Int32)), (.ref b96), (.ref b96), (.ref b91), (.ref b91)])) rfl rfl (hb hby d2_82)
    have V105 : Arv Z h105 b96 k96 .char (3 : Int32) [(.int s0), (.int (0 : Int32)), (.int (0 : Int32))] (.int (0 : Int32)) := Arv.set Ar105 q105 S105 M105 H105 G105 (ow_fits_char (own_cs16 hs0)) (ow_wr_char (own_cs16 hs0) W105) 0 rfl (Nat.le_of_ble_eq_true rfl)
    have f106 := f99.other W105 ne98
    have f107 := Safe.wr W105 (Safe.exa hZ.alike B96 (by decide) (by decide)) CR.1 f100
    have f108 := f101.wr W105
    have f109 := f102.other W105 (Or.inl ne97)
    have f110 := f103.other W105 (Or.inl ne97)
    have f111 := B96.wr W105
    have hk := Nat.le_trans hk (Keep.of_wr W105).1
    have CR := CR.trans (CHr.wr W105 (Safe.exa hZ.alike B96 (by decide) (by decide)) CR.1)
    have K105 : Keep h0 h105 [] := K96.wr W105 (Or.inr sz_b96)
    have O105 := O96.wr W105 ge_b96
    have N105 := Fr.snoc X105 N0 ge_b96
    refine stp st105 ?_
    show Go p e below T105 (mkF m 83 #[.val (.ref ca), .val (.int n)] [(.ref b96), (.ref b91), (.ref b91)]) _
    refine stp (fun _ => XS.dup X105.here hx rfl (hb hby d2_83) rfl rfl) ?_
    refine stp (fun _ => XS.iconst X105.here hx rfl (hb hby d2_84)) ?_
    refine stp (fun _ => XS.aloadN X105.here hx rfl (hb hby d2_85) rfl rfl) ?_
    refine stp (fun _ => XS.iconst X105.here hx rfl (hb hby d2_86)) ?_
    show Go p e below T105 (mkF m 87 #[.val (.ref ca), .val (.int n)] [(.int (1 : Int32)), (.ref ca), (.int (1 : Int32)), (.ref b96), (.ref b96), (.ref b91), (.ref b91)]) _
    obtain ⟨cl113, Ar113, q113, S113, M113, H113, G113⟩ := (id f106)
    have in113 : ¬ ((1 : Int32) < 0 ∨ cl113.slots.size ≤ ((1 : Int32)).toNatClampNeg) := inb_of S113 ⟨by decide, by decide⟩
    have at113 : cl113.slots[((1 : Int32)).toNatClampNeg]? = some (.int s1) := H113.at in113 rfl
    refine stp (fun _ => X105.caload hx (j := (1 : Int32)) (v := (.int s1)) (by rw [e105]; exact Ar113.1) (State.isArrayOf_alike hZ.alike Ar113.2.1) Ar113.2.2 in113 at113 (g := (mkF m 87 #[.val (.ref ca), .val (.int n)] [(.int (1 : Int32)), (.ref ca), (.int (1 : Int32)), (.ref b96), (.ref b96), (.ref b91), (.ref b91)])) rfl rfl (hb hby d2_87) _) ?_
    show Go p e below T105 (mkF m 88 #[.val (.ref ca), .val (.int n)] [(.int s1), (.int (1 : Int32)), (.ref b96), (.ref b96), (.ref b91), (.ref b91)]) _
    obtain ⟨cl114, Ar114, q114, S114, M114, H114, G114⟩ := (id V105)
    have in114 : ¬ ((1 : Int32) < 0 ∨ cl114.slots.size ≤ ((1 : Int32)).toNatClampNeg) := inb_of S114 ⟨by decide, by decide⟩
    obtain ⟨T114, h114, X114, e114, W114, st114⟩ := stC X105 hx hZ e105 Ar114 (j := (1 : Int32)) in114 (g := (mkF m 88 #[.val (.ref ca), .val (.int n)] [(.int s1), (.int (1 : Int32)), (.ref b96), (.ref b96), (.ref b91), (.ref b91)])) rfl rfl (hb hby d2_88)
    have V114 : Arv Z h114 b96 k96 .char (3 : Int32) [(.int s0), (.int s1), (.int (0 : Int32))] (.int (0 : Int32)) := Arv.set Ar114 q114 S114 M114 H114 G114 (ow_fits_char (own_cs16 hs1)) (ow_wr_char (own_cs16 hs1) W114) 1 rfl (Nat.le_of_ble_eq_true rfl)
    have f115 := f106.other W114 ne98
    have f116 := Safe.wr W114 (Safe.exa hZ.alike f111 (by decide) (by decide)) CR.1 f107
    have f117 := f108.wr W114
    have f118 := f109.other W114 (Or.inl ne97)
    have f119 := f110.other W114 (Or.inl ne97)
    have f120 := f111.wr W114
    have hk := Nat.le_trans hk (Keep.of_wr W114).1
    have CR := CR.trans (CHr.wr W114 (Safe.exa hZ.alike f111 (by decide) (by decide)) CR.1)
    have K114 : Keep h0 h114 [] := K105.wr W114 (Or.inr sz_b96)
    have O114 := O105.wr W114 ge_b96
    have N114 := Fr.snoc X114 N105 ge_b96
    refine stp st114 ?_
    show Go p e below T114 (mkF m 89 #[.val (.ref ca), .val (.int n)] [(.ref b96), (.ref b91), (.ref b91)]) _
    refine stp (fun _ => XS.dup X114.here hx rfl (hb hby d2_89) rfl rfl) ?_
    refine stp (fun _ => XS.iconst X114.here hx rfl (hb hby d2_90)) ?_
    refine stp (fun _ => XS.aloadN X114.here hx rfl (hb hby d2_91) rfl rfl) ?_
    refine stp (fun _ => XS.iconst X114.here hx rfl (hb hby d2_92)) ?_
    show Go p e below T114 (mkF m 93 #[.val (.ref ca), .val (.int n)] [(.int (2 : Int32)), (.ref ca), (.int (2 : Int32)), (.ref b96), (.ref b96), (.ref b91), (.ref b91)]) _
    obtain ⟨cl122, Ar122, q122, S122, M122, H122, G122⟩ := (id f115)
    have in122 : ¬ ((2 : Int32) < 0 ∨ cl122.slots.size ≤ ((2 : Int32)).toNatClampNeg) := inb_of S122 ⟨by decide, by decide⟩
    have at122 : cl122.slots[((2 : Int32)).toNatClampNeg]? = some (.int s2) := H122.at in122 rfl
    refine stp (fun _ => X114.caload hx (j := (2 : Int32)) (v := (.int s2)) (by rw [e114]; exact Ar122.1) (State.isArrayOf_alike hZ.alike Ar122.2.1) Ar122.2.2 in122 at122 (g := (mkF m 93 #[.val (.ref ca), .val (.int n)] [(.int (2 : Int32)), (.ref ca), (.int (2 : Int32)), (.ref b96), (.ref b96), (.ref b91), (.ref b91)])) rfl rfl (hb hby d2_93) _) ?_
    show Go p e below T114 (mkF m 94 #[.val (.ref ca), .val (.int n)] [(.int s2), (.int (2 : Int32)), (.ref b96), (.ref b96), (.ref b91), (.ref b91)]) _
    obtain ⟨cl123, Ar123, q123, S123, M123, H123, G123⟩ := (id V114)
    have in123 : ¬ ((2 : Int32) < 0 ∨ cl123.slots.size ≤ ((2 : Int32)).toNatClampNeg) := inb_of S123 ⟨by decide, by decide⟩
    obtain ⟨T123, h123, X123, e123, W123, st123⟩ := stC X114 hx hZ e114 Ar123 (j := (2 : Int32)) in123 (g := (mkF m 94 #[.val (.ref ca), .val (.int n)] [(.int s2), (.int (2 : Int32)), (.ref b96), (.ref b96), (.ref b91), (.ref b91)])) rfl rfl (hb hby d2_94)
    have V123 : Arv Z h123 b96 k96 .char (3 : Int32) [(.int s0), (.int s1), (.int s2)] (.int (0 : Int32)) := Arv.set Ar123 q123 S123 M123 H123 G123 (ow_fits_char (own_cs16 hs2)) (ow_wr_char (own_cs16 hs2) W123) 2 rfl (Nat.le_of_ble_eq_true rfl)
    have f124 := f115.other W123 ne98
    have f125 := Safe.wr W123 (Safe.exa hZ.alike f120 (by decide) (by decide)) CR.1 f116
    have f126 := f117.wr W123
    have f127 := f118.other W123 (Or.inl ne97)
    have f128 := f119.other W123 (Or.inl ne97)
    have f129 := f120.wr W123
    have hk := Nat.le_trans hk (Keep.of_wr W123).1
    have CR := CR.trans (CHr.wr W123 (Safe.exa hZ.alike f120 (by decide) (by decide)) CR.1)
    have K123 : Keep h0 h123 [] := K114.wr W123 (Or.inr sz_b96)
    have O123 := O114.wr W123 ge_b96
    have N123 := Fr.snoc X123 N114 ge_b96
    refine stp st123 ?_
    show Go p e below T123 (mkF m 95 #[.val (.ref ca), .val (.int n)] [(.ref b96), (.ref b91), (.ref b91)]) _
    have V131 : Arf Z h123 b96 k96 .char ([s0, s1, s2] : List Int32).length (fun i => (.int (own_at ([s0, s1, s2] : List Int32) i))) := (Arv.arf V123 rfl).congr (fun i _ => own_atv ([s0, s1, s2] : List Int32) i)
    obtain ⟨_, _, ⟨T132, L132, k132, n132⟩, -, X132, ⟨Lc132, hQ132, l132, y132, z132⟩, st132⟩ := X123.specialBack hx (y := (⟨"java/lang/String", "<init>", "([C)V"⟩ : MethodName)) rfl hown (mvT hZ (hw _ (List.mem_of_getElem? (i := 12) rfl))) (mvT hZ (hw _ (List.mem_of_getElem? (i := 13) rfl))) (mvT hZ (hw _ (List.mem_of_getElem? (i := 14) rfl))) (by decide) (backOf (W := 1) (rm_u1 l Z a0 hw [] b91 b96 ([s0, s1, s2] : List Int32) cz k96 h123 n0 O123 f126 f127 f128 V131 S_COMPACT_STRINGS S__assertionsDisabled S_HI_BYTE_SHIFT S_LO_BYTE_SHIFT ge_b91 (Ne.symm ne97) hcz (Nat.le_of_ble_eq_true rfl) (own_m1 (P := (fun c => ¬ c < 0 ∧ ¬ (65535 : Int32) < c)) hs0 (own_m1 (P := (fun c => ¬ c < 0 ∧ ¬ (65535 : Int32) < c)) hs1 (own_m1 (P := (fun c => ¬ c < 0 ∧ ¬ (65535 : Int32) < c)) hs2 (own_m0 (P := (fun c => ¬ c < 0 ∧ ¬ (65535 : Int32) < c)))))) (Nat.succ_pos _)) hZ (hw _ (List.mem_of_getElem? (i := 14) rfl)) (hw _ (List.mem_of_getElem? (i := 11) rfl)) (by decide) (by decide)) (g := (mkF m 95 #[.val (.ref ca), .val (.int n)] [(.ref b96), (.ref b91), (.ref b91)])) rfl (by rw [hml]; rfl) (Steps.refl _) (a := b91) (argsL := [(.ref b96)]) (rest := [(.ref b91)]) (lenOf pd_14 rfl) rfl (by show 2 * 0 + _ ≤ _; exact Nat.le_of_eq rfl) (hb hby d2_95) (fun _ _ => ⟨rfl, e123, (by decide : 2 + 2 ≤ _), (by decide : 7 + 30 ≤ _)⟩)
    dsimp only [Pt.U, Pt.locs, Pt.cells, Pt.slots] at X132 l132 y132 z132 st132 hQ132
    subst y132 z132
    obtain ⟨rfl, N132q, K132q, r132_0⟩ := hQ132
    have N132 : Fr n0 L132 := by rw [l132]; exact Fr.app N123 N132q
    have f133 := f124.keep K132q (ninS ne92 nin0)
    have f134 := f125.keep K132q (sfS f125 sf0) CR.1
    have f135 := f126.keep K132q
    have f136 := f129.keep K132q
    have f137 := V131.keep K132q (ninS (Ne.symm ne97) nin0)
    have hk := Nat.le_trans hk K132q.1
    have CR := CR.trans (CHr.keep K132q (sfS f125 sf0) CR.1)
    have K132 : Keep h0 T132.heap [] := K123.trans K132q (allS (Or.inr sz_b91) all0)
    have O132 := O123.keep K132q (allS ge_b91 all0)
    refine stt st132 ?_
    show Go p e below T132 (mkF m 98 #[.val (.ref ca), .val (.int n)] [(.ref b91)]) _
    refine outAW X132 hx hZ hEL rfl hS hk CR hret rfl rfl (hb hby d2_98) hlk (by decide) (by decide) ?_
    exact ⟨b91, rfl, N132, K132, ⟨ge_b91, sz_b91⟩, (own_ucs_of (by simp only [own_mk, if_neg q1_1, if_neg q17_21, if_neg q39_51, if_pos q67_90]) r132_0)⟩
  refine stp (fun _ => XS.icmpYes X0.here hx rfl (pc0 := 67) (pc' := 99) rfl (hb hby d2_67) rfl (XT.ii_ne_t q67_90) (by decide) (by decide)) ?_
  show Go p e below T0 (mkF m 99 #[.val (.ref ca), .val (.int n)] []) _
  refine stp (fun _ => XS.iloadN X0.here hx rfl (hb hby d2_99) rfl) ?_
  refine stp (fun _ => XS.iconst X0.here hx rfl (hb hby d2_100)) ?_
  show Go p e below T0 (mkF m 101 #[.val (.ref ca), .val (.int n)] [(.int (4 : Int32)), (.int n)]) _
  by_cases q101_138 : n = (4 : Int32)
  · refine stp (fun _ => XS.icmpNo X0.here hx rfl (hb hby d2_101) rfl (XT.ii_ne_f q101_138)) ?_
    show Go p e below T0 (mkF m 104 #[.val (.ref ca), .val (.int n)] []) _
    obtain ⟨T139, h139, X139, e139, E139, A139, D139, -, st139⟩ := newO X0 hx hZ hown (hw _ (List.mem_of_getElem? (i := 9) rfl)) (hw _ (List.mem_of_getElem? (i := 10) rfl)) (hw _ (List.mem_of_getElem? (i := 11) rfl)) e0 (g := (mkF m 104 #[.val (.ref ca), .val (.int n)] [])) rfl (hb hby d2_104) (by decide) (by decide)
    obtain ⟨b139, g139⟩ : ∃ z, z = h0.size := ⟨_, rfl⟩
    rw [← g139] at A139 D139 st139
    have ne140 : ca ≠ b139 := Nat.ne_of_lt (Nat.lt_of_lt_of_le V_ca.lt (Nat.le_of_eq g139.symm))
    have sz_b139 : h0.size ≤ b139 := Nat.le_trans (Keep.refl h0 []).1 (Nat.le_of_eq g139.symm)
    have ge_b139 : n0 ≤ b139 := Nat.le_trans (old_le O0) (Nat.le_of_eq g139.symm)
    have f141 := V_ca.ext E139
    have Sf139 := (Safe.new (Z := Z) (EL := consts_1) (Nat.le_of_eq g139.symm)).ext E139 CR.1
    have hk := Nat.le_trans hk E139.1
    have CR := CR.trans (CHr.ext E139 CR.1)
    have K139 : Keep h0 h139 [] := (Keep.refl h0 []).ext E139
    have O139 := O0.ext E139
    have F142 : Fld Z h139 b139 "java/lang/String" "value" "[B" .null := D139 (Or.inr (hw _ (List.mem_of_getElem? (i := 24) rfl))) (ty := (.array .byte)) (by decide)
    have F143 : Fld Z h139 b139 "java/lang/String" "coder" "B" (.int (0 : Int32)) := D139 (Or.inr (hw _ (List.mem_of_getElem? (i := 25) rfl))) (ty := .byte) (by decide)
    refine stp st139 ?_
    show Go p e below T139 (mkF m 107 #[.val (.ref ca), .val (.int n)] [(.ref b139)]) _
    refine stp (fun _ => XS.dup X139.here hx rfl (hb hby d2_107) rfl rfl) ?_
    refine stp (fun _ => XS.iconst X139.here hx rfl (hb hby d2_108)) ?_
    show Go p e below T139 (mkF m 109 #[.val (.ref ca), .val (.int n)] [(.int (4 : Int32)), (.ref b139), (.ref b139)]) _
    obtain ⟨T144, h144, k144, X144, e144, E144, A144, B144, st144⟩ := newPE X139 hx hZ (hw _ (List.mem_of_getElem? (i := 1) rfl)) e139 (g := (mkF m 109 #[.val (.ref ca), .val (.int n)] [(.int (4 : Int32)), (.ref b139), (.ref b139)])) rfl (hb hby d2_109) rfl (by decide) (cap := 4) (by decide) (by decide) (by decide) (by decide) (ad := "[C") (by decide)
    obtain ⟨b144, g144⟩ : ∃ z, z = h139.size := ⟨_, rfl⟩
    rw [← g144] at A144 B144 st144
    have ne145 : b139 ≠ b144 := Nat.ne_of_lt (Nat.lt_of_lt_of_le A139.lt (Nat.le_of_eq g144.symm))
    have ne146 : ca ≠ b144 := Nat.ne_of_lt (Nat.lt_of_lt_of_le f141.lt (Nat.le_of_eq g144.symm))
    have sz_b144 : h0.size ≤ b144 := Nat.le_trans K139.1 (Nat.le_of_eq g144.symm)
    have ge_b144 : n0 ≤ b144 := Nat.le_trans (old_le O139) (Nat.le_of_eq g144.symm)
    have f147 := f141.ext E144
    have f148 := Sf139.ext E144 CR.1
    have f149 := A139.ext E144
    have f150 := F142.ext E144
    have f151 := F143.ext E144
    have hk := Nat.le_trans hk E144.1
    have CR := CR.trans (CHr.ext E144 CR.1)
    have K144 : Keep h0 h144 [] := K139.ext E144
    have O144 := O139.ext E144
    have V144 : Arv Z h144 b144 k144 .char (4 : Int32) [(.int (0 : Int32)), (.int (0 : Int32)), (.int (0 : Int32)), (.int (0 : Int32))] (.int (0 : Int32)) := (Arv.new A144 (by decide)).pad (pad_rep [] (.int (0 : Int32)) 4)
    refine stp st144 ?_
    show Go p e below T144 (mkF m 111 #[.val (.ref ca), .val (.int n)] [(.ref b144), (.ref b139), (.ref b139)]) _
    refine stp (fun _ => XS.dup X144.here hx rfl (hb hby d2_111) rfl rfl) ?_
    refine stp (fun _ => XS.iconst X144.here hx rfl (hb hby d2_112)) ?_
    refine stp (fun _ => XS.aloadN X144.here hx rfl (hb hby d2_113) rfl rfl) ?_
    refine stp (fun _ => XS.iconst X144.here hx rfl (hb hby d2_114)) ?_
    show Go p e below T144 (mkF m 115 #[.val (.ref ca), .val (.int n)] [(.int (0 : Int32)), (.ref ca), (.int (0 : Int32)), (.ref b144), (.ref b144), (.ref b139), (.ref b139)]) _
    obtain ⟨cl152, Ar152, q152, S152, M152, H152, G152⟩ := (id f147)
    have in152 : ¬ ((0 : Int32) < 0 ∨ cl152.slots.size ≤ ((0 : Int32)).toNatClampNeg) := inb_of S152 ⟨by decide, by decide⟩
    have at152 : cl152.slots[((0 : Int32)).toNatClampNeg]? = some (.int s0) := H152.at in152 rfl
    refine stp (fun _ => X144.caload hx (j := (0 : Int32)) (v := (.int s0)) (by rw [e144]; exact Ar152.1) (State.isArrayOf_alike hZ.alike Ar152.2.1) Ar152.2.2 in152 at152 (g := (mkF m 115 #[.val (.ref ca), .val (.int n)] [(.int (0 : Int32)), (.ref ca), (.int (0 : Int32)), (.ref b144), (.ref b144), (.ref b139), (.ref b139)])) rfl rfl (hb hby d2_115) _) ?_
    show Go p e below T144 (mkF m 116 #[.val (.ref ca), .val (.int n)] [(.int s0), (.int (0 : Int32)), (.ref b144), (.ref b144), (.ref b139), (.ref b139)]) _
    obtain ⟨cl153, Ar153, q153, S153, M153, H153, G153⟩ := (id V144)
    have in153 : ¬ ((0 : Int32) < 0 ∨ cl153.slots.size ≤ ((0 : Int32)).toNatClampNeg) := inb_of S153 ⟨by decide, by decide⟩
    obtain ⟨T153, h153, X153, e153, W153, st153⟩ := stC X144 hx hZ e144 Ar153 (j := (0 : Int32)) in153 (g := (mkF m 116 #[.val (.ref ca), .val (.int n)] [(.int s0), (.int (0 : Int32)), (.ref b144), (.ref b144), (.ref b139), (.ref b139)])) rfl rfl (hb hby d2_116)
    have V153 : Arv Z h153 b144 k144 .char (4 : Int32) [(.int s0), (.int (0 : Int32)), (.int (0 : Int32)), (.int (0 : Int32))] (.int (0 : Int32)) := Arv.set Ar153 q153 S153 M153 H153 G153 (ow_fits_char (own_cs16 hs0)) (ow_wr_char (own_cs16 hs0) W153) 0 rfl (Nat.le_of_ble_eq_true rfl)
    have f154 := f147.other W153 ne146
    have f155 := Safe.wr W153 (Safe.exa hZ.alike B144 (by decide) (by decide)) CR.1 f148
    have f156 := f149.wr W153
    have f157 := f150.other W153 (Or.inl ne145)
    have f158 := f151.other W153 (Or.inl ne145)
    have f159 := B144.wr W153
    have hk := Nat.le_trans hk (Keep.of_wr W153).1
    have CR := CR.trans (CHr.wr W153 (Safe.exa hZ.alike B144 (by decide) (by decide)) CR.1)
    have K153 : Keep h0 h153 [] := K144.wr W153 (Or.inr sz_b144)
    have O153 := O144.wr W153 ge_b144
    have N153 := Fr.snoc X153 N0 ge_b144
    refine stp st153 ?_
    show Go p e below T153 (mkF m 117 #[.val (.ref ca), .val (.int n)] [(.ref b144), (.ref b139), (.ref b139)]) _
    refine stp (fun _ => XS.dup X153.here hx rfl (hb hby d2_117) rfl rfl) ?_
    refine stp (fun _ => XS.iconst X153.here hx rfl (hb hby d2_118)) ?_
    refine stp (fun _ => XS.aloadN X153.here hx rfl (hb hby d2_119) rfl rfl) ?_
    refine stp (fun _ => XS.iconst X153.here hx rfl (hb hby d2_120)) ?_
    show Go p e below T153 (mkF m 121 #[.val (.ref ca), .val (.int n)] [(.int (1 : Int32)), (.ref ca), (.int (1 : Int32)), (.ref b144), (.ref b144), (.ref b139), (.ref b139)]) _
    obtain ⟨cl161, Ar161, q161, S161, M161, H161, G161⟩ := (id f154)
    have in161 : ¬ ((1 : Int32) < 0 ∨ cl161.slots.size ≤ ((1 : Int32)).toNatClampNeg) := inb_of S161 ⟨by decide, by decide⟩
    have at161 : cl161.slots[((1 : Int32)).toNatClampNeg]? = some (.int s1) := H161.at in161 rfl
    refine stp (fun _ => X153.caload hx (j := (1 : Int32)) (v := (.int s1)) (by rw [e153]; exact Ar161.1) (State.isArrayOf_alike hZ.alike Ar161.2.1) Ar161.2.2 in161 at161 (g := (mkF m 121 #[.val (.ref ca), .val (.int n)] [(.int (1 : Int32)), (.ref ca), (.int (1 : Int32)), (.ref b144), (.ref b144), (.ref b139), (.ref b139)])) rfl rfl (hb hby d2_121) _) ?_
    show Go p e below T153 (mkF m 122 #[.val (.ref ca), .val (.int n)] [(.int s1), (.int (1 : Int32)), (.ref b144), (.ref b144), (.ref b139), (.ref b139)]) _
    obtain ⟨cl162, Ar162, q162, S162, M162, H162, G162⟩ := (id V153)
    have in162 : ¬ ((1 : Int32) < 0 ∨ cl162.slots.size ≤ ((1 : Int32)).toNatClampNeg) := inb_of S162 ⟨by decide, by decide⟩
    obtain ⟨T162, h162, X162, e162, W162, st162⟩ := stC X153 hx hZ e153 Ar162 (j := (1 : Int32)) in162 (g := (mkF m 122 #[.val (.ref ca), .val (.int n)] [(.int s1), (.int (1 : Int32)), (.ref b144), (.ref b144), (.ref b139), (.ref b139)])) rfl rfl (hb hby d2_122)
    have V162 : Arv Z h162 b144 k144 .char (4 : Int32) [(.int s0), (.int s1), (.int (0 : Int32)), (.int (0 : Int32))] (.int (0 : Int32)) := Arv.set Ar162 q162 S162 M162 H162 G162 (ow_fits_char (own_cs16 hs1)) (ow_wr_char (own_cs16 hs1) W162) 1 rfl (Nat.le_of_ble_eq_true rfl)
    have f163 := f154.other W162 ne146
    have f164 := Safe.wr W162 (Safe.exa hZ.alike f159 (by decide) (by decide)) CR.1 f155
    have f165 := f156.wr W162
    have f166 := f157.other W162 (Or.inl ne145)
    have f167 := f158.other W162 (Or.inl ne145)
    have f168 := f159.wr W162
    have hk := Nat.le_trans hk (Keep.of_wr W162).1
    have CR := CR.trans (CHr.wr W162 (Safe.exa hZ.alike f159 (by decide) (by decide)) CR.1)
    have K162 : Keep h0 h162 [] := K153.wr W162 (Or.inr sz_b144)
    have O162 := O153.wr W162 ge_b144
    have N162 := Fr.snoc X162 N153 ge_b144
    refine stp st162 ?_
    show Go p e below T162 (mkF m 123 #[.val (.ref ca), .val (.int n)] [(.ref b144), (.ref b139), (.ref b139)]) _
    refine stp (fun _ => XS.dup X162.here hx rfl (hb hby d2_123) rfl rfl) ?_
    refine stp (fun _ => XS.iconst X162.here hx rfl (hb hby d2_124)) ?_
    refine stp (fun _ => XS.aloadN X162.here hx rfl (hb hby d2_125) rfl rfl) ?_
    refine stp (fun _ => XS.iconst X162.here hx rfl (hb hby d2_126)) ?_
    show Go p e below T162 (mkF m 127 #[.val (.ref ca), .val (.int n)] [(.int (2 : Int32)), (.ref ca), (.int (2 : Int32)), (.ref b144), (.ref b144), (.ref b139), (.ref b139)]) _
    obtain ⟨cl170, Ar170, q170, S170, M170, H170, G170⟩ := (id f163)
    have in170 : ¬ ((2 : Int32) < 0 ∨ cl170.slots.size ≤ ((2 : Int32)).toNatClampNeg) := inb_of S170 ⟨by decide, by decide⟩
    have at170 : cl170.slots[((2 : Int32)).toNatClampNeg]? = some (.int s2) := H170.at in170 rfl
    refine stp (fun _ => X162.caload hx (j := (2 : Int32)) (v := (.int s2)) (by rw [e162]; exact Ar170.1) (State.isArrayOf_alike hZ.alike Ar170.2.1) Ar170.2.2 in170 at170 (g := (mkF m 127 #[.val (.ref ca), .val (.int n)] [(.int (2 : Int32)), (.ref ca), (.int (2 : Int32)), (.ref b144), (.ref b144), (.ref b139), (.ref b139)])) rfl rfl (hb hby d2_127) _) ?_
    show Go p e below T162 (mkF m 128 #[.val (.ref ca), .val (.int n)] [(.int s2), (.int (2 : Int32)), (.ref b144), (.ref b144), (.ref b139), (.ref b139)]) _
    obtain ⟨cl171, Ar171, q171, S171, M171, H171, G171⟩ := (id V162)
    have in171 : ¬ ((2 : Int32) < 0 ∨ cl171.slots.size ≤ ((2 : Int32)).toNatClampNeg) := inb_of S171 ⟨by decide, by decide⟩
    obtain ⟨T171, h171, X171, e171, W171, st171⟩ := stC X162 hx hZ e162 Ar171 (j := (2 : Int32)) in171 (g := (mkF m 128 #[.val (.ref ca), .val (.int n)] [(.int s2), (.int (2 : Int32)), (.ref b144), (.ref b144), (.ref b139), (.ref b139)])) rfl rfl (hb hby d2_128)
    have V171 : Arv Z h171 b144 k144 .char (4 : Int32) [(.int s0), (.int s1), (.int s2), (.int (0 : Int32))] (.int (0 : Int32)) := Arv.set Ar171 q171 S171 M171 H171 G171 (ow_fits_char (own_cs16 hs2)) (ow_wr_char (own_cs16 hs2) W171) 2 rfl (Nat.le_of_ble_eq_true rfl)
    have f172 := f163.other W171 ne146
    have f173 := Safe.wr W171 (Safe.exa hZ.alike f168 (by decide) (by decide)) CR.1 f164
    have f174 := f165.wr W171
    have f175 := f166.other W171 (Or.inl ne145)
    have f176 := f167.other W171 (Or.inl ne145)
    have f177 := f168.wr W171
    have hk := Nat.le_trans hk (Keep.of_wr W171).1
    have CR := CR.trans (CHr.wr W171 (Safe.exa hZ.alike f168 (by decide) (by decide)) CR.1)
    have K171 : Keep h0 h171 [] := K162.wr W171 (Or.inr sz_b144)
    have O171 := O162.wr W171 ge_b144
    have N171 := Fr.snoc X171 N162 ge_b144
    refine stp st171 ?_
    show Go p e below T171 (mkF m 129 #[.val (.ref ca), .val (.int n)] [(.ref b144), (.ref b139), (.ref b139)]) _
    refine stp (fun _ => XS.dup X171.here hx rfl (hb hby d2_129) rfl rfl) ?_
    refine stp (fun _ => XS.iconst X171.here hx rfl (hb hby d2_130)) ?_
    refine stp (fun _ => XS.aloadN X171.here hx rfl (hb hby d2_131) rfl rfl) ?_
    refine stp (fun _ => XS.iconst X171.here hx rfl (hb hby d2_132)) ?_
    show Go p e below T171 (mkF m 133 #[.val (.ref ca), .val (.int n)] [(.int (3 : Int32)), (.ref ca), (.int (3 : Int32)), (.ref b144), (.ref b144), (.ref b139), (.ref b139)]) _
    obtain ⟨cl179, Ar179, q179, S179, M179, H179, G179⟩ := (id f172)
    have in179 : ¬ ((3 : Int32) < 0 ∨ cl179.slots.size ≤ ((3 : Int32)).toNatClampNeg) := inb_of S179 ⟨by decide, by decide⟩
    have at179 : cl179.slots[((3 : Int32)).toNatClampNeg]? = some (.int s3) := H179.at in179 rfl
    refine stp (fun _ => X171.caload hx (j := (3 : Int32)) (v := (.int s3)) (by rw [e171]; exact Ar179.1) (State.isArrayOf_alike hZ.alike Ar179.2.1) Ar179.2.2 in179 at179 (g := (mkF m 133 #[.val (.ref ca), .val (.int n)] [(.int (3 : Int32)), (.ref ca), (.int (3 : Int32)), (.ref b144), (.ref b144), (.ref b139), (.ref b139)])) rfl rfl (hb hby d2_133) _) ?_
    show Go p e below T171 (mkF m 134 #[.val (.ref ca), .val (.int n)] [(.int s3), (.int (3 : Int32)), (.ref b144), (.ref b144), (.ref b139), (.ref b139)]) _
    obtain ⟨cl180, Ar180, q180, S180, M180, H180, G180⟩ := (id V171)
    have in180 : ¬ ((3 : Int32) < 0 ∨ cl180.slots.size ≤ ((3 : Int32)).toNatClampNeg) := inb_of S180 ⟨by decide, by decide⟩
    obtain ⟨T180, h180, X180, e180, W180, st180⟩ := stC X171 hx hZ e171 Ar180 (j := (3 : Int32)) in180 (g := (mkF m 134 #[.val (.ref ca), .val (.int n)] [(.int s3), (.int (3 : Int32)), (.ref b144), (.ref b144), (.ref b139), (.ref b139)])) rfl rfl (hb hby d2_134)
    have V180 : Arv Z h180 b144 k144 .char (4 : Int32) [(.int s0), (.int s1), (.int s2), (.int s3)] (.int (0 : Int32)) := Arv.set Ar180 q180 S180 M180 H180 G180 (ow_fits_char (own_cs16 hs3)) (ow_wr_char (own_cs16 hs3) W180) 3 rfl (Nat.le_of_ble_eq_true rfl)
    have f181 := f172.other W180 ne146
    have f182 := Safe.wr W180 (Safe.exa hZ.alike f177 (by decide) (by decide)) CR.1 f173
    have f183 := f174.wr W180
    have f184 := f175.other W180 (Or.inl ne145)
    have f185 := f176.other W180 (Or.inl ne145)
    have f186 := f177.wr W180
    have hk := Nat.le_trans hk (Keep.of_wr W180).1
    have CR := CR.trans (CHr.wr W180 (Safe.exa hZ.alike f177 (by decide) (by decide)) CR.1)
    have K180 : Keep h0 h180 [] := K171.wr W180 (Or.inr sz_b144)
    have O180 := O171.wr W180 ge_b144
    have N180 := Fr.snoc X180 N171 ge_b144
    refine stp st180 ?_
    show Go p e below T180 (mkF m 135 #[.val (.ref ca), .val (.int n)] [(.ref b144), (.ref b139), (.ref b139)]) _
    have V188 : Arf Z h180 b144 k144 .char ([s0, s1, s2, s3] : List Int32).length (fun i => (.int (own_at ([s0, s1, s2, s3] : List Int32) i))) := (Arv.arf V180 rfl).congr (fun i _ => own_atv ([s0, s1, s2, s3] : List Int32) i)
    obtain ⟨_, _, ⟨T189, L189, k189, n189⟩, -, X189, ⟨Lc189, hQ189, l189, y189, z189⟩, st189⟩ := X180.specialBack hx (y := (⟨"java/lang/String", "<init>", "([C)V"⟩ : MethodName)) rfl hown (mvT hZ (hw _ (List.mem_of_getElem? (i := 12) rfl))) (mvT hZ (hw _ (List.mem_of_getElem? (i := 13) rfl))) (mvT hZ (hw _ (List.mem_of_getElem? (i := 14) rfl))) (by decide) (backOf (W := 1) (rm_u1 l Z a0 hw [] b139 b144 ([s0, s1, s2, s3] : List Int32) cz k144 h180 n0 O180 f183 f184 f185 V188 S_COMPACT_STRINGS S__assertionsDisabled S_HI_BYTE_SHIFT S_LO_BYTE_SHIFT ge_b139 (Ne.symm ne145) hcz (Nat.le_of_ble_eq_true rfl) (own_m1 (P := (fun c => ¬ c < 0 ∧ ¬ (65535 : Int32) < c)) hs0 (own_m1 (P := (fun c => ¬ c < 0 ∧ ¬ (65535 : Int32) < c)) hs1 (own_m1 (P := (fun c => ¬ c < 0 ∧ ¬ (65535 : Int32) < c)) hs2 (own_m1 (P := (fun c => ¬ c < 0 ∧ ¬ (65535 : Int32) < c)) hs3 (own_m0 (P := (fun c => ¬ c < 0 ∧ ¬ (65535 : Int32) < c))))))) (Nat.succ_pos _)) hZ (hw _ (List.mem_of_getElem? (i := 14) rfl)) (hw _ (List.mem_of_getElem? (i := 11) rfl)) (by decide) (by decide)) (g := (mkF m 135 #[.val (.ref ca), .val (.int n)] [(.ref b144), (.ref b139), (.ref b139)])) rfl (by rw [hml]; rfl) (Steps.refl _) (a := b139) (argsL := [(.ref b144)]) (rest := [(.ref b139)]) (lenOf pd_14 rfl) rfl (by show 2 * 0 + _ ≤ _; exact Nat.le_of_eq rfl) (hb hby d2_135) (fun _ _ => ⟨rfl, e180, (by decide : 2 + 2 ≤ _), (by decide : 8 + 30 ≤ _)⟩)
    dsimp only [Pt.U, Pt.locs, Pt.cells, Pt.slots] at X189 l189 y189 z189 st189 hQ189
    subst y189 z189
    obtain ⟨rfl, N189q, K189q, r189_0⟩ := hQ189
    have N189 : Fr n0 L189 := by rw [l189]; exact Fr.app N180 N189q
    have f190 := f181.keep K189q (ninS ne140 nin0)
    have f191 := f182.keep K189q (sfS f182 sf0) CR.1
    have f192 := f183.keep K189q
    have f193 := f186.keep K189q
    have f194 := V188.keep K189q (ninS (Ne.symm ne145) nin0)
    have hk := Nat.le_trans hk K189q.1
    have CR := CR.trans (CHr.keep K189q (sfS f182 sf0) CR.1)
    have K189 : Keep h0 T189.heap [] := K180.trans K189q (allS (Or.inr sz_b139) all0)
    have O189 := O180.keep K189q (allS ge_b139 all0)
    refine stt st189 ?_
    show Go p e below T189 (mkF m 138 #[.val (.ref ca), .val (.int n)] [(.ref b139)]) _
    refine outAW X189 hx hZ hEL rfl hS hk CR hret rfl rfl (hb hby d2_138) hlk (by decide) (by decide) ?_
    exact ⟨b139, rfl, N189, K189, ⟨ge_b139, sz_b139⟩, (own_ucs_of (by simp only [own_mk, if_neg q1_1, if_neg q17_21, if_neg q39_51, if_neg q67_90, if_pos q101_138]) r189_0)⟩
  refine stp (fun _ => XS.icmpYes X0.here hx rfl (pc0 := 101) (pc' := 139) rfl (hb hby d2_101) rfl (XT.ii_ne_t q101_138) (by decide) (by decide)) ?_
  show Go p e below T0 (mkF m 139 #[.val (.ref ca), .val (.int n)] []) _
  refine stp (fun _ => XS.iloadN X0.here hx rfl (hb hby d2_139) rfl) ?_
  refine stp (fun _ => XS.iconst X0.here hx rfl (hb hby d2_140)) ?_
  show Go p e below T0 (mkF m 141 #[.val (.ref ca), .val (.int n)] [(.int (5 : Int32)), (.int n)]) _
  by_cases q141_195 : n = (5 : Int32)
  · refine stp (fun _ => XS.icmpNo X0.here hx rfl (hb hby d2_141) rfl (XT.ii_ne_f q141_195)) ?_
    show Go p e below T0 (mkF m 144 #[.val (.ref ca), .val (.int n)] []) _
    obtain ⟨T196, h196, X196, e196, E196, A196, D196, -, st196⟩ := newO X0 hx hZ hown (hw _ (List.mem_of_getElem? (i := 9) rfl)) (hw _ (List.mem_of_getElem? (i := 10) rfl)) (hw _ (List.mem_of_getElem? (i := 11) rfl)) e0 (g := (mkF m 144 #[.val (.ref ca), .val (.int n)] [])) rfl (hb hby d2_144) (by decide) (by decide)
    obtain ⟨b196, g196⟩ : ∃ z, z = h0.size := ⟨_, rfl⟩
    rw [← g196] at A196 D196 st196
    have ne197 : ca ≠ b196 := Nat.ne_of_lt (Nat.lt_of_lt_of_le V_ca.lt (Nat.le_of_eq g196.symm))
    have sz_b196 : h0.size ≤ b196 := Nat.le_trans (Keep.refl h0 []).1 (Nat.le_of_eq g196.symm)
    have ge_b196 : n0 ≤ b196 := Nat.le_trans (old_le O0) (Nat.le_of_eq g196.symm)
    have f198 := V_ca.ext E196
    have Sf196 := (Safe.new (Z := Z) (EL := consts_1) (Nat.le_of_eq g196.symm)).ext E196 CR.1
    have hk := Nat.le_trans hk E196.1
    have CR := CR.trans (CHr.ext E196 CR.1)
    have K196 : Keep h0 h196 [] := (Keep.refl h0 []).ext E196
    have O196 := O0.ext E196
    have F199 : Fld Z h196 b196 "java/lang/String" "value" "[B" .null := D196 (Or.inr (hw _ (List.mem_of_getElem? (i := 24) rfl))) (ty := (.array .byte)) (by decide)
    have F200 : Fld Z h196 b196 "java/lang/String" "coder" "B" (.int (0 : Int32)) := D196 (Or.inr (hw _ (List.mem_of_getElem? (i := 25) rfl))) (ty := .byte) (by decide)
    refine stp st196 ?_
    show Go p e below T196 (mkF m 147 #[.val (.ref ca), .val (.int n)] [(.ref b196)]) _
    refine stp (fun _ => XS.dup X196.here hx rfl (hb hby d2_147) rfl rfl) ?_
    refine stp (fun _ => XS.iconst X196.here hx rfl (hb hby d2_148)) ?_
    show Go p e below T196 (mkF m 149 #[.val (.ref ca), .val (.int n)] [(.int (5 : Int32)), (.ref b196), (.ref b196)]) _
    obtain ⟨T201, h201, k201, X201, e201, E201, A201, B201, st201⟩ := newPE X196 hx hZ (hw _ (List.mem_of_getElem? (i := 1) rfl)) e196 (g := (mkF m 149 #[.val (.ref ca), .val (.int n)] [(.int (5 : Int32)), (.ref b196), (.ref b196)])) rfl (hb hby d2_149) rfl (by decide) (cap := 5) (by decide) (by decide) (by decide) (by decide) (ad := "[C") (by decide)
    obtain ⟨b201, g201⟩ : ∃ z, z = h196.size := ⟨_, rfl⟩
    rw [← g201] at A201 B201 st201
    have ne202 : b196 ≠ b201 := Nat.ne_of_lt (Nat.lt_of_lt_of_le A196.lt (Nat.le_of_eq g201.symm))
    have ne203 : ca ≠ b201 := Nat.ne_of_lt (Nat.lt_of_lt_of_le f198.lt (Nat.le_of_eq g201.symm))
    have sz_b201 : h0.size ≤ b201 := Nat.le_trans K196.1 (Nat.le_of_eq g201.symm)
    have ge_b201 : n0 ≤ b201 := Nat.le_trans (old_le O196) (Nat.le_of_eq g201.symm)
    have f204 := f198.ext E201
    have f205 := Sf196.ext E201 CR.1
    have f206 := A196.ext E201
    have f207 := F199.ext E201
    have f208 := F200.ext E201
    have hk := Nat.le_trans hk E201.1
    have CR := CR.trans (CHr.ext E201 CR.1)
    have K201 : Keep h0 h201 [] := K196.ext E201
    have O201 := O196.ext E201
    have V201 : Arv Z h201 b201 k201 .char (5 : Int32) [(.int (0 : Int32)), (.int (0 : Int32)), (.int (0 : Int32)), (.int (0 : Int32)), (.int (0 : Int32))] (.int (0 : Int32)) := (Arv.new A201 (by decide)).pad (pad_rep [] (.int (0 : Int32)) 5)
    refine stp st201 ?_
    show Go p e below T201 (mkF m 151 #[.val (.ref ca), .val (.int n)] [(.ref b201), (.ref b196), (.ref b196)]) _
    refine stp (fun _ => XS.dup X201.here hx rfl (hb hby d2_151) rfl rfl) ?_
    refine stp (fun _ => XS.iconst X201.here hx rfl (hb hby d2_152)) ?_
    refine stp (fun _ => XS.aloadN X201.here hx rfl (hb hby d2_153) rfl rfl) ?_
    refine stp (fun _ => XS.iconst X201.here hx rfl (hb hby d2_154)) ?_
    show Go p e below T201 (mkF m 155 #[.val (.ref ca), .val (.int n)] [(.int (0 : Int32)), (.ref ca), (.int (0 : Int32)), (.ref b201), (.ref b201), (.ref b196), (.ref b196)]) _
    obtain ⟨cl209, Ar209, q209, S209, M209, H209, G209⟩ := (id f204)
    have in209 : ¬ ((0 : Int32) < 0 ∨ cl209.slots.size ≤ ((0 : Int32)).toNatClampNeg) := inb_of S209 ⟨by decide, by decide⟩
    have at209 : cl209.slots[((0 : Int32)).toNatClampNeg]? = some (.int s0) := H209.at in209 rfl
    refine stp (fun _ => X201.caload hx (j := (0 : Int32)) (v := (.int s0)) (by rw [e201]; exact Ar209.1) (State.isArrayOf_alike hZ.alike Ar209.2.1) Ar209.2.2 in209 at209 (g := (mkF m 155 #[.val (.ref ca), .val (.int n)] [(.int (0 : Int32)), (.ref ca), (.int (0 : Int32)), (.ref b201), (.ref b201), (.ref b196), (.ref b196)])) rfl rfl (hb hby d2_155) _) ?_
    show Go p e below T201 (mkF m 156 #[.val (.ref ca), .val (.int n)] [(.int s0), (.int (0 : Int32)), (.ref b201), (.ref b201), (.ref b196), (.ref b196)]) _
    obtain ⟨cl210, Ar210, q210, S210, M210, H210, G210⟩ := (id V201)
    have in210 : ¬ ((0 : Int32) < 0 ∨ cl210.slots.size ≤ ((0 : Int32)).toNatClampNeg) := inb_of S210 ⟨by decide, by decide⟩
    obtain ⟨T210, h210, X210, e210, W210, st210⟩ := stC X201 hx hZ e201 Ar210 (j := (0 : Int32)) in210 (g := (mkF m 156 #[.val (.ref ca), .val (.int n)] [(.int s0), (.int (0 : Int32)), (.ref b201), (.ref b201), (.ref b196), (.ref b196)])) rfl rfl (hb hby d2_156)
    have V210 : Arv Z h210 b201 k201 .char (5 : Int32) [(.int s0), (.int (0 : Int32)), (.int (0 : Int32)), (.int (0 : Int32)), (.int (0 : Int32))] (.int (0 : Int32)) := Arv.set Ar210 q210 S210 M210 H210 G210 (ow_fits_char (own_cs16 hs0)) (ow_wr_char (own_cs16 hs0) W210) 0 rfl (Nat.le_of_ble_eq_true rfl)
    have f211 := f204.other W210 ne203
    have f212 := Safe.wr W210 (Safe.exa hZ.alike B201 (by decide) (by decide)) CR.1 f205
    have f213 := f206.wr W210
    have f214 := f207.other W210 (Or.inl ne202)
    have f215 := f208.other W210 (Or.inl ne202)
    have f216 := B201.wr W210
    have hk := Nat.le_trans hk (Keep.of_wr W210).1
    have CR := CR.trans (CHr.wr W210 (Safe.exa hZ.alike B201 (by decide) (by decide)) CR.1)
    have K210 : Keep h0 h210 [] := K201.wr W210 (Or.inr sz_b201)
    have O210 := O201.wr W210 ge_b201
    have N210 := Fr.snoc X210 N0 ge_b201
    refine stp st210 ?_
    show Go p e below T210 (mkF m 157 #[.val (.ref ca), .val (.int n)] [(.ref b201), (.ref b196), (.ref b196)]) _
    refine stp (fun _ => XS.dup X210.here hx rfl (hb hby d2_157) rfl rfl) ?_
    refine stp (fun _ => XS.iconst X210.here hx rfl (hb hby d2_158)) ?_
    refine stp (fun _ => XS.aloadN X210.here hx rfl (hb hby d2_159) rfl rfl) ?_
    refine stp (fun _ => XS.iconst X210.here hx rfl (hb hby d2_160)) ?_
    show Go p e below T210 (mkF m 161 #[.val (.ref ca), .val (.int n)] [(.int (1 : Int32)), (.ref ca), (.int (1 : Int32)), (.ref b201), (.ref b201), (.ref b196), (.ref b196)]) _
    obtain ⟨cl218, Ar218, q218, S218, M218, H218, G218⟩ := (id f211)
    have in218 : ¬ ((1 : Int32) < 0 ∨ cl218.slots.size ≤ ((1 : Int32)).toNatClampNeg) := inb_of S218 ⟨by decide, by decide⟩
    have at218 : cl218.slots[((1 : Int32)).toNatClampNeg]? = some (.int s1) := H218.at in218 rfl
    refine stp (fun _ => X210.caload hx (j := (1 : Int32)) (v := (.int s1)) (by rw [e210]; exact Ar218.1) (State.isArrayOf_alike hZ.alike Ar218.2.1) Ar218.2.2 in218 at218 (g := (mkF m 161 #[.val (.ref ca), .val (.int n)] [(.int (1 : Int32)), (.ref ca), (.int (1 : Int32)), (.ref b201), (.ref b201), (.ref b196), (.ref b196)])) rfl rfl (hb hby d2_161) _) ?_
    show Go p e below T210 (mkF m 162 #[.val (.ref ca), .val (.int n)] [(.int s1), (.int (1 : Int32)), (.ref b201), (.ref b201), (.ref b196), (.ref b196)]) _
    obtain ⟨cl219, Ar219, q219, S219, M219, H219, G219⟩ := (id V210)
    have in219 : ¬ ((1 : Int32) < 0 ∨ cl219.slots.size ≤ ((1 : Int32)).toNatClampNeg) := inb_of S219 ⟨by decide, by decide⟩
    obtain ⟨T219, h219, X219, e219, W219, st219⟩ := stC X210 hx hZ e210 Ar219 (j := (1 : Int32)) in219 (g := (mkF m 162 #[.val (.ref ca), .val (.int n)] [(.int s1), (.int (1 : Int32)), (.ref b201), (.ref b201), (.ref b196), (.ref b196)])) rfl rfl (hb hby d2_162)
    have V219 : Arv Z h219 b201 k201 .char (5 : Int32) [(.int s0), (.int s1), (.int (0 : Int32)), (.int (0 : Int32)), (.int (0 : Int32))] (.int (0 : Int32)) := Arv.set Ar219 q219 S219 M219 H219 G219 (ow_fits_char (own_cs16 hs1)) (ow_wr_char (own_cs16 hs1) W219) 1 rfl (Nat.le_of_ble_eq_true rfl)
    have f220 := f211.other W219 ne203
    have f221 := Safe.wr W219 (Safe.exa hZ.alike f216 (by decide) (by decide)) CR.1 f212
    have f222 := f213.wr W219
    have f223 := f214.other W219 (Or.inl ne202)
    have f224 := f215.other W219 (Or.inl ne202)
    have f225 := f216.wr W219
    have hk := Nat.le_trans hk (Keep.of_wr W219).1
    have CR := CR.trans (CHr.wr W219 (Safe.exa hZ.alike f216 (by decide) (by decide)) CR.1)
    have K219 : Keep h0 h219 [] := K210.wr W219 (Or.inr sz_b201)
    have O219 := O210.wr W219 ge_b201
    have N219 := Fr.snoc X219 N210 ge_b201
    refine stp st219 ?_
    show Go p e below T219 (mkF m 163 #[.val (.ref ca), .val (.int n)] [(.ref b201), (.ref b196), (.ref b196)]) _
    refine stp (fun _ => XS.dup X219.here hx rfl (hb hby d2_163) rfl rfl) ?_
    refine stp (fun _ => XS.iconst X219.here hx rfl (hb hby d2_164)) ?_
    refine stp (fun _ => XS.aloadN X219.here hx rfl (hb hby d2_165) rfl rfl) ?_
    refine stp (fun _ => XS.iconst X219.here hx rfl (hb hby d2_166)) ?_
    show Go p e below T219 (mkF m 167 #[.val (.ref ca), .val (.int n)] [(.int (2 : Int32)), (.ref ca), (.int (2 : Int32)), (.ref b201), (.ref b201), (.ref b196), (.ref b196)]) _
    obtain ⟨cl227, Ar227, q227, S227, M227, H227, G227⟩ := (id f220)
    have in227 : ¬ ((2 : Int32) < 0 ∨ cl227.slots.size ≤ ((2 : Int32)).toNatClampNeg) := inb_of S227 ⟨by decide, by decide⟩
    have at227 : cl227.slots[((2 : Int32)).toNatClampNeg]? = some (.int s2) := H227.at in227 rfl
    refine stp (fun _ => X219.caload hx (j := (2 : Int32)) (v := (.int s2)) (by rw [e219]; exact Ar227.1) (State.isArrayOf_alike hZ.alike Ar227.2.1) Ar227.2.2 in227 at227 (g := (mkF m 167 #[.val (.ref ca), .val (.int n)] [(.int (2 : Int32)), (.ref ca), (.int (2 : Int32)), (.ref b201), (.ref b201), (.ref b196), (.ref b196)])) rfl rfl (hb hby d2_167) _) ?_
    show Go p e below T219 (mkF m 168 #[.val (.ref ca), .val (.int n)] [(.int s2), (.int (2 : Int32)), (.ref b201), (.ref b201), (.ref b196), (.ref b196)]) _
    obtain ⟨cl228, Ar228, q228, S228, M228, H228, G228⟩ := (id V219)
    have in228 : ¬ ((2 : Int32) < 0 ∨ cl228.slots.size ≤ ((2 : Int32)).toNatClampNeg) := inb_of S228 ⟨by decide, by decide⟩
    obtain ⟨T228, h228, X228, e228, W228, st228⟩ := stC X219 hx hZ e219 Ar228 (j := (2 : Int32)) in228 (g := (mkF m 168 #[.val (.ref ca), .val (.int n)] [(.int s2), (.int (2 : Int32)), (.ref b201), (.ref b201), (.ref b196), (.ref b196)])) rfl rfl (hb hby d2_168)
    have V228 : Arv Z h228 b201 k201 .char (5 : Int32) [(.int s0), (.int s1), (.int s2), (.int (0 : Int32)), (.int (0 : Int32))] (.int (0 : Int32)) := Arv.set Ar228 q228 S228 M228 H228 G228 (ow_fits_char (own_cs16 hs2)) (ow_wr_char (own_cs16 hs2) W228) 2 rfl (Nat.le_of_ble_eq_true rfl)
    have f229 := f220.other W228 ne203
    have f230 := Safe.wr W228 (Safe.exa hZ.alike f225 (by decide) (by decide)) CR.1 f221
    have f231 := f222.wr W228
    have f232 := f223.other W228 (Or.inl ne202)
    have f233 := f224.other W228 (Or.inl ne202)
    have f234 := f225.wr W228
    have hk := Nat.le_trans hk (Keep.of_wr W228).1
    have CR := CR.trans (CHr.wr W228 (Safe.exa hZ.alike f225 (by decide) (by decide)) CR.1)
    have K228 : Keep h0 h228 [] := K219.wr W228 (Or.inr sz_b201)
    have O228 := O219.wr W228 ge_b201
    have N228 := Fr.snoc X228 N219 ge_b201
    refine stp st228 ?_
    show Go p e below T228 (mkF m 169 #[.val (.ref ca), .val (.int n)] [(.ref b201), (.ref b196), (.ref b196)]) _
    refine stp (fun _ => XS.dup X228.here hx rfl (hb hby d2_169) rfl rfl) ?_
    refine stp (fun _ => XS.iconst X228.here hx rfl (hb hby d2_170)) ?_
    refine stp (fun _ => XS.aloadN X228.here hx rfl (hb hby d2_171) rfl rfl) ?_
    refine stp (fun _ => XS.iconst X228.here hx rfl (hb hby d2_172)) ?_
    show Go p e below T228 (mkF m 173 #[.val (.ref ca), .val (.int n)] [(.int (3 : Int32)), (.ref ca), (.int (3 : Int32)), (.ref b201), (.ref b201), (.ref b196), (.ref b196)]) _
    obtain ⟨cl236, Ar236, q236, S236, M236, H236, G236⟩ := (id f229)
    have in236 : ¬ ((3 : Int32) < 0 ∨ cl236.slots.size ≤ ((3 : Int32)).toNatClampNeg) := inb_of S236 ⟨by decide, by decide⟩
    have at236 : cl236.slots[((3 : Int32)).toNatClampNeg]? = some (.int s3) := H236.at in236 rfl
    refine stp (fun _ => X228.caload hx (j := (3 : Int32)) (v := (.int s3)) (by rw [e228]; exact Ar236.1) (State.isArrayOf_alike hZ.alike Ar236.2.1) Ar236.2.2 in236 at236 (g := (mkF m 173 #[.val (.ref ca), .val (.int n)] [(.int (3 : Int32)), (.ref ca), (.int (3 : Int32)), (.ref b201), (.ref b201), (.ref b196), (.ref b196)])) rfl rfl (hb hby d2_173) _) ?_
    show Go p e below T228 (mkF m 174 #[.val (.ref ca), .val (.int n)] [(.int s3), (.int (3 : Int32)), (.ref b201), (.ref b201), (.ref b196), (.ref b196)]) _
    obtain ⟨cl237, Ar237, q237, S237, M237, H237, G237⟩ := (id V228)
    have in237 : ¬ ((3 : Int32) < 0 ∨ cl237.slots.size ≤ ((3 : Int32)).toNatClampNeg) := inb_of S237 ⟨by decide, by decide⟩
    obtain ⟨T237, h237, X237, e237, W237, st237⟩ := stC X228 hx hZ e228 Ar237 (j := (3 : Int32)) in237 (g := (mkF m 174 #[.val (.ref ca), .val (.int n)] [(.int s3), (.int (3 : Int32)), (.ref b201), (.ref b201), (.ref b196), (.ref b196)])) rfl rfl (hb hby d2_174)
    have V237 : Arv Z h237 b201 k201 .char (5 : Int32) [(.int s0), (.int s1), (.int s2), (.int s3), (.int (0 : Int32))] (.int (0 : Int32)) := Arv.set Ar237 q237 S237 M237 H237 G237 (ow_fits_char (own_cs16 hs3)) (ow_wr_char (own_cs16 hs3) W237) 3 rfl (Nat.le_of_ble_eq_true rfl)
    have f238 := f229.other W237 ne203
    have f239 := Safe.wr W237 (Safe.exa hZ.alike f234 (by decide) (by decide)) CR.1 f230
    have f240 := f231.wr W237
    have f241 := f232.other W237 (Or.inl ne202)
    have f242 := f233.other W237 (Or.inl ne202)
    have f243 := f234.wr W237
    have hk := Nat.le_trans hk (Keep.of_wr W237).1
    have CR := CR.trans (CHr.wr W237 (Safe.exa hZ.alike f234 (by decide) (by decide)) CR.1)
    have K237 : Keep h0 h237 [] := K228.wr W237 (Or.inr sz_b201)
    have O237 := O228.wr W237 ge_b201
    have N237 := Fr.snoc X237 N228 ge_b201
    refine stp st237 ?_
    show Go p e below T237 (mkF m 175 #[.val (.ref ca), .val (.int n)] [(.ref b201), (.ref b196), (.ref b196)]) _
    refine stp (fun _ => XS.dup X237.here hx rfl (hb hby d2_175) rfl rfl) ?_
    refine stp (fun _ => XS.iconst X237.here hx rfl (hb hby d2_176)) ?_
    refine stp (fun _ => XS.aloadN X237.here hx rfl (hb hby d2_177) rfl rfl) ?_
    refine stp (fun _ => XS.iconst X237.here hx rfl (hb hby d2_178)) ?_
    show Go p e below T237 (mkF m 179 #[.val (.ref ca), .val (.int n)] [(.int (4 : Int32)), (.ref ca), (.int (4 : Int32)), (.ref b201), (.ref b201), (.ref b196), (.ref b196)]) _
    obtain ⟨cl245, Ar245, q245, S245, M245, H245, G245⟩ := (id f238)
    have in245 : ¬ ((4 : Int32) < 0 ∨ cl245.slots.size ≤ ((4 : Int32)).toNatClampNeg) := inb_of S245 ⟨by decide, by decide⟩
    have at245 : cl245.slots[((4 : Int32)).toNatClampNeg]? = some (.int s4) := H245.at in245 rfl
    refine stp (fun _ => X237.caload hx (j := (4 : Int32)) (v := (.int s4)) (by rw [e237]; exact Ar245.1) (State.isArrayOf_alike hZ.alike Ar245.2.1) Ar245.2.2 in245 at245 (g := (mkF m 179 #[.val (.ref ca), .val (.int n)] [(.int (4 : Int32)), (.ref ca), (.int (4 : Int32)), (.ref b201), (.ref b201), (.ref b196), (.ref b196)])) rfl rfl (hb hby d2_179) _) ?_
    show Go p e below T237 (mkF m 180 #[.val (.ref ca), .val (.int n)] [(.int s4), (.int (4 : Int32)), (.ref b201), (.ref b201), (.ref b196), (.ref b196)]) _
    obtain ⟨cl246, Ar246, q246, S246, M246, H246, G246⟩ := (id V237)
    have in246 : ¬ ((4 : Int32) < 0 ∨ cl246.slots.size ≤ ((4 : Int32)).toNatClampNeg) := inb_of S246 ⟨by decide, by decide⟩
    obtain ⟨T246, h246, X246, e246, W246, st246⟩ := stC X237 hx hZ e237 Ar246 (j := (4 : Int32)) in246 (g := (mkF m 180 #[.val (.ref ca), .val (.int n)] [(.int s4), (.int (4 : Int32)), (.ref b201), (.ref b201), (.ref b196), (.ref b196)])) rfl rfl (hb hby d2_180)
    have V246 : Arv Z h246 b201 k201 .char (5 : Int32) [(.int s0), (.int s1), (.int s2), (.int s3), (.int s4)] (.int (0 : Int32)) := Arv.set Ar246 q246 S246 M246 H246 G246 (ow_fits_char (own_cs16 hs4)) (ow_wr_char (own_cs16 hs4) W246) 4 rfl (Nat.le_of_ble_eq_true rfl)
    have f247 := f238.other W246 ne203
    have f248 := Safe.wr W246 (Safe.exa hZ.alike f243 (by decide) (by decide)) CR.1 f239
    have f249 := f240.wr W246
    have f250 := f241.other W246 (Or.inl ne202)
    have f251 := f242.other W246 (Or.inl ne202)
    have f252 := f243.wr W246
    have hk := Nat.le_trans hk (Keep.of_wr W246).1
    have CR := CR.trans (CHr.wr W246 (Safe.exa hZ.alike f243 (by decide) (by decide)) CR.1)
    have K246 : Keep h0 h246 [] := K237.wr W246 (Or.inr sz_b201)
    have O246 := O237.wr W246 ge_b201
    have N246 := Fr.snoc X246 N237 ge_b201
    refine stp st246 ?_
    show Go p e below T246 (mkF m 181 #[.val (.ref ca), .val (.int n)] [(.ref b201), (.ref b196), (.ref b196)]) _
    have V254 : Arf Z h246 b201 k201 .char ([s0, s1, s2, s3, s4] : List Int32).length (fun i => (.int (own_at ([s0, s1, s2, s3, s4] : List Int32) i))) := (Arv.arf V246 rfl).congr (fun i _ => own_atv ([s0, s1, s2, s3, s4] : List Int32) i)
    obtain ⟨_, _, ⟨T255, L255, k255, n255⟩, -, X255, ⟨Lc255, hQ255, l255, y255, z255⟩, st255⟩ := X246.specialBack hx (y := (⟨"java/lang/String", "<init>", "([C)V"⟩ : MethodName)) rfl hown (mvT hZ (hw _ (List.mem_of_getElem? (i := 12) rfl))) (mvT hZ (hw _ (List.mem_of_getElem? (i := 13) rfl))) (mvT hZ (hw _ (List.mem_of_getElem? (i := 14) rfl))) (by decide) (backOf (W := 1) (rm_u1 l Z a0 hw [] b196 b201 ([s0, s1, s2, s3, s4] : List Int32) cz k201 h246 n0 O246 f249 f250 f251 V254 S_COMPACT_STRINGS S__assertionsDisabled S_HI_BYTE_SHIFT S_LO_BYTE_SHIFT ge_b196 (Ne.symm ne202) hcz (Nat.le_of_ble_eq_true rfl) (own_m1 (P := (fun c => ¬ c < 0 ∧ ¬ (65535 : Int32) < c)) hs0 (own_m1 (P := (fun c => ¬ c < 0 ∧ ¬ (65535 : Int32) < c)) hs1 (own_m1 (P := (fun c => ¬ c < 0 ∧ ¬ (65535 : Int32) < c)) hs2 (own_m1 (P := (fun c => ¬ c < 0 ∧ ¬ (65535 : Int32) < c)) hs3 (own_m1 (P := (fun c => ¬ c < 0 ∧ ¬ (65535 : Int32) < c)) hs4 (own_m0 (P := (fun c => ¬ c < 0 ∧ ¬ (65535 : Int32) < c)))))))) (Nat.succ_pos _)) hZ (hw _ (List.mem_of_getElem? (i := 14) rfl)) (hw _ (List.mem_of_getElem? (i := 11) rfl)) (by decide) (by decide)) (g := (mkF m 181 #[.val (.ref ca), .val (.int n)] [(.ref b201), (.ref b196), (.ref b196)])) rfl (by rw [hml]; rfl) (Steps.refl _) (a := b196) (argsL := [(.ref b201)]) (rest := [(.ref b196)]) (lenOf pd_14 rfl) rfl (by show 2 * 0 + _ ≤ _; exact Nat.le_of_eq rfl) (hb hby d2_181) (fun _ _ => ⟨rfl, e246, (by decide : 2 + 2 ≤ _), (by decide : 9 + 30 ≤ _)⟩)
    dsimp only [Pt.U, Pt.locs, Pt.cells, Pt.slots] at X255 l255 y255 z255 st255 hQ255
    subst y255 z255
    obtain ⟨rfl, N255q, K255q, r255_0⟩ := hQ255
    have N255 : Fr n0 L255 := by rw [l255]; exact Fr.app N246 N255q
    have f256 := f247.keep K255q (ninS ne197 nin0)
    have f257 := f248.keep K255q (sfS f248 sf0) CR.1
    have f258 := f249.keep K255q
    have f259 := f252.keep K255q
    have f260 := V254.keep K255q (ninS (Ne.symm ne202) nin0)
    have hk := Nat.le_trans hk K255q.1
    have CR := CR.trans (CHr.keep K255q (sfS f248 sf0) CR.1)
    have K255 : Keep h0 T255.heap [] := K246.trans K255q (allS (Or.inr sz_b196) all0)
    have O255 := O246.keep K255q (allS ge_b196 all0)
    refine stt st255 ?_
    show Go p e below T255 (mkF m 184 #[.val (.ref ca), .val (.int n)] [(.ref b196)]) _
    refine outAW X255 hx hZ hEL rfl hS hk CR hret rfl rfl (hb hby d2_184) hlk (by decide) (by decide) ?_
    exact ⟨b196, rfl, N255, K255, ⟨ge_b196, sz_b196⟩, (own_ucs_of (by simp only [own_mk, if_neg q1_1, if_neg q17_21, if_neg q39_51, if_neg q67_90, if_neg q101_138, if_pos q141_195]) r255_0)⟩
  refine stp (fun _ => XS.icmpYes X0.here hx rfl (pc0 := 141) (pc' := 185) rfl (hb hby d2_141) rfl (XT.ii_ne_t q141_195) (by decide) (by decide)) ?_
  show Go p e below T0 (mkF m 185 #[.val (.ref ca), .val (.int n)] []) _
  refine stp (fun _ => XS.iloadN X0.here hx rfl (hb hby d2_185) rfl) ?_
  refine stp (fun _ => XS.bipush X0.here hx rfl (hb hby d2_186)) ?_
  show Go p e below T0 (mkF m 188 #[.val (.ref ca), .val (.int n)] [(.int (6 : Int32)), (.int n)]) _
  by_cases q188_261 : n = (6 : Int32)
  · refine stp (fun _ => XS.icmpNo X0.here hx rfl (hb hby d2_188) rfl (XT.ii_ne_f q188_261)) ?_
    show Go p e below T0 (mkF m 191 #[.val (.ref ca), .val (.int n)] []) _
    obtain ⟨T262, h262, X262, e262, E262, A262, D262, -, st262⟩ := newO X0 hx hZ hown (hw _ (List.mem_of_getElem? (i := 9) rfl)) (hw _ (List.mem_of_getElem? (i := 10) rfl)) (hw _ (List.mem_of_getElem? (i := 11) rfl)) e0 (g := (mkF m 191 #[.val (.ref ca), .val (.int n)] [])) rfl (hb hby d2_191) (by decide) (by decide)
    obtain ⟨b262, g262⟩ : ∃ z, z = h0.size := ⟨_, rfl⟩
    rw [← g262] at A262 D262 st262
    have ne263 : ca ≠ b262 := Nat.ne_of_lt (Nat.lt_of_lt_of_le V_ca.lt (Nat.le_of_eq g262.symm))
    have sz_b262 : h0.size ≤ b262 := Nat.le_trans (Keep.refl h0 []).1 (Nat.le_of_eq g262.symm)
    have ge_b262 : n0 ≤ b262 := Nat.le_trans (old_le O0) (Nat.le_of_eq g262.symm)
    have f264 := V_ca.ext E262
    have Sf262 := (Safe.new (Z := Z) (EL := consts_1) (Nat.le_of_eq g262.symm)).ext E262 CR.1
    have hk := Nat.le_trans hk E262.1
    have CR := CR.trans (CHr.ext E262 CR.1)
    have K262 : Keep h0 h262 [] := (Keep.refl h0 []).ext E262
    have O262 := O0.ext E262
    have F265 : Fld Z h262 b262 "java/lang/String" "value" "[B" .null := D262 (Or.inr (hw _ (List.mem_of_getElem? (i := 24) rfl))) (ty := (.array .byte)) (by decide)
    have F266 : Fld Z h262 b262 "java/lang/String" "coder" "B" (.int (0 : Int32)) := D262 (Or.inr (hw _ (List.mem_of_getElem? (i := 25) rfl))) (ty := .byte) (by decide)
    refine stp st262 ?_
    show Go p e below T262 (mkF m 194 #[.val (.ref ca), .val (.int n)] [(.ref b262)]) _
    refine stp (fun _ => XS.dup X262.here hx rfl (hb hby d2_194) rfl rfl) ?_
    refine stp (fun _ => XS.bipush X262.here hx rfl (hb hby d2_195)) ?_
    show Go p e below T262 (mkF m 197 #[.val (.ref ca), .val (.int n)] [(.int (6 : Int32)), (.ref b262), (.ref b262)]) _
    obtain ⟨T267, h267, k267, X267, e267, E267, A267, B267, st267⟩ := newPE X262 hx hZ (hw _ (List.mem_of_getElem? (i := 1) rfl)) e262 (g := (mkF m 197 #[.val (.ref ca), .val (.int n)] [(.int (6 : Int32)), (.ref b262), (.ref b262)])) rfl (hb hby d2_197) rfl (by decide) (cap := 6) (by decide) (by decide) (by decide) (by decide) (ad := "[C") (by decide)
    obtain ⟨b267, g267⟩ : ∃ z, z = h262.size := ⟨_, rfl⟩
    rw [← g267] at A267 B267 st267
    have ne268 : b262 ≠ b267 := Nat.ne_of_lt (Nat.lt_of_lt_of_le A262.lt (Nat.le_of_eq g267.symm))
    have ne269 : ca ≠ b267 := Nat.ne_of_lt (Nat.lt_of_lt_of_le f264.lt (Nat.le_of_eq g267.symm))
    have sz_b267 : h0.size ≤ b267 := Nat.le_trans K262.1 (Nat.le_of_eq g267.symm)
    have ge_b267 : n0 ≤ b267 := Nat.le_trans (old_le O262) (Nat.le_of_eq g267.symm)
    have f270 := f264.ext E267
    have f271 := Sf262.ext E267 CR.1
    have f272 := A262.ext E267
    have f273 := F265.ext E267
    have f274 := F266.ext E267
    have hk := Nat.le_trans hk E267.1
    have CR := CR.trans (CHr.ext E267 CR.1)
    have K267 : Keep h0 h267 [] := K262.ext E267
    have O267 := O262.ext E267
    have V267 : Arv Z h267 b267 k267 .char (6 : Int32) [(.int (0 : Int32)), (.int (0 : Int32)), (.int (0 : Int32)), (.int (0 : Int32)), (.int (0 : Int32)), (.int (0 : Int32))] (.int (0 : Int32)) := (Arv.new A267 (by decide)).pad (pad_rep [] (.int (0 : Int32)) 6)
    refine stp st267 ?_
    show Go p e below T267 (mkF m 199 #[.val (.ref ca), .val (.int n)] [(.ref b267), (.ref b262), (.ref b262)]) _
    refine stp (fun _ => XS.dup X267.here hx rfl (hb hby d2_199) rfl rfl) ?_
    refine stp (fun _ => XS.iconst X267.here hx rfl (hb hby d2_200)) ?_
    refine stp (fun _ => XS.aloadN X267.here hx rfl (hb hby d2_201) rfl rfl) ?_
    refine stp (fun _ => XS.iconst X267.here hx rfl (hb hby d2_202)) ?_
    show Go p e below T267 (mkF m 203 #[.val (.ref ca), .val (.int n)] [(.int (0 : Int32)), (.ref ca), (.int (0 : Int32)), (.ref b267), (.ref b267), (.ref b262), (.ref b262)]) _
    obtain ⟨cl275, Ar275, q275, S275, M275, H275, G275⟩ := (id f270)
    have in275 : ¬ ((0 : Int32) < 0 ∨ cl275.slots.size ≤ ((0 : Int32)).toNatClampNeg) := inb_of S275 ⟨by decide, by decide⟩
    have at275 : cl275.slots[((0 : Int32)).toNatClampNeg]? = some (.int s0) := H275.at in275 rfl
    refine stp (fun _ => X267.caload hx (j := (0 : Int32)) (v := (.int s0)) (by rw [e267]; exact Ar275.1) (State.isArrayOf_alike hZ.alike Ar275.2.1) Ar275.2.2 in275 at275 (g := (mkF m 203 #[.val (.ref ca), .val (.int n)] [(.int (0 : Int32)), (.ref ca), (.int (0 : Int32)), (.ref b267), (.ref b267), (.ref b262), (.ref b262)])) rfl rfl (hb hby d2_203) _) ?_
    show Go p e below T267 (mkF m 204 #[.val (.ref ca), .val (.int n)] [(.int s0), (.int (0 : Int32)), (.ref b267), (.ref b267), (.ref b262), (.ref b262)]) _
    obtain ⟨cl276, Ar276, q276, S276, M276, H276, G276⟩ := (id V267)
    have in276 : ¬ ((0 : Int32) < 0 ∨ cl276.slots.size ≤ ((0 : Int32)).toNatClampNeg) := inb_of S276 ⟨by decide, by decide⟩
    obtain ⟨T276, h276, X276, e276, W276, st276⟩ := stC X267 hx hZ e267 Ar276 (j := (0 : Int32)) in276 (g := (mkF m 204 #[.val (.ref ca), .val (.int n)] [(.int s0), (.int (0 : Int32)), (.ref b267), (.ref b267), (.ref b262), (.ref b262)])) rfl rfl (hb hby d2_204)
    have V276 : Arv Z h276 b267 k267 .char (6 : Int32) [(.int s0), (.int (0 : Int32)), (.int (0 : Int32)), (.int (0 : Int32)), (.int (0 : Int32)), (.int (0 : Int32))] (.int (0 : Int32)) := Arv.set Ar276 q276 S276 M276 H276 G276 (ow_fits_char (own_cs16 hs0)) (ow_wr_char (own_cs16 hs0) W276) 0 rfl (Nat.le_of_ble_eq_true rfl)
    have f277 := f270.other W276 ne269
    have f278 := Safe.wr W276 (Safe.exa hZ.alike B267 (by decide) (by decide)) CR.1 f271
    have f279 := f272.wr W276
    have f280 := f273.other W276 (Or.inl ne268)
    have f281 := f274.other W276 (Or.inl ne268)
    have f282 := B267.wr W276
    have hk := Nat.le_trans hk (Keep.of_wr W276).1
    have CR := CR.trans (CHr.wr W276 (Safe.exa hZ.alike B267 (by decide) (by decide)) CR.1)
    have K276 : Keep h0 h276 [] := K267.wr W276 (Or.inr sz_b267)
    have O276 := O267.wr W276 ge_b267
    have N276 := Fr.snoc X276 N0 ge_b267
    refine stp st276 ?_
    show Go p e below T276 (mkF m 205 #[.val (.ref ca), .val (.int n)] [(.ref b267), (.ref b262), (.ref b262)]) _
    refine stp (fun _ => XS.dup X276.here hx rfl (hb hby d2_205) rfl rfl) ?_
    refine stp (fun _ => XS.iconst X276.here hx rfl (hb hby d2_206)) ?_
    refine stp (fun _ => XS.aloadN X276.here hx rfl (hb hby d2_207) rfl rfl) ?_
    refine stp (fun _ => XS.iconst X276.here hx rfl (hb hby d2_208)) ?_
    show Go p e below T276 (mkF m 209 #[.val (.ref ca), .val (.int n)] [(.int (1 : Int32)), (.ref ca), (.int (1 : Int32)), (.ref b267), (.ref b267), (.ref b262), (.ref b262)]) _
    obtain ⟨cl284, Ar284, q284, S284, M284, H284, G284⟩ := (id f277)
    have in284 : ¬ ((1 : Int32) < 0 ∨ cl284.slots.size ≤ ((1 : Int32)).toNatClampNeg) := inb_of S284 ⟨by decide, by decide⟩
    have at284 : cl284.slots[((1 : Int32)).toNatClampNeg]? = some (.int s1) := H284.at in284 rfl
    refine stp (fun _ => X276.caload hx (j := (1 : Int32)) (v := (.int s1)) (by rw [e276]; exact Ar284.1) (State.isArrayOf_alike hZ.alike Ar284.2.1) Ar284.2.2 in284 at284 (g := (mkF m 209 #[.val (.ref ca), .val (.int n)] [(.int (1 : Int32)), (.ref ca), (.int (1 : Int32)), (.ref b267), (.ref b267), (.ref b262), (.ref b262)])) rfl rfl (hb hby d2_209) _) ?_
    show Go p e below T276 (mkF m 210 #[.val (.ref ca), .val (.int n)] [(.int s1), (.int (1 : Int32)), (.ref b267), (.ref b267), (.ref b262), (.ref b262)]) _
    obtain ⟨cl285, Ar285, q285, S285, M285, H285, G285⟩ := (id V276)
    have in285 : ¬ ((1 : Int32) < 0 ∨ cl285.slots.size ≤ ((1 : Int32)).toNatClampNeg) := inb_of S285 ⟨by decide, by decide⟩
    obtain ⟨T285, h285, X285, e285, W285, st285⟩ := stC X276 hx hZ e276 Ar285 (j := (1 : Int32)) in285 (g := (mkF m 210 #[.val (.ref ca), .val (.int n)] [(.int s1), (.int (1 : Int32)), (.ref b267), (.ref b267), (.ref b262), (.ref b262)])) rfl rfl (hb hby d2_210)
    have V285 : Arv Z h285 b267 k267 .char (6 : Int32) [(.int s0), (.int s1), (.int (0 : Int32)), (.int (0 : Int32)), (.int (0 : Int32)), (.int (0 : Int32))] (.int (0 : Int32)) := Arv.set Ar285 q285 S285 M285 H285 G285 (ow_fits_char (own_cs16 hs1)) (ow_wr_char (own_cs16 hs1) W285) 1 rfl (Nat.le_of_ble_eq_true rfl)
    have f286 := f277.other W285 ne269
    have f287 := Safe.wr W285 (Safe.exa hZ.alike f282 (by decide) (by decide)) CR.1 f278
    have f288 := f279.wr W285
    have f289 := f280.other W285 (Or.inl ne268)
    have f290 := f281.other W285 (Or.inl ne268)
    have f291 := f282.wr W285
    have hk := Nat.le_trans hk (Keep.of_wr W285).1
    have CR := CR.trans (CHr.wr W285 (Safe.exa hZ.alike f282 (by decide) (by decide)) CR.1)
    have K285 : Keep h0 h285 [] := K276.wr W285 (Or.inr sz_b267)
    have O285 := O276.wr W285 ge_b267
    have N285 := Fr.snoc X285 N276 ge_b267
    refine stp st285 ?_
    show Go p e below T285 (mkF m 211 #[.val (.ref ca), .val (.int n)] [(.ref b267), (.ref b262), (.ref b262)]) _
    refine stp (fun _ => XS.dup X285.here hx rfl (hb hby d2_211) rfl rfl) ?_
    refine stp (fun _ => XS.iconst X285.here hx rfl (hb hby d2_212)) ?_
    refine stp (fun _ => XS.aloadN X285.here hx rfl (hb hby d2_213) rfl rfl) ?_
    refine stp (fun _ => XS.iconst X285.here hx rfl (hb hby d2_214)) ?_
    show Go p e below T285 (mkF m 215 #[.val (.ref ca), .val (.int n)] [(.int (2 : Int32)), (.ref ca), (.int (2 : Int32)), (.ref b267), (.ref b267), (.ref b262), (.ref b262)]) _
    obtain ⟨cl293, Ar293, q293, S293, M293, H293, G293⟩ := (id f286)
    have in293 : ¬ ((2 : Int32) < 0 ∨ cl293.slots.size ≤ ((2 : Int32)).toNatClampNeg) := inb_of S293 ⟨by decide, by decide⟩
    have at293 : cl293.slots[((2 : Int32)).toNatClampNeg]? = some (.int s2) := H293.at in293 rfl
    refine stp (fun _ => X285.caload hx (j := (2 : Int32)) (v := (.int s2)) (by rw [e285]; exact Ar293.1) (State.isArrayOf_alike hZ.alike Ar293.2.1) Ar293.2.2 in293 at293 (g := (mkF m 215 #[.val (.ref ca), .val (.int n)] [(.int (2 : Int32)), (.ref ca), (.int (2 : Int32)), (.ref b267), (.ref b267), (.ref b262), (.ref b262)])) rfl rfl (hb hby d2_215) _) ?_
    show Go p e below T285 (mkF m 216 #[.val (.ref ca), .val (.int n)] [(.int s2), (.int (2 : Int32)), (.ref b267), (.ref b267), (.ref b262), (.ref b262)]) _
    obtain ⟨cl294, Ar294, q294, S294, M294, H294, G294⟩ := (id V285)
    have in294 : ¬ ((2 : Int32) < 0 ∨ cl294.slots.size ≤ ((2 : Int32)).toNatClampNeg) := inb_of S294 ⟨by decide, by decide⟩
    obtain ⟨T294, h294, X294, e294, W294, st294⟩ := stC X285 hx hZ e285 Ar294 (j := (2 : Int32)) in294 (g := (mkF m 216 #[.val (.ref ca), .val (.int n)] [(.int s2), (.int (2 : Int32)), (.ref b267), (.ref b267), (.ref b262), (.ref b262)])) rfl rfl (hb hby d2_216)
    have V294 : Arv Z h294 b267 k267 .char (6 : Int32) [(.int s0), (.int s1), (.int s2), (.int (0 : Int32)), (.int (0 : Int32)), (.int (0 : Int32))] (.int (0 : Int32)) := Arv.set Ar294 q294 S294 M294 H294 G294 (ow_fits_char (own_cs16 hs2)) (ow_wr_char (own_cs16 hs2) W294) 2 rfl (Nat.le_of_ble_eq_true rfl)
    have f295 := f286.other W294 ne269
    have f296 := Safe.wr W294 (Safe.exa hZ.alike f291 (by decide) (by decide)) CR.1 f287
    have f297 := f288.wr W294
    have f298 := f289.other W294 (Or.inl ne268)
    have f299 := f290.other W294 (Or.inl ne268)
    have f300 := f291.wr W294
    have hk := Nat.le_trans hk (Keep.of_wr W294).1
    have CR := CR.trans (CHr.wr W294 (Safe.exa hZ.alike f291 (by decide) (by decide)) CR.1)
    have K294 : Keep h0 h294 [] := K285.wr W294 (Or.inr sz_b267)
    have O294 := O285.wr W294 ge_b267
    have N294 := Fr.snoc X294 N285 ge_b267
    refine stp st294 ?_
    show Go p e below T294 (mkF m 217 #[.val (.ref ca), .val (.int n)] [(.ref b267), (.ref b262), (.ref b262)]) _
    refine stp (fun _ => XS.dup X294.here hx rfl (hb hby d2_217) rfl rfl) ?_
    refine stp (fun _ => XS.iconst X294.here hx rfl (hb hby d2_218)) ?_
    refine stp (fun _ => XS.aloadN X294.here hx rfl (hb hby d2_219) rfl rfl) ?_
    refine stp (fun _ => XS.iconst X294.here hx rfl (hb hby d2_220)) ?_
    show Go p e below T294 (mkF m 221 #[.val (.ref ca), .val (.int n)] [(.int (3 : Int32)), (.ref ca), (.int (3 : Int32)), (.ref b267), (.ref b267), (.ref b262), (.ref b262)]) _
    obtain ⟨cl302, Ar302, q302, S302, M302, H302, G302⟩ := (id f295)
    have in302 : ¬ ((3 : Int32) < 0 ∨ cl302.slots.size ≤ ((3 : Int32)).toNatClampNeg) := inb_of S302 ⟨by decide, by decide⟩
    have at302 : cl302.slots[((3 : Int32)).toNatClampNeg]? = some (.int s3) := H302.at in302 rfl
    refine stp (fun _ => X294.caload hx (j := (3 : Int32)) (v := (.int s3)) (by rw [e294]; exact Ar302.1) (State.isArrayOf_alike hZ.alike Ar302.2.1) Ar302.2.2 in302 at302 (g := (mkF m 221 #[.val (.ref ca), .val (.int n)] [(.int (3 : Int32)), (.ref ca), (.int (3 : Int32)), (.ref b267), (.ref b267), (.ref b262), (.ref b262)])) rfl rfl (hb hby d2_221) _) ?_
    show Go p e below T294 (mkF m 222 #[.val (.ref ca), .val (.int n)] [(.int s3), (.int (3 : Int32)), (.ref b267), (.ref b267), (.ref b262), (.ref b262)]) _
    obtain ⟨cl303, Ar303, q303, S303, M303, H303, G303⟩ := (id V294)
    have in303 : ¬ ((3 : Int32) < 0 ∨ cl303.slots.size ≤ ((3 : Int32)).toNatClampNeg) := inb_of S303 ⟨by decide, by decide⟩
    obtain ⟨T303, h303, X303, e303, W303, st303⟩ := stC X294 hx hZ e294 Ar303 (j := (3 : Int32)) in303 (g := (mkF m 222 #[.val (.ref ca), .val (.int n)] [(.int s3), (.int (3 : Int32)), (.ref b267), (.ref b267), (.ref b262), (.ref b262)])) rfl rfl (hb hby d2_222)
    have V303 : Arv Z h303 b267 k267 .char (6 : Int32) [(.int s0), (.int s1), (.int s2), (.int s3), (.int (0 : Int32)), (.int (0 : Int32))] (.int (0 : Int32)) := Arv.set Ar303 q303 S303 M303 H303 G303 (ow_fits_char (own_cs16 hs3)) (ow_wr_char (own_cs16 hs3) W303) 3 rfl (Nat.le_of_ble_eq_true rfl)
    have f304 := f295.other W303 ne269
    have f305 := Safe.wr W303 (Safe.exa hZ.alike f300 (by decide) (by decide)) CR.1 f296
    have f306 := f297.wr W303
    have f307 := f298.other W303 (Or.inl ne268)
    have f308 := f299.other W303 (Or.inl ne268)
    have f309 := f300.wr W303
    have hk := Nat.le_trans hk (Keep.of_wr W303).1
    have CR := CR.trans (CHr.wr W303 (Safe.exa hZ.alike f300 (by decide) (by decide)) CR.1)
    have K303 : Keep h0 h303 [] := K294.wr W303 (Or.inr sz_b267)
    have O303 := O294.wr W303 ge_b267
    have N303 := Fr.snoc X303 N294 ge_b267
    refine stp st303 ?_
    show Go p e below T303 (mkF m 223 #[.val (.ref ca), .val (.int n)] [(.ref b267), (.ref b262), (.ref b262)]) _
    refine stp (fun _ => XS.dup X303.here hx rfl (hb hby d2_223) rfl rfl) ?_
    refine stp (fun _ => XS.iconst X303.here hx rfl (hb hby d2_224)) ?_
    refine stp (fun _ => XS.aloadN X303.here hx rfl (hb hby d2_225) rfl rfl) ?_
    refine stp (fun _ => XS.iconst X303.here hx rfl (hb hby d2_226)) ?_
    show Go p e below T303 (mkF m 227 #[.val (.ref ca), .val (.int n)] [(.int (4 : Int32)), (.ref ca), (.int (4 : Int32)), (.ref b267), (.ref b267), (.ref b262), (.ref b262)]) _
    obtain ⟨cl311, Ar311, q311, S311, M311, H311, G311⟩ := (id f304)
    have in311 : ¬ ((4 : Int32) < 0 ∨ cl311.slots.size ≤ ((4 : Int32)).toNatClampNeg) := inb_of S311 ⟨by decide, by decide⟩
    have at311 : cl311.slots[((4 : Int32)).toNatClampNeg]? = some (.int s4) := H311.at in311 rfl
    refine stp (fun _ => X303.caload hx (j := (4 : Int32)) (v := (.int s4)) (by rw [e303]; exact Ar311.1) (State.isArrayOf_alike hZ.alike Ar311.2.1) Ar311.2.2 in311 at311 (g := (mkF m 227 #[.val (.ref ca), .val (.int n)] [(.int (4 : Int32)), (.ref ca), (.int (4 : Int32)), (.ref b267), (.ref b267), (.ref b262), (.ref b262)])) rfl rfl (hb hby d2_227) _) ?_
    show Go p e below T303 (mkF m 228 #[.val (.ref ca), .val (.int n)] [(.int s4), (.int (4 : Int32)), (.ref b267), (.ref b267), (.ref b262), (.ref b262)]) _
    obtain ⟨cl312, Ar312, q312, S312, M312, H312, G312⟩ := (id V303)
    have in312 : ¬ ((4 : Int32) < 0 ∨ cl312.slots.size ≤ ((4 : Int32)).toNatClampNeg) := inb_of S312 ⟨by decide, by decide⟩
    obtain ⟨T312, h312, X312, e312, W312, st312⟩ := stC X303 hx hZ e303 Ar312 (j := (4 : Int32)) in312 (g := (mkF m 228 #[.val (.ref ca), .val (.int n)] [(.int s4), (.int (4 : Int32)), (.ref b267), (.ref b267), (.ref b262), (.ref b262)])) rfl rfl (hb hby d2_228)
    have V312 : Arv Z h312 b267 k267 .char (6 : Int32) [(.int s0), (.int s1), (.int s2), (.int s3), (.int s4), (.int (0 : Int32))] (.int (0 : Int32)) := Arv.set Ar312 q312 S312 M312 H312 G312 (ow_fits_char (own_cs16 hs4)) (ow_wr_char (own_cs16 hs4) W312) 4 rfl (Nat.le_of_ble_eq_true rfl)
    have f313 := f304.other W312 ne269
    have f314 := Safe.wr W312 (Safe.exa hZ.alike f309 (by decide) (by decide)) CR.1 f305
    have f315 := f306.wr W312
    have f316 := f307.other W312 (Or.inl ne268)
    have f317 := f308.other W312 (Or.inl ne268)
    have f318 := f309.wr W312
    have hk := Nat.le_trans hk (Keep.of_wr W312).1
    have CR := CR.trans (CHr.wr W312 (Safe.exa hZ.alike f309 (by decide) (by decide)) CR.1)
    have K312 : Keep h0 h312 [] := K303.wr W312 (Or.inr sz_b267)
    have O312 := O303.wr W312 ge_b267
    have N312 := Fr.snoc X312 N303 ge_b267
    refine stp st312 ?_
    show Go p e below T312 (mkF m 229 #[.val (.ref ca), .val (.int n)] [(.ref b267), (.ref b262), (.ref b262)]) _
    refine stp (fun _ => XS.dup X312.here hx rfl (hb hby d2_229) rfl rfl) ?_
    refine stp (fun _ => XS.iconst X312.here hx rfl (hb hby d2_230)) ?_
    refine stp (fun _ => XS.aloadN X312.here hx rfl (hb hby d2_231) rfl rfl) ?_
    refine stp (fun _ => XS.iconst X312.here hx rfl (hb hby d2_232)) ?_
    show Go p e below T312 (mkF m 233 #[.val (.ref ca), .val (.int n)] [(.int (5 : Int32)), (.ref ca), (.int (5 : Int32)), (.ref b267), (.ref b267), (.ref b262), (.ref b262)]) _
    obtain ⟨cl320, Ar320, q320, S320, M320, H320, G320⟩ := (id f313)
    have in320 : ¬ ((5 : Int32) < 0 ∨ cl320.slots.size ≤ ((5 : Int32)).toNatClampNeg) := inb_of S320 ⟨by decide, by decide⟩
    have at320 : cl320.slots[((5 : Int32)).toNatClampNeg]? = some (.int s5) := H320.at in320 rfl
    refine stp (fun _ => X312.caload hx (j := (5 : Int32)) (v := (.int s5)) (by rw [e312]; exact Ar320.1) (State.isArrayOf_alike hZ.alike Ar320.2.1) Ar320.2.2 in320 at320 (g := (mkF m 233 #[.val (.ref ca), .val (.int n)] [(.int (5 : Int32)), (.ref ca), (.int (5 : Int32)), (.ref b267), (.ref b267), (.ref b262), (.ref b262)])) rfl rfl (hb hby d2_233) _) ?_
    show Go p e below T312 (mkF m 234 #[.val (.ref ca), .val (.int n)] [(.int s5), (.int (5 : Int32)), (.ref b267), (.ref b267), (.ref b262), (.ref b262)]) _
    obtain ⟨cl321, Ar321, q321, S321, M321, H321, G321⟩ := (id V312)
    have in321 : ¬ ((5 : Int32) < 0 ∨ cl321.slots.size ≤ ((5 : Int32)).toNatClampNeg) := inb_of S321 ⟨by decide, by decide⟩
    obtain ⟨T321, h321, X321, e321, W321, st321⟩ := stC X312 hx hZ e312 Ar321 (j := (5 : Int32)) in321 (g := (mkF m 234 #[.val (.ref ca), .val (.int n)] [(.int s5), (.int (5 : Int32)), (.ref b267), (.ref b267), (.ref b262), (.ref b262)])) rfl rfl (hb hby d2_234)
    have V321 : Arv Z h321 b267 k267 .char (6 : Int32) [(.int s0), (.int s1), (.int s2), (.int s3), (.int s4), (.int s5)] (.int (0 : Int32)) := Arv.set Ar321 q321 S321 M321 H321 G321 (ow_fits_char (own_cs16 hs5)) (ow_wr_char (own_cs16 hs5) W321) 5 rfl (Nat.le_of_ble_eq_true rfl)
    have f322 := f313.other W321 ne269
    have f323 := Safe.wr W321 (Safe.exa hZ.alike f318 (by decide) (by decide)) CR.1 f314
    have f324 := f315.wr W321
    have f325 := f316.other W321 (Or.inl ne268)
    have f326 := f317.other W321 (Or.inl ne268)
    have f327 := f318.wr W321
    have hk := Nat.le_trans hk (Keep.of_wr W321).1
    have CR := CR.trans (CHr.wr W321 (Safe.exa hZ.alike f318 (by decide) (by decide)) CR.1)
    have K321 : Keep h0 h321 [] := K312.wr W321 (Or.inr sz_b267)
    have O321 := O312.wr W321 ge_b267
    have N321 := Fr.snoc X321 N312 ge_b267
    refine stp st321 ?_
    show Go p e below T321 (mkF m 235 #[.val (.ref ca), .val (.int n)] [(.ref b267), (.ref b262), (.ref b262)]) _
    have V329 : Arf Z h321 b267 k267 .char ([s0, s1, s2, s3, s4, s5] : List Int32).length (fun i => (.int (own_at ([s0, s1, s2, s3, s4, s5] : List Int32) i))) := (Arv.arf V321 rfl).congr (fun i _ => own_atv ([s0, s1, s2, s3, s4, s5] : List Int32) i)
    obtain ⟨_, _, ⟨T330, L330, k330, n330⟩, -, X330, ⟨Lc330, hQ330, l330, y330, z330⟩, st330⟩ := X321.specialBack hx (y := (⟨"java/lang/String", "<init>", "([C)V"⟩ : MethodName)) rfl hown (mvT hZ (hw _ (List.mem_of_getElem? (i := 12) rfl))) (mvT hZ (hw _ (List.mem_of_getElem? (i := 13) rfl))) (mvT hZ (hw _ (List.mem_of_getElem? (i := 14) rfl))) (by decide) (backOf (W := 1) (rm_u1 l Z a0 hw [] b262 b267 ([s0, s1, s2, s3, s4, s5] : List Int32) cz k267 h321 n0 O321 f324 f325 f326 V329 S_COMPACT_STRINGS S__assertionsDisabled S_HI_BYTE_SHIFT S_LO_BYTE_SHIFT ge_b262 (Ne.symm ne268) hcz (Nat.le_of_ble_eq_true rfl) (own_m1 (P := (fun c => ¬ c < 0 ∧ ¬ (65535 : Int32) < c)) hs0 (own_m1 (P := (fun c => ¬ c < 0 ∧ ¬ (65535 : Int32) < c)) hs1 (own_m1 (P := (fun c => ¬ c < 0 ∧ ¬ (65535 : Int32) < c)) hs2 (own_m1 (P := (fun c => ¬ c < 0 ∧ ¬ (65535 : Int32) < c)) hs3 (own_m1 (P := (fun c => ¬ c < 0 ∧ ¬ (65535 : Int32) < c)) hs4 (own_m1 (P := (fun c => ¬ c < 0 ∧ ¬ (65535 : Int32) < c)) hs5 (own_m0 (P := (fun c => ¬ c < 0 ∧ ¬ (65535 : Int32) < c))))))))) (Nat.succ_pos _)) hZ (hw _ (List.mem_of_getElem? (i := 14) rfl)) (hw _ (List.mem_of_getElem? (i := 11) rfl)) (by decide) (by decide)) (g := (mkF m 235 #[.val (.ref ca), .val (.int n)] [(.ref b267), (.ref b262), (.ref b262)])) rfl (by rw [hml]; rfl) (Steps.refl _) (a := b262) (argsL := [(.ref b267)]) (rest := [(.ref b262)]) (lenOf pd_14 rfl) rfl (by show 2 * 0 + _ ≤ _; exact Nat.le_of_eq rfl) (hb hby d2_235) (fun _ _ => ⟨rfl, e321, (by decide : 2 + 2 ≤ _), (by decide : 10 + 30 ≤ _)⟩)
    dsimp only [Pt.U, Pt.locs, Pt.cells, Pt.slots] at X330 l330 y330 z330 st330 hQ330
    subst y330 z330
    obtain ⟨rfl, N330q, K330q, r330_0⟩ := hQ330
    have N330 : Fr n0 L330 := by rw [l330]; exact Fr.app N321 N330q
    have f331 := f322.keep K330q (ninS ne263 nin0)
    have f332 := f323.keep K330q (sfS f323 sf0) CR.1
    have f333 := f324.keep K330q
    have f334 := f327.keep K330q
    have f335 := V329.keep K330q (ninS (Ne.symm ne268) nin0)
    have hk := Nat.le_trans hk K330q.1
    have CR := CR.trans (CHr.keep K330q (sfS f323 sf0) CR.1)
    have K330 : Keep h0 T330.heap [] := K321.trans K330q (allS (Or.inr sz_b262) all0)
    have O330 := O321.keep K330q (allS ge_b262 all0)
    refine stt st330 ?_
    show Go p e below T330 (mkF m 238 #[.val (.ref ca), .val (.int n)] [(.ref b262)]) _
    refine outAW X330 hx hZ hEL rfl hS hk CR hret rfl rfl (hb hby d2_238) hlk (by decide) (by decide) ?_
    exact ⟨b262, rfl, N330, K330, ⟨ge_b262, sz_b262⟩, (own_ucs_of (by simp only [own_mk, if_neg q1_1, if_neg q17_21, if_neg q39_51, if_neg q67_90, if_neg q101_138, if_neg q141_195, if_pos q188_261]) r330_0)⟩
  refine stp (fun _ => XS.icmpYes X0.here hx rfl (pc0 := 188) (pc' := 239) rfl (hb hby d2_188) rfl (XT.ii_ne_t q188_261) (by decide) (by decide)) ?_
  show Go p e below T0 (mkF m 239 #[.val (.ref ca), .val (.int n)] []) _
  refine stp (fun _ => XS.iloadN X0.here hx rfl (hb hby d2_239) rfl) ?_
  refine stp (fun _ => XS.bipush X0.here hx rfl (hb hby d2_240)) ?_
  show Go p e below T0 (mkF m 242 #[.val (.ref ca), .val (.int n)] [(.int (7 : Int32)), (.int n)]) _
  by_cases q242_336 : n = (7 : Int32)
  · refine stp (fun _ => XS.icmpNo X0.here hx rfl (hb hby d2_242) rfl (XT.ii_ne_f q242_336)) ?_
    show Go p e below T0 (mkF m 245 #[.val (.ref ca), .val (.int n)] []) _
    obtain ⟨T337, h337, X337, e337, E337, A337, D337, -, st337⟩ := newO X0 hx hZ hown (hw _ (List.mem_of_getElem? (i := 9) rfl)) (hw _ (List.mem_of_getElem? (i := 10) rfl)) (hw _ (List.mem_of_getElem? (i := 11) rfl)) e0 (g := (mkF m 245 #[.val (.ref ca), .val (.int n)] [])) rfl (hb hby d2_245) (by decide) (by decide)
    obtain ⟨b337, g337⟩ : ∃ z, z = h0.size := ⟨_, rfl⟩
    rw [← g337] at A337 D337 st337
    have ne338 : ca ≠ b337 := Nat.ne_of_lt (Nat.lt_of_lt_of_le V_ca.lt (Nat.le_of_eq g337.symm))
    have sz_b337 : h0.size ≤ b337 := Nat.le_trans (Keep.refl h0 []).1 (Nat.le_of_eq g337.symm)
    have ge_b337 : n0 ≤ b337 := Nat.le_trans (old_le O0) (Nat.le_of_eq g337.symm)
    have f339 := V_ca.ext E337
    have Sf337 := (Safe.new (Z := Z) (EL := consts_1) (Nat.le_of_eq g337.symm)).ext E337 CR.1
    have hk := Nat.le_trans hk E337.1
    have CR := CR.trans (CHr.ext E337 CR.1)
    have K337 : Keep h0 h337 [] := (Keep.refl h0 []).ext E337
    have O337 := O0.ext E337
    have F340 : Fld Z h337 b337 "java/lang/String" "value" "[B" .null := D337 (Or.inr (hw _ (List.mem_of_getElem? (i := 24) rfl))) (ty := (.array .byte)) (by decide)
    have F341 : Fld Z h337 b337 "java/lang/String" "coder" "B" (.int (0 : Int32)) := D337 (Or.inr (hw _ (List.mem_of_getElem? (i := 25) rfl))) (ty := .byte) (by decide)
    refine stp st337 ?_
    show Go p e below T337 (mkF m 248 #[.val (.ref ca), .val (.int n)] [(.ref b337)]) _
    refine stp (fun _ => XS.dup X337.here hx rfl (hb hby d2_248) rfl rfl) ?_
    refine stp (fun _ => XS.bipush X337.here hx rfl (hb hby d2_249)) ?_
    show Go p e below T337 (mkF m 251 #[.val (.ref ca), .val (.int n)] [(.int (7 : Int32)), (.ref b337), (.ref b337)]) _
    obtain ⟨T342, h342, k342, X342, e342, E342, A342, B342, st342⟩ := newPE X337 hx hZ (hw _ (List.mem_of_getElem? (i := 1) rfl)) e337 (g := (mkF m 251 #[.val (.ref ca), .val (.int n)] [(.int (7 : Int32)), (.ref b337), (.ref b337)])) rfl (hb hby d2_251) rfl (by decide) (cap := 7) (by decide) (by decide) (by decide) (by decide) (ad := "[C") (by decide)
    obtain ⟨b342, g342⟩ : ∃ z, z = h337.size := ⟨_, rfl⟩
    rw [← g342] at A342 B342 st342
    have ne343 : b337 ≠ b342 := Nat.ne_of_lt (Nat.lt_of_lt_of_le A337.lt (Nat.le_of_eq g342.symm))
    have ne344 : ca ≠ b342 := Nat.ne_of_lt (Nat.lt_of_lt_of_le f339.lt (Nat.le_of_eq g342.symm))
    have sz_b342 : h0.size ≤ b342 := Nat.le_trans K337.1 (Nat.le_of_eq g342.symm)
    have ge_b342 : n0 ≤ b342 := Nat.le_trans (old_le O337) (Nat.le_of_eq g342.symm)
    have f345 := f339.ext E342
    have f346 := Sf337.ext E342 CR.1
    have f347 := A337.ext E342
    have f348 := F340.ext E342
    have f349 := F341.ext E342
    have hk := Nat.le_trans hk E342.1
    have CR := CR.trans (CHr.ext E342 CR.1)
    have K342 : Keep h0 h342 [] := K337.ext E342
    have O342 := O337.ext E342
    have V342 : Arv Z h342 b342 k342 .char (7 : Int32) [(.int (0 : Int32)), (.int (0 : Int32)), (.int (0 : Int32)), (.int (0 : Int32)), (.int (0 : Int32)), (.int (0 : Int32)), (.int (0 : Int32))] (.int (0 : Int32)) := (Arv.new A342 (by decide)).pad (pad_rep [] (.int (0 : Int32)) 7)
    refine stp st342 ?_
    show Go p e below T342 (mkF m 253 #[.val (.ref ca), .val (.int n)] [(.ref b342), (.ref b337), (.ref b337)]) _
    refine stp (fun _ => XS.dup X342.here hx rfl (hb hby d2_253) rfl rfl) ?_
    refine stp (fun _ => XS.iconst X342.here hx rfl (hb hby d2_254)) ?_
    refine stp (fun _ => XS.aloadN X342.here hx rfl (hb hby d2_255) rfl rfl) ?_
    refine stp (fun _ => XS.iconst X342.here hx rfl (hb hby d2_256)) ?_
    show Go p e below T342 (mkF m 257 #[.val (.ref ca), .val (.int n)] [(.int (0 : Int32)), (.ref ca), (.int (0 : Int32)), (.ref b342), (.ref b342), (.ref b337), (.ref b337)]) _
    obtain ⟨cl350, Ar350, q350, S350, M350, H350, G350⟩ := (id f345)
    have in350 : ¬ ((0 : Int32) < 0 ∨ cl350.slots.size ≤ ((0 : Int32)).toNatClampNeg) := inb_of S350 ⟨by decide, by decide⟩
    have at350 : cl350.slots[((0 : Int32)).toNatClampNeg]? = some (.int s0) := H350.at in350 rfl
    refine stp (fun _ => X342.caload hx (j := (0 : Int32)) (v := (.int s0)) (by rw [e342]; exact Ar350.1) (State.isArrayOf_alike hZ.alike Ar350.2.1) Ar350.2.2 in350 at350 (g := (mkF m 257 #[.val (.ref ca), .val (.int n)] [(.int (0 : Int32)), (.ref ca), (.int (0 : Int32)), (.ref b342), (.ref b342), (.ref b337), (.ref b337)])) rfl rfl (hb hby d2_257) _) ?_
    show Go p e below T342 (mkF m 258 #[.val (.ref ca), .val (.int n)] [(.int s0), (.int (0 : Int32)), (.ref b342), (.ref b342), (.ref b337), (.ref b337)]) _
    obtain ⟨cl351, Ar351, q351, S351, M351, H351, G351⟩ := (id V342)
    have in351 : ¬ ((0 : Int32) < 0 ∨ cl351.slots.size ≤ ((0 : Int32)).toNatClampNeg) := inb_of S351 ⟨by decide, by decide⟩
    obtain ⟨T351, h351, X351, e351, W351, st351⟩ := stC X342 hx hZ e342 Ar351 (j := (0 : Int32)) in351 (g := (mkF m 258 #[.val (.ref ca), .val (.int n)] [(.int s0), (.int (0 : Int32)), (.ref b342), (.ref b342), (.ref b337), (.ref b337)])) rfl rfl (hb hby d2_258)
    have V351 : Arv Z h351 b342 k342 .char (7 : Int32) [(.int s0), (.int (0 : Int32)), (.int (0 : Int32)), (.int (0 : Int32)), (.int (0 : Int32)), (.int (0 : Int32)), (.int (0 : Int32))] (.int (0 : Int32)) := Arv.set Ar351 q351 S351 M351 H351 G351 (ow_fits_char (own_cs16 hs0)) (ow_wr_char (own_cs16 hs0) W351) 0 rfl (Nat.le_of_ble_eq_true rfl)
    have f352 := f345.other W351 ne344
    have f353 := Safe.wr W351 (Safe.exa hZ.alike B342 (by decide) (by decide)) CR.1 f346
    have f354 := f347.wr W351
    have f355 := f348.other W351 (Or.inl ne343)
    have f356 := f349.other W351 (Or.inl ne343)
    have f357 := B342.wr W351
    have hk := Nat.le_trans hk (Keep.of_wr W351).1
    have CR := CR.trans (CHr.wr W351 (Safe.exa hZ.alike B342 (by decide) (by decide)) CR.1)
    have K351 : Keep h0 h351 [] := K342.wr W351 (Or.inr sz_b342)
    have O351 := O342.wr W351 ge_b342
    have N351 := Fr.snoc X351 N0 ge_b342
    refine stp st351 ?_
    show Go p e below T351 (mkF m 259 #[.val (.ref ca), .val (.int n)] [(.ref b342), (.ref b337), (.ref b337)]) _
    refine stp (fun _ => XS.dup X351.here hx rfl (hb hby d2_259) rfl rfl) ?_
    refine stp (fun _ => XS.iconst X351.here hx rfl (hb hby d2_260)) ?_
    refine stp (fun _ => XS.aloadN X351.here hx rfl (hb hby d2_261) rfl rfl) ?_
    refine stp (fun _ => XS.iconst X351.here hx rfl (hb hby d2_262)) ?_
    show Go p e below T351 (mkF m 263 #[.val (.ref ca), .val (.int n)] [(.int (1 : Int32)), (.ref ca), (.int (1 : Int32)), (.ref b342), (.ref b342), (.ref b337), (.ref b337)]) _
    obtain ⟨cl359, Ar359, q359, S359, M359, H359, G359⟩ := (id f352)
    have in359 : ¬ ((1 : Int32) < 0 ∨ cl359.slots.size ≤ ((1 : Int32)).toNatClampNeg) := inb_of S359 ⟨by decide, by decide⟩
    have at359 : cl359.slots[((1 : Int32)).toNatClampNeg]? = some (.int s1) := H359.at in359 rfl
    refine stp (fun _ => X351.caload hx (j := (1 : Int32)) (v := (.int s1)) (by rw [e351]; exact Ar359.1) (State.isArrayOf_alike hZ.alike Ar359.2.1) Ar359.2.2 in359 at359 (g := (mkF m 263 #[.val (.ref ca), .val (.int n)] [(.int (1 : Int32)), (.ref ca), (.int (1 : Int32)), (.ref b342), (.ref b342), (.ref b337), (.ref b337)])) rfl rfl (hb hby d2_263) _) ?_
    show Go p e below T351 (mkF m 264 #[.val (.ref ca), .val (.int n)] [(.int s1), (.int (1 : Int32)), (.ref b342), (.ref b342), (.ref b337), (.ref b337)]) _
    obtain ⟨cl360, Ar360, q360, S360, M360, H360, G360⟩ := (id V351)
    have in360 : ¬ ((1 : Int32) < 0 ∨ cl360.slots.size ≤ ((1 : Int32)).toNatClampNeg) := inb_of S360 ⟨by decide, by decide⟩
    obtain ⟨T360, h360, X360, e360, W360, st360⟩ := stC X351 hx hZ e351 Ar360 (j := (1 : Int32)) in360 (g := (mkF m 264 #[.val (.ref ca), .val (.int n)] [(.int s1), (.int (1 : Int32)), (.ref b342), (.ref b342), (.ref b337), (.ref b337)])) rfl rfl (hb hby d2_264)
    have V360 : Arv Z h360 b342 k342 .char (7 : Int32) [(.int s0), (.int s1), (.int (0 : Int32)), (.int (0 : Int32)), (.int (0 : Int32)), (.int (0 : Int32)), (.int (0 : Int32))] (.int (0 : Int32)) := Arv.set Ar360 q360 S360 M360 H360 G360 (ow_fits_char (own_cs16 hs1)) (ow_wr_char (own_cs16 hs1) W360) 1 rfl (Nat.le_of_ble_eq_true rfl)
    have f361 := f352.other W360 ne344
    have f362 := Safe.wr W360 (Safe.exa hZ.alike f357 (by decide) (by decide)) CR.1 f353
    have f363 := f354.wr W360
    have f364 := f355.other W360 (Or.inl ne343)
    have f365 := f356.other W360 (Or.inl ne343)
    have f366 := f357.wr W360
    have hk := Nat.le_trans hk (Keep.of_wr W360).1
    have CR := CR.trans (CHr.wr W360 (Safe.exa hZ.alike f357 (by decide) (by decide)) CR.1)
    have K360 : Keep h0 h360 [] := K351.wr W360 (Or.inr sz_b342)
    have O360 := O351.wr W360 ge_b342
    have N360 := Fr.snoc X360 N351 ge_b342
    refine stp st360 ?_
    show Go p e below T360 (mkF m 265 #[.val (.ref ca), .val (.int n)] [(.ref b342), (.ref b337), (.ref b337)]) _
    refine stp (fun _ => XS.dup X360.here hx rfl (hb hby d2_265) rfl rfl) ?_
    refine stp (fun _ => XS.iconst X360.here hx rfl (hb hby d2_266)) ?_
    refine stp (fun _ => XS.aloadN X360.here hx rfl (hb hby d2_267) rfl rfl) ?_
    refine stp (fun _ => XS.iconst X360.here hx rfl (hb hby d2_268)) ?_
    show Go p e below T360 (mkF m 269 #[.val (.ref ca), .val (.int n)] [(.int (2 : Int32)), (.ref ca), (.int (2 : Int32)), (.ref b342), (.ref b342), (.ref b337), (.ref b337)]) _
    obtain ⟨cl368, Ar368, q368, S368, M368, H368, G368⟩ := (id f361)
    have in368 : ¬ ((2 : Int32) < 0 ∨ cl368.slots.size ≤ ((2 : Int32)).toNatClampNeg) := inb_of S368 ⟨by decide, by decide⟩
    have at368 : cl368.slots[((2 : Int32)).toNatClampNeg]? = some (.int s2) := H368.at in368 rfl
    refine stp (fun _ => X360.caload hx (j := (2 : Int32)) (v := (.int s2)) (by rw [e360]; exact Ar368.1) (State.isArrayOf_alike hZ.alike Ar368.2.1) Ar368.2.2 in368 at368 (g := (mkF m 269 #[.val (.ref ca), .val (.int n)] [(.int (2 : Int32)), (.ref ca), (.int (2 : Int32)), (.ref b342), (.ref b342), (.ref b337), (.ref b337)])) rfl rfl (hb hby d2_269) _) ?_
    show Go p e below T360 (mkF m 270 #[.val (.ref ca), .val (.int n)] [(.int s2), (.int (2 : Int32)), (.ref b342), (.ref b342), (.ref b337), (.ref b337)]) _
    obtain ⟨cl369, Ar369, q369, S369, M369, H369, G369⟩ := (id V360)
    have in369 : ¬ ((2 : Int32) < 0 ∨ cl369.slots.size ≤ ((2 : Int32)).toNatClampNeg) := inb_of S369 ⟨by decide, by decide⟩
    obtain ⟨T369, h369, X369, e369, W369, st369⟩ := stC X360 hx hZ e360 Ar369 (j := (2 : Int32)) in369 (g := (mkF m 270 #[.val (.ref ca), .val (.int n)] [(.int s2), (.int (2 : Int32)), (.ref b342), (.ref b342), (.ref b337), (.ref b337)])) rfl rfl (hb hby d2_270)
    have V369 : Arv Z h369 b342 k342 .char (7 : Int32) [(.int s0), (.int s1), (.int s2), (.int (0 : Int32)), (.int (0 : Int32)), (.int (0 : Int32)), (.int (0 : Int32))] (.int (0 : Int32)) := Arv.set Ar369 q369 S369 M369 H369 G369 (ow_fits_char (own_cs16 hs2)) (ow_wr_char (own_cs16 hs2) W369) 2 rfl (Nat.le_of_ble_eq_true rfl)
    have f370 := f361.other W369 ne344
    have f371 := Safe.wr W369 (Safe.exa hZ.alike f366 (by decide) (by decide)) CR.1 f362
    have f372 := f363.wr W369
    have f373 := f364.other W369 (Or.inl ne343)
    have f374 := f365.other W369 (Or.inl ne343)
    have f375 := f366.wr W369
    have hk := Nat.le_trans hk (Keep.of_wr W369).1
    have CR := CR.trans (CHr.wr W369 (Safe.exa hZ.alike f366 (by decide) (by decide)) CR.1)
    have K369 : Keep h0 h369 [] := K360.wr W369 (Or.inr sz_b342)
    have O369 := O360.wr W369 ge_b342
    have N369 := Fr.snoc X369 N360 ge_b342
    refine stp st369 ?_
    show Go p e below T369 (mkF m 271 #[.val (.ref ca), .val (.int n)] [(.ref b342), (.ref b337), (.ref b337)]) _
    refine stp (fun _ => XS.dup X369.here hx rfl (hb hby d2_271) rfl rfl) ?_
    refine stp (fun _ => XS.iconst X369.here hx rfl (hb hby d2_272)) ?_
    refine stp (fun _ => XS.aloadN X369.here hx rfl (hb hby d2_273) rfl rfl) ?_
    refine stp (fun _ => XS.iconst X369.here hx rfl (hb hby d2_274)) ?_
    show Go p e below T369 (mkF m 275 #[.val (.ref ca), .val (.int n)] [(.int (3 : Int32)), (.ref ca), (.int (3 : Int32)), (.ref b342), (.ref b342), (.ref b337), (.ref b337)]) _
    obtain ⟨cl377, Ar377, q377, S377, M377, H377, G377⟩ := (id f370)
    have in377 : ¬ ((3 : Int32) < 0 ∨ cl377.slots.size ≤ ((3 : Int32)).toNatClampNeg) := inb_of S377 ⟨by decide, by decide⟩
    have at377 : cl377.slots[((3 : Int32)).toNatClampNeg]? = some (.int s3) := H377.at in377 rfl
    refine stp (fun _ => X369.caload hx (j := (3 : Int32)) (v := (.int s3)) (by rw [e369]; exact Ar377.1) (State.isArrayOf_alike hZ.alike Ar377.2.1) Ar377.2.2 in377 at377 (g := (mkF m 275 #[.val (.ref ca), .val (.int n)] [(.int (3 : Int32)), (.ref ca), (.int (3 : Int32)), (.ref b342), (.ref b342), (.ref b337), (.ref b337)])) rfl rfl (hb hby d2_275) _) ?_
    show Go p e below T369 (mkF m 276 #[.val (.ref ca), .val (.int n)] [(.int s3), (.int (3 : Int32)), (.ref b342), (.ref b342), (.ref b337), (.ref b337)]) _
    obtain ⟨cl378, Ar378, q378, S378, M378, H378, G378⟩ := (id V369)
    have in378 : ¬ ((3 : Int32) < 0 ∨ cl378.slots.size ≤ ((3 : Int32)).toNatClampNeg) := inb_of S378 ⟨by decide, by decide⟩
    obtain ⟨T378, h378, X378, e378, W378, st378⟩ := stC X369 hx hZ e369 Ar378 (j := (3 : Int32)) in378 (g := (mkF m 276 #[.val (.ref ca), .val (.int n)] [(.int s3), (.int (3 : Int32)), (.ref b342), (.ref b342), (.ref b337), (.ref b337)])) rfl rfl (hb hby d2_276)
    have V378 : Arv Z h378 b342 k342 .char (7 : Int32) [(.int s0), (.int s1), (.int s2), (.int s3), (.int (0 : Int32)), (.int (0 : Int32)), (.int (0 : Int32))] (.int (0 : Int32)) := Arv.set Ar378 q378 S378 M378 H378 G378 (ow_fits_char (own_cs16 hs3)) (ow_wr_char (own_cs16 hs3) W378) 3 rfl (Nat.le_of_ble_eq_true rfl)
    have f379 := f370.other W378 ne344
    have f380 := Safe.wr W378 (Safe.exa hZ.alike f375 (by decide) (by decide)) CR.1 f371
    have f381 := f372.wr W378
    have f382 := f373.other W378 (Or.inl ne343)
    have f383 := f374.other W378 (Or.inl ne343)
    have f384 := f375.wr W378
    have hk := Nat.le_trans hk (Keep.of_wr W378).1
    have CR := CR.trans (CHr.wr W378 (Safe.exa hZ.alike f375 (by decide) (by decide)) CR.1)
    have K378 : Keep h0 h378 [] := K369.wr W378 (Or.inr sz_b342)
    have O378 := O369.wr W378 ge_b342
    have N378 := Fr.snoc X378 N369 ge_b342
    refine stp st378 ?_
    show Go p e below T378 (mkF m 277 #[.val (.ref ca), .val (.int n)] [(.ref b342), (.ref b337), (.ref b337)]) _
    refine stp (fun _ => XS.dup X378.here hx rfl (hb hby d2_277) rfl rfl) ?_
    refine stp (fun _ => XS.iconst X378.here hx rfl (hb hby d2_278)) ?_
    refine stp (fun _ => XS.aloadN X378.here hx rfl (hb hby d2_279) rfl rfl) ?_
    refine stp (fun _ => XS.iconst X378.here hx rfl (hb hby d2_280)) ?_
    show Go p e below T378 (mkF m 281 #[.val (.ref ca), .val (.int n)] [(.int (4 : Int32)), (.ref ca), (.int (4 : Int32)), (.ref b342), (.ref b342), (.ref b337), (.ref b337)]) _
    obtain ⟨cl386, Ar386, q386, S386, M386, H386, G386⟩ := (id f379)
    have in386 : ¬ ((4 : Int32) < 0 ∨ cl386.slots.size ≤ ((4 : Int32)).toNatClampNeg) := inb_of S386 ⟨by decide, by decide⟩
    have at386 : cl386.slots[((4 : Int32)).toNatClampNeg]? = some (.int s4) := H386.at in386 rfl
    refine stp (fun _ => X378.caload hx (j := (4 : Int32)) (v := (.int s4)) (by rw [e378]; exact Ar386.1) (State.isArrayOf_alike hZ.alike Ar386.2.1) Ar386.2.2 in386 at386 (g := (mkF m 281 #[.val (.ref ca), .val (.int n)] [(.int (4 : Int32)), (.ref ca), (.int (4 : Int32)), (.ref b342), (.ref b342), (.ref b337), (.ref b337)])) rfl rfl (hb hby d2_281) _) ?_
    show Go p e below T378 (mkF m 282 #[.val (.ref ca), .val (.int n)] [(.int s4), (.int (4 : Int32)), (.ref b342), (.ref b342), (.ref b337), (.ref b337)]) _
    obtain ⟨cl387, Ar387, q387, S387, M387, H387, G387⟩ := (id V378)
    have in387 : ¬ ((4 : Int32) < 0 ∨ cl387.slots.size ≤ ((4 : Int32)).toNatClampNeg) := inb_of S387 ⟨by decide, by decide⟩
    obtain ⟨T387, h387, X387, e387, W387, st387⟩ := stC X378 hx hZ e378 Ar387 (j := (4 : Int32)) in387 (g := (mkF m 282 #[.val (.ref ca), .val (.int n)] [(.int s4), (.int (4 : Int32)), (.ref b342), (.ref b342), (.ref b337), (.ref b337)])) rfl rfl (hb hby d2_282)
    have V387 : Arv Z h387 b342 k342 .char (7 : Int32) [(.int s0), (.int s1), (.int s2), (.int s3), (.int s4), (.int (0 : Int32)), (.int (0 : Int32))] (.int (0 : Int32)) := Arv.set Ar387 q387 S387 M387 H387 G387 (ow_fits_char (own_cs16 hs4)) (ow_wr_char (own_cs16 hs4) W387) 4 rfl (Nat.le_of_ble_eq_true rfl)
    have f388 := f379.other W387 ne344
    have f389 := Safe.wr W387 (Safe.exa hZ.alike f384 (by decide) (by decide)) CR.1 f380
    have f390 := f381.wr W387
    have f391 := f382.other W387 (Or.inl ne343)
    have f392 := f383.other W387 (Or.inl ne343)
    have f393 := f384.wr W387
    have hk := Nat.le_trans hk (Keep.of_wr W387).1
    have CR := CR.trans (CHr.wr W387 (Safe.exa hZ.alike f384 (by decide) (by decide)) CR.1)
    have K387 : Keep h0 h387 [] := K378.wr W387 (Or.inr sz_b342)
    have O387 := O378.wr W387 ge_b342
    have N387 := Fr.snoc X387 N378 ge_b342
    refine stp st387 ?_
    show Go p e below T387 (mkF m 283 #[.val (.ref ca), .val (.int n)] [(.ref b342), (.ref b337), (.ref b337)]) _
    refine stp (fun _ => XS.dup X387.here hx rfl (hb hby d2_283) rfl rfl) ?_
    refine stp (fun _ => XS.iconst X387.here hx rfl (hb hby d2_284)) ?_
    refine stp (fun _ => XS.aloadN X387.here hx rfl (hb hby d2_285) rfl rfl) ?_
    refine stp (fun _ => XS.iconst X387.here hx rfl (hb hby d2_286)) ?_
    show Go p e below T387 (mkF m 287 #[.val (.ref ca), .val (.int n)] [(.int (5 : Int32)), (.ref ca), (.int (5 : Int32)), (.ref b342), (.ref b342), (.ref b337), (.ref b337)]) _
    obtain ⟨cl395, Ar395, q395, S395, M395, H395, G395⟩ := (id f388)
    have in395 : ¬ ((5 : Int32) < 0 ∨ cl395.slots.size ≤ ((5 : Int32)).toNatClampNeg) := inb_of S395 ⟨by decide, by decide⟩
    have at395 : cl395.slots[((5 : Int32)).toNatClampNeg]? = some (.int s5) := H395.at in395 rfl
    refine stp (fun _ => X387.caload hx (j := (5 : Int32)) (v := (.int s5)) (by rw [e387]; exact Ar395.1) (State.isArrayOf_alike hZ.alike Ar395.2.1) Ar395.2.2 in395 at395 (g := (mkF m 287 #[.val (.ref ca), .val (.int n)] [(.int (5 : Int32)), (.ref ca), (.int (5 : Int32)), (.ref b342), (.ref b342), (.ref b337), (.ref b337)])) rfl rfl (hb hby d2_287) _) ?_
    show Go p e below T387 (mkF m 288 #[.val (.ref ca), .val (.int n)] [(.int s5), (.int (5 : Int32)), (.ref b342), (.ref b342), (.ref b337), (.ref b337)]) _
    obtain ⟨cl396, Ar396, q396, S396, M396, H396, G396⟩ := (id V387)
    have in396 : ¬ ((5 : Int32) < 0 ∨ cl396.slots.size ≤ ((5 : Int32)).toNatClampNeg) := inb_of S396 ⟨by decide, by decide⟩
    obtain ⟨T396, h396, X396, e396, W396, st396⟩ := stC X387 hx hZ e387 Ar396 (j := (5 : Int32)) in396 (g := (mkF m 288 #[.val (.ref ca), .val (.int n)] [(.int s5), (.int (5 : Int32)), (.ref b342), (.ref b342), (.ref b337), (.ref b337)])) rfl rfl (hb hby d2_288)
    have V396 : Arv Z h396 b342 k342 .char (7 : Int32) [(.int s0), (.int s1), (.int s2), (.int s3), (.int s4), (.int s5), (.int (0 : Int32))] (.int (0 : Int32)) := Arv.set Ar396 q396 S396 M396 H396 G396 (ow_fits_char (own_cs16 hs5)) (ow_wr_char (own_cs16 hs5) W396) 5 rfl (Nat.le_of_ble_eq_true rfl)
    have f397 := f388.other W396 ne344
    have f398 := Safe.wr W396 (Safe.exa hZ.alike f393 (by decide) (by decide)) CR.1 f389
    have f399 := f390.wr W396
    have f400 := f391.other W396 (Or.inl ne343)
    have f401 := f392.other W396 (Or.inl ne343)
    have f402 := f393.wr W396
    have hk := Nat.le_trans hk (Keep.of_wr W396).1
    have CR := CR.trans (CHr.wr W396 (Safe.exa hZ.alike f393 (by decide) (by decide)) CR.1)
    have K396 : Keep h0 h396 [] := K387.wr W396 (Or.inr sz_b342)
    have O396 := O387.wr W396 ge_b342
    have N396 := Fr.snoc X396 N387 ge_b342
    refine stp st396 ?_
    show Go p e below T396 (mkF m 289 #[.val (.ref ca), .val (.int n)] [(.ref b342), (.ref b337), (.ref b337)]) _
    refine stp (fun _ => XS.dup X396.here hx rfl (hb hby d2_289) rfl rfl) ?_
    refine stp (fun _ => XS.bipush X396.here hx rfl (hb hby d2_290)) ?_
    refine stp (fun _ => XS.aloadN X396.here hx rfl (hb hby d2_292) rfl rfl) ?_
    refine stp (fun _ => XS.bipush X396.here hx rfl (hb hby d2_293)) ?_
    show Go p e below T396 (mkF m 295 #[.val (.ref ca), .val (.int n)] [(.int (6 : Int32)), (.ref ca), (.int (6 : Int32)), (.ref b342), (.ref b342), (.ref b337), (.ref b337)]) _
    obtain ⟨cl404, Ar404, q404, S404, M404, H404, G404⟩ := (id f397)
    have in404 : ¬ ((6 : Int32) < 0 ∨ cl404.slots.size ≤ ((6 : Int32)).toNatClampNeg) := inb_of S404 ⟨by decide, by decide⟩
    have at404 : cl404.slots[((6 : Int32)).toNatClampNeg]? = some (.int s6) := H404.at in404 rfl
    refine stp (fun _ => X396.caload hx (j := (6 : Int32)) (v := (.int s6)) (by rw [e396]; exact Ar404.1) (State.isArrayOf_alike hZ.alike Ar404.2.1) Ar404.2.2 in404 at404 (g := (mkF m 295 #[.val (.ref ca), .val (.int n)] [(.int (6 : Int32)), (.ref ca), (.int (6 : Int32)), (.ref b342), (.ref b342), (.ref b337), (.ref b337)])) rfl rfl (hb hby d2_295) _) ?_
    show Go p e below T396 (mkF m 296 #[.val (.ref ca), .val (.int n)] [(.int s6), (.int (6 : Int32)), (.ref b342), (.ref b342), (.ref b337), (.ref b337)]) _
    obtain ⟨cl405, Ar405, q405, S405, M405, H405, G405⟩ := (id V396)
    have in405 : ¬ ((6 : Int32) < 0 ∨ cl405.slots.size ≤ ((6 : Int32)).toNatClampNeg) := inb_of S405 ⟨by decide, by decide⟩
    obtain ⟨T405, h405, X405, e405, W405, st405⟩ := stC X396 hx hZ e396 Ar405 (j := (6 : Int32)) in405 (g := (mkF m 296 #[.val (.ref ca), .val (.int n)] [(.int s6), (.int (6 : Int32)), (.ref b342), (.ref b342), (.ref b337), (.ref b337)])) rfl rfl (hb hby d2_296)
    have V405 : Arv Z h405 b342 k342 .char (7 : Int32) [(.int s0), (.int s1), (.int s2), (.int s3), (.int s4), (.int s5), (.int s6)] (.int (0 : Int32)) := Arv.set Ar405 q405 S405 M405 H405 G405 (ow_fits_char (own_cs16 hs6)) (ow_wr_char (own_cs16 hs6) W405) 6 rfl (Nat.le_of_ble_eq_true rfl)
    have f406 := f397.other W405 ne344
    have f407 := Safe.wr W405 (Safe.exa hZ.alike f402 (by decide) (by decide)) CR.1 f398
    have f408 := f399.wr W405
    have f409 := f400.other W405 (Or.inl ne343)
    have f410 := f401.other W405 (Or.inl ne343)
    have f411 := f402.wr W405
    have hk := Nat.le_trans hk (Keep.of_wr W405).1
    have CR := CR.trans (CHr.wr W405 (Safe.exa hZ.alike f402 (by decide) (by decide)) CR.1)
    have K405 : Keep h0 h405 [] := K396.wr W405 (Or.inr sz_b342)
    have O405 := O396.wr W405 ge_b342
    have N405 := Fr.snoc X405 N396 ge_b342
    refine stp st405 ?_
    show Go p e below T405 (mkF m 297 #[.val (.ref ca), .val (.int n)] [(.ref b342), (.ref b337), (.ref b337)]) _
    have V413 : Arf Z h405 b342 k342 .char ([s0, s1, s2, s3, s4, s5, s6] : List Int32).length (fun i => (.int (own_at ([s0, s1, s2, s3, s4, s5, s6] : List Int32) i))) := (Arv.arf V405 rfl).congr (fun i _ => own_atv ([s0, s1, s2, s3, s4, s5, s6] : List Int32) i)
    obtain ⟨_, _, ⟨T414, L414, k414, n414⟩, -, X414, ⟨Lc414, hQ414, l414, y414, z414⟩, st414⟩ := X405.specialBack hx (y := (⟨"java/lang/String", "<init>", "([C)V"⟩ : MethodName)) rfl hown (mvT hZ (hw _ (List.mem_of_getElem? (i := 12) rfl))) (mvT hZ (hw _ (List.mem_of_getElem? (i := 13) rfl))) (mvT hZ (hw _ (List.mem_of_getElem? (i := 14) rfl))) (by decide) (backOf (W := 1) (rm_u1 l Z a0 hw [] b337 b342 ([s0, s1, s2, s3, s4, s5, s6] : List Int32) cz k342 h405 n0 O405 f408 f409 f410 V413 S_COMPACT_STRINGS S__assertionsDisabled S_HI_BYTE_SHIFT S_LO_BYTE_SHIFT ge_b337 (Ne.symm ne343) hcz (Nat.le_of_ble_eq_true rfl) (own_m1 (P := (fun c => ¬ c < 0 ∧ ¬ (65535 : Int32) < c)) hs0 (own_m1 (P := (fun c => ¬ c < 0 ∧ ¬ (65535 : Int32) < c)) hs1 (own_m1 (P := (fun c => ¬ c < 0 ∧ ¬ (65535 : Int32) < c)) hs2 (own_m1 (P := (fun c => ¬ c < 0 ∧ ¬ (65535 : Int32) < c)) hs3 (own_m1 (P := (fun c => ¬ c < 0 ∧ ¬ (65535 : Int32) < c)) hs4 (own_m1 (P := (fun c => ¬ c < 0 ∧ ¬ (65535 : Int32) < c)) hs5 (own_m1 (P := (fun c => ¬ c < 0 ∧ ¬ (65535 : Int32) < c)) hs6 (own_m0 (P := (fun c => ¬ c < 0 ∧ ¬ (65535 : Int32) < c)))))))))) (Nat.succ_pos _)) hZ (hw _ (List.mem_of_getElem? (i := 14) rfl)) (hw _ (List.mem_of_getElem? (i := 11) rfl)) (by decide) (by decide)) (g := (mkF m 297 #[.val (.ref ca), .val (.int n)] [(.ref b342), (.ref b337), (.ref b337)])) rfl (by rw [hml]; rfl) (Steps.refl _) (a := b337) (argsL := [(.ref b342)]) (rest := [(.ref b337)]) (lenOf pd_14 rfl) rfl (by show 2 * 0 + _ ≤ _; exact Nat.le_of_eq rfl) (hb hby d2_297) (fun _ _ => ⟨rfl, e405, (by decide : 2 + 2 ≤ _), (by decide : 11 + 30 ≤ _)⟩)
    dsimp only [Pt.U, Pt.locs, Pt.cells, Pt.slots] at X414 l414 y414 z414 st414 hQ414
    subst y414 z414
    obtain ⟨rfl, N414q, K414q, r414_0⟩ := hQ414
    have N414 : Fr n0 L414 := by rw [l414]; exact Fr.app N405 N414q
    have f415 := f406.keep K414q (ninS ne338 nin0)
    have f416 := f407.keep K414q (sfS f407 sf0) CR.1
    have f417 := f408.keep K414q
    have f418 := f411.keep K414q
    have f419 := V413.keep K414q (ninS (Ne.symm ne343) nin0)
    have hk := Nat.le_trans hk K414q.1
    have CR := CR.trans (CHr.keep K414q (sfS f407 sf0) CR.1)
    have K414 : Keep h0 T414.heap [] := K405.trans K414q (allS (Or.inr sz_b337) all0)
    have O414 := O405.keep K414q (allS ge_b337 all0)
    refine stt st414 ?_
    show Go p e below T414 (mkF m 300 #[.val (.ref ca), .val (.int n)] [(.ref b337)]) _
    refine outAW X414 hx hZ hEL rfl hS hk CR hret rfl rfl (hb hby d2_300) hlk (by decide) (by decide) ?_
    exact ⟨b337, rfl, N414, K414, ⟨ge_b337, sz_b337⟩, (own_ucs_of (by simp only [own_mk, if_neg q1_1, if_neg q17_21, if_neg q39_51, if_neg q67_90, if_neg q101_138, if_neg q141_195, if_neg q188_261, if_pos q242_336]) r414_0)⟩
  refine stp (fun _ => XS.icmpYes X0.here hx rfl (pc0 := 242) (pc' := 301) rfl (hb hby d2_242) rfl (XT.ii_ne_t q242_336) (by decide) (by decide)) ?_
  show Go p e below T0 (mkF m 301 #[.val (.ref ca), .val (.int n)] []) _
  refine stp (fun _ => XS.iloadN X0.here hx rfl (hb hby d2_301) rfl) ?_
  refine stp (fun _ => XS.bipush X0.here hx rfl (hb hby d2_302)) ?_
  show Go p e below T0 (mkF m 304 #[.val (.ref ca), .val (.int n)] [(.int (8 : Int32)), (.int n)]) _
  by_cases q304_420 : n = (8 : Int32)
  · refine stp (fun _ => XS.icmpNo X0.here hx rfl (hb hby d2_304) rfl (XT.ii_ne_f q304_420)) ?_
    show Go p e below T0 (mkF m 307 #[.val (.ref ca), .val (.int n)] []) _
    obtain ⟨T421, h421, X421, e421, E421, A421, D421, -, st421⟩ := newO X0 hx hZ hown (hw _ (List.mem_of_getElem? (i := 9) rfl)) (hw _ (List.mem_of_getElem? (i := 10) rfl)) (hw _ (List.mem_of_getElem? (i := 11) rfl)) e0 (g := (mkF m 307 #[.val (.ref ca), .val (.int n)] [])) rfl (hb hby d2_307) (by decide) (by decide)
    obtain ⟨b421, g421⟩ : ∃ z, z = h0.size := ⟨_, rfl⟩
    rw [← g421] at A421 D421 st421
    have ne422 : ca ≠ b421 := Nat.ne_of_lt (Nat.lt_of_lt_of_le V_ca.lt (Nat.le_of_eq g421.symm))
    have sz_b421 : h0.size ≤ b421 := Nat.le_trans (Keep.refl h0 []).1 (Nat.le_of_eq g421.symm)
    have ge_b421 : n0 ≤ b421 := Nat.le_trans (old_le O0) (Nat.le_of_eq g421.symm)
    have f423 := V_ca.ext E421
    have Sf421 := (Safe.new (Z := Z) (EL := consts_1) (Nat.le_of_eq g421.symm)).ext E421 CR.1
    have hk := Nat.le_trans hk E421.1
    have CR := CR.trans (CHr.ext E421 CR.1)
    have K421 : Keep h0 h421 [] := (Keep.refl h0 []).ext E421
    have O421 := O0.ext E421
    have F424 : Fld Z h421 b421 "java/lang/String" "value" "[B" .null := D421 (Or.inr (hw _ (List.mem_of_getElem? (i := 24) rfl))) (ty := (.array .byte)) (by decide)
    have F425 : Fld Z h421 b421 "java/lang/String" "coder" "B" (.int (0 : Int32)) := D421 (Or.inr (hw _ (List.mem_of_getElem? (i := 25) rfl))) (ty := .byte) (by decide)
    refine stp st421 ?_
    show Go p e below T421 (mkF m 310 #[.val (.ref ca), .val (.int n)] [(.ref b421)]) _
    refine stp (fun _ => XS.dup X421.here hx rfl (hb hby d2_310) rfl rfl) ?_
    refine stp (fun _ => XS.bipush X421.here hx rfl (hb hby d2_311)) ?_
    show Go p e below T421 (mkF m 313 #[.val (.ref ca), .val (.int n)] [(.int (8 : Int32)), (.ref b421), (.ref b421)]) _
    obtain ⟨T426, h426, k426, X426, e426, E426, A426, B426, st426⟩ := newPE X421 hx hZ (hw _ (List.mem_of_getElem? (i := 1) rfl)) e421 (g := (mkF m 313 #[.val (.ref ca), .val (.int n)] [(.int (8 : Int32)), (.ref b421), (.ref b421)])) rfl (hb hby d2_313) rfl (by decide) (cap := 8) (by decide) (by decide) (by decide) (by decide) (ad := "[C") (by decide)
    obtain ⟨b426, g426⟩ : ∃ z, z = h421.size := ⟨_, rfl⟩
    rw [← g426] at A426 B426 st426
    have ne427 : b421 ≠ b426 := Nat.ne_of_lt (Nat.lt_of_lt_of_le A421.lt (Nat.le_of_eq g426.symm))
    have ne428 : ca ≠ b426 := Nat.ne_of_lt (Nat.lt_of_lt_of_le f423.lt (Nat.le_of_eq g426.symm))
    have sz_b426 : h0.size ≤ b426 := Nat.le_trans K421.1 (Nat.le_of_eq g426.symm)
    have ge_b426 : n0 ≤ b426 := Nat.le_trans (old_le O421) (Nat.le_of_eq g426.symm)
    have f429 := f423.ext E426
    have f430 := Sf421.ext E426 CR.1
    have f431 := A421.ext E426
    have f432 := F424.ext E426
    have f433 := F425.ext E426
    have hk := Nat.le_trans hk E426.1
    have CR := CR.trans (CHr.ext E426 CR.1)
    have K426 : Keep h0 h426 [] := K421.ext E426
    have O426 := O421.ext E426
    have V426 : Arv Z h426 b426 k426 .char (8 : Int32) [(.int (0 : Int32)), (.int (0 : Int32)), (.int (0 : Int32)), (.int (0 : Int32)), (.int (0 : Int32)), (.int (0 : Int32)), (.int (0 : Int32)), (.int (0 : Int32))] (.int (0 : Int32)) := (Arv.new A426 (by decide)).pad (pad_rep [] (.int (0 : Int32)) 8)
    refine stp st426 ?_
    show Go p e below T426 (mkF m 315 #[.val (.ref ca), .val (.int n)] [(.ref b426), (.ref b421), (.ref b421)]) _
    refine stp (fun _ => XS.dup X426.here hx rfl (hb hby d2_315) rfl rfl) ?_
    refine stp (fun _ => XS.iconst X426.here hx rfl (hb hby d2_316)) ?_
    refine stp (fun _ => XS.aloadN X426.here hx rfl (hb hby d2_317) rfl rfl) ?_
    refine stp (fun _ => XS.iconst X426.here hx rfl (hb hby d2_318)) ?_
    show Go p e below T426 (mkF m 319 #[.val (.ref ca), .val (.int n)] [(.int (0 : Int32)), (.ref ca), (.int (0 : Int32)), (.ref b426), (.ref b426), (.ref b421), (.ref b421)]) _
    obtain ⟨cl434, Ar434, q434, S434, M434, H434, G434⟩ := (id f429)
    have in434 : ¬ ((0 : Int32) < 0 ∨ cl434.slots.size ≤ ((0 : Int32)).toNatClampNeg) := inb_of S434 ⟨by decide, by decide⟩
    have at434 : cl434.slots[((0 : Int32)).toNatClampNeg]? = some (.int s0) := H434.at in434 rfl
    refine stp (fun _ => X426.caload hx (j := (0 : Int32)) (v := (.int s0)) (by rw [e426]; exact Ar434.1) (State.isArrayOf_alike hZ.alike Ar434.2.1) Ar434.2.2 in434 at434 (g := (mkF m 319 #[.val (.ref ca), .val (.int n)] [(.int (0 : Int32)), (.ref ca), (.int (0 : Int32)), (.ref b426), (.ref b426), (.ref b421), (.ref b421)])) rfl rfl (hb hby d2_319) _) ?_
    show Go p e below T426 (mkF m 320 #[.val (.ref ca), .val (.int n)] [(.int s0), (.int (0 : Int32)), (.ref b426), (.ref b426), (.ref b421), (.ref b421)]) _
    obtain ⟨cl435, Ar435, q435, S435, M435, H435, G435⟩ := (id V426)
    have in435 : ¬ ((0 : Int32) < 0 ∨ cl435.slots.size ≤ ((0 : Int32)).toNatClampNeg) := inb_of S435 ⟨by decide, by decide⟩
    obtain ⟨T435, h435, X435, e435, W435, st435⟩ := stC X426 hx hZ e426 Ar435 (j := (0 : Int32)) in435 (g := (mkF m 320 #[.val (.ref ca), .val (.int n)] [(.int s0), (.int (0 : Int32)), (.ref b426), (.ref b426), (.ref b421), (.ref b421)])) rfl rfl (hb hby d2_320)
    have V435 : Arv Z h435 b426 k426 .char (8 : Int32) [(.int s0), (.int (0 : Int32)), (.int (0 : Int32)), (.int (0 : Int32)), (.int (0 : Int32)), (.int (0 : Int32)), (.int (0 : Int32)), (.int (0 : Int32))] (.int (0 : Int32)) := Arv.set Ar435 q435 S435 M435 H435 G435 (ow_fits_char (own_cs16 hs0)) (ow_wr_char (own_cs16 hs0) W435) 0 rfl (Nat.le_of_ble_eq_true rfl)
    have f436 := f429.other W435 ne428
    have f437 := Safe.wr W435 (Safe.exa hZ.alike B426 (by decide) (by decide)) CR.1 f430
    have f438 := f431.wr W435
    have f439 := f432.other W435 (Or.inl ne427)
    have f440 := f433.other W435 (Or.inl ne427)
    have f441 := B426.wr W435
    have hk := Nat.le_trans hk (Keep.of_wr W435).1
    have CR := CR.trans (CHr.wr W435 (Safe.exa hZ.alike B426 (by decide) (by decide)) CR.1)
    have K435 : Keep h0 h435 [] := K426.wr W435 (Or.inr sz_b426)
    have O435 := O426.wr W435 ge_b426
    have N435 := Fr.snoc X435 N0 ge_b426
    refine stp st435 ?_
    show Go p e below T435 (mkF m 321 #[.val (.ref ca), .val (.int n)] [(.ref b426), (.ref b421), (.ref b421)]) _
    refine stp (fun _ => XS.dup X435.here hx rfl (hb hby d2_321) rfl rfl) ?_
    refine stp (fun _ => XS.iconst X435.here hx rfl (hb hby d2_322)) ?_
    refine stp (fun _ => XS.aloadN X435.here hx rfl (hb hby d2_323) rfl rfl) ?_
    refine stp (fun _ => XS.iconst X435.here hx rfl (hb hby d2_324)) ?_
    show Go p e below T435 (mkF m 325 #[.val (.ref ca), .val (.int n)] [(.int (1 : Int32)), (.ref ca), (.int (1 : Int32)), (.ref b426), (.ref b426), (.ref b421), (.ref b421)]) _
    obtain ⟨cl443, Ar443, q443, S443, M443, H443, G443⟩ := (id f436)
    have in443 : ¬ ((1 : Int32) < 0 ∨ cl443.slots.size ≤ ((1 : Int32)).toNatClampNeg) := inb_of S443 ⟨by decide, by decide⟩
    have at443 : cl443.slots[((1 : Int32)).toNatClampNeg]? = some (.int s1) := H443.at in443 rfl
    refine stp (fun _ => X435.caload hx (j := (1 : Int32)) (v := (.int s1)) (by rw [e435]; exact Ar443.1) (State.isArrayOf_alike hZ.alike Ar443.2.1) Ar443.2.2 in443 at443 (g := (mkF m 325 #[.val (.ref ca), .val (.int n)] [(.int (1 : Int32)), (.ref ca), (.int (1 : Int32)), (.ref b426), (.ref b426), (.ref b421), (.ref b421)])) rfl rfl (hb hby d2_325) _) ?_
    show Go p e below T435 (mkF m 326 #[.val (.ref ca), .val (.int n)] [(.int s1), (.int (1 : Int32)), (.ref b426), (.ref b426), (.ref b421), (.ref b421)]) _
    obtain ⟨cl444, Ar444, q444, S444, M444, H444, G444⟩ := (id V435)
    have in444 : ¬ ((1 : Int32) < 0 ∨ cl444.slots.size ≤ ((1 : Int32)).toNatClampNeg) := inb_of S444 ⟨by decide, by decide⟩
    obtain ⟨T444, h444, X444, e444, W444, st444⟩ := stC X435 hx hZ e435 Ar444 (j := (1 : Int32)) in444 (g := (mkF m 326 #[.val (.ref ca), .val (.int n)] [(.int s1), (.int (1 : Int32)), (.ref b426), (.ref b426), (.ref b421), (.ref b421)])) rfl rfl (hb hby d2_326)
    have V444 : Arv Z h444 b426 k426 .char (8 : Int32) [(.int s0), (.int s1), (.int (0 : Int32)), (.int (0 : Int32)), (.int (0 : Int32)), (.int (0 : Int32)), (.int (0 : Int32)), (.int (0 : Int32))] (.int (0 : Int32)) := Arv.set Ar444 q444 S444 M444 H444 G444 (ow_fits_char (own_cs16 hs1)) (ow_wr_char (own_cs16 hs1) W444) 1 rfl (Nat.le_of_ble_eq_true rfl)
    have f445 := f436.other W444 ne428
    have f446 := Safe.wr W444 (Safe.exa hZ.alike f441 (by decide) (by decide)) CR.1 f437
    have f447 := f438.wr W444
    have f448 := f439.other W444 (Or.inl ne427)
    have f449 := f440.other W444 (Or.inl ne427)
    have f450 := f441.wr W444
    have hk := Nat.le_trans hk (Keep.of_wr W444).1
    have CR := CR.trans (CHr.wr W444 (Safe.exa hZ.alike f441 (by decide) (by decide)) CR.1)
    have K444 : Keep h0 h444 [] := K435.wr W444 (Or.inr sz_b426)
    have O444 := O435.wr W444 ge_b426
    have N444 := Fr.snoc X444 N435 ge_b426
    refine stp st444 ?_
    show Go p e below T444 (mkF m 327 #[.val (.ref ca), .val (.int n)] [(.ref b426), (.ref b421), (.ref b421)]) _
    refine stp (fun _ => XS.dup X444.here hx rfl (hb hby d2_327) rfl rfl) ?_
    refine stp (fun _ => XS.iconst X444.here hx rfl (hb hby d2_328)) ?_
    refine stp (fun _ => XS.aloadN X444.here hx rfl (hb hby d2_329) rfl rfl) ?_
    refine stp (fun _ => XS.iconst X444.here hx rfl (hb hby d2_330)) ?_
    show Go p e below T444 (mkF m 331 #[.val (.ref ca), .val (.int n)] [(.int (2 : Int32)), (.ref ca), (.int (2 : Int32)), (.ref b426), (.ref b426), (.ref b421), (.ref b421)]) _
    obtain ⟨cl452, Ar452, q452, S452, M452, H452, G452⟩ := (id f445)
    have in452 : ¬ ((2 : Int32) < 0 ∨ cl452.slots.size ≤ ((2 : Int32)).toNatClampNeg) := inb_of S452 ⟨by decide, by decide⟩
    have at452 : cl452.slots[((2 : Int32)).toNatClampNeg]? = some (.int s2) := H452.at in452 rfl
    refine stp (fun _ => X444.caload hx (j := (2 : Int32)) (v := (.int s2)) (by rw [e444]; exact Ar452.1) (State.isArrayOf_alike hZ.alike Ar452.2.1) Ar452.2.2 in452 at452 (g := (mkF m 331 #[.val (.ref ca), .val (.int n)] [(.int (2 : Int32)), (.ref ca), (.int (2 : Int32)), (.ref b426), (.ref b426), (.ref b421), (.ref b421)])) rfl rfl (hb hby d2_331) _) ?_
    show Go p e below T444 (mkF m 332 #[.val (.ref ca), .val (.int n)] [(.int s2), (.int (2 : Int32)), (.ref b426), (.ref b426), (.ref b421), (.ref b421)]) _
    obtain ⟨cl453, Ar453, q453, S453, M453, H453, G453⟩ := (id V444)
    have in453 : ¬ ((2 : Int32) < 0 ∨ cl453.slots.size ≤ ((2 : Int32)).toNatClampNeg) := inb_of S453 ⟨by decide, by decide⟩
    obtain ⟨T453, h453, X453, e453, W453, st453⟩ := stC X444 hx hZ e444 Ar453 (j := (2 : Int32)) in453 (g := (mkF m 332 #[.val (.ref ca), .val (.int n)] [(.int s2), (.int (2 : Int32)), (.ref b426), (.ref b426), (.ref b421), (.ref b421)])) rfl rfl (hb hby d2_332)
    have V453 : Arv Z h453 b426 k426 .char (8 : Int32) [(.int s0), (.int s1), (.int s2), (.int (0 : Int32)), (.int (0 : Int32)), (.int (0 : Int32)), (.int (0 : Int32)), (.int (0 : Int32))] (.int (0 : Int32)) := Arv.set Ar453 q453 S453 M453 H453 G453 (ow_fits_char (own_cs16 hs2)) (ow_wr_char (own_cs16 hs2) W453) 2 rfl (Nat.le_of_ble_eq_true rfl)
    have f454 := f445.other W453 ne428
    have f455 := Safe.wr W453 (Safe.exa hZ.alike f450 (by decide) (by decide)) CR.1 f446
    have f456 := f447.wr W453
    have f457 := f448.other W453 (Or.inl ne427)
    have f458 := f449.other W453 (Or.inl ne427)
    have f459 := f450.wr W453
    have hk := Nat.le_trans hk (Keep.of_wr W453).1
    have CR := CR.trans (CHr.wr W453 (Safe.exa hZ.alike f450 (by decide) (by decide)) CR.1)
    have K453 : Keep h0 h453 [] := K444.wr W453 (Or.inr sz_b426)
    have O453 := O444.wr W453 ge_b426
    have N453 := Fr.snoc X453 N444 ge_b426
    refine stp st453 ?_
    show Go p e below T453 (mkF m 333 #[.val (.ref ca), .val (.int n)] [(.ref b426), (.ref b421), (.ref b421)]) _
    refine stp (fun _ => XS.dup X453.here hx rfl (hb hby d2_333) rfl rfl) ?_
    refine stp (fun _ => XS.iconst X453.here hx rfl (hb hby d2_334)) ?_
    refine stp (fun _ => XS.aloadN X453.here hx rfl (hb hby d2_335) rfl rfl) ?_
    refine stp (fun _ => XS.iconst X453.here hx rfl (hb hby d2_336)) ?_
    show Go p e below T453 (mkF m 337 #[.val (.ref ca), .val (.int n)] [(.int (3 : Int32)), (.ref ca), (.int (3 : Int32)), (.ref b426), (.ref b426), (.ref b421), (.ref b421)]) _
    obtain ⟨cl461, Ar461, q461, S461, M461, H461, G461⟩ := (id f454)
    have in461 : ¬ ((3 : Int32) < 0 ∨ cl461.slots.size ≤ ((3 : Int32)).toNatClampNeg) := inb_of S461 ⟨by decide, by decide⟩
    have at461 : cl461.slots[((3 : Int32)).toNatClampNeg]? = some (.int s3) := H461.at in461 rfl
    refine stp (fun _ => X453.caload hx (j := (3 : Int32)) (v := (.int s3)) (by rw [e453]; exact Ar461.1) (State.isArrayOf_alike hZ.alike Ar461.2.1) Ar461.2.2 in461 at461 (g := (mkF m 337 #[.val (.ref ca), .val (.int n)] [(.int (3 : Int32)), (.ref ca), (.int (3 : Int32)), (.ref b426), (.ref b426), (.ref b421), (.ref b421)])) rfl rfl (hb hby d2_337) _) ?_
    show Go p e below T453 (mkF m 338 #[.val (.ref ca), .val (.int n)] [(.int s3), (.int (3 : Int32)), (.ref b426), (.ref b426), (.ref b421), (.ref b421)]) _
    obtain ⟨cl462, Ar462, q462, S462, M462, H462, G462⟩ := (id V453)
    have in462 : ¬ ((3 : Int32) < 0 ∨ cl462.slots.size ≤ ((3 : Int32)).toNatClampNeg) := inb_of S462 ⟨by decide, by decide⟩
    obtain ⟨T462, h462, X462, e462, W462, st462⟩ := stC X453 hx hZ e453 Ar462 (j := (3 : Int32)) in462 (g := (mkF m 338 #[.val (.ref ca), .val (.int n)] [(.int s3), (.int (3 : Int32)), (.ref b426), (.ref b426), (.ref b421), (.ref b421)])) rfl rfl (hb hby d2_338)
    have V462 : Arv Z h462 b426 k426 .char (8 : Int32) [(.int s0), (.int s1), (.int s2), (.int s3), (.int (0 : Int32)), (.int (0 : Int32)), (.int (0 : Int32)), (.int (0 : Int32))] (.int (0 : Int32)) := Arv.set Ar462 q462 S462 M462 H462 G462 (ow_fits_char (own_cs16 hs3)) (ow_wr_char (own_cs16 hs3) W462) 3 rfl (Nat.le_of_ble_eq_true rfl)
    have f463 := f454.other W462 ne428
    have f464 := Safe.wr W462 (Safe.exa hZ.alike f459 (by decide) (by decide)) CR.1 f455
    have f465 := f456.wr W462
    have f466 := f457.other W462 (Or.inl ne427)
    have f467 := f458.other W462 (Or.inl ne427)
    have f468 := f459.wr W462
    have hk := Nat.le_trans hk (Keep.of_wr W462).1
    have CR := CR.trans (CHr.wr W462 (Safe.exa hZ.alike f459 (by decide) (by decide)) CR.1)
    have K462 : Keep h0 h462 [] := K453.wr W462 (Or.inr sz_b426)
    have O462 := O453.wr W462 ge_b426
    have N462 := Fr.snoc X462 N453 ge_b426
    refine stp st462 ?_
    show Go p e below T462 (mkF m 339 #[.val (.ref ca), .val (.int n)] [(.ref b426), (.ref b421), (.ref b421)]) _
    refine stp (fun _ => XS.dup X462.here hx rfl (hb hby d2_339) rfl rfl) ?_
    refine stp (fun _ => XS.iconst X462.here hx rfl (hb hby d2_340)) ?_
    refine stp (fun _ => XS.aloadN X462.here hx rfl (hb hby d2_341) rfl rfl) ?_
    refine stp (fun _ => XS.iconst X462.here hx rfl (hb hby d2_342)) ?_
    show Go p e below T462 (mkF m 343 #[.val (.ref ca), .val (.int n)] [(.int (4 : Int32)), (.ref ca), (.int (4 : Int32)), (.ref b426), (.ref b426), (.ref b421), (.ref b421)]) _
    obtain ⟨cl470, Ar470, q470, S470, M470, H470, G470⟩ := (id f463)
    have in470 : ¬ ((4 : Int32) < 0 ∨ cl470.slots.size ≤ ((4 : Int32)).toNatClampNeg) := inb_of S470 ⟨by decide, by decide⟩
    have at470 : cl470.slots[((4 : Int32)).toNatClampNeg]? = some (.int s4) := H470.at in470 rfl
    refine stp (fun _ => X462.caload hx (j := (4 : Int32)) (v := (.int s4)) (by rw [e462]; exact Ar470.1) (State.isArrayOf_alike hZ.alike Ar470.2.1) Ar470.2.2 in470 at470 (g := (mkF m 343 #[.val (.ref ca), .val (.int n)] [(.int (4 : Int32)), (.ref ca), (.int (4 : Int32)), (.ref b426), (.ref b426), (.ref b421), (.ref b421)])) rfl rfl (hb hby d2_343) _) ?_
    show Go p e below T462 (mkF m 344 #[.val (.ref ca), .val (.int n)] [(.int s4), (.int (4 : Int32)), (.ref b426), (.ref b426), (.ref b421), (.ref b421)]) _
    obtain ⟨cl471, Ar471, q471, S471, M471, H471, G471⟩ := (id V462)
    have in471 : ¬ ((4 : Int32) < 0 ∨ cl471.slots.size ≤ ((4 : Int32)).toNatClampNeg) := inb_of S471 ⟨by decide, by decide⟩
    obtain ⟨T471, h471, X471, e471, W471, st471⟩ := stC X462 hx hZ e462 Ar471 (j := (4 : Int32)) in471 (g := (mkF m 344 #[.val (.ref ca), .val (.int n)] [(.int s4), (.int (4 : Int32)), (.ref b426), (.ref b426), (.ref b421), (.ref b421)])) rfl rfl (hb hby d2_344)
    have V471 : Arv Z h471 b426 k426 .char (8 : Int32) [(.int s0), (.int s1), (.int s2), (.int s3), (.int s4), (.int (0 : Int32)), (.int (0 : Int32)), (.int (0 : Int32))] (.int (0 : Int32)) := Arv.set Ar471 q471 S471 M471 H471 G471 (ow_fits_char (own_cs16 hs4)) (ow_wr_char (own_cs16 hs4) W471) 4 rfl (Nat.le_of_ble_eq_true rfl)
    have f472 := f463.other W471 ne428
    have f473 := Safe.wr W471 (Safe.exa hZ.alike f468 (by decide) (by decide)) CR.1 f464
    have f474 := f465.wr W471
    have f475 := f466.other W471 (Or.inl ne427)
    have f476 := f467.other W471 (Or.inl ne427)
    have f477 := f468.wr W471
    have hk := Nat.le_trans hk (Keep.of_wr W471).1
    have CR := CR.trans (CHr.wr W471 (Safe.exa hZ.alike f468 (by decide) (by decide)) CR.1)
    have K471 : Keep h0 h471 [] := K462.wr W471 (Or.inr sz_b426)
    have O471 := O462.wr W471 ge_b426
    have N471 := Fr.snoc X471 N462 ge_b426
    refine stp st471 ?_
    show Go p e below T471 (mkF m 345 #[.val (.ref ca), .val (.int n)] [(.ref b426), (.ref b421), (.ref b421)]) _
    refine stp (fun _ => XS.dup X471.here hx rfl (hb hby d2_345) rfl rfl) ?_
    refine stp (fun _ => XS.iconst X471.here hx rfl (hb hby d2_346)) ?_
    refine stp (fun _ => XS.aloadN X471.here hx rfl (hb hby d2_347) rfl rfl) ?_
    refine stp (fun _ => XS.iconst X471.here hx rfl (hb hby d2_348)) ?_
    show Go p e below T471 (mkF m 349 #[.val (.ref ca), .val (.int n)] [(.int (5 : Int32)), (.ref ca), (.int (5 : Int32)), (.ref b426), (.ref b426), (.ref b421), (.ref b421)]) _
    obtain ⟨cl479, Ar479, q479, S479, M479, H479, G479⟩ := (id f472)
    have in479 : ¬ ((5 : Int32) < 0 ∨ cl479.slots.size ≤ ((5 : Int32)).toNatClampNeg) := inb_of S479 ⟨by decide, by decide⟩
    have at479 : cl479.slots[((5 : Int32)).toNatClampNeg]? = some (.int s5) := H479.at in479 rfl
    refine stp (fun _ => X471.caload hx (j := (5 : Int32)) (v := (.int s5)) (by rw [e471]; exact Ar479.1) (State.isArrayOf_alike hZ.alike Ar479.2.1) Ar479.2.2 in479 at479 (g := (mkF m 349 #[.val (.ref ca), .val (.int n)] [(.int (5 : Int32)), (.ref ca), (.int (5 : Int32)), (.ref b426), (.ref b426), (.ref b421), (.ref b421)])) rfl rfl (hb hby d2_349) _) ?_
    show Go p e below T471 (mkF m 350 #[.val (.ref ca), .val (.int n)] [(.int s5), (.int (5 : Int32)), (.ref b426), (.ref b426), (.ref b421), (.ref b421)]) _
    obtain ⟨cl480, Ar480, q480, S480, M480, H480, G480⟩ := (id V471)
    have in480 : ¬ ((5 : Int32) < 0 ∨ cl480.slots.size ≤ ((5 : Int32)).toNatClampNeg) := inb_of S480 ⟨by decide, by decide⟩
    obtain ⟨T480, h480, X480, e480, W480, st480⟩ := stC X471 hx hZ e471 Ar480 (j := (5 : Int32)) in480 (g := (mkF m 350 #[.val (.ref ca), .val (.int n)] [(.int s5), (.int (5 : Int32)), (.ref b426), (.ref b426), (.ref b421), (.ref b421)])) rfl rfl (hb hby d2_350)
    have V480 : Arv Z h480 b426 k426 .char (8 : Int32) [(.int s0), (.int s1), (.int s2), (.int s3), (.int s4), (.int s5), (.int (0 : Int32)), (.int (0 : Int32))] (.int (0 : Int32)) := Arv.set Ar480 q480 S480 M480 H480 G480 (ow_fits_char (own_cs16 hs5)) (ow_wr_char (own_cs16 hs5) W480) 5 rfl (Nat.le_of_ble_eq_true rfl)
    have f481 := f472.other W480 ne428
    have f482 := Safe.wr W480 (Safe.exa hZ.alike f477 (by decide) (by decide)) CR.1 f473
    have f483 := f474.wr W480
    have f484 := f475.other W480 (Or.inl ne427)
    have f485 := f476.other W480 (Or.inl ne427)
    have f486 := f477.wr W480
    have hk := Nat.le_trans hk (Keep.of_wr W480).1
    have CR := CR.trans (CHr.wr W480 (Safe.exa hZ.alike f477 (by decide) (by decide)) CR.1)
    have K480 : Keep h0 h480 [] := K471.wr W480 (Or.inr sz_b426)
    have O480 := O471.wr W480 ge_b426
    have N480 := Fr.snoc X480 N471 ge_b426
    refine stp st480 ?_
    show Go p e below T480 (mkF m 351 #[.val (.ref ca), .val (.int n)] [(.ref b426), (.ref b421), (.ref b421)]) _
    refine stp (fun _ => XS.dup X480.here hx rfl (hb hby d2_351) rfl rfl) ?_
    refine stp (fun _ => XS.bipush X480.here hx rfl (hb hby d2_352)) ?_
    refine stp (fun _ => XS.aloadN X480.here hx rfl (hb hby d2_354) rfl rfl) ?_
    refine stp (fun _ => XS.bipush X480.here hx rfl (hb hby d2_355)) ?_
    show Go p e below T480 (mkF m 357 #[.val (.ref ca), .val (.int n)] [(.int (6 : Int32)), (.ref ca), (.int (6 : Int32)), (.ref b426), (.ref b426), (.ref b421), (.ref b421)]) _
    obtain ⟨cl488, Ar488, q488, S488, M488, H488, G488⟩ := (id f481)
    have in488 : ¬ ((6 : Int32) < 0 ∨ cl488.slots.size ≤ ((6 : Int32)).toNatClampNeg) := inb_of S488 ⟨by decide, by decide⟩
    have at488 : cl488.slots[((6 : Int32)).toNatClampNeg]? = some (.int s6) := H488.at in488 rfl
    refine stp (fun _ => X480.caload hx (j := (6 : Int32)) (v := (.int s6)) (by rw [e480]; exact Ar488.1) (State.isArrayOf_alike hZ.alike Ar488.2.1) Ar488.2.2 in488 at488 (g := (mkF m 357 #[.val (.ref ca), .val (.int n)] [(.int (6 : Int32)), (.ref ca), (.int (6 : Int32)), (.ref b426), (.ref b426), (.ref b421), (.ref b421)])) rfl rfl (hb hby d2_357) _) ?_
    show Go p e below T480 (mkF m 358 #[.val (.ref ca), .val (.int n)] [(.int s6), (.int (6 : Int32)), (.ref b426), (.ref b426), (.ref b421), (.ref b421)]) _
    obtain ⟨cl489, Ar489, q489, S489, M489, H489, G489⟩ := (id V480)
    have in489 : ¬ ((6 : Int32) < 0 ∨ cl489.slots.size ≤ ((6 : Int32)).toNatClampNeg) := inb_of S489 ⟨by decide, by decide⟩
    obtain ⟨T489, h489, X489, e489, W489, st489⟩ := stC X480 hx hZ e480 Ar489 (j := (6 : Int32)) in489 (g := (mkF m 358 #[.val (.ref ca), .val (.int n)] [(.int s6), (.int (6 : Int32)), (.ref b426), (.ref b426), (.ref b421), (.ref b421)])) rfl rfl (hb hby d2_358)
    have V489 : Arv Z h489 b426 k426 .char (8 : Int32) [(.int s0), (.int s1), (.int s2), (.int s3), (.int s4), (.int s5), (.int s6), (.int (0 : Int32))] (.int (0 : Int32)) := Arv.set Ar489 q489 S489 M489 H489 G489 (ow_fits_char (own_cs16 hs6)) (ow_wr_char (own_cs16 hs6) W489) 6 rfl (Nat.le_of_ble_eq_true rfl)
    have f490 := f481.other W489 ne428
    have f491 := Safe.wr W489 (Safe.exa hZ.alike f486 (by decide) (by decide)) CR.1 f482
    have f492 := f483.wr W489
    have f493 := f484.other W489 (Or.inl ne427)
    have f494 := f485.other W489 (Or.inl ne427)
    have f495 := f486.wr W489
    have hk := Nat.le_trans hk (Keep.of_wr W489).1
    have CR := CR.trans (CHr.wr W489 (Safe.exa hZ.alike f486 (by decide) (by decide)) CR.1)
    have K489 : Keep h0 h489 [] := K480.wr W489 (Or.inr sz_b426)
    have O489 := O480.wr W489 ge_b426
    have N489 := Fr.snoc X489 N480 ge_b426
    refine stp st489 ?_
    show Go p e below T489 (mkF m 359 #[.val (.ref ca), .val (.int n)] [(.ref b426), (.ref b421), (.ref b421)]) _
    refine stp (fun _ => XS.dup X489.here hx rfl (hb hby d2_359) rfl rfl) ?_
    refine stp (fun _ => XS.bipush X489.here hx rfl (hb hby d2_360)) ?_
    refine stp (fun _ => XS.aloadN X489.here hx rfl (hb hby d2_362) rfl rfl) ?_
    refine stp (fun _ => XS.bipush X489.here hx rfl (hb hby d2_363)) ?_
    show Go p e below T489 (mkF m 365 #[.val (.ref ca), .val (.int n)] [(.int (7 : Int32)), (.ref ca), (.int (7 : Int32)), (.ref b426), (.ref b426), (.ref b421), (.ref b421)]) _
    obtain ⟨cl497, Ar497, q497, S497, M497, H497, G497⟩ := (id f490)
    have in497 : ¬ ((7 : Int32) < 0 ∨ cl497.slots.size ≤ ((7 : Int32)).toNatClampNeg) := inb_of S497 ⟨by decide, by decide⟩
    have at497 : cl497.slots[((7 : Int32)).toNatClampNeg]? = some (.int s7) := H497.at in497 rfl
    refine stp (fun _ => X489.caload hx (j := (7 : Int32)) (v := (.int s7)) (by rw [e489]; exact Ar497.1) (State.isArrayOf_alike hZ.alike Ar497.2.1) Ar497.2.2 in497 at497 (g := (mkF m 365 #[.val (.ref ca), .val (.int n)] [(.int (7 : Int32)), (.ref ca), (.int (7 : Int32)), (.ref b426), (.ref b426), (.ref b421), (.ref b421)])) rfl rfl (hb hby d2_365) _) ?_
    show Go p e below T489 (mkF m 366 #[.val (.ref ca), .val (.int n)] [(.int s7), (.int (7 : Int32)), (.ref b426), (.ref b426), (.ref b421), (.ref b421)]) _
    obtain ⟨cl498, Ar498, q498, S498, M498, H498, G498⟩ := (id V489)
    have in498 : ¬ ((7 : Int32) < 0 ∨ cl498.slots.size ≤ ((7 : Int32)).toNatClampNeg) := inb_of S498 ⟨by decide, by decide⟩
    obtain ⟨T498, h498, X498, e498, W498, st498⟩ := stC X489 hx hZ e489 Ar498 (j := (7 : Int32)) in498 (g := (mkF m 366 #[.val (.ref ca), .val (.int n)] [(.int s7), (.int (7 : Int32)), (.ref b426), (.ref b426), (.ref b421), (.ref b421)])) rfl rfl (hb hby d2_366)
    have V498 : Arv Z h498 b426 k426 .char (8 : Int32) [(.int s0), (.int s1), (.int s2), (.int s3), (.int s4), (.int s5), (.int s6), (.int s7)] (.int (0 : Int32)) := Arv.set Ar498 q498 S498 M498 H498 G498 (ow_fits_char (own_cs16 hs7)) (ow_wr_char (own_cs16 hs7) W498) 7 rfl (Nat.le_of_ble_eq_true rfl)
    have f499 := f490.other W498 ne428
    have f500 := Safe.wr W498 (Safe.exa hZ.alike f495 (by decide) (by decide)) CR.1 f491
    have f501 := f492.wr W498
    have f502 := f493.other W498 (Or.inl ne427)
    have f503 := f494.other W498 (Or.inl ne427)
    have f504 := f495.wr W498
    have hk := Nat.le_trans hk (Keep.of_wr W498).1
    have CR := CR.trans (CHr.wr W498 (Safe.exa hZ.alike f495 (by decide) (by decide)) CR.1)
    have K498 : Keep h0 h498 [] := K489.wr W498 (Or.inr sz_b426)
    have O498 := O489.wr W498 ge_b426
    have N498 := Fr.snoc X498 N489 ge_b426
    refine stp st498 ?_
    show Go p e below T498 (mkF m 367 #[.val (.ref ca), .val (.int n)] [(.ref b426), (.ref b421), (.ref b421)]) _
    have V506 : Arf Z h498 b426 k426 .char ([s0, s1, s2, s3, s4, s5, s6, s7] : List Int32).length (fun i => (.int (own_at ([s0, s1, s2, s3, s4, s5, s6, s7] : List Int32) i))) := (Arv.arf V498 rfl).congr (fun i _ => own_atv ([s0, s1, s2, s3, s4, s5, s6, s7] : List Int32) i)
    obtain ⟨_, _, ⟨T507, L507, k507, n507⟩, -, X507, ⟨Lc507, hQ507, l507, y507, z507⟩, st507⟩ := X498.specialBack hx (y := (⟨"java/lang/String", "<init>", "([C)V"⟩ : MethodName)) rfl hown (mvT hZ (hw _ (List.mem_of_getElem? (i := 12) rfl))) (mvT hZ (hw _ (List.mem_of_getElem? (i := 13) rfl))) (mvT hZ (hw _ (List.mem_of_getElem? (i := 14) rfl))) (by decide) (backOf (W := 1) (rm_u1 l Z a0 hw [] b421 b426 ([s0, s1, s2, s3, s4, s5, s6, s7] : List Int32) cz k426 h498 n0 O498 f501 f502 f503 V506 S_COMPACT_STRINGS S__assertionsDisabled S_HI_BYTE_SHIFT S_LO_BYTE_SHIFT ge_b421 (Ne.symm ne427) hcz (Nat.le_of_ble_eq_true rfl) (own_m1 (P := (fun c => ¬ c < 0 ∧ ¬ (65535 : Int32) < c)) hs0 (own_m1 (P := (fun c => ¬ c < 0 ∧ ¬ (65535 : Int32) < c)) hs1 (own_m1 (P := (fun c => ¬ c < 0 ∧ ¬ (65535 : Int32) < c)) hs2 (own_m1 (P := (fun c => ¬ c < 0 ∧ ¬ (65535 : Int32) < c)) hs3 (own_m1 (P := (fun c => ¬ c < 0 ∧ ¬ (65535 : Int32) < c)) hs4 (own_m1 (P := (fun c => ¬ c < 0 ∧ ¬ (65535 : Int32) < c)) hs5 (own_m1 (P := (fun c => ¬ c < 0 ∧ ¬ (65535 : Int32) < c)) hs6 (own_m1 (P := (fun c => ¬ c < 0 ∧ ¬ (65535 : Int32) < c)) hs7 (own_m0 (P := (fun c => ¬ c < 0 ∧ ¬ (65535 : Int32) < c))))))))))) (Nat.succ_pos _)) hZ (hw _ (List.mem_of_getElem? (i := 14) rfl)) (hw _ (List.mem_of_getElem? (i := 11) rfl)) (by decide) (by decide)) (g := (mkF m 367 #[.val (.ref ca), .val (.int n)] [(.ref b426), (.ref b421), (.ref b421)])) rfl (by rw [hml]; rfl) (Steps.refl _) (a := b421) (argsL := [(.ref b426)]) (rest := [(.ref b421)]) (lenOf pd_14 rfl) rfl (by show 2 * 0 + _ ≤ _; exact Nat.le_of_eq rfl) (hb hby d2_367) (fun _ _ => ⟨rfl, e498, (by decide : 2 + 2 ≤ _), (by decide : 12 + 30 ≤ _)⟩)
    dsimp only [Pt.U, Pt.locs, Pt.cells, Pt.slots] at X507 l507 y507 z507 st507 hQ507
    subst y507 z507
    obtain ⟨rfl, N507q, K507q, r507_0⟩ := hQ507
    have N507 : Fr n0 L507 := by rw [l507]; exact Fr.app N498 N507q
    have f508 := f499.keep K507q (ninS ne422 nin0)
    have f509 := f500.keep K507q (sfS f500 sf0) CR.1
    have f510 := f501.keep K507q
    have f511 := f504.keep K507q
    have f512 := V506.keep K507q (ninS (Ne.symm ne427) nin0)
    have hk := Nat.le_trans hk K507q.1
    have CR := CR.trans (CHr.keep K507q (sfS f500 sf0) CR.1)
    have K507 : Keep h0 T507.heap [] := K498.trans K507q (allS (Or.inr sz_b421) all0)
    have O507 := O498.keep K507q (allS ge_b421 all0)
    refine stt st507 ?_
    show Go p e below T507 (mkF m 370 #[.val (.ref ca), .val (.int n)] [(.ref b421)]) _
    refine outAW X507 hx hZ hEL rfl hS hk CR hret rfl rfl (hb hby d2_370) hlk (by decide) (by decide) ?_
    exact ⟨b421, rfl, N507, K507, ⟨ge_b421, sz_b421⟩, (own_ucs_of (by simp only [own_mk, if_neg q1_1, if_neg q17_21, if_neg q39_51, if_neg q67_90, if_neg q101_138, if_neg q141_195, if_neg q188_261, if_neg q242_336, if_pos q304_420]) r507_0)⟩
  refine stp (fun _ => XS.icmpYes X0.here hx rfl (pc0 := 304) (pc' := 371) rfl (hb hby d2_304) rfl (XT.ii_ne_t q304_420) (by decide) (by decide)) ?_
  show Go p e below T0 (mkF m 371 #[.val (.ref ca), .val (.int n)] []) _
  obtain ⟨T513, h513, X513, e513, E513, A513, D513, -, st513⟩ := newO X0 hx hZ hown (hw _ (List.mem_of_getElem? (i := 9) rfl)) (hw _ (List.mem_of_getElem? (i := 10) rfl)) (hw _ (List.mem_of_getElem? (i := 11) rfl)) e0 (g := (mkF m 371 #[.val (.ref ca), .val (.int n)] [])) rfl (hb hby d2_371) (by decide) (by decide)
  obtain ⟨b513, g513⟩ : ∃ z, z = h0.size := ⟨_, rfl⟩
  rw [← g513] at A513 D513 st513
  have ne514 : ca ≠ b513 := Nat.ne_of_lt (Nat.lt_of_lt_of_le V_ca.lt (Nat.le_of_eq g513.symm))
  have sz_b513 : h0.size ≤ b513 := Nat.le_trans (Keep.refl h0 []).1 (Nat.le_of_eq g513.symm)
  have ge_b513 : n0 ≤ b513 := Nat.le_trans (old_le O0) (Nat.le_of_eq g513.symm)
  have f515 := V_ca.ext E513
  have Sf513 := (Safe.new (Z := Z) (EL := consts_1) (Nat.le_of_eq g513.symm)).ext E513 CR.1
  have hk := Nat.le_trans hk E513.1
  have CR := CR.trans (CHr.ext E513 CR.1)
  have K513 : Keep h0 h513 [] := (Keep.refl h0 []).ext E513
  have O513 := O0.ext E513
  have F516 : Fld Z h513 b513 "java/lang/String" "value" "[B" .null := D513 (Or.inr (hw _ (List.mem_of_getElem? (i := 24) rfl))) (ty := (.array .byte)) (by decide)
  have F517 : Fld Z h513 b513 "java/lang/String" "coder" "B" (.int (0 : Int32)) := D513 (Or.inr (hw _ (List.mem_of_getElem? (i := 25) rfl))) (ty := .byte) (by decide)
  refine stp st513 ?_
  show Go p e below T513 (mkF m 374 #[.val (.ref ca), .val (.int n)] [(.ref b513)]) _
  refine stp (fun _ => XS.dup X513.here hx rfl (hb hby d2_374) rfl rfl) ?_
  refine stp (fun _ => XS.bipush X513.here hx rfl (hb hby d2_375)) ?_
  show Go p e below T513 (mkF m 377 #[.val (.ref ca), .val (.int n)] [(.int (9 : Int32)), (.ref b513), (.ref b513)]) _
  obtain ⟨T518, h518, k518, X518, e518, E518, A518, B518, st518⟩ := newPE X513 hx hZ (hw _ (List.mem_of_getElem? (i := 1) rfl)) e513 (g := (mkF m 377 #[.val (.ref ca), .val (.int n)] [(.int (9 : Int32)), (.ref b513), (.ref b513)])) rfl (hb hby d2_377) rfl (by decide) (cap := 9) (by decide) (by decide) (by decide) (by decide) (ad := "[C") (by decide)
  obtain ⟨b518, g518⟩ : ∃ z, z = h513.size := ⟨_, rfl⟩
  rw [← g518] at A518 B518 st518
  have ne519 : b513 ≠ b518 := Nat.ne_of_lt (Nat.lt_of_lt_of_le A513.lt (Nat.le_of_eq g518.symm))
  have ne520 : ca ≠ b518 := Nat.ne_of_lt (Nat.lt_of_lt_of_le f515.lt (Nat.le_of_eq g518.symm))
  have sz_b518 : h0.size ≤ b518 := Nat.le_trans K513.1 (Nat.le_of_eq g518.symm)
  have ge_b518 : n0 ≤ b518 := Nat.le_trans (old_le O513) (Nat.le_of_eq g518.symm)
  have f521 := f515.ext E518
  have f522 := Sf513.ext E518 CR.1
  have f523 := A513.ext E518
  have f524 := F516.ext E518
  have f525 := F517.ext E518
  have hk := Nat.le_trans hk E518.1
  have CR := CR.trans (CHr.ext E518 CR.1)
  have K518 : Keep h0 h518 [] := K513.ext E518
  have O518 := O513.ext E518
  have V518 : Arv Z h518 b518 k518 .char (9 : Int32) [(.int (0 : Int32)), (.int (0 : Int32)), (.int (0 : Int32)), (.int (0 : Int32)), (.int (0 : Int32)), (.int (0 : Int32)), (.int (0 : Int32)), (.int (0 : Int32)), (.int (0 : Int32))] (.int (0 : Int32)) := (Arv.new A518 (by decide)).pad (pad_rep [] (.int (0 : Int32)) 9)
  refine stp st518 ?_
  show Go p e below T518 (mkF m 379 #[.val (.ref ca), .val (.int n)] [(.ref b518), (.ref b513), (.ref b513)]) _
  refine stp (fun _ => XS.dup X518.here hx rfl (hb hby d2_379) rfl rfl) ?_
  refine stp (fun _ => XS.iconst X518.here hx rfl (hb hby d2_380)) ?_
  refine stp (fun _ => XS.aloadN X518.here hx rfl (hb hby d2_381) rfl rfl) ?_
  refine stp (fun _ => XS.iconst X518.here hx rfl (hb hby d2_382)) ?_
  show Go p e below T518 (mkF m 383 #[.val (.ref ca), .val (.int n)] [(.int (0 : Int32)), (.ref ca), (.int (0 : Int32)), (.ref b518), (.ref b518), (.ref b513), (.ref b513)]) _
  obtain ⟨cl526, Ar526, q526, S526, M526, H526, G526⟩ := (id f521)
  have in526 : ¬ ((0 : Int32) < 0 ∨ cl526.slots.size ≤ ((0 : Int32)).toNatClampNeg) := inb_of S526 ⟨by decide, by decide⟩
  have at526 : cl526.slots[((0 : Int32)).toNatClampNeg]? = some (.int s0) := H526.at in526 rfl
  refine stp (fun _ => X518.caload hx (j := (0 : Int32)) (v := (.int s0)) (by rw [e518]; exact Ar526.1) (State.isArrayOf_alike hZ.alike Ar526.2.1) Ar526.2.2 in526 at526 (g := (mkF m 383 #[.val (.ref ca), .val (.int n)] [(.int (0 : Int32)), (.ref ca), (.int (0 : Int32)), (.ref b518), (.ref b518), (.ref b513), (.ref b513)])) rfl rfl (hb hby d2_383) _) ?_
  show Go p e below T518 (mkF m 384 #[.val (.ref ca), .val (.int n)] [(.int s0), (.int (0 : Int32)), (.ref b518), (.ref b518), (.ref b513), (.ref b513)]) _
  obtain ⟨cl527, Ar527, q527, S527, M527, H527, G527⟩ := (id V518)
  have in527 : ¬ ((0 : Int32) < 0 ∨ cl527.slots.size ≤ ((0 : Int32)).toNatClampNeg) := inb_of S527 ⟨by decide, by decide⟩
  obtain ⟨T527, h527, X527, e527, W527, st527⟩ := stC X518 hx hZ e518 Ar527 (j := (0 : Int32)) in527 (g := (mkF m 384 #[.val (.ref ca), .val (.int n)] [(.int s0), (.int (0 : Int32)), (.ref b518), (.ref b518), (.ref b513), (.ref b513)])) rfl rfl (hb hby d2_384)
  have V527 : Arv Z h527 b518 k518 .char (9 : Int32) [(.int s0), (.int (0 : Int32)), (.int (0 : Int32)), (.int (0 : Int32)), (.int (0 : Int32)), (.int (0 : Int32)), (.int (0 : Int32)), (.int (0 : Int32)), (.int (0 : Int32))] (.int (0 : Int32)) := Arv.set Ar527 q527 S527 M527 H527 G527 (ow_fits_char (own_cs16 hs0)) (ow_wr_char (own_cs16 hs0) W527) 0 rfl (Nat.le_of_ble_eq_true rfl)
  have f528 := f521.other W527 ne520
  have f529 := Safe.wr W527 (Safe.exa hZ.alike B518 (by decide) (by decide)) CR.1 f522
  have f530 := f523.wr W527
  have f531 := f524.other W527 (Or.inl ne519)
  have f532 := f525.other W527 (Or.inl ne519)
  have f533 := B518.wr W527
  have hk := Nat.le_trans hk (Keep.of_wr W527).1
  have CR := CR.trans (CHr.wr W527 (Safe.exa hZ.alike B518 (by decide) (by decide)) CR.1)
  have K527 : Keep h0 h527 [] := K518.wr W527 (Or.inr sz_b518)
  have O527 := O518.wr W527 ge_b518
  have N527 := Fr.snoc X527 N0 ge_b518
  refine stp st527 ?_
  show Go p e below T527 (mkF m 385 #[.val (.ref ca), .val (.int n)] [(.ref b518), (.ref b513), (.ref b513)]) _
  refine stp (fun _ => XS.dup X527.here hx rfl (hb hby d2_385) rfl rfl) ?_
  refine stp (fun _ => XS.iconst X527.here hx rfl (hb hby d2_386)) ?_
  refine stp (fun _ => XS.aloadN X527.here hx rfl (hb hby d2_387) rfl rfl) ?_
  refine stp (fun _ => XS.iconst X527.here hx rfl (hb hby d2_388)) ?_
  show Go p e below T527 (mkF m 389 #[.val (.ref ca), .val (.int n)] [(.int (1 : Int32)), (.ref ca), (.int (1 : Int32)), (.ref b518), (.ref b518), (.ref b513), (.ref b513)]) _
  obtain ⟨cl535, Ar535, q535, S535, M535, H535, G535⟩ := (id f528)
  have in535 : ¬ ((1 : Int32) < 0 ∨ cl535.slots.size ≤ ((1 : Int32)).toNatClampNeg) := inb_of S535 ⟨by decide, by decide⟩
  have at535 : cl535.slots[((1 : Int32)).toNatClampNeg]? = some (.int s1) := H535.at in535 rfl
  refine stp (fun _ => X527.caload hx (j := (1 : Int32)) (v := (.int s1)) (by rw [e527]; exact Ar535.1) (State.isArrayOf_alike hZ.alike Ar535.2.1) Ar535.2.2 in535 at535 (g := (mkF m 389 #[.val (.ref ca), .val (.int n)] [(.int (1 : Int32)), (.ref ca), (.int (1 : Int32)), (.ref b518), (.ref b518), (.ref b513), (.ref b513)])) rfl rfl (hb hby d2_389) _) ?_
  show Go p e below T527 (mkF m 390 #[.val (.ref ca), .val (.int n)] [(.int s1), (.int (1 : Int32)), (.ref b518), (.ref b518), (.ref b513), (.ref b513)]) _
  obtain ⟨cl536, Ar536, q536, S536, M536, H536, G536⟩ := (id V527)
  have in536 : ¬ ((1 : Int32) < 0 ∨ cl536.slots.size ≤ ((1 : Int32)).toNatClampNeg) := inb_of S536 ⟨by decide, by decide⟩
  obtain ⟨T536, h536, X536, e536, W536, st536⟩ := stC X527 hx hZ e527 Ar536 (j := (1 : Int32)) in536 (g := (mkF m 390 #[.val (.ref ca), .val (.int n)] [(.int s1), (.int (1 : Int32)), (.ref b518), (.ref b518), (.ref b513), (.ref b513)])) rfl rfl (hb hby d2_390)
  have V536 : Arv Z h536 b518 k518 .char (9 : Int32) [(.int s0), (.int s1), (.int (0 : Int32)), (.int (0 : Int32)), (.int (0 : Int32)), (.int (0 : Int32)), (.int (0 : Int32)), (.int (0 : Int32)), (.int (0 : Int32))] (.int (0 : Int32)) := Arv.set Ar536 q536 S536 M536 H536 G536 (ow_fits_char (own_cs16 hs1)) (ow_wr_char (own_cs16 hs1) W536) 1 rfl (Nat.le_of_ble_eq_true rfl)
  have f537 := f528.other W536 ne520
  have f538 := Safe.wr W536 (Safe.exa hZ.alike f533 (by decide) (by decide)) CR.1 f529
  have f539 := f530.wr W536
  have f540 := f531.other W536 (Or.inl ne519)
  have f541 := f532.other W536 (Or.inl ne519)
  have f542 := f533.wr W536
  have hk := Nat.le_trans hk (Keep.of_wr W536).1
  have CR := CR.trans (CHr.wr W536 (Safe.exa hZ.alike f533 (by decide) (by decide)) CR.1)
  have K536 : Keep h0 h536 [] := K527.wr W536 (Or.inr sz_b518)
  have O536 := O527.wr W536 ge_b518
  have N536 := Fr.snoc X536 N527 ge_b518
  refine stp st536 ?_
  show Go p e below T536 (mkF m 391 #[.val (.ref ca), .val (.int n)] [(.ref b518), (.ref b513), (.ref b513)]) _
  refine stp (fun _ => XS.dup X536.here hx rfl (hb hby d2_391) rfl rfl) ?_
  refine stp (fun _ => XS.iconst X536.here hx rfl (hb hby d2_392)) ?_
  refine stp (fun _ => XS.aloadN X536.here hx rfl (hb hby d2_393) rfl rfl) ?_
  refine stp (fun _ => XS.iconst X536.here hx rfl (hb hby d2_394)) ?_
  show Go p e below T536 (mkF m 395 #[.val (.ref ca), .val (.int n)] [(.int (2 : Int32)), (.ref ca), (.int (2 : Int32)), (.ref b518), (.ref b518), (.ref b513), (.ref b513)]) _
  obtain ⟨cl544, Ar544, q544, S544, M544, H544, G544⟩ := (id f537)
  have in544 : ¬ ((2 : Int32) < 0 ∨ cl544.slots.size ≤ ((2 : Int32)).toNatClampNeg) := inb_of S544 ⟨by decide, by decide⟩
  have at544 : cl544.slots[((2 : Int32)).toNatClampNeg]? = some (.int s2) := H544.at in544 rfl
  refine stp (fun _ => X536.caload hx (j := (2 : Int32)) (v := (.int s2)) (by rw [e536]; exact Ar544.1) (State.isArrayOf_alike hZ.alike Ar544.2.1) Ar544.2.2 in544 at544 (g := (mkF m 395 #[.val (.ref ca), .val (.int n)] [(.int (2 : Int32)), (.ref ca), (.int (2 : Int32)), (.ref b518), (.ref b518), (.ref b513), (.ref b513)])) rfl rfl (hb hby d2_395) _) ?_
  show Go p e below T536 (mkF m 396 #[.val (.ref ca), .val (.int n)] [(.int s2), (.int (2 : Int32)), (.ref b518), (.ref b518), (.ref b513), (.ref b513)]) _
  obtain ⟨cl545, Ar545, q545, S545, M545, H545, G545⟩ := (id V536)
  have in545 : ¬ ((2 : Int32) < 0 ∨ cl545.slots.size ≤ ((2 : Int32)).toNatClampNeg) := inb_of S545 ⟨by decide, by decide⟩
  obtain ⟨T545, h545, X545, e545, W545, st545⟩ := stC X536 hx hZ e536 Ar545 (j := (2 : Int32)) in545 (g := (mkF m 396 #[.val (.ref ca), .val (.int n)] [(.int s2), (.int (2 : Int32)), (.ref b518), (.ref b518), (.ref b513), (.ref b513)])) rfl rfl (hb hby d2_396)
  have V545 : Arv Z h545 b518 k518 .char (9 : Int32) [(.int s0), (.int s1), (.int s2), (.int (0 : Int32)), (.int (0 : Int32)), (.int (0 : Int32)), (.int (0 : Int32)), (.int (0 : Int32)), (.int (0 : Int32))] (.int (0 : Int32)) := Arv.set Ar545 q545 S545 M545 H545 G545 (ow_fits_char (own_cs16 hs2)) (ow_wr_char (own_cs16 hs2) W545) 2 rfl (Nat.le_of_ble_eq_true rfl)
  have f546 := f537.other W545 ne520
  have f547 := Safe.wr W545 (Safe.exa hZ.alike f542 (by decide) (by decide)) CR.1 f538
  have f548 := f539.wr W545
  have f549 := f540.other W545 (Or.inl ne519)
  have f550 := f541.other W545 (Or.inl ne519)
  have f551 := f542.wr W545
  have hk := Nat.le_trans hk (Keep.of_wr W545).1
  have CR := CR.trans (CHr.wr W545 (Safe.exa hZ.alike f542 (by decide) (by decide)) CR.1)
  have K545 : Keep h0 h545 [] := K536.wr W545 (Or.inr sz_b518)
  have O545 := O536.wr W545 ge_b518
  have N545 := Fr.snoc X545 N536 ge_b518
  refine stp st545 ?_
  show Go p e below T545 (mkF m 397 #[.val (.ref ca), .val (.int n)] [(.ref b518), (.ref b513), (.ref b513)]) _
  refine stp (fun _ => XS.dup X545.here hx rfl (hb hby d2_397) rfl rfl) ?_
  refine stp (fun _ => XS.iconst X545.here hx rfl (hb hby d2_398)) ?_
  refine stp (fun _ => XS.aloadN X545.here hx rfl (hb hby d2_399) rfl rfl) ?_
  refine stp (fun _ => XS.iconst X545.here hx rfl (hb hby d2_400)) ?_
  show Go p e below T545 (mkF m 401 #[.val (.ref ca), .val (.int n)] [(.int (3 : Int32)), (.ref ca), (.int (3 : Int32)), (.ref b518), (.ref b518), (.ref b513), (.ref b513)]) _
  obtain ⟨cl553, Ar553, q553, S553, M553, H553, G553⟩ := (id f546)
  have in553 : ¬ ((3 : Int32) < 0 ∨ cl553.slots.size ≤ ((3 : Int32)).toNatClampNeg) := inb_of S553 ⟨by decide, by decide⟩
  have at553 : cl553.slots[((3 : Int32)).toNatClampNeg]? = some (.int s3) := H553.at in553 rfl
  refine stp (fun _ => X545.caload hx (j := (3 : Int32)) (v := (.int s3)) (by rw [e545]; exact Ar553.1) (State.isArrayOf_alike hZ.alike Ar553.2.1) Ar553.2.2 in553 at553 (g := (mkF m 401 #[.val (.ref ca), .val (.int n)] [(.int (3 : Int32)), (.ref ca), (.int (3 : Int32)), (.ref b518), (.ref b518), (.ref b513), (.ref b513)])) rfl rfl (hb hby d2_401) _) ?_
  show Go p e below T545 (mkF m 402 #[.val (.ref ca), .val (.int n)] [(.int s3), (.int (3 : Int32)), (.ref b518), (.ref b518), (.ref b513), (.ref b513)]) _
  obtain ⟨cl554, Ar554, q554, S554, M554, H554, G554⟩ := (id V545)
  have in554 : ¬ ((3 : Int32) < 0 ∨ cl554.slots.size ≤ ((3 : Int32)).toNatClampNeg) := inb_of S554 ⟨by decide, by decide⟩
  obtain ⟨T554, h554, X554, e554, W554, st554⟩ := stC X545 hx hZ e545 Ar554 (j := (3 : Int32)) in554 (g := (mkF m 402 #[.val (.ref ca), .val (.int n)] [(.int s3), (.int (3 : Int32)), (.ref b518), (.ref b518), (.ref b513), (.ref b513)])) rfl rfl (hb hby d2_402)
  have V554 : Arv Z h554 b518 k518 .char (9 : Int32) [(.int s0), (.int s1), (.int s2), (.int s3), (.int (0 : Int32)), (.int (0 : Int32)), (.int (0 : Int32)), (.int (0 : Int32)), (.int (0 : Int32))] (.int (0 : Int32)) := Arv.set Ar554 q554 S554 M554 H554 G554 (ow_fits_char (own_cs16 hs3)) (ow_wr_char (own_cs16 hs3) W554) 3 rfl (Nat.le_of_ble_eq_true rfl)
  have f555 := f546.other W554 ne520
  have f556 := Safe.wr W554 (Safe.exa hZ.alike f551 (by decide) (by decide)) CR.1 f547
  have f557 := f548.wr W554
  have f558 := f549.other W554 (Or.inl ne519)
  have f559 := f550.other W554 (Or.inl ne519)
  have f560 := f551.wr W554
  have hk := Nat.le_trans hk (Keep.of_wr W554).1
  have CR := CR.trans (CHr.wr W554 (Safe.exa hZ.alike f551 (by decide) (by decide)) CR.1)
  have K554 : Keep h0 h554 [] := K545.wr W554 (Or.inr sz_b518)
  have O554 := O545.wr W554 ge_b518
  have N554 := Fr.snoc X554 N545 ge_b518
  refine stp st554 ?_
  show Go p e below T554 (mkF m 403 #[.val (.ref ca), .val (.int n)] [(.ref b518), (.ref b513), (.ref b513)]) _
  refine stp (fun _ => XS.dup X554.here hx rfl (hb hby d2_403) rfl rfl) ?_
  refine stp (fun _ => XS.iconst X554.here hx rfl (hb hby d2_404)) ?_
  refine stp (fun _ => XS.aloadN X554.here hx rfl (hb hby d2_405) rfl rfl) ?_
  refine stp (fun _ => XS.iconst X554.here hx rfl (hb hby d2_406)) ?_
  show Go p e below T554 (mkF m 407 #[.val (.ref ca), .val (.int n)] [(.int (4 : Int32)), (.ref ca), (.int (4 : Int32)), (.ref b518), (.ref b518), (.ref b513), (.ref b513)]) _
  obtain ⟨cl562, Ar562, q562, S562, M562, H562, G562⟩ := (id f555)
  have in562 : ¬ ((4 : Int32) < 0 ∨ cl562.slots.size ≤ ((4 : Int32)).toNatClampNeg) := inb_of S562 ⟨by decide, by decide⟩
  have at562 : cl562.slots[((4 : Int32)).toNatClampNeg]? = some (.int s4) := H562.at in562 rfl
  refine stp (fun _ => X554.caload hx (j := (4 : Int32)) (v := (.int s4)) (by rw [e554]; exact Ar562.1) (State.isArrayOf_alike hZ.alike Ar562.2.1) Ar562.2.2 in562 at562 (g := (mkF m 407 #[.val (.ref ca), .val (.int n)] [(.int (4 : Int32)), (.ref ca), (.int (4 : Int32)), (.ref b518), (.ref b518), (.ref b513), (.ref b513)])) rfl rfl (hb hby d2_407) _) ?_
  show Go p e below T554 (mkF m 408 #[.val (.ref ca), .val (.int n)] [(.int s4), (.int (4 : Int32)), (.ref b518), (.ref b518), (.ref b513), (.ref b513)]) _
  obtain ⟨cl563, Ar563, q563, S563, M563, H563, G563⟩ := (id V554)
  have in563 : ¬ ((4 : Int32) < 0 ∨ cl563.slots.size ≤ ((4 : Int32)).toNatClampNeg) := inb_of S563 ⟨by decide, by decide⟩
  obtain ⟨T563, h563, X563, e563, W563, st563⟩ := stC X554 hx hZ e554 Ar563 (j := (4 : Int32)) in563 (g := (mkF m 408 #[.val (.ref ca), .val (.int n)] [(.int s4), (.int (4 : Int32)), (.ref b518), (.ref b518), (.ref b513), (.ref b513)])) rfl rfl (hb hby d2_408)
  have V563 : Arv Z h563 b518 k518 .char (9 : Int32) [(.int s0), (.int s1), (.int s2), (.int s3), (.int s4), (.int (0 : Int32)), (.int (0 : Int32)), (.int (0 : Int32)), (.int (0 : Int32))] (.int (0 : Int32)) := Arv.set Ar563 q563 S563 M563 H563 G563 (ow_fits_char (own_cs16 hs4)) (ow_wr_char (own_cs16 hs4) W563) 4 rfl (Nat.le_of_ble_eq_true rfl)
  have f564 := f555.other W563 ne520
  have f565 := Safe.wr W563 (Safe.exa hZ.alike f560 (by decide) (by decide)) CR.1 f556
  have f566 := f557.wr W563
  have f567 := f558.other W563 (Or.inl ne519)
  have f568 := f559.other W563 (Or.inl ne519)
  have f569 := f560.wr W563
  have hk := Nat.le_trans hk (Keep.of_wr W563).1
  have CR := CR.trans (CHr.wr W563 (Safe.exa hZ.alike f560 (by decide) (by decide)) CR.1)
  have K563 : Keep h0 h563 [] := K554.wr W563 (Or.inr sz_b518)
  have O563 := O554.wr W563 ge_b518
  have N563 := Fr.snoc X563 N554 ge_b518
  refine stp st563 ?_
  show Go p e below T563 (mkF m 409 #[.val (.ref ca), .val (.int n)] [(.ref b518), (.ref b513), (.ref b513)]) _
  refine stp (fun _ => XS.dup X563.here hx rfl (hb hby d2_409) rfl rfl) ?_
  refine stp (fun _ => XS.iconst X563.here hx rfl (hb hby d2_410)) ?_
  refine stp (fun _ => XS.aloadN X563.here hx rfl (hb hby d2_411) rfl rfl) ?_
  refine stp (fun _ => XS.iconst X563.here hx rfl (hb hby d2_412)) ?_
  show Go p e below T563 (mkF m 413 #[.val (.ref ca), .val (.int n)] [(.int (5 : Int32)), (.ref ca), (.int (5 : Int32)), (.ref b518), (.ref b518), (.ref b513), (.ref b513)]) _
  obtain ⟨cl571, Ar571, q571, S571, M571, H571, G571⟩ := (id f564)
  have in571 : ¬ ((5 : Int32) < 0 ∨ cl571.slots.size ≤ ((5 : Int32)).toNatClampNeg) := inb_of S571 ⟨by decide, by decide⟩
  have at571 : cl571.slots[((5 : Int32)).toNatClampNeg]? = some (.int s5) := H571.at in571 rfl
  refine stp (fun _ => X563.caload hx (j := (5 : Int32)) (v := (.int s5)) (by rw [e563]; exact Ar571.1) (State.isArrayOf_alike hZ.alike Ar571.2.1) Ar571.2.2 in571 at571 (g := (mkF m 413 #[.val (.ref ca), .val (.int n)] [(.int (5 : Int32)), (.ref ca), (.int (5 : Int32)), (.ref b518), (.ref b518), (.ref b513), (.ref b513)])) rfl rfl (hb hby d2_413) _) ?_
  show Go p e below T563 (mkF m 414 #[.val (.ref ca), .val (.int n)] [(.int s5), (.int (5 : Int32)), (.ref b518), (.ref b518), (.ref b513), (.ref b513)]) _
  obtain ⟨cl572, Ar572, q572, S572, M572, H572, G572⟩ := (id V563)
  have in572 : ¬ ((5 : Int32) < 0 ∨ cl572.slots.size ≤ ((5 : Int32)).toNatClampNeg) := inb_of S572 ⟨by decide, by decide⟩
  obtain ⟨T572, h572, X572, e572, W572, st572⟩ := stC X563 hx hZ e563 Ar572 (j := (5 : Int32)) in572 (g := (mkF m 414 #[.val (.ref ca), .val (.int n)] [(.int s5), (.int (5 : Int32)), (.ref b518), (.ref b518), (.ref b513), (.ref b513)])) rfl rfl (hb hby d2_414)
  have V572 : Arv Z h572 b518 k518 .char (9 : Int32) [(.int s0), (.int s1), (.int s2), (.int s3), (.int s4), (.int s5), (.int (0 : Int32)), (.int (0 : Int32)), (.int (0 : Int32))] (.int (0 : Int32)) := Arv.set Ar572 q572 S572 M572 H572 G572 (ow_fits_char (own_cs16 hs5)) (ow_wr_char (own_cs16 hs5) W572) 5 rfl (Nat.le_of_ble_eq_true rfl)
  have f573 := f564.other W572 ne520
  have f574 := Safe.wr W572 (Safe.exa hZ.alike f569 (by decide) (by decide)) CR.1 f565
  have f575 := f566.wr W572
  have f576 := f567.other W572 (Or.inl ne519)
  have f577 := f568.other W572 (Or.inl ne519)
  have f578 := f569.wr W572
  have hk := Nat.le_trans hk (Keep.of_wr W572).1
  have CR := CR.trans (CHr.wr W572 (Safe.exa hZ.alike f569 (by decide) (by decide)) CR.1)
  have K572 : Keep h0 h572 [] := K563.wr W572 (Or.inr sz_b518)
  have O572 := O563.wr W572 ge_b518
  have N572 := Fr.snoc X572 N563 ge_b518
  refine stp st572 ?_
  show Go p e below T572 (mkF m 415 #[.val (.ref ca), .val (.int n)] [(.ref b518), (.ref b513), (.ref b513)]) _
  refine stp (fun _ => XS.dup X572.here hx rfl (hb hby d2_415) rfl rfl) ?_
  refine stp (fun _ => XS.bipush X572.here hx rfl (hb hby d2_416)) ?_
  refine stp (fun _ => XS.aloadN X572.here hx rfl (hb hby d2_418) rfl rfl) ?_
  refine stp (fun _ => XS.bipush X572.here hx rfl (hb hby d2_419)) ?_
  show Go p e below T572 (mkF m 421 #[.val (.ref ca), .val (.int n)] [(.int (6 : Int32)), (.ref ca), (.int (6 : Int32)), (.ref b518), (.ref b518), (.ref b513), (.ref b513)]) _
  obtain ⟨cl580, Ar580, q580, S580, M580, H580, G580⟩ := (id f573)
  have in580 : ¬ ((6 : Int32) < 0 ∨ cl580.slots.size ≤ ((6 : Int32)).toNatClampNeg) := inb_of S580 ⟨by decide, by decide⟩
  have at580 : cl580.slots[((6 : Int32)).toNatClampNeg]? = some (.int s6) := H580.at in580 rfl
  refine stp (fun _ => X572.caload hx (j := (6 : Int32)) (v := (.int s6)) (by rw [e572]; exact Ar580.1) (State.isArrayOf_alike hZ.alike Ar580.2.1) Ar580.2.2 in580 at580 (g := (mkF m 421 #[.val (.ref ca), .val (.int n)] [(.int (6 : Int32)), (.ref ca), (.int (6 : Int32)), (.ref b518), (.ref b518), (.ref b513), (.ref b513)])) rfl rfl (hb hby d2_421) _) ?_
  show Go p e below T572 (mkF m 422 #[.val (.ref ca), .val (.int n)] [(.int s6), (.int (6 : Int32)), (.ref b518), (.ref b518), (.ref b513), (.ref b513)]) _
  obtain ⟨cl581, Ar581, q581, S581, M581, H581, G581⟩ := (id V572)
  have in581 : ¬ ((6 : Int32) < 0 ∨ cl581.slots.size ≤ ((6 : Int32)).toNatClampNeg) := inb_of S581 ⟨by decide, by decide⟩
  obtain ⟨T581, h581, X581, e581, W581, st581⟩ := stC X572 hx hZ e572 Ar581 (j := (6 : Int32)) in581 (g := (mkF m 422 #[.val (.ref ca), .val (.int n)] [(.int s6), (.int (6 : Int32)), (.ref b518), (.ref b518), (.ref b513), (.ref b513)])) rfl rfl (hb hby d2_422)
  have V581 : Arv Z h581 b518 k518 .char (9 : Int32) [(.int s0), (.int s1), (.int s2), (.int s3), (.int s4), (.int s5), (.int s6), (.int (0 : Int32)), (.int (0 : Int32))] (.int (0 : Int32)) := Arv.set Ar581 q581 S581 M581 H581 G581 (ow_fits_char (own_cs16 hs6)) (ow_wr_char (own_cs16 hs6) W581) 6 rfl (Nat.le_of_ble_eq_true rfl)
  have f582 := f573.other W581 ne520
  have f583 := Safe.wr W581 (Safe.exa hZ.alike f578 (by decide) (by decide)) CR.1 f574
  have f584 := f575.wr W581
  have f585 := f576.other W581 (Or.inl ne519)
  have f586 := f577.other W581 (Or.inl ne519)
  have f587 := f578.wr W581
  have hk := Nat.le_trans hk (Keep.of_wr W581).1
  have CR := CR.trans (CHr.wr W581 (Safe.exa hZ.alike f578 (by decide) (by decide)) CR.1)
  have K581 : Keep h0 h581 [] := K572.wr W581 (Or.inr sz_b518)
  have O581 := O572.wr W581 ge_b518
  have N581 := Fr.snoc X581 N572 ge_b518
  refine stp st581 ?_
  show Go p e below T581 (mkF m 423 #[.val (.ref ca), .val (.int n)] [(.ref b518), (.ref b513), (.ref b513)]) _
  refine stp (fun _ => XS.dup X581.here hx rfl (hb hby d2_423) rfl rfl) ?_
  refine stp (fun _ => XS.bipush X581.here hx rfl (hb hby d2_424)) ?_
  refine stp (fun _ => XS.aloadN X581.here hx rfl (hb hby d2_426) rfl rfl) ?_
  refine stp (fun _ => XS.bipush X581.here hx rfl (hb hby d2_427)) ?_
  show Go p e below T581 (mkF m 429 #[.val (.ref ca), .val (.int n)] [(.int (7 : Int32)), (.ref ca), (.int (7 : Int32)), (.ref b518), (.ref b518), (.ref b513), (.ref b513)]) _
  obtain ⟨cl589, Ar589, q589, S589, M589, H589, G589⟩ := (id f582)
  have in589 : ¬ ((7 : Int32) < 0 ∨ cl589.slots.size ≤ ((7 : Int32)).toNatClampNeg) := inb_of S589 ⟨by decide, by decide⟩
  have at589 : cl589.slots[((7 : Int32)).toNatClampNeg]? = some (.int s7) := H589.at in589 rfl
  refine stp (fun _ => X581.caload hx (j := (7 : Int32)) (v := (.int s7)) (by rw [e581]; exact Ar589.1) (State.isArrayOf_alike hZ.alike Ar589.2.1) Ar589.2.2 in589 at589 (g := (mkF m 429 #[.val (.ref ca), .val (.int n)] [(.int (7 : Int32)), (.ref ca), (.int (7 : Int32)), (.ref b518), (.ref b518), (.ref b513), (.ref b513)])) rfl rfl (hb hby d2_429) _) ?_
  show Go p e below T581 (mkF m 430 #[.val (.ref ca), .val (.int n)] [(.int s7), (.int (7 : Int32)), (.ref b518), (.ref b518), (.ref b513), (.ref b513)]) _
  obtain ⟨cl590, Ar590, q590, S590, M590, H590, G590⟩ := (id V581)
  have in590 : ¬ ((7 : Int32) < 0 ∨ cl590.slots.size ≤ ((7 : Int32)).toNatClampNeg) := inb_of S590 ⟨by decide, by decide⟩
  obtain ⟨T590, h590, X590, e590, W590, st590⟩ := stC X581 hx hZ e581 Ar590 (j := (7 : Int32)) in590 (g := (mkF m 430 #[.val (.ref ca), .val (.int n)] [(.int s7), (.int (7 : Int32)), (.ref b518), (.ref b518), (.ref b513), (.ref b513)])) rfl rfl (hb hby d2_430)
  have V590 : Arv Z h590 b518 k518 .char (9 : Int32) [(.int s0), (.int s1), (.int s2), (.int s3), (.int s4), (.int s5), (.int s6), (.int s7), (.int (0 : Int32))] (.int (0 : Int32)) := Arv.set Ar590 q590 S590 M590 H590 G590 (ow_fits_char (own_cs16 hs7)) (ow_wr_char (own_cs16 hs7) W590) 7 rfl (Nat.le_of_ble_eq_true rfl)
  have f591 := f582.other W590 ne520
  have f592 := Safe.wr W590 (Safe.exa hZ.alike f587 (by decide) (by decide)) CR.1 f583
  have f593 := f584.wr W590
  have f594 := f585.other W590 (Or.inl ne519)
  have f595 := f586.other W590 (Or.inl ne519)
  have f596 := f587.wr W590
  have hk := Nat.le_trans hk (Keep.of_wr W590).1
  have CR := CR.trans (CHr.wr W590 (Safe.exa hZ.alike f587 (by decide) (by decide)) CR.1)
  have K590 : Keep h0 h590 [] := K581.wr W590 (Or.inr sz_b518)
  have O590 := O581.wr W590 ge_b518
  have N590 := Fr.snoc X590 N581 ge_b518
  refine stp st590 ?_
  show Go p e below T590 (mkF m 431 #[.val (.ref ca), .val (.int n)] [(.ref b518), (.ref b513), (.ref b513)]) _
  refine stp (fun _ => XS.dup X590.here hx rfl (hb hby d2_431) rfl rfl) ?_
  refine stp (fun _ => XS.bipush X590.here hx rfl (hb hby d2_432)) ?_
  refine stp (fun _ => XS.aloadN X590.here hx rfl (hb hby d2_434) rfl rfl) ?_
  refine stp (fun _ => XS.bipush X590.here hx rfl (hb hby d2_435)) ?_
  show Go p e below T590 (mkF m 437 #[.val (.ref ca), .val (.int n)] [(.int (8 : Int32)), (.ref ca), (.int (8 : Int32)), (.ref b518), (.ref b518), (.ref b513), (.ref b513)]) _
  obtain ⟨cl598, Ar598, q598, S598, M598, H598, G598⟩ := (id f591)
  have in598 : ¬ ((8 : Int32) < 0 ∨ cl598.slots.size ≤ ((8 : Int32)).toNatClampNeg) := inb_of S598 ⟨by decide, by decide⟩
  have at598 : cl598.slots[((8 : Int32)).toNatClampNeg]? = some (.int s8) := H598.at in598 rfl
  refine stp (fun _ => X590.caload hx (j := (8 : Int32)) (v := (.int s8)) (by rw [e590]; exact Ar598.1) (State.isArrayOf_alike hZ.alike Ar598.2.1) Ar598.2.2 in598 at598 (g := (mkF m 437 #[.val (.ref ca), .val (.int n)] [(.int (8 : Int32)), (.ref ca), (.int (8 : Int32)), (.ref b518), (.ref b518), (.ref b513), (.ref b513)])) rfl rfl (hb hby d2_437) _) ?_
  show Go p e below T590 (mkF m 438 #[.val (.ref ca), .val (.int n)] [(.int s8), (.int (8 : Int32)), (.ref b518), (.ref b518), (.ref b513), (.ref b513)]) _
  obtain ⟨cl599, Ar599, q599, S599, M599, H599, G599⟩ := (id V590)
  have in599 : ¬ ((8 : Int32) < 0 ∨ cl599.slots.size ≤ ((8 : Int32)).toNatClampNeg) := inb_of S599 ⟨by decide, by decide⟩
  obtain ⟨T599, h599, X599, e599, W599, st599⟩ := stC X590 hx hZ e590 Ar599 (j := (8 : Int32)) in599 (g := (mkF m 438 #[.val (.ref ca), .val (.int n)] [(.int s8), (.int (8 : Int32)), (.ref b518), (.ref b518), (.ref b513), (.ref b513)])) rfl rfl (hb hby d2_438)
  have V599 : Arv Z h599 b518 k518 .char (9 : Int32) [(.int s0), (.int s1), (.int s2), (.int s3), (.int s4), (.int s5), (.int s6), (.int s7), (.int s8)] (.int (0 : Int32)) := Arv.set Ar599 q599 S599 M599 H599 G599 (ow_fits_char (own_cs16 hs8)) (ow_wr_char (own_cs16 hs8) W599) 8 rfl (Nat.le_of_ble_eq_true rfl)
  have f600 := f591.other W599 ne520
  have f601 := Safe.wr W599 (Safe.exa hZ.alike f596 (by decide) (by decide)) CR.1 f592
  have f602 := f593.wr W599
  have f603 := f594.other W599 (Or.inl ne519)
  have f604 := f595.other W599 (Or.inl ne519)
  have f605 := f596.wr W599
  have hk := Nat.le_trans hk (Keep.of_wr W599).1
  have CR := CR.trans (CHr.wr W599 (Safe.exa hZ.alike f596 (by decide) (by decide)) CR.1)
  have K599 : Keep h0 h599 [] := K590.wr W599 (Or.inr sz_b518)
  have O599 := O590.wr W599 ge_b518
  have N599 := Fr.snoc X599 N590 ge_b518
  refine stp st599 ?_
  show Go p e below T599 (mkF m 439 #[.val (.ref ca), .val (.int n)] [(.ref b518), (.ref b513), (.ref b513)]) _
  have V607 : Arf Z h599 b518 k518 .char ([s0, s1, s2, s3, s4, s5, s6, s7, s8] : List Int32).length (fun i => (.int (own_at ([s0, s1, s2, s3, s4, s5, s6, s7, s8] : List Int32) i))) := (Arv.arf V599 rfl).congr (fun i _ => own_atv ([s0, s1, s2, s3, s4, s5, s6, s7, s8] : List Int32) i)
  obtain ⟨_, _, ⟨T608, L608, k608, n608⟩, -, X608, ⟨Lc608, hQ608, l608, y608, z608⟩, st608⟩ := X599.specialBack hx (y := (⟨"java/lang/String", "<init>", "([C)V"⟩ : MethodName)) rfl hown (mvT hZ (hw _ (List.mem_of_getElem? (i := 12) rfl))) (mvT hZ (hw _ (List.mem_of_getElem? (i := 13) rfl))) (mvT hZ (hw _ (List.mem_of_getElem? (i := 14) rfl))) (by decide) (backOf (W := 1) (rm_u1 l Z a0 hw [] b513 b518 ([s0, s1, s2, s3, s4, s5, s6, s7, s8] : List Int32) cz k518 h599 n0 O599 f602 f603 f604 V607 S_COMPACT_STRINGS S__assertionsDisabled S_HI_BYTE_SHIFT S_LO_BYTE_SHIFT ge_b513 (Ne.symm ne519) hcz (Nat.le_of_ble_eq_true rfl) (own_m1 (P := (fun c => ¬ c < 0 ∧ ¬ (65535 : Int32) < c)) hs0 (own_m1 (P := (fun c => ¬ c < 0 ∧ ¬ (65535 : Int32) < c)) hs1 (own_m1 (P := (fun c => ¬ c < 0 ∧ ¬ (65535 : Int32) < c)) hs2 (own_m1 (P := (fun c => ¬ c < 0 ∧ ¬ (65535 : Int32) < c)) hs3 (own_m1 (P := (fun c => ¬ c < 0 ∧ ¬ (65535 : Int32) < c)) hs4 (own_m1 (P := (fun c => ¬ c < 0 ∧ ¬ (65535 : Int32) < c)) hs5 (own_m1 (P := (fun c => ¬ c < 0 ∧ ¬ (65535 : Int32) < c)) hs6 (own_m1 (P := (fun c => ¬ c < 0 ∧ ¬ (65535 : Int32) < c)) hs7 (own_m1 (P := (fun c => ¬ c < 0 ∧ ¬ (65535 : Int32) < c)) hs8 (own_m0 (P := (fun c => ¬ c < 0 ∧ ¬ (65535 : Int32) < c)))))))))))) (Nat.succ_pos _)) hZ (hw _ (List.mem_of_getElem? (i := 14) rfl)) (hw _ (List.mem_of_getElem? (i := 11) rfl)) (by decide) (by decide)) (g := (mkF m 439 #[.val (.ref ca), .val (.int n)] [(.ref b518), (.ref b513), (.ref b513)])) rfl (by rw [hml]; rfl) (Steps.refl _) (a := b513) (argsL := [(.ref b518)]) (rest := [(.ref b513)]) (lenOf pd_14 rfl) rfl (by show 2 * 0 + _ ≤ _; exact Nat.le_of_eq rfl) (hb hby d2_439) (fun _ _ => ⟨rfl, e599, (by decide : 2 + 2 ≤ _), (by decide : 13 + 30 ≤ _)⟩)
  dsimp only [Pt.U, Pt.locs, Pt.cells, Pt.slots] at X608 l608 y608 z608 st608 hQ608
  subst y608 z608
  obtain ⟨rfl, N608q, K608q, r608_0⟩ := hQ608
  have N608 : Fr n0 L608 := by rw [l608]; exact Fr.app N599 N608q
  have f609 := f600.keep K608q (ninS ne514 nin0)
  have f610 := f601.keep K608q (sfS f601 sf0) CR.1
  have f611 := f602.keep K608q
  have f612 := f605.keep K608q
  have f613 := V607.keep K608q (ninS (Ne.symm ne519) nin0)
  have hk := Nat.le_trans hk K608q.1
  have CR := CR.trans (CHr.keep K608q (sfS f601 sf0) CR.1)
  have K608 : Keep h0 T608.heap [] := K599.trans K608q (allS (Or.inr sz_b513) all0)
  have O608 := O599.keep K608q (allS ge_b513 all0)
  refine stt st608 ?_
  show Go p e below T608 (mkF m 442 #[.val (.ref ca), .val (.int n)] [(.ref b513)]) _
  refine outAW X608 hx hZ hEL rfl hS hk CR hret rfl rfl (hb hby d2_442) hlk (by decide) (by decide) ?_
  exact ⟨b513, rfl, N608, K608, ⟨ge_b513, sz_b513⟩, (own_ucs_of (by simp only [own_mk, if_neg q1_1, if_neg q17_21, if_neg q39_51, if_neg q67_90, if_neg q101_138, if_neg q141_195, if_neg q188_261, if_neg q242_336, if_neg q304_420]) r608_0)⟩
theorem d7_0 : decode prog_9_method_3_code 0 = .ok (.lconst 0, 1) := by decide +kernel
theorem d7_1 : decode prog_9_method_3_code 1 = .ok (.lstore_n 1, 1) := by decide +kernel
theorem d7_2 : decode prog_9_method_3_code 2 = .ok (.iconst 0, 1) := by decide +kernel
theorem d7_3 : decode prog_9_method_3_code 3 = .ok (.istore_n 3, 1) := by decide +kernel
theorem d7_4 : decode prog_9_method_3_code 4 = .ok (.iconst 0, 1) := by decide +kernel
theorem d7_5 : decode prog_9_method_3_code 5 = .ok (.istore 4, 2) := by decide +kernel
theorem d7_7 : decode prog_9_method_3_code 7 = .ok (.iload 4, 2) := by decide +kernel
theorem d7_9 : decode prog_9_method_3_code 9 = .ok (.ifCond .ne 64, 3) := by decide +kernel
theorem d7_12 : decode prog_9_method_3_code 12 = .ok (.iload_n 3, 1) := by decide +kernel
theorem d7_13 : decode prog_9_method_3_code 13 = .ok (.bipush 8, 2) := by decide +kernel
theorem d7_15 : decode prog_9_method_3_code 15 = .ok (.if_icmp .ge 58, 3) := by decide +kernel
theorem d7_18 : decode prog_9_method_3_code 18 = .ok (.iload_n 3, 1) := by decide +kernel
theorem d7_19 : decode prog_9_method_3_code 19 = .ok (.aload_n 0, 1) := by decide +kernel
theorem d7_20 : decode prog_9_method_3_code 20 = .ok (.invokevirtual 9, 3) := by decide +kernel
theorem pd_15 : parseMethodDescriptor "()I" = some ⟨[], some .int⟩ := by decide +kernel
theorem d7_23 : decode prog_9_method_3_code 23 = .ok (.if_icmp .ge 50, 3) := by decide +kernel
theorem d7_26 : decode prog_9_method_3_code 26 = .ok (.aload_n 0, 1) := by decide +kernel
theorem d7_27 : decode prog_9_method_3_code 27 = .ok (.iload_n 3, 1) := by decide +kernel
theorem d7_28 : decode prog_9_method_3_code 28 = .ok (.invokevirtual 21, 3) := by decide +kernel
theorem pd_16 : parseMethodDescriptor "(I)C" = some ⟨[.int], some .char⟩ := by decide +kernel
theorem d7_31 : decode prog_9_method_3_code 31 = .ok (.istore 5, 2) := by decide +kernel
theorem d7_33 : decode prog_9_method_3_code 33 = .ok (.iload 5, 2) := by decide +kernel
theorem d7_35 : decode prog_9_method_3_code 35 = .ok (.bipush 127, 2) := by decide +kernel
theorem d7_37 : decode prog_9_method_3_code 37 = .ok (.if_icmp .le 7, 3) := by decide +kernel
theorem d7_40 : decode prog_9_method_3_code 40 = .ok (.iconst 1, 1) := by decide +kernel
theorem d7_41 : decode prog_9_method_3_code 41 = .ok (.goto 4, 3) := by decide +kernel
theorem d7_45 : decode prog_9_method_3_code 45 = .ok (.istore 4, 2) := by decide +kernel
theorem d7_47 : decode prog_9_method_3_code 47 = .ok (.lload_n 1, 1) := by decide +kernel
theorem d7_48 : decode prog_9_method_3_code 48 = .ok (.bipush 8, 2) := by decide +kernel
theorem d7_50 : decode prog_9_method_3_code 50 = .ok (.lshl, 1) := by decide +kernel
theorem d7_51 : decode prog_9_method_3_code 51 = .ok (.iload 4, 2) := by decide +kernel
theorem d7_53 : decode prog_9_method_3_code 53 = .ok (.ifCond .eq 9, 3) := by decide +kernel
theorem d7_56 : decode prog_9_method_3_code 56 = .ok (.sipush 255, 3) := by decide +kernel
theorem d7_59 : decode prog_9_method_3_code 59 = .ok (.goto 5, 3) := by decide +kernel
theorem d7_64 : decode prog_9_method_3_code 64 = .ok (.i2l, 1) := by decide +kernel
theorem d7_65 : decode prog_9_method_3_code 65 = .ok (.lor, 1) := by decide +kernel
theorem d7_66 : decode prog_9_method_3_code 66 = .ok (.lstore_n 1, 1) := by decide +kernel
theorem d7_67 : decode prog_9_method_3_code 67 = .ok (.iinc 3 1, 3) := by decide +kernel
theorem d7_70 : decode prog_9_method_3_code 70 = .ok (.goto (-63), 3) := by decide +kernel
theorem d7_73 : decode prog_9_method_3_code 73 = .ok (.lload_n 1, 1) := by decide +kernel
theorem d7_74 : decode prog_9_method_3_code 74 = .ok (.bipush 8, 2) := by decide +kernel
theorem d7_76 : decode prog_9_method_3_code 76 = .ok (.bipush 8, 2) := by decide +kernel
theorem d7_78 : decode prog_9_method_3_code 78 = .ok (.iload_n 3, 1) := by decide +kernel
theorem d7_79 : decode prog_9_method_3_code 79 = .ok (.isub, 1) := by decide +kernel
theorem d7_80 : decode prog_9_method_3_code 80 = .ok (.imul, 1) := by decide +kernel
theorem d7_81 : decode prog_9_method_3_code 81 = .ok (.lshl, 1) := by decide +kernel
theorem d7_82 : decode prog_9_method_3_code 82 = .ok (.ldc2_w 38, 3) := by decide +kernel
theorem d7_85 : decode prog_9_method_3_code 85 = .ok (.lxor, 1) := by decide +kernel
theorem d7_86 : decode prog_9_method_3_code 86 = .ok (.lreturn, 1) := by decide +kernel
theorem d7_44 : decode prog_9_method_3_code 44 = .ok (.iconst 0, 1) := by decide +kernel
theorem d7_62 : decode prog_9_method_3_code 62 = .ok (.iload 5, 2) := by decide +kernel
theorem ef_rm_pk (m : MethodId) (t : Addr)  : entryFrame m #[(.ref t)] 6 = mkF m 0 #[.val (.ref t), .unset, .unset, .unset, .unset, .unset] [] := by first | (simp [entryFrame, mkF, argsToLocals, Value.category]; done) | rfl
def Q_rm_pk (Z : State) (t : Addr) (cs : List Int32) (cz : Int32) (fm : Value) (h0 : Heap) (n0 : Nat) (v : Option Value) (h : Heap) (L : List Loc) : Prop := v = some (.long (own_k0 cs (0 : Int64))) ∧ Fr n0 L ∧ h = h0
theorem pn_23_ : plainName "com/example/heedful_rank/heedfulrank/history/ByteOrder" = true := by first | (simp [plainName, overriddenIn]; done) | decide +kernel
theorem pn_23 : plainFor (⟨"com/example/heedful_rank/heedfulrank/history/ByteOrder", "prefixKey", "(Ljava/lang/String;)J"⟩ : MethodName) = true := plainFor_of_name pn_23_
set_option maxRecDepth 65536 in
set_option maxHeartbeats 40000000 in
theorem rm_pk (l : Launch) (Z : State) (a0 : Array Value) (hw : ∀ d ∈ tables_1, d.before a0 Z = true) (ws : List Jvm.Cond) (t : Addr) (cs : List Int32) (cz : Int32) (fm : Value) (h0 : Heap) (n0 : Nat) (O0 : Old Z n0 h0) (Q_t : UStr Z h0 t cs) (S_COMPACT_STRINGS : Sta Z Z.heap "java/lang/String" "COMPACT_STRINGS" "Z" (.int cz)) (S_SIOOBE_FORMATTER : Sta Z Z.heap "jdk/internal/util/Preconditions" "SIOOBE_FORMATTER" "Ljava/util/function/BiFunction;" fm) (S__assertionsDisabled : Sta Z Z.heap "java/lang/StringUTF16" "$assertionsDisabled" "Z" (.int (1 : Int32))) (S_HI_BYTE_SHIFT : Sta Z Z.heap "java/lang/StringUTF16" "HI_BYTE_SHIFT" "I" (.int (0 : Int32))) (S_LO_BYTE_SHIFT : Sta Z Z.heap "java/lang/StringUTF16" "LO_BYTE_SHIFT" "I" (.int (8 : Int32))) (hcz : ¬ cz = (0 : Int32)) (hfm : fm.isRef = true) (hN1 : cs.length ≤ 10) :
    MetFree l (⟨"com/example/heedful_rank/heedfulrank/history/ByteOrder", "prefixKey", "(Ljava/lang/String;)J"⟩ : MethodName) (head1 (Jvm.Cond.code (⟨"com/example/heedful_rank/heedfulrank/history/ByteOrder", "prefixKey", "(Ljava/lang/String;)J"⟩ : MethodName) prog_9_method_3_code 6 (some .long) :: ws) ({ frames := 5, cells := 0, slots := 0, locals := 66 } : Room)) (fun args_ U => args_ = #[(.ref t)] ∧ Z.Warmed39 U.vm ∧ U.heap = h0) (fun _ _ _ _ _ => True) (fun _ U out_ U' => ∃ val_ loc_, out_ = .returned val_ ∧ (Q_rm_pk Z t cs cz fm h0 n0) val_ U'.heap loc_ ∧ FrameEnd U out_ U' loc_ ({ frames := 5, cells := 0, slots := 0, locals := 66 } : Room).cells ({ frames := 5, cells := 0, slots := 0, locals := 66 } : Room).slots) := by
  refine start (Q := (Q_rm_pk Z t cs cz fm h0 n0)) pn_23 ?_
  intro p e s m below meth c T0 X0 hx hby hml hown hnm hret hlk hZ e0
  replace hown : s.vm.findClass "com/example/heedful_rank/heedfulrank/history/ByteOrder" = some m.cls := hown
  replace hml : c.maxLocals = 6 := hml
  refine goAt (ef_rm_pk m t ) ?_
  have N0 := Fr.nil n0
  show Go p e below T0 (mkF m 0 #[.val (.ref t), .unset, .unset, .unset, .unset, .unset] []) _
  refine stp (fun _ => XS.lconst X0.here hx rfl (hb hby d7_0)) ?_
  show Go p e below T0 (mkF m 1 #[.val (.ref t), .unset, .unset, .unset, .unset, .unset] [(.long (0 : Int64))]) _
  refine stp (fun _ => XS.lstoreN X0.here hx rfl (hb hby d7_1) rfl (l' := #[.val (.ref t), .val (.long (0 : Int64)), .second, .unset, .unset, .unset]) rfl) ?_
  show Go p e below T0 (mkF m 2 #[.val (.ref t), .val (.long (0 : Int64)), .second, .unset, .unset, .unset] []) _
  refine stp (fun _ => XS.iconst X0.here hx rfl (hb hby d7_2)) ?_
  show Go p e below T0 (mkF m 3 #[.val (.ref t), .val (.long (0 : Int64)), .second, .unset, .unset, .unset] [(.int (0 : Int32))]) _
  refine stp (fun _ => XS.istoreN X0.here hx rfl (hb hby d7_3) rfl (l' := #[.val (.ref t), .val (.long (0 : Int64)), .second, .val (.int (0 : Int32)), .unset, .unset]) rfl) ?_
  show Go p e below T0 (mkF m 4 #[.val (.ref t), .val (.long (0 : Int64)), .second, .val (.int (0 : Int32)), .unset, .unset] []) _
  refine stp (fun _ => XS.iconst X0.here hx rfl (hb hby d7_4)) ?_
  show Go p e below T0 (mkF m 5 #[.val (.ref t), .val (.long (0 : Int64)), .second, .val (.int (0 : Int32)), .unset, .unset] [(.int (0 : Int32))]) _
  refine stp (fun _ => XS.istore X0.here hx rfl (hb hby d7_5) rfl (l' := #[.val (.ref t), .val (.long (0 : Int64)), .second, .val (.int (0 : Int32)), .val (.int (0 : Int32)), .unset]) rfl) ?_
  show Go p e below T0 (mkF m 7 #[.val (.ref t), .val (.long (0 : Int64)), .second, .val (.int (0 : Int32)), .val (.int (0 : Int32)), .unset] []) _
  refine stp (fun _ => XS.iload X0.here hx rfl (hb hby d7_7) rfl) ?_
  show Go p e below T0 (mkF m 9 #[.val (.ref t), .val (.long (0 : Int64)), .second, .val (.int (0 : Int32)), .val (.int (0 : Int32)), .unset] [(.int (0 : Int32))]) _
  refine stp (fun _ => XS.ifNo X0.here hx rfl (hb hby d7_9) rfl (by decide)) ?_
  show Go p e below T0 (mkF m 12 #[.val (.ref t), .val (.long (0 : Int64)), .second, .val (.int (0 : Int32)), .val (.int (0 : Int32)), .unset] []) _
  refine stp (fun _ => XS.iloadN X0.here hx rfl (hb hby d7_12) rfl) ?_
  refine stp (fun _ => XS.bipush X0.here hx rfl (hb hby d7_13)) ?_
  show Go p e below T0 (mkF m 15 #[.val (.ref t), .val (.long (0 : Int64)), .second, .val (.int (0 : Int32)), .val (.int (0 : Int32)), .unset] [(.int (8 : Int32)), (.int (0 : Int32))]) _
  refine stp (fun _ => XS.icmpNo X0.here hx rfl (hb hby d7_15) rfl (by decide)) ?_
  show Go p e below T0 (mkF m 18 #[.val (.ref t), .val (.long (0 : Int64)), .second, .val (.int (0 : Int32)), .val (.int (0 : Int32)), .unset] []) _
  refine stp (fun _ => XS.iloadN X0.here hx rfl (hb hby d7_18) rfl) ?_
  refine stp (fun _ => XS.aloadN X0.here hx rfl (hb hby d7_19) rfl rfl) ?_
  show Go p e below T0 (mkF m 20 #[.val (.ref t), .val (.long (0 : Int64)), .second, .val (.int (0 : Int32)), .val (.int (0 : Int32)), .unset] [(.ref t), (.int (0 : Int32))]) _
  obtain ⟨cq1, kq1, q1a, q1b, q1c⟩ := isOf hZ e0 Q_t.exa
  obtain ⟨_, _, ⟨T1, L1, k1, n1⟩, -, X1, ⟨Lc1, hQ1, l1, y1, z1⟩, st1⟩ := X0.virtualBack hx (y := (⟨"java/lang/String", "length", "()I"⟩ : MethodName)) (z := (⟨"java/lang/String", "length", "()I"⟩ : MethodName)) hown (mvT hZ (hw _ (List.mem_of_getElem? (i := 38) rfl))) (mvT hZ (hw _ (List.mem_of_getElem? (i := 39) rfl))) (notFace_of_selects (args := #[]) (mvT hZ (hw _ (List.mem_of_getElem? (i := 41) rfl)))) (mvT hZ (hw _ (List.mem_of_getElem? (i := 41) rfl))) (mvT hZ (hw _ (List.mem_of_getElem? (i := 40) rfl))) (by decide) (backOf (W := 1) (rm_ulen l Z a0 hw [] t cs cz h0 n0 O0 Q_t S_COMPACT_STRINGS hcz) hZ (hw _ (List.mem_of_getElem? (i := 42) rfl)) (hw _ (List.mem_of_getElem? (i := 11) rfl)) (by decide) (by decide)) q1a q1c (g := (mkF m 20 #[.val (.ref t), .val (.long (0 : Int64)), .second, .val (.int (0 : Int32)), .val (.int (0 : Int32)), .unset] [(.ref t), (.int (0 : Int32))])) rfl (by rw [hml]; rfl) (Steps.refl _) (argsL := []) (rest := [(.int (0 : Int32))]) (lenOf pd_15 rfl) rfl (by show 2 * 0 + _ ≤ _; exact Nat.le_of_eq rfl) (hb hby d7_20) (fun _ _ => ⟨rfl, e0, (by decide : 0 + 0 ≤ _), (by decide : 0 + 0 ≤ _)⟩)
  dsimp only [Pt.U, Pt.locs, Pt.cells, Pt.slots] at X1 l1 y1 z1 st1 hQ1
  subst y1 z1
  obtain ⟨rfl, N1q, e1⟩ := hQ1
  have N1 : Fr n0 L1 := by rw [l1]; exact Fr.app N0 N1q
  refine stt st1 ?_
  show Go p e below T1 (mkF m 23 #[.val (.ref t), .val (.long (0 : Int64)), .second, .val (.int (0 : Int32)), .val (.int (0 : Int32)), .unset] [(.int (Int32.ofNat cs.length)), (.int (0 : Int32))]) _
  by_cases q23_2 : (0 : Int32) < (Int32.ofNat cs.length)
  rotate_left
  · refine stp (fun _ => XS.icmpYes X1.here hx rfl (pc0 := 23) (pc' := 73) rfl (hb hby d7_23) rfl (XT.ii_ge_t q23_2) (by decide) (by decide)) ?_
    show Go p e below T1 (mkF m 73 #[.val (.ref t), .val (.long (0 : Int64)), .second, .val (.int (0 : Int32)), .val (.int (0 : Int32)), .unset] []) _
    refine stp (fun _ => XS.lloadN X1.here hx rfl (hb hby d7_73) rfl) ?_
    refine stp (fun _ => XS.bipush X1.here hx rfl (hb hby d7_74)) ?_
    refine stp (fun _ => XS.bipush X1.here hx rfl (hb hby d7_76)) ?_
    refine stp (fun _ => XS.iloadN X1.here hx rfl (hb hby d7_78) rfl) ?_
    show Go p e below T1 (mkF m 79 #[.val (.ref t), .val (.long (0 : Int64)), .second, .val (.int (0 : Int32)), .val (.int (0 : Int32)), .unset] [(.int (0 : Int32)), (.int (8 : Int32)), (.int (8 : Int32)), (.long (0 : Int64))]) _
    refine stp (fun _ => XS.isub X1.here hx rfl (hb hby d7_79) rfl) ?_
    show Go p e below T1 (mkF m 80 #[.val (.ref t), .val (.long (0 : Int64)), .second, .val (.int (0 : Int32)), .val (.int (0 : Int32)), .unset] [(.int (8 : Int32)), (.int (8 : Int32)), (.long (0 : Int64))]) _
    refine stp (fun _ => XS.imul X1.here hx rfl (hb hby d7_80) rfl) ?_
    show Go p e below T1 (mkF m 81 #[.val (.ref t), .val (.long (0 : Int64)), .second, .val (.int (0 : Int32)), .val (.int (0 : Int32)), .unset] [(.int (64 : Int32)), (.long (0 : Int64))]) _
    refine stp (fun _ => XS.lshl X1.here hx rfl (hb hby d7_81) rfl) ?_
    show Go p e below T1 (mkF m 82 #[.val (.ref t), .val (.long (0 : Int64)), .second, .val (.int (0 : Int32)), .val (.int (0 : Int32)), .unset] [(.long ((0 : Int64) <<< ((64 : Int32) &&& 0x3f).toInt64))]) _
    refine stp (fun _ => X1.ldc2Long hx hown (mvT hZ (hw _ (List.mem_of_getElem? (i := 49) rfl))) (g := (mkF m 82 #[.val (.ref t), .val (.long (0 : Int64)), .second, .val (.int (0 : Int32)), .val (.int (0 : Int32)), .unset] [(.long ((0 : Int64) <<< ((64 : Int32) &&& 0x3f).toInt64))])) rfl (hb hby d7_82) _) ?_
    show Go p e below T1 (mkF m 85 #[.val (.ref t), .val (.long (0 : Int64)), .second, .val (.int (0 : Int32)), .val (.int (0 : Int32)), .unset] [(.long (-9223372036854775808 : Int64)), (.long ((0 : Int64) <<< ((64 : Int32) &&& 0x3f).toInt64))]) _
    refine stp (fun _ => XS.lxor X1.here hx rfl (hb hby d7_85) rfl) ?_
    show Go p e below T1 (mkF m 86 #[.val (.ref t), .val (.long (0 : Int64)), .second, .val (.int (0 : Int32)), .val (.int (0 : Int32)), .unset] [(.long (((0 : Int64) <<< ((64 : Int32) &&& 0x3f).toInt64) ^^^ (-9223372036854775808 : Int64)))]) _
    refine outJ X1 hx hret (hb hby d7_86) hlk (by decide) (by decide) ?_
    exact ⟨own_somej (by simp only [own_k0, own_k1, own_k2, own_k3, own_k4, own_k5, own_k6, own_k7, own_k8, own_fin, if_neg q23_2]), N1, e1⟩
  refine stp (fun _ => XS.icmpNo X1.here hx rfl (hb hby d7_23) rfl (XT.ii_ge_f q23_2)) ?_
  show Go p e below T1 (mkF m 26 #[.val (.ref t), .val (.long (0 : Int64)), .second, .val (.int (0 : Int32)), .val (.int (0 : Int32)), .unset] []) _
  refine stp (fun _ => XS.aloadN X1.here hx rfl (hb hby d7_26) rfl rfl) ?_
  refine stp (fun _ => XS.iloadN X1.here hx rfl (hb hby d7_27) rfl) ?_
  show Go p e below T1 (mkF m 28 #[.val (.ref t), .val (.long (0 : Int64)), .second, .val (.int (0 : Int32)), .val (.int (0 : Int32)), .unset] [(.int (0 : Int32)), (.ref t)]) _
  obtain ⟨cq3, kq3, q3a, q3b, q3c⟩ := isOf hZ e1 Q_t.exa
  obtain ⟨_, _, ⟨T3, L3, k3, n3⟩, -, X3, ⟨Lc3, hQ3, l3, y3, z3⟩, st3⟩ := X1.virtualBack hx (y := (⟨"java/lang/String", "charAt", "(I)C"⟩ : MethodName)) (z := (⟨"java/lang/String", "charAt", "(I)C"⟩ : MethodName)) hown (mvT hZ (hw _ (List.mem_of_getElem? (i := 80) rfl))) (mvT hZ (hw _ (List.mem_of_getElem? (i := 81) rfl))) (notFace_of_selects (args := #[]) (mvT hZ (hw _ (List.mem_of_getElem? (i := 83) rfl)))) (mvT hZ (hw _ (List.mem_of_getElem? (i := 83) rfl))) (mvT hZ (hw _ (List.mem_of_getElem? (i := 82) rfl))) (by decide) (backOf (W := 0) (rm_uch l Z a0 hw [] t (0 : Int32) cs cz fm 0 h0 n0 O0 Q_t S_COMPACT_STRINGS S_SIOOBE_FORMATTER S__assertionsDisabled S_HI_BYTE_SHIFT S_LO_BYTE_SHIFT hcz hfm (by decide) (own_idx (by decide) hN1 q23_2)) hZ (hw _ (List.mem_of_getElem? (i := 84) rfl)) (hw _ (List.mem_of_getElem? (i := 11) rfl)) (by decide) (by decide)) q3a q3c (g := (mkF m 28 #[.val (.ref t), .val (.long (0 : Int64)), .second, .val (.int (0 : Int32)), .val (.int (0 : Int32)), .unset] [(.int (0 : Int32)), (.ref t)])) rfl (by rw [hml]; rfl) (Steps.refl _) (argsL := [(.int (0 : Int32))]) (rest := []) (lenOf pd_16 rfl) rfl (by show 2 * 0 + _ ≤ _; exact Nat.le_of_eq rfl) (hb hby d7_28) (fun _ _ => ⟨rfl, e1, (by decide : 0 + 0 ≤ _), (by decide : 0 + 0 ≤ _)⟩)
  dsimp only [Pt.U, Pt.locs, Pt.cells, Pt.slots] at X3 l3 y3 z3 st3 hQ3
  subst y3 z3
  obtain ⟨rfl, N3q, e3⟩ := hQ3
  have N3 : Fr n0 L3 := by rw [l3]; exact Fr.app N1 N3q
  refine stt st3 ?_
  show Go p e below T3 (mkF m 31 #[.val (.ref t), .val (.long (0 : Int64)), .second, .val (.int (0 : Int32)), .val (.int (0 : Int32)), .unset] [(.int (own_at cs 0))]) _
  refine stp (fun _ => XS.istore X3.here hx rfl (hb hby d7_31) rfl (l' := #[.val (.ref t), .val (.long (0 : Int64)), .second, .val (.int (0 : Int32)), .val (.int (0 : Int32)), .val (.int (own_at cs 0))]) rfl) ?_
  show Go p e below T3 (mkF m 33 #[.val (.ref t), .val (.long (0 : Int64)), .second, .val (.int (0 : Int32)), .val (.int (0 : Int32)), .val (.int (own_at cs 0))] []) _
  refine stp (fun _ => XS.iload X3.here hx rfl (hb hby d7_33) rfl) ?_
  refine stp (fun _ => XS.bipush X3.here hx rfl (hb hby d7_35)) ?_
  show Go p e below T3 (mkF m 37 #[.val (.ref t), .val (.long (0 : Int64)), .second, .val (.int (0 : Int32)), .val (.int (0 : Int32)), .val (.int (own_at cs 0))] [(.int (127 : Int32)), (.int (own_at cs 0))]) _
  by_cases q37_4 : (127 : Int32) < (own_at cs 0)
  · refine stp (fun _ => XS.icmpNo X3.here hx rfl (hb hby d7_37) rfl (XT.ii_le_f q37_4)) ?_
    show Go p e below T3 (mkF m 40 #[.val (.ref t), .val (.long (0 : Int64)), .second, .val (.int (0 : Int32)), .val (.int (0 : Int32)), .val (.int (own_at cs 0))] []) _
    refine stp (fun _ => XS.iconst X3.here hx rfl (hb hby d7_40)) ?_
    show Go p e below T3 (mkF m 41 #[.val (.ref t), .val (.long (0 : Int64)), .second, .val (.int (0 : Int32)), .val (.int (0 : Int32)), .val (.int (own_at cs 0))] [(.int (1 : Int32))]) _
    refine stp (fun _ => XS.goto X3.here hx rfl (pc0 := 41) (pc' := 45) rfl (hb hby d7_41) (by decide) (by decide)) ?_
    show Go p e below T3 (mkF m 45 #[.val (.ref t), .val (.long (0 : Int64)), .second, .val (.int (0 : Int32)), .val (.int (0 : Int32)), .val (.int (own_at cs 0))] [(.int (1 : Int32))]) _
    refine stp (fun _ => XS.istore X3.here hx rfl (hb hby d7_45) rfl (l' := #[.val (.ref t), .val (.long (0 : Int64)), .second, .val (.int (0 : Int32)), .val (.int (1 : Int32)), .val (.int (own_at cs 0))]) rfl) ?_
    show Go p e below T3 (mkF m 47 #[.val (.ref t), .val (.long (0 : Int64)), .second, .val (.int (0 : Int32)), .val (.int (1 : Int32)), .val (.int (own_at cs 0))] []) _
    refine stp (fun _ => XS.lloadN X3.here hx rfl (hb hby d7_47) rfl) ?_
    refine stp (fun _ => XS.bipush X3.here hx rfl (hb hby d7_48)) ?_
    show Go p e below T3 (mkF m 50 #[.val (.ref t), .val (.long (0 : Int64)), .second, .val (.int (0 : Int32)), .val (.int (1 : Int32)), .val (.int (own_at cs 0))] [(.int (8 : Int32)), (.long (0 : Int64))]) _
    refine stp (fun _ => XS.lshl X3.here hx rfl (hb hby d7_50) rfl) ?_
    show Go p e below T3 (mkF m 51 #[.val (.ref t), .val (.long (0 : Int64)), .second, .val (.int (0 : Int32)), .val (.int (1 : Int32)), .val (.int (own_at cs 0))] [(.long ((0 : Int64) <<< ((8 : Int32) &&& 0x3f).toInt64))]) _
    refine stp (fun _ => XS.iload X3.here hx rfl (hb hby d7_51) rfl) ?_
    show Go p e below T3 (mkF m 53 #[.val (.ref t), .val (.long (0 : Int64)), .second, .val (.int (0 : Int32)), .val (.int (1 : Int32)), .val (.int (own_at cs 0))] [(.int (1 : Int32)), (.long ((0 : Int64) <<< ((8 : Int32) &&& 0x3f).toInt64))]) _
    refine stp (fun _ => XS.ifNo X3.here hx rfl (hb hby d7_53) rfl (by decide)) ?_
    show Go p e below T3 (mkF m 56 #[.val (.ref t), .val (.long (0 : Int64)), .second, .val (.int (0 : Int32)), .val (.int (1 : Int32)), .val (.int (own_at cs 0))] [(.long ((0 : Int64) <<< ((8 : Int32) &&& 0x3f).toInt64))]) _
    refine stp (fun _ => XS.sipush X3.here hx rfl (hb hby d7_56)) ?_
    show Go p e below T3 (mkF m 59 #[.val (.ref t), .val (.long (0 : Int64)), .second, .val (.int (0 : Int32)), .val (.int (1 : Int32)), .val (.int (own_at cs 0))] [(.int (255 : Int32)), (.long ((0 : Int64) <<< ((8 : Int32) &&& 0x3f).toInt64))]) _
    refine stp (fun _ => XS.goto X3.here hx rfl (pc0 := 59) (pc' := 64) rfl (hb hby d7_59) (by decide) (by decide)) ?_
    show Go p e below T3 (mkF m 64 #[.val (.ref t), .val (.long (0 : Int64)), .second, .val (.int (0 : Int32)), .val (.int (1 : Int32)), .val (.int (own_at cs 0))] [(.int (255 : Int32)), (.long ((0 : Int64) <<< ((8 : Int32) &&& 0x3f).toInt64))]) _
    refine stp (fun _ => XS.i2l X3.here hx rfl (hb hby d7_64) rfl) ?_
    show Go p e below T3 (mkF m 65 #[.val (.ref t), .val (.long (0 : Int64)), .second, .val (.int (0 : Int32)), .val (.int (1 : Int32)), .val (.int (own_at cs 0))] [(.long ((255 : Int32).toInt64)), (.long ((0 : Int64) <<< ((8 : Int32) &&& 0x3f).toInt64))]) _
    refine stp (fun _ => XS.lor X3.here hx rfl (hb hby d7_65) rfl) ?_
    show Go p e below T3 (mkF m 66 #[.val (.ref t), .val (.long (0 : Int64)), .second, .val (.int (0 : Int32)), .val (.int (1 : Int32)), .val (.int (own_at cs 0))] [(.long (((0 : Int64) <<< ((8 : Int32) &&& 0x3f).toInt64) ||| ((255 : Int32).toInt64)))]) _
    refine stp (fun _ => XS.lstoreN X3.here hx rfl (hb hby d7_66) rfl (l' := #[.val (.ref t), .val (.long (((0 : Int64) <<< ((8 : Int32) &&& 0x3f).toInt64) ||| ((255 : Int32).toInt64))), .second, .val (.int (0 : Int32)), .val (.int (1 : Int32)), .val (.int (own_at cs 0))]) rfl) ?_
    show Go p e below T3 (mkF m 67 #[.val (.ref t), .val (.long (((0 : Int64) <<< ((8 : Int32) &&& 0x3f).toInt64) ||| ((255 : Int32).toInt64))), .second, .val (.int (0 : Int32)), .val (.int (1 : Int32)), .val (.int (own_at cs 0))] []) _
    refine stp (fun _ => XS.iinc X3.here hx rfl (hb hby d7_67) rfl (l' := #[.val (.ref t), .val (.long (((0 : Int64) <<< ((8 : Int32) &&& 0x3f).toInt64) ||| ((255 : Int32).toInt64))), .second, .val (.int (1 : Int32)), .val (.int (1 : Int32)), .val (.int (own_at cs 0))]) rfl) ?_
    show Go p e below T3 (mkF m 70 #[.val (.ref t), .val (.long (((0 : Int64) <<< ((8 : Int32) &&& 0x3f).toInt64) ||| ((255 : Int32).toInt64))), .second, .val (.int (1 : Int32)), .val (.int (1 : Int32)), .val (.int (own_at cs 0))] []) _
    refine stp (fun _ => XS.goto X3.here hx rfl (pc0 := 70) (pc' := 7) rfl (hb hby d7_70) (by decide) (by decide)) ?_
    show Go p e below T3 (mkF m 7 #[.val (.ref t), .val (.long (((0 : Int64) <<< ((8 : Int32) &&& 0x3f).toInt64) ||| ((255 : Int32).toInt64))), .second, .val (.int (1 : Int32)), .val (.int (1 : Int32)), .val (.int (own_at cs 0))] []) _
    obtain ⟨ka1, hka1⟩ : ∃ z : Int64, z = (((0 : Int64) <<< ((8 : Int32) &&& 0x3f).toInt64) ||| ((255 : Int32).toInt64)) := ⟨_, rfl⟩
    rw [← hka1]
    show Go p e below T3 (mkF m 7 #[.val (.ref t), .val (.long ka1), .second, .val (.int (1 : Int32)), .val (.int (1 : Int32)), .val (.int (own_at cs 0))] []) _
    refine stp (fun _ => XS.iload X3.here hx rfl (hb hby d7_7) rfl) ?_
    show Go p e below T3 (mkF m 9 #[.val (.ref t), .val (.long ka1), .second, .val (.int (1 : Int32)), .val (.int (1 : Int32)), .val (.int (own_at cs 0))] [(.int (1 : Int32))]) _
    refine stp (fun _ => XS.ifYes X3.here hx rfl (pc0 := 9) (pc' := 73) rfl (hb hby d7_9) rfl (by decide) (by decide) (by decide)) ?_
    show Go p e below T3 (mkF m 73 #[.val (.ref t), .val (.long ka1), .second, .val (.int (1 : Int32)), .val (.int (1 : Int32)), .val (.int (own_at cs 0))] []) _
    refine stp (fun _ => XS.lloadN X3.here hx rfl (hb hby d7_73) rfl) ?_
    refine stp (fun _ => XS.bipush X3.here hx rfl (hb hby d7_74)) ?_
    refine stp (fun _ => XS.bipush X3.here hx rfl (hb hby d7_76)) ?_
    refine stp (fun _ => XS.iloadN X3.here hx rfl (hb hby d7_78) rfl) ?_
    show Go p e below T3 (mkF m 79 #[.val (.ref t), .val (.long ka1), .second, .val (.int (1 : Int32)), .val (.int (1 : Int32)), .val (.int (own_at cs 0))] [(.int (1 : Int32)), (.int (8 : Int32)), (.int (8 : Int32)), (.long ka1)]) _
    refine stp (fun _ => XS.isub X3.here hx rfl (hb hby d7_79) rfl) ?_
    show Go p e below T3 (mkF m 80 #[.val (.ref t), .val (.long ka1), .second, .val (.int (1 : Int32)), .val (.int (1 : Int32)), .val (.int (own_at cs 0))] [(.int (7 : Int32)), (.int (8 : Int32)), (.long ka1)]) _
    refine stp (fun _ => XS.imul X3.here hx rfl (hb hby d7_80) rfl) ?_
    show Go p e below T3 (mkF m 81 #[.val (.ref t), .val (.long ka1), .second, .val (.int (1 : Int32)), .val (.int (1 : Int32)), .val (.int (own_at cs 0))] [(.int (56 : Int32)), (.long ka1)]) _
    refine stp (fun _ => XS.lshl X3.here hx rfl (hb hby d7_81) rfl) ?_
    show Go p e below T3 (mkF m 82 #[.val (.ref t), .val (.long ka1), .second, .val (.int (1 : Int32)), .val (.int (1 : Int32)), .val (.int (own_at cs 0))] [(.long (ka1 <<< ((56 : Int32) &&& 0x3f).toInt64))]) _
    refine stp (fun _ => X3.ldc2Long hx hown (mvT hZ (hw _ (List.mem_of_getElem? (i := 49) rfl))) (g := (mkF m 82 #[.val (.ref t), .val (.long ka1), .second, .val (.int (1 : Int32)), .val (.int (1 : Int32)), .val (.int (own_at cs 0))] [(.long (ka1 <<< ((56 : Int32) &&& 0x3f).toInt64))])) rfl (hb hby d7_82) _) ?_
    show Go p e below T3 (mkF m 85 #[.val (.ref t), .val (.long ka1), .second, .val (.int (1 : Int32)), .val (.int (1 : Int32)), .val (.int (own_at cs 0))] [(.long (-9223372036854775808 : Int64)), (.long (ka1 <<< ((56 : Int32) &&& 0x3f).toInt64))]) _
    refine stp (fun _ => XS.lxor X3.here hx rfl (hb hby d7_85) rfl) ?_
    show Go p e below T3 (mkF m 86 #[.val (.ref t), .val (.long ka1), .second, .val (.int (1 : Int32)), .val (.int (1 : Int32)), .val (.int (own_at cs 0))] [(.long ((ka1 <<< ((56 : Int32) &&& 0x3f).toInt64) ^^^ (-9223372036854775808 : Int64)))]) _
    refine outJ X3 hx hret (hb hby d7_86) hlk (by decide) (by decide) ?_
    exact ⟨own_somej (by simp only [own_k0, own_k1, own_k2, own_k3, own_k4, own_k5, own_k6, own_k7, own_k8, own_fin, if_pos q23_2, if_pos q37_4, hka1]), N3, e3⟩
  refine stp (fun _ => XS.icmpYes X3.here hx rfl (pc0 := 37) (pc' := 44) rfl (hb hby d7_37) rfl (XT.ii_le_t q37_4) (by decide) (by decide)) ?_
  show Go p e below T3 (mkF m 44 #[.val (.ref t), .val (.long (0 : Int64)), .second, .val (.int (0 : Int32)), .val (.int (0 : Int32)), .val (.int (own_at cs 0))] []) _
  refine stp (fun _ => XS.iconst X3.here hx rfl (hb hby d7_44)) ?_
  show Go p e below T3 (mkF m 45 #[.val (.ref t), .val (.long (0 : Int64)), .second, .val (.int (0 : Int32)), .val (.int (0 : Int32)), .val (.int (own_at cs 0))] [(.int (0 : Int32))]) _
  refine stp (fun _ => XS.istore X3.here hx rfl (hb hby d7_45) rfl (l' := #[.val (.ref t), .val (.long (0 : Int64)), .second, .val (.int (0 : Int32)), .val (.int (0 : Int32)), .val (.int (own_at cs 0))]) rfl) ?_
  show Go p e below T3 (mkF m 47 #[.val (.ref t), .val (.long (0 : Int64)), .second, .val (.int (0 : Int32)), .val (.int (0 : Int32)), .val (.int (own_at cs 0))] []) _
  refine stp (fun _ => XS.lloadN X3.here hx rfl (hb hby d7_47) rfl) ?_
  refine stp (fun _ => XS.bipush X3.here hx rfl (hb hby d7_48)) ?_
  show Go p e below T3 (mkF m 50 #[.val (.ref t), .val (.long (0 : Int64)), .second, .val (.int (0 : Int32)), .val (.int (0 : Int32)), .val (.int (own_at cs 0))] [(.int (8 : Int32)), (.long (0 : Int64))]) _
  refine stp (fun _ => XS.lshl X3.here hx rfl (hb hby d7_50) rfl) ?_
  show Go p e below T3 (mkF m 51 #[.val (.ref t), .val (.long (0 : Int64)), .second, .val (.int (0 : Int32)), .val (.int (0 : Int32)), .val (.int (own_at cs 0))] [(.long ((0 : Int64) <<< ((8 : Int32) &&& 0x3f).toInt64))]) _
  refine stp (fun _ => XS.iload X3.here hx rfl (hb hby d7_51) rfl) ?_
  show Go p e below T3 (mkF m 53 #[.val (.ref t), .val (.long (0 : Int64)), .second, .val (.int (0 : Int32)), .val (.int (0 : Int32)), .val (.int (own_at cs 0))] [(.int (0 : Int32)), (.long ((0 : Int64) <<< ((8 : Int32) &&& 0x3f).toInt64))]) _
  refine stp (fun _ => XS.ifYes X3.here hx rfl (pc0 := 53) (pc' := 62) rfl (hb hby d7_53) rfl (by decide) (by decide) (by decide)) ?_
  show Go p e below T3 (mkF m 62 #[.val (.ref t), .val (.long (0 : Int64)), .second, .val (.int (0 : Int32)), .val (.int (0 : Int32)), .val (.int (own_at cs 0))] [(.long ((0 : Int64) <<< ((8 : Int32) &&& 0x3f).toInt64))]) _
  refine stp (fun _ => XS.iload X3.here hx rfl (hb hby d7_62) rfl) ?_
  show Go p e below T3 (mkF m 64 #[.val (.ref t), .val (.long (0 : Int64)), .second, .val (.int (0 : Int32)), .val (.int (0 : Int32)), .val (.int (own_at cs 0))] [(.int (own_at cs 0)), (.long ((0 : Int64) <<< ((8 : Int32) &&& 0x3f).toInt64))]) _
  refine stp (fun _ => XS.i2l X3.here hx rfl (hb hby d7_64) rfl) ?_
  show Go p e below T3 (mkF m 65 #[.val (.ref t), .val (.long (0 : Int64)), .second, .val (.int (0 : Int32)), .val (.int (0 : Int32)), .val (.int (own_at cs 0))] [(.long ((own_at cs 0).toInt64)), (.long ((0 : Int64) <<< ((8 : Int32) &&& 0x3f).toInt64))]) _
  refine stp (fun _ => XS.lor X3.here hx rfl (hb hby d7_65) rfl) ?_
  show Go p e below T3 (mkF m 66 #[.val (.ref t), .val (.long (0 : Int64)), .second, .val (.int (0 : Int32)), .val (.int (0 : Int32)), .val (.int (own_at cs 0))] [(.long (((0 : Int64) <<< ((8 : Int32) &&& 0x3f).toInt64) ||| ((own_at cs 0).toInt64)))]) _
  refine stp (fun _ => XS.lstoreN X3.here hx rfl (hb hby d7_66) rfl (l' := #[.val (.ref t), .val (.long (((0 : Int64) <<< ((8 : Int32) &&& 0x3f).toInt64) ||| ((own_at cs 0).toInt64))), .second, .val (.int (0 : Int32)), .val (.int (0 : Int32)), .val (.int (own_at cs 0))]) rfl) ?_
  show Go p e below T3 (mkF m 67 #[.val (.ref t), .val (.long (((0 : Int64) <<< ((8 : Int32) &&& 0x3f).toInt64) ||| ((own_at cs 0).toInt64))), .second, .val (.int (0 : Int32)), .val (.int (0 : Int32)), .val (.int (own_at cs 0))] []) _
  refine stp (fun _ => XS.iinc X3.here hx rfl (hb hby d7_67) rfl (l' := #[.val (.ref t), .val (.long (((0 : Int64) <<< ((8 : Int32) &&& 0x3f).toInt64) ||| ((own_at cs 0).toInt64))), .second, .val (.int (1 : Int32)), .val (.int (0 : Int32)), .val (.int (own_at cs 0))]) rfl) ?_
  show Go p e below T3 (mkF m 70 #[.val (.ref t), .val (.long (((0 : Int64) <<< ((8 : Int32) &&& 0x3f).toInt64) ||| ((own_at cs 0).toInt64))), .second, .val (.int (1 : Int32)), .val (.int (0 : Int32)), .val (.int (own_at cs 0))] []) _
  refine stp (fun _ => XS.goto X3.here hx rfl (pc0 := 70) (pc' := 7) rfl (hb hby d7_70) (by decide) (by decide)) ?_
  show Go p e below T3 (mkF m 7 #[.val (.ref t), .val (.long (((0 : Int64) <<< ((8 : Int32) &&& 0x3f).toInt64) ||| ((own_at cs 0).toInt64))), .second, .val (.int (1 : Int32)), .val (.int (0 : Int32)), .val (.int (own_at cs 0))] []) _
  obtain ⟨ka1, hka1⟩ : ∃ z : Int64, z = (((0 : Int64) <<< ((8 : Int32) &&& 0x3f).toInt64) ||| ((own_at cs 0).toInt64)) := ⟨_, rfl⟩
  rw [← hka1]
  show Go p e below T3 (mkF m 7 #[.val (.ref t), .val (.long ka1), .second, .val (.int (1 : Int32)), .val (.int (0 : Int32)), .val (.int (own_at cs 0))] []) _
  refine stp (fun _ => XS.iload X3.here hx rfl (hb hby d7_7) rfl) ?_
  show Go p e below T3 (mkF m 9 #[.val (.ref t), .val (.long ka1), .second, .val (.int (1 : Int32)), .val (.int (0 : Int32)), .val (.int (own_at cs 0))] [(.int (0 : Int32))]) _
  refine stp (fun _ => XS.ifNo X3.here hx rfl (hb hby d7_9) rfl (by decide)) ?_
  show Go p e below T3 (mkF m 12 #[.val (.ref t), .val (.long ka1), .second, .val (.int (1 : Int32)), .val (.int (0 : Int32)), .val (.int (own_at cs 0))] []) _
  refine stp (fun _ => XS.iloadN X3.here hx rfl (hb hby d7_12) rfl) ?_
  refine stp (fun _ => XS.bipush X3.here hx rfl (hb hby d7_13)) ?_
  show Go p e below T3 (mkF m 15 #[.val (.ref t), .val (.long ka1), .second, .val (.int (1 : Int32)), .val (.int (0 : Int32)), .val (.int (own_at cs 0))] [(.int (8 : Int32)), (.int (1 : Int32))]) _
  refine stp (fun _ => XS.icmpNo X3.here hx rfl (hb hby d7_15) rfl (by decide)) ?_
  show Go p e below T3 (mkF m 18 #[.val (.ref t), .val (.long ka1), .second, .val (.int (1 : Int32)), .val (.int (0 : Int32)), .val (.int (own_at cs 0))] []) _
  refine stp (fun _ => XS.iloadN X3.here hx rfl (hb hby d7_18) rfl) ?_
  refine stp (fun _ => XS.aloadN X3.here hx rfl (hb hby d7_19) rfl rfl) ?_
  show Go p e below T3 (mkF m 20 #[.val (.ref t), .val (.long ka1), .second, .val (.int (1 : Int32)), .val (.int (0 : Int32)), .val (.int (own_at cs 0))] [(.ref t), (.int (1 : Int32))]) _
  obtain ⟨cq5, kq5, q5a, q5b, q5c⟩ := isOf hZ e3 Q_t.exa
  obtain ⟨_, _, ⟨T5, L5, k5, n5⟩, -, X5, ⟨Lc5, hQ5, l5, y5, z5⟩, st5⟩ := X3.virtualBack hx (y := (⟨"java/lang/String", "length", "()I"⟩ : MethodName)) (z := (⟨"java/lang/String", "length", "()I"⟩ : MethodName)) hown (mvT hZ (hw _ (List.mem_of_getElem? (i := 38) rfl))) (mvT hZ (hw _ (List.mem_of_getElem? (i := 39) rfl))) (notFace_of_selects (args := #[]) (mvT hZ (hw _ (List.mem_of_getElem? (i := 41) rfl)))) (mvT hZ (hw _ (List.mem_of_getElem? (i := 41) rfl))) (mvT hZ (hw _ (List.mem_of_getElem? (i := 40) rfl))) (by decide) (backOf (W := 1) (rm_ulen l Z a0 hw [] t cs cz h0 n0 O0 Q_t S_COMPACT_STRINGS hcz) hZ (hw _ (List.mem_of_getElem? (i := 42) rfl)) (hw _ (List.mem_of_getElem? (i := 11) rfl)) (by decide) (by decide)) q5a q5c (g := (mkF m 20 #[.val (.ref t), .val (.long ka1), .second, .val (.int (1 : Int32)), .val (.int (0 : Int32)), .val (.int (own_at cs 0))] [(.ref t), (.int (1 : Int32))])) rfl (by rw [hml]; rfl) (Steps.refl _) (argsL := []) (rest := [(.int (1 : Int32))]) (lenOf pd_15 rfl) rfl (by show 2 * 0 + _ ≤ _; exact Nat.le_of_eq rfl) (hb hby d7_20) (fun _ _ => ⟨rfl, e3, (by decide : 0 + 0 ≤ _), (by decide : 0 + 0 ≤ _)⟩)
  dsimp only [Pt.U, Pt.locs, Pt.cells, Pt.slots] at X5 l5 y5 z5 st5 hQ5
  subst y5 z5
  obtain ⟨rfl, N5q, e5⟩ := hQ5
  have N5 : Fr n0 L5 := by rw [l5]; exact Fr.app N3 N5q
  refine stt st5 ?_
  show Go p e below T5 (mkF m 23 #[.val (.ref t), .val (.long ka1), .second, .val (.int (1 : Int32)), .val (.int (0 : Int32)), .val (.int (own_at cs 0))] [(.int (Int32.ofNat cs.length)), (.int (1 : Int32))]) _
  by_cases q23_6 : (1 : Int32) < (Int32.ofNat cs.length)
  rotate_left
  · refine stp (fun _ => XS.icmpYes X5.here hx rfl (pc0 := 23) (pc' := 73) rfl (hb hby d7_23) rfl (XT.ii_ge_t q23_6) (by decide) (by decide)) ?_
    show Go p e below T5 (mkF m 73 #[.val (.ref t), .val (.long ka1), .second, .val (.int (1 : Int32)), .val (.int (0 : Int32)), .val (.int (own_at cs 0))] []) _
    refine stp (fun _ => XS.lloadN X5.here hx rfl (hb hby d7_73) rfl) ?_
    refine stp (fun _ => XS.bipush X5.here hx rfl (hb hby d7_74)) ?_
    refine stp (fun _ => XS.bipush X5.here hx rfl (hb hby d7_76)) ?_
    refine stp (fun _ => XS.iloadN X5.here hx rfl (hb hby d7_78) rfl) ?_
    show Go p e below T5 (mkF m 79 #[.val (.ref t), .val (.long ka1), .second, .val (.int (1 : Int32)), .val (.int (0 : Int32)), .val (.int (own_at cs 0))] [(.int (1 : Int32)), (.int (8 : Int32)), (.int (8 : Int32)), (.long ka1)]) _
    refine stp (fun _ => XS.isub X5.here hx rfl (hb hby d7_79) rfl) ?_
    show Go p e below T5 (mkF m 80 #[.val (.ref t), .val (.long ka1), .second, .val (.int (1 : Int32)), .val (.int (0 : Int32)), .val (.int (own_at cs 0))] [(.int (7 : Int32)), (.int (8 : Int32)), (.long ka1)]) _
    refine stp (fun _ => XS.imul X5.here hx rfl (hb hby d7_80) rfl) ?_
    show Go p e below T5 (mkF m 81 #[.val (.ref t), .val (.long ka1), .second, .val (.int (1 : Int32)), .val (.int (0 : Int32)), .val (.int (own_at cs 0))] [(.int (56 : Int32)), (.long ka1)]) _
    refine stp (fun _ => XS.lshl X5.here hx rfl (hb hby d7_81) rfl) ?_
    show Go p e below T5 (mkF m 82 #[.val (.ref t), .val (.long ka1), .second, .val (.int (1 : Int32)), .val (.int (0 : Int32)), .val (.int (own_at cs 0))] [(.long (ka1 <<< ((56 : Int32) &&& 0x3f).toInt64))]) _
    refine stp (fun _ => X5.ldc2Long hx hown (mvT hZ (hw _ (List.mem_of_getElem? (i := 49) rfl))) (g := (mkF m 82 #[.val (.ref t), .val (.long ka1), .second, .val (.int (1 : Int32)), .val (.int (0 : Int32)), .val (.int (own_at cs 0))] [(.long (ka1 <<< ((56 : Int32) &&& 0x3f).toInt64))])) rfl (hb hby d7_82) _) ?_
    show Go p e below T5 (mkF m 85 #[.val (.ref t), .val (.long ka1), .second, .val (.int (1 : Int32)), .val (.int (0 : Int32)), .val (.int (own_at cs 0))] [(.long (-9223372036854775808 : Int64)), (.long (ka1 <<< ((56 : Int32) &&& 0x3f).toInt64))]) _
    refine stp (fun _ => XS.lxor X5.here hx rfl (hb hby d7_85) rfl) ?_
    show Go p e below T5 (mkF m 86 #[.val (.ref t), .val (.long ka1), .second, .val (.int (1 : Int32)), .val (.int (0 : Int32)), .val (.int (own_at cs 0))] [(.long ((ka1 <<< ((56 : Int32) &&& 0x3f).toInt64) ^^^ (-9223372036854775808 : Int64)))]) _
    refine outJ X5 hx hret (hb hby d7_86) hlk (by decide) (by decide) ?_
    exact ⟨own_somej (by simp only [own_k0, own_k1, own_k2, own_k3, own_k4, own_k5, own_k6, own_k7, own_k8, own_fin, if_pos q23_2, if_neg q37_4, if_neg q23_6, hka1]), N5, e5⟩
  refine stp (fun _ => XS.icmpNo X5.here hx rfl (hb hby d7_23) rfl (XT.ii_ge_f q23_6)) ?_
  show Go p e below T5 (mkF m 26 #[.val (.ref t), .val (.long ka1), .second, .val (.int (1 : Int32)), .val (.int (0 : Int32)), .val (.int (own_at cs 0))] []) _
  refine stp (fun _ => XS.aloadN X5.here hx rfl (hb hby d7_26) rfl rfl) ?_
  refine stp (fun _ => XS.iloadN X5.here hx rfl (hb hby d7_27) rfl) ?_
  show Go p e below T5 (mkF m 28 #[.val (.ref t), .val (.long ka1), .second, .val (.int (1 : Int32)), .val (.int (0 : Int32)), .val (.int (own_at cs 0))] [(.int (1 : Int32)), (.ref t)]) _
  obtain ⟨cq7, kq7, q7a, q7b, q7c⟩ := isOf hZ e5 Q_t.exa
  obtain ⟨_, _, ⟨T7, L7, k7, n7⟩, -, X7, ⟨Lc7, hQ7, l7, y7, z7⟩, st7⟩ := X5.virtualBack hx (y := (⟨"java/lang/String", "charAt", "(I)C"⟩ : MethodName)) (z := (⟨"java/lang/String", "charAt", "(I)C"⟩ : MethodName)) hown (mvT hZ (hw _ (List.mem_of_getElem? (i := 80) rfl))) (mvT hZ (hw _ (List.mem_of_getElem? (i := 81) rfl))) (notFace_of_selects (args := #[]) (mvT hZ (hw _ (List.mem_of_getElem? (i := 83) rfl)))) (mvT hZ (hw _ (List.mem_of_getElem? (i := 83) rfl))) (mvT hZ (hw _ (List.mem_of_getElem? (i := 82) rfl))) (by decide) (backOf (W := 0) (rm_uch l Z a0 hw [] t (1 : Int32) cs cz fm 1 h0 n0 O0 Q_t S_COMPACT_STRINGS S_SIOOBE_FORMATTER S__assertionsDisabled S_HI_BYTE_SHIFT S_LO_BYTE_SHIFT hcz hfm (by decide) (own_idx (by decide) hN1 q23_6)) hZ (hw _ (List.mem_of_getElem? (i := 84) rfl)) (hw _ (List.mem_of_getElem? (i := 11) rfl)) (by decide) (by decide)) q7a q7c (g := (mkF m 28 #[.val (.ref t), .val (.long ka1), .second, .val (.int (1 : Int32)), .val (.int (0 : Int32)), .val (.int (own_at cs 0))] [(.int (1 : Int32)), (.ref t)])) rfl (by rw [hml]; rfl) (Steps.refl _) (argsL := [(.int (1 : Int32))]) (rest := []) (lenOf pd_16 rfl) rfl (by show 2 * 0 + _ ≤ _; exact Nat.le_of_eq rfl) (hb hby d7_28) (fun _ _ => ⟨rfl, e5, (by decide : 0 + 0 ≤ _), (by decide : 0 + 0 ≤ _)⟩)
  dsimp only [Pt.U, Pt.locs, Pt.cells, Pt.slots] at X7 l7 y7 z7 st7 hQ7
  subst y7 z7
  obtain ⟨rfl, N7q, e7⟩ := hQ7
  have N7 : Fr n0 L7 := by rw [l7]; exact Fr.app N5 N7q
  refine stt st7 ?_
  show Go p e below T7 (mkF m 31 #[.val (.ref t), .val (.long ka1), .second, .val (.int (1 : Int32)), .val (.int (0 : Int32)), .val (.int (own_at cs 0))] [(.int (own_at cs 1))]) _
  refine stp (fun _ => XS.istore X7.here hx rfl (hb hby d7_31) rfl (l' := #[.val (.ref t), .val (.long ka1), .second, .val (.int (1 : Int32)), .val (.int (0 : Int32)), .val (.int (own_at cs 1))]) rfl) ?_
  show Go p e below T7 (mkF m 33 #[.val (.ref t), .val (.long ka1), .second, .val (.int (1 : Int32)), .val (.int (0 : Int32)), .val (.int (own_at cs 1))] []) _
  refine stp (fun _ => XS.iload X7.here hx rfl (hb hby d7_33) rfl) ?_
  refine stp (fun _ => XS.bipush X7.here hx rfl (hb hby d7_35)) ?_
  show Go p e below T7 (mkF m 37 #[.val (.ref t), .val (.long ka1), .second, .val (.int (1 : Int32)), .val (.int (0 : Int32)), .val (.int (own_at cs 1))] [(.int (127 : Int32)), (.int (own_at cs 1))]) _
  by_cases q37_8 : (127 : Int32) < (own_at cs 1)
  · refine stp (fun _ => XS.icmpNo X7.here hx rfl (hb hby d7_37) rfl (XT.ii_le_f q37_8)) ?_
    show Go p e below T7 (mkF m 40 #[.val (.ref t), .val (.long ka1), .second, .val (.int (1 : Int32)), .val (.int (0 : Int32)), .val (.int (own_at cs 1))] []) _
    refine stp (fun _ => XS.iconst X7.here hx rfl (hb hby d7_40)) ?_
    show Go p e below T7 (mkF m 41 #[.val (.ref t), .val (.long ka1), .second, .val (.int (1 : Int32)), .val (.int (0 : Int32)), .val (.int (own_at cs 1))] [(.int (1 : Int32))]) _
    refine stp (fun _ => XS.goto X7.here hx rfl (pc0 := 41) (pc' := 45) rfl (hb hby d7_41) (by decide) (by decide)) ?_
    show Go p e below T7 (mkF m 45 #[.val (.ref t), .val (.long ka1), .second, .val (.int (1 : Int32)), .val (.int (0 : Int32)), .val (.int (own_at cs 1))] [(.int (1 : Int32))]) _
    refine stp (fun _ => XS.istore X7.here hx rfl (hb hby d7_45) rfl (l' := #[.val (.ref t), .val (.long ka1), .second, .val (.int (1 : Int32)), .val (.int (1 : Int32)), .val (.int (own_at cs 1))]) rfl) ?_
    show Go p e below T7 (mkF m 47 #[.val (.ref t), .val (.long ka1), .second, .val (.int (1 : Int32)), .val (.int (1 : Int32)), .val (.int (own_at cs 1))] []) _
    refine stp (fun _ => XS.lloadN X7.here hx rfl (hb hby d7_47) rfl) ?_
    refine stp (fun _ => XS.bipush X7.here hx rfl (hb hby d7_48)) ?_
    show Go p e below T7 (mkF m 50 #[.val (.ref t), .val (.long ka1), .second, .val (.int (1 : Int32)), .val (.int (1 : Int32)), .val (.int (own_at cs 1))] [(.int (8 : Int32)), (.long ka1)]) _
    refine stp (fun _ => XS.lshl X7.here hx rfl (hb hby d7_50) rfl) ?_
    show Go p e below T7 (mkF m 51 #[.val (.ref t), .val (.long ka1), .second, .val (.int (1 : Int32)), .val (.int (1 : Int32)), .val (.int (own_at cs 1))] [(.long (ka1 <<< ((8 : Int32) &&& 0x3f).toInt64))]) _
    refine stp (fun _ => XS.iload X7.here hx rfl (hb hby d7_51) rfl) ?_
    show Go p e below T7 (mkF m 53 #[.val (.ref t), .val (.long ka1), .second, .val (.int (1 : Int32)), .val (.int (1 : Int32)), .val (.int (own_at cs 1))] [(.int (1 : Int32)), (.long (ka1 <<< ((8 : Int32) &&& 0x3f).toInt64))]) _
    refine stp (fun _ => XS.ifNo X7.here hx rfl (hb hby d7_53) rfl (by decide)) ?_
    show Go p e below T7 (mkF m 56 #[.val (.ref t), .val (.long ka1), .second, .val (.int (1 : Int32)), .val (.int (1 : Int32)), .val (.int (own_at cs 1))] [(.long (ka1 <<< ((8 : Int32) &&& 0x3f).toInt64))]) _
    refine stp (fun _ => XS.sipush X7.here hx rfl (hb hby d7_56)) ?_
    show Go p e below T7 (mkF m 59 #[.val (.ref t), .val (.long ka1), .second, .val (.int (1 : Int32)), .val (.int (1 : Int32)), .val (.int (own_at cs 1))] [(.int (255 : Int32)), (.long (ka1 <<< ((8 : Int32) &&& 0x3f).toInt64))]) _
    refine stp (fun _ => XS.goto X7.here hx rfl (pc0 := 59) (pc' := 64) rfl (hb hby d7_59) (by decide) (by decide)) ?_
    show Go p e below T7 (mkF m 64 #[.val (.ref t), .val (.long ka1), .second, .val (.int (1 : Int32)), .val (.int (1 : Int32)), .val (.int (own_at cs 1))] [(.int (255 : Int32)), (.long (ka1 <<< ((8 : Int32) &&& 0x3f).toInt64))]) _
    refine stp (fun _ => XS.i2l X7.here hx rfl (hb hby d7_64) rfl) ?_
    show Go p e below T7 (mkF m 65 #[.val (.ref t), .val (.long ka1), .second, .val (.int (1 : Int32)), .val (.int (1 : Int32)), .val (.int (own_at cs 1))] [(.long ((255 : Int32).toInt64)), (.long (ka1 <<< ((8 : Int32) &&& 0x3f).toInt64))]) _
    refine stp (fun _ => XS.lor X7.here hx rfl (hb hby d7_65) rfl) ?_
    show Go p e below T7 (mkF m 66 #[.val (.ref t), .val (.long ka1), .second, .val (.int (1 : Int32)), .val (.int (1 : Int32)), .val (.int (own_at cs 1))] [(.long ((ka1 <<< ((8 : Int32) &&& 0x3f).toInt64) ||| ((255 : Int32).toInt64)))]) _
    refine stp (fun _ => XS.lstoreN X7.here hx rfl (hb hby d7_66) rfl (l' := #[.val (.ref t), .val (.long ((ka1 <<< ((8 : Int32) &&& 0x3f).toInt64) ||| ((255 : Int32).toInt64))), .second, .val (.int (1 : Int32)), .val (.int (1 : Int32)), .val (.int (own_at cs 1))]) rfl) ?_
    show Go p e below T7 (mkF m 67 #[.val (.ref t), .val (.long ((ka1 <<< ((8 : Int32) &&& 0x3f).toInt64) ||| ((255 : Int32).toInt64))), .second, .val (.int (1 : Int32)), .val (.int (1 : Int32)), .val (.int (own_at cs 1))] []) _
    refine stp (fun _ => XS.iinc X7.here hx rfl (hb hby d7_67) rfl (l' := #[.val (.ref t), .val (.long ((ka1 <<< ((8 : Int32) &&& 0x3f).toInt64) ||| ((255 : Int32).toInt64))), .second, .val (.int (2 : Int32)), .val (.int (1 : Int32)), .val (.int (own_at cs 1))]) rfl) ?_
    show Go p e below T7 (mkF m 70 #[.val (.ref t), .val (.long ((ka1 <<< ((8 : Int32) &&& 0x3f).toInt64) ||| ((255 : Int32).toInt64))), .second, .val (.int (2 : Int32)), .val (.int (1 : Int32)), .val (.int (own_at cs 1))] []) _
    refine stp (fun _ => XS.goto X7.here hx rfl (pc0 := 70) (pc' := 7) rfl (hb hby d7_70) (by decide) (by decide)) ?_
    show Go p e below T7 (mkF m 7 #[.val (.ref t), .val (.long ((ka1 <<< ((8 : Int32) &&& 0x3f).toInt64) ||| ((255 : Int32).toInt64))), .second, .val (.int (2 : Int32)), .val (.int (1 : Int32)), .val (.int (own_at cs 1))] []) _
    obtain ⟨ka2, hka2⟩ : ∃ z : Int64, z = ((ka1 <<< ((8 : Int32) &&& 0x3f).toInt64) ||| ((255 : Int32).toInt64)) := ⟨_, rfl⟩
    rw [← hka2]
    show Go p e below T7 (mkF m 7 #[.val (.ref t), .val (.long ka2), .second, .val (.int (2 : Int32)), .val (.int (1 : Int32)), .val (.int (own_at cs 1))] []) _
    refine stp (fun _ => XS.iload X7.here hx rfl (hb hby d7_7) rfl) ?_
    show Go p e below T7 (mkF m 9 #[.val (.ref t), .val (.long ka2), .second, .val (.int (2 : Int32)), .val (.int (1 : Int32)), .val (.int (own_at cs 1))] [(.int (1 : Int32))]) _
    refine stp (fun _ => XS.ifYes X7.here hx rfl (pc0 := 9) (pc' := 73) rfl (hb hby d7_9) rfl (by decide) (by decide) (by decide)) ?_
    show Go p e below T7 (mkF m 73 #[.val (.ref t), .val (.long ka2), .second, .val (.int (2 : Int32)), .val (.int (1 : Int32)), .val (.int (own_at cs 1))] []) _
    refine stp (fun _ => XS.lloadN X7.here hx rfl (hb hby d7_73) rfl) ?_
    refine stp (fun _ => XS.bipush X7.here hx rfl (hb hby d7_74)) ?_
    refine stp (fun _ => XS.bipush X7.here hx rfl (hb hby d7_76)) ?_
    refine stp (fun _ => XS.iloadN X7.here hx rfl (hb hby d7_78) rfl) ?_
    show Go p e below T7 (mkF m 79 #[.val (.ref t), .val (.long ka2), .second, .val (.int (2 : Int32)), .val (.int (1 : Int32)), .val (.int (own_at cs 1))] [(.int (2 : Int32)), (.int (8 : Int32)), (.int (8 : Int32)), (.long ka2)]) _
    refine stp (fun _ => XS.isub X7.here hx rfl (hb hby d7_79) rfl) ?_
    show Go p e below T7 (mkF m 80 #[.val (.ref t), .val (.long ka2), .second, .val (.int (2 : Int32)), .val (.int (1 : Int32)), .val (.int (own_at cs 1))] [(.int (6 : Int32)), (.int (8 : Int32)), (.long ka2)]) _
    refine stp (fun _ => XS.imul X7.here hx rfl (hb hby d7_80) rfl) ?_
    show Go p e below T7 (mkF m 81 #[.val (.ref t), .val (.long ka2), .second, .val (.int (2 : Int32)), .val (.int (1 : Int32)), .val (.int (own_at cs 1))] [(.int (48 : Int32)), (.long ka2)]) _
    refine stp (fun _ => XS.lshl X7.here hx rfl (hb hby d7_81) rfl) ?_
    show Go p e below T7 (mkF m 82 #[.val (.ref t), .val (.long ka2), .second, .val (.int (2 : Int32)), .val (.int (1 : Int32)), .val (.int (own_at cs 1))] [(.long (ka2 <<< ((48 : Int32) &&& 0x3f).toInt64))]) _
    refine stp (fun _ => X7.ldc2Long hx hown (mvT hZ (hw _ (List.mem_of_getElem? (i := 49) rfl))) (g := (mkF m 82 #[.val (.ref t), .val (.long ka2), .second, .val (.int (2 : Int32)), .val (.int (1 : Int32)), .val (.int (own_at cs 1))] [(.long (ka2 <<< ((48 : Int32) &&& 0x3f).toInt64))])) rfl (hb hby d7_82) _) ?_
    show Go p e below T7 (mkF m 85 #[.val (.ref t), .val (.long ka2), .second, .val (.int (2 : Int32)), .val (.int (1 : Int32)), .val (.int (own_at cs 1))] [(.long (-9223372036854775808 : Int64)), (.long (ka2 <<< ((48 : Int32) &&& 0x3f).toInt64))]) _
    refine stp (fun _ => XS.lxor X7.here hx rfl (hb hby d7_85) rfl) ?_
    show Go p e below T7 (mkF m 86 #[.val (.ref t), .val (.long ka2), .second, .val (.int (2 : Int32)), .val (.int (1 : Int32)), .val (.int (own_at cs 1))] [(.long ((ka2 <<< ((48 : Int32) &&& 0x3f).toInt64) ^^^ (-9223372036854775808 : Int64)))]) _
    refine outJ X7 hx hret (hb hby d7_86) hlk (by decide) (by decide) ?_
    exact ⟨own_somej (by simp only [own_k0, own_k1, own_k2, own_k3, own_k4, own_k5, own_k6, own_k7, own_k8, own_fin, if_pos q23_2, if_neg q37_4, if_pos q23_6, if_pos q37_8, hka1, hka2]), N7, e7⟩
  refine stp (fun _ => XS.icmpYes X7.here hx rfl (pc0 := 37) (pc' := 44) rfl (hb hby d7_37) rfl (XT.ii_le_t q37_8) (by decide) (by decide)) ?_
  show Go p e below T7 (mkF m 44 #[.val (.ref t), .val (.long ka1), .second, .val (.int (1 : Int32)), .val (.int (0 : Int32)), .val (.int (own_at cs 1))] []) _
  refine stp (fun _ => XS.iconst X7.here hx rfl (hb hby d7_44)) ?_
  show Go p e below T7 (mkF m 45 #[.val (.ref t), .val (.long ka1), .second, .val (.int (1 : Int32)), .val (.int (0 : Int32)), .val (.int (own_at cs 1))] [(.int (0 : Int32))]) _
  refine stp (fun _ => XS.istore X7.here hx rfl (hb hby d7_45) rfl (l' := #[.val (.ref t), .val (.long ka1), .second, .val (.int (1 : Int32)), .val (.int (0 : Int32)), .val (.int (own_at cs 1))]) rfl) ?_
  show Go p e below T7 (mkF m 47 #[.val (.ref t), .val (.long ka1), .second, .val (.int (1 : Int32)), .val (.int (0 : Int32)), .val (.int (own_at cs 1))] []) _
  refine stp (fun _ => XS.lloadN X7.here hx rfl (hb hby d7_47) rfl) ?_
  refine stp (fun _ => XS.bipush X7.here hx rfl (hb hby d7_48)) ?_
  show Go p e below T7 (mkF m 50 #[.val (.ref t), .val (.long ka1), .second, .val (.int (1 : Int32)), .val (.int (0 : Int32)), .val (.int (own_at cs 1))] [(.int (8 : Int32)), (.long ka1)]) _
  refine stp (fun _ => XS.lshl X7.here hx rfl (hb hby d7_50) rfl) ?_
  show Go p e below T7 (mkF m 51 #[.val (.ref t), .val (.long ka1), .second, .val (.int (1 : Int32)), .val (.int (0 : Int32)), .val (.int (own_at cs 1))] [(.long (ka1 <<< ((8 : Int32) &&& 0x3f).toInt64))]) _
  refine stp (fun _ => XS.iload X7.here hx rfl (hb hby d7_51) rfl) ?_
  show Go p e below T7 (mkF m 53 #[.val (.ref t), .val (.long ka1), .second, .val (.int (1 : Int32)), .val (.int (0 : Int32)), .val (.int (own_at cs 1))] [(.int (0 : Int32)), (.long (ka1 <<< ((8 : Int32) &&& 0x3f).toInt64))]) _
  refine stp (fun _ => XS.ifYes X7.here hx rfl (pc0 := 53) (pc' := 62) rfl (hb hby d7_53) rfl (by decide) (by decide) (by decide)) ?_
  show Go p e below T7 (mkF m 62 #[.val (.ref t), .val (.long ka1), .second, .val (.int (1 : Int32)), .val (.int (0 : Int32)), .val (.int (own_at cs 1))] [(.long (ka1 <<< ((8 : Int32) &&& 0x3f).toInt64))]) _
  refine stp (fun _ => XS.iload X7.here hx rfl (hb hby d7_62) rfl) ?_
  show Go p e below T7 (mkF m 64 #[.val (.ref t), .val (.long ka1), .second, .val (.int (1 : Int32)), .val (.int (0 : Int32)), .val (.int (own_at cs 1))] [(.int (own_at cs 1)), (.long (ka1 <<< ((8 : Int32) &&& 0x3f).toInt64))]) _
  refine stp (fun _ => XS.i2l X7.here hx rfl (hb hby d7_64) rfl) ?_
  show Go p e below T7 (mkF m 65 #[.val (.ref t), .val (.long ka1), .second, .val (.int (1 : Int32)), .val (.int (0 : Int32)), .val (.int (own_at cs 1))] [(.long ((own_at cs 1).toInt64)), (.long (ka1 <<< ((8 : Int32) &&& 0x3f).toInt64))]) _
  refine stp (fun _ => XS.lor X7.here hx rfl (hb hby d7_65) rfl) ?_
  show Go p e below T7 (mkF m 66 #[.val (.ref t), .val (.long ka1), .second, .val (.int (1 : Int32)), .val (.int (0 : Int32)), .val (.int (own_at cs 1))] [(.long ((ka1 <<< ((8 : Int32) &&& 0x3f).toInt64) ||| ((own_at cs 1).toInt64)))]) _
  refine stp (fun _ => XS.lstoreN X7.here hx rfl (hb hby d7_66) rfl (l' := #[.val (.ref t), .val (.long ((ka1 <<< ((8 : Int32) &&& 0x3f).toInt64) ||| ((own_at cs 1).toInt64))), .second, .val (.int (1 : Int32)), .val (.int (0 : Int32)), .val (.int (own_at cs 1))]) rfl) ?_
  show Go p e below T7 (mkF m 67 #[.val (.ref t), .val (.long ((ka1 <<< ((8 : Int32) &&& 0x3f).toInt64) ||| ((own_at cs 1).toInt64))), .second, .val (.int (1 : Int32)), .val (.int (0 : Int32)), .val (.int (own_at cs 1))] []) _
  refine stp (fun _ => XS.iinc X7.here hx rfl (hb hby d7_67) rfl (l' := #[.val (.ref t), .val (.long ((ka1 <<< ((8 : Int32) &&& 0x3f).toInt64) ||| ((own_at cs 1).toInt64))), .second, .val (.int (2 : Int32)), .val (.int (0 : Int32)), .val (.int (own_at cs 1))]) rfl) ?_
  show Go p e below T7 (mkF m 70 #[.val (.ref t), .val (.long ((ka1 <<< ((8 : Int32) &&& 0x3f).toInt64) ||| ((own_at cs 1).toInt64))), .second, .val (.int (2 : Int32)), .val (.int (0 : Int32)), .val (.int (own_at cs 1))] []) _
  refine stp (fun _ => XS.goto X7.here hx rfl (pc0 := 70) (pc' := 7) rfl (hb hby d7_70) (by decide) (by decide)) ?_
  show Go p e below T7 (mkF m 7 #[.val (.ref t), .val (.long ((ka1 <<< ((8 : Int32) &&& 0x3f).toInt64) ||| ((own_at cs 1).toInt64))), .second, .val (.int (2 : Int32)), .val (.int (0 : Int32)), .val (.int (own_at cs 1))] []) _
  obtain ⟨ka2, hka2⟩ : ∃ z : Int64, z = ((ka1 <<< ((8 : Int32) &&& 0x3f).toInt64) ||| ((own_at cs 1).toInt64)) := ⟨_, rfl⟩
  rw [← hka2]
  show Go p e below T7 (mkF m 7 #[.val (.ref t), .val (.long ka2), .second, .val (.int (2 : Int32)), .val (.int (0 : Int32)), .val (.int (own_at cs 1))] []) _
  refine stp (fun _ => XS.iload X7.here hx rfl (hb hby d7_7) rfl) ?_
  show Go p e below T7 (mkF m 9 #[.val (.ref t), .val (.long ka2), .second, .val (.int (2 : Int32)), .val (.int (0 : Int32)), .val (.int (own_at cs 1))] [(.int (0 : Int32))]) _
  refine stp (fun _ => XS.ifNo X7.here hx rfl (hb hby d7_9) rfl (by decide)) ?_
  show Go p e below T7 (mkF m 12 #[.val (.ref t), .val (.long ka2), .second, .val (.int (2 : Int32)), .val (.int (0 : Int32)), .val (.int (own_at cs 1))] []) _
  refine stp (fun _ => XS.iloadN X7.here hx rfl (hb hby d7_12) rfl) ?_
  refine stp (fun _ => XS.bipush X7.here hx rfl (hb hby d7_13)) ?_
  show Go p e below T7 (mkF m 15 #[.val (.ref t), .val (.long ka2), .second, .val (.int (2 : Int32)), .val (.int (0 : Int32)), .val (.int (own_at cs 1))] [(.int (8 : Int32)), (.int (2 : Int32))]) _
  refine stp (fun _ => XS.icmpNo X7.here hx rfl (hb hby d7_15) rfl (by decide)) ?_
  show Go p e below T7 (mkF m 18 #[.val (.ref t), .val (.long ka2), .second, .val (.int (2 : Int32)), .val (.int (0 : Int32)), .val (.int (own_at cs 1))] []) _
  refine stp (fun _ => XS.iloadN X7.here hx rfl (hb hby d7_18) rfl) ?_
  refine stp (fun _ => XS.aloadN X7.here hx rfl (hb hby d7_19) rfl rfl) ?_
  show Go p e below T7 (mkF m 20 #[.val (.ref t), .val (.long ka2), .second, .val (.int (2 : Int32)), .val (.int (0 : Int32)), .val (.int (own_at cs 1))] [(.ref t), (.int (2 : Int32))]) _
  obtain ⟨cq9, kq9, q9a, q9b, q9c⟩ := isOf hZ e7 Q_t.exa
  obtain ⟨_, _, ⟨T9, L9, k9, n9⟩, -, X9, ⟨Lc9, hQ9, l9, y9, z9⟩, st9⟩ := X7.virtualBack hx (y := (⟨"java/lang/String", "length", "()I"⟩ : MethodName)) (z := (⟨"java/lang/String", "length", "()I"⟩ : MethodName)) hown (mvT hZ (hw _ (List.mem_of_getElem? (i := 38) rfl))) (mvT hZ (hw _ (List.mem_of_getElem? (i := 39) rfl))) (notFace_of_selects (args := #[]) (mvT hZ (hw _ (List.mem_of_getElem? (i := 41) rfl)))) (mvT hZ (hw _ (List.mem_of_getElem? (i := 41) rfl))) (mvT hZ (hw _ (List.mem_of_getElem? (i := 40) rfl))) (by decide) (backOf (W := 1) (rm_ulen l Z a0 hw [] t cs cz h0 n0 O0 Q_t S_COMPACT_STRINGS hcz) hZ (hw _ (List.mem_of_getElem? (i := 42) rfl)) (hw _ (List.mem_of_getElem? (i := 11) rfl)) (by decide) (by decide)) q9a q9c (g := (mkF m 20 #[.val (.ref t), .val (.long ka2), .second, .val (.int (2 : Int32)), .val (.int (0 : Int32)), .val (.int (own_at cs 1))] [(.ref t), (.int (2 : Int32))])) rfl (by rw [hml]; rfl) (Steps.refl _) (argsL := []) (rest := [(.int (2 : Int32))]) (lenOf pd_15 rfl) rfl (by show 2 * 0 + _ ≤ _; exact Nat.le_of_eq rfl) (hb hby d7_20) (fun _ _ => ⟨rfl, e7, (by decide : 0 + 0 ≤ _), (by decide : 0 + 0 ≤ _)⟩)
  dsimp only [Pt.U, Pt.locs, Pt.cells, Pt.slots] at X9 l9 y9 z9 st9 hQ9
  subst y9 z9
  obtain ⟨rfl, N9q, e9⟩ := hQ9
  have N9 : Fr n0 L9 := by rw [l9]; exact Fr.app N7 N9q
  refine stt st9 ?_
  show Go p e below T9 (mkF m 23 #[.val (.ref t), .val (.long ka2), .second, .val (.int (2 : Int32)), .val (.int (0 : Int32)), .val (.int (own_at cs 1))] [(.int (Int32.ofNat cs.length)), (.int (2 : Int32))]) _
  by_cases q23_10 : (2 : Int32) < (Int32.ofNat cs.length)
  rotate_left
  · refine stp (fun _ => XS.icmpYes X9.here hx rfl (pc0 := 23) (pc' := 73) rfl (hb hby d7_23) rfl (XT.ii_ge_t q23_10) (by decide) (by decide)) ?_
    show Go p e below T9 (mkF m 73 #[.val (.ref t), .val (.long ka2), .second, .val (.int (2 : Int32)), .val (.int (0 : Int32)), .val (.int (own_at cs 1))] []) _
    refine stp (fun _ => XS.lloadN X9.here hx rfl (hb hby d7_73) rfl) ?_
    refine stp (fun _ => XS.bipush X9.here hx rfl (hb hby d7_74)) ?_
    refine stp (fun _ => XS.bipush X9.here hx rfl (hb hby d7_76)) ?_
    refine stp (fun _ => XS.iloadN X9.here hx rfl (hb hby d7_78) rfl) ?_
    show Go p e below T9 (mkF m 79 #[.val (.ref t), .val (.long ka2), .second, .val (.int (2 : Int32)), .val (.int (0 : Int32)), .val (.int (own_at cs 1))] [(.int (2 : Int32)), (.int (8 : Int32)), (.int (8 : Int32)), (.long ka2)]) _
    refine stp (fun _ => XS.isub X9.here hx rfl (hb hby d7_79) rfl) ?_
    show Go p e below T9 (mkF m 80 #[.val (.ref t), .val (.long ka2), .second, .val (.int (2 : Int32)), .val (.int (0 : Int32)), .val (.int (own_at cs 1))] [(.int (6 : Int32)), (.int (8 : Int32)), (.long ka2)]) _
    refine stp (fun _ => XS.imul X9.here hx rfl (hb hby d7_80) rfl) ?_
    show Go p e below T9 (mkF m 81 #[.val (.ref t), .val (.long ka2), .second, .val (.int (2 : Int32)), .val (.int (0 : Int32)), .val (.int (own_at cs 1))] [(.int (48 : Int32)), (.long ka2)]) _
    refine stp (fun _ => XS.lshl X9.here hx rfl (hb hby d7_81) rfl) ?_
    show Go p e below T9 (mkF m 82 #[.val (.ref t), .val (.long ka2), .second, .val (.int (2 : Int32)), .val (.int (0 : Int32)), .val (.int (own_at cs 1))] [(.long (ka2 <<< ((48 : Int32) &&& 0x3f).toInt64))]) _
    refine stp (fun _ => X9.ldc2Long hx hown (mvT hZ (hw _ (List.mem_of_getElem? (i := 49) rfl))) (g := (mkF m 82 #[.val (.ref t), .val (.long ka2), .second, .val (.int (2 : Int32)), .val (.int (0 : Int32)), .val (.int (own_at cs 1))] [(.long (ka2 <<< ((48 : Int32) &&& 0x3f).toInt64))])) rfl (hb hby d7_82) _) ?_
    show Go p e below T9 (mkF m 85 #[.val (.ref t), .val (.long ka2), .second, .val (.int (2 : Int32)), .val (.int (0 : Int32)), .val (.int (own_at cs 1))] [(.long (-9223372036854775808 : Int64)), (.long (ka2 <<< ((48 : Int32) &&& 0x3f).toInt64))]) _
    refine stp (fun _ => XS.lxor X9.here hx rfl (hb hby d7_85) rfl) ?_
    show Go p e below T9 (mkF m 86 #[.val (.ref t), .val (.long ka2), .second, .val (.int (2 : Int32)), .val (.int (0 : Int32)), .val (.int (own_at cs 1))] [(.long ((ka2 <<< ((48 : Int32) &&& 0x3f).toInt64) ^^^ (-9223372036854775808 : Int64)))]) _
    refine outJ X9 hx hret (hb hby d7_86) hlk (by decide) (by decide) ?_
    exact ⟨own_somej (by simp only [own_k0, own_k1, own_k2, own_k3, own_k4, own_k5, own_k6, own_k7, own_k8, own_fin, if_pos q23_2, if_neg q37_4, if_pos q23_6, if_neg q37_8, if_neg q23_10, hka1, hka2]), N9, e9⟩
  refine stp (fun _ => XS.icmpNo X9.here hx rfl (hb hby d7_23) rfl (XT.ii_ge_f q23_10)) ?_
  show Go p e below T9 (mkF m 26 #[.val (.ref t), .val (.long ka2), .second, .val (.int (2 : Int32)), .val (.int (0 : Int32)), .val (.int (own_at cs 1))] []) _
  refine stp (fun _ => XS.aloadN X9.here hx rfl (hb hby d7_26) rfl rfl) ?_
  refine stp (fun _ => XS.iloadN X9.here hx rfl (hb hby d7_27) rfl) ?_
  show Go p e below T9 (mkF m 28 #[.val (.ref t), .val (.long ka2), .second, .val (.int (2 : Int32)), .val (.int (0 : Int32)), .val (.int (own_at cs 1))] [(.int (2 : Int32)), (.ref t)]) _
  obtain ⟨cq11, kq11, q11a, q11b, q11c⟩ := isOf hZ e9 Q_t.exa
  obtain ⟨_, _, ⟨T11, L11, k11, n11⟩, -, X11, ⟨Lc11, hQ11, l11, y11, z11⟩, st11⟩ := X9.virtualBack hx (y := (⟨"java/lang/String", "charAt", "(I)C"⟩ : MethodName)) (z := (⟨"java/lang/String", "charAt", "(I)C"⟩ : MethodName)) hown (mvT hZ (hw _ (List.mem_of_getElem? (i := 80) rfl))) (mvT hZ (hw _ (List.mem_of_getElem? (i := 81) rfl))) (notFace_of_selects (args := #[]) (mvT hZ (hw _ (List.mem_of_getElem? (i := 83) rfl)))) (mvT hZ (hw _ (List.mem_of_getElem? (i := 83) rfl))) (mvT hZ (hw _ (List.mem_of_getElem? (i := 82) rfl))) (by decide) (backOf (W := 0) (rm_uch l Z a0 hw [] t (2 : Int32) cs cz fm 2 h0 n0 O0 Q_t S_COMPACT_STRINGS S_SIOOBE_FORMATTER S__assertionsDisabled S_HI_BYTE_SHIFT S_LO_BYTE_SHIFT hcz hfm (by decide) (own_idx (by decide) hN1 q23_10)) hZ (hw _ (List.mem_of_getElem? (i := 84) rfl)) (hw _ (List.mem_of_getElem? (i := 11) rfl)) (by decide) (by decide)) q11a q11c (g := (mkF m 28 #[.val (.ref t), .val (.long ka2), .second, .val (.int (2 : Int32)), .val (.int (0 : Int32)), .val (.int (own_at cs 1))] [(.int (2 : Int32)), (.ref t)])) rfl (by rw [hml]; rfl) (Steps.refl _) (argsL := [(.int (2 : Int32))]) (rest := []) (lenOf pd_16 rfl) rfl (by show 2 * 0 + _ ≤ _; exact Nat.le_of_eq rfl) (hb hby d7_28) (fun _ _ => ⟨rfl, e9, (by decide : 0 + 0 ≤ _), (by decide : 0 + 0 ≤ _)⟩)
  dsimp only [Pt.U, Pt.locs, Pt.cells, Pt.slots] at X11 l11 y11 z11 st11 hQ11
  subst y11 z11
  obtain ⟨rfl, N11q, e11⟩ := hQ11
  have N11 : Fr n0 L11 := by rw [l11]; exact Fr.app N9 N11q
  refine stt st11 ?_
  show Go p e below T11 (mkF m 31 #[.val (.ref t), .val (.long ka2), .second, .val (.int (2 : Int32)), .val (.int (0 : Int32)), .val (.int (own_at cs 1))] [(.int (own_at cs 2))]) _
  refine stp (fun _ => XS.istore X11.here hx rfl (hb hby d7_31) rfl (l' := #[.val (.ref t), .val (.long ka2), .second, .val (.int (2 : Int32)), .val (.int (0 : Int32)), .val (.int (own_at cs 2))]) rfl) ?_
  show Go p e below T11 (mkF m 33 #[.val (.ref t), .val (.long ka2), .second, .val (.int (2 : Int32)), .val (.int (0 : Int32)), .val (.int (own_at cs 2))] []) _
  refine stp (fun _ => XS.iload X11.here hx rfl (hb hby d7_33) rfl) ?_
  refine stp (fun _ => XS.bipush X11.here hx rfl (hb hby d7_35)) ?_
  show Go p e below T11 (mkF m 37 #[.val (.ref t), .val (.long ka2), .second, .val (.int (2 : Int32)), .val (.int (0 : Int32)), .val (.int (own_at cs 2))] [(.int (127 : Int32)), (.int (own_at cs 2))]) _
  by_cases q37_12 : (127 : Int32) < (own_at cs 2)
  · refine stp (fun _ => XS.icmpNo X11.here hx rfl (hb hby d7_37) rfl (XT.ii_le_f q37_12)) ?_
    show Go p e below T11 (mkF m 40 #[.val (.ref t), .val (.long ka2), .second, .val (.int (2 : Int32)), .val (.int (0 : Int32)), .val (.int (own_at cs 2))] []) _
    refine stp (fun _ => XS.iconst X11.here hx rfl (hb hby d7_40)) ?_
    show Go p e below T11 (mkF m 41 #[.val (.ref t), .val (.long ka2), .second, .val (.int (2 : Int32)), .val (.int (0 : Int32)), .val (.int (own_at cs 2))] [(.int (1 : Int32))]) _
    refine stp (fun _ => XS.goto X11.here hx rfl (pc0 := 41) (pc' := 45) rfl (hb hby d7_41) (by decide) (by decide)) ?_
    show Go p e below T11 (mkF m 45 #[.val (.ref t), .val (.long ka2), .second, .val (.int (2 : Int32)), .val (.int (0 : Int32)), .val (.int (own_at cs 2))] [(.int (1 : Int32))]) _
    refine stp (fun _ => XS.istore X11.here hx rfl (hb hby d7_45) rfl (l' := #[.val (.ref t), .val (.long ka2), .second, .val (.int (2 : Int32)), .val (.int (1 : Int32)), .val (.int (own_at cs 2))]) rfl) ?_
    show Go p e below T11 (mkF m 47 #[.val (.ref t), .val (.long ka2), .second, .val (.int (2 : Int32)), .val (.int (1 : Int32)), .val (.int (own_at cs 2))] []) _
    refine stp (fun _ => XS.lloadN X11.here hx rfl (hb hby d7_47) rfl) ?_
    refine stp (fun _ => XS.bipush X11.here hx rfl (hb hby d7_48)) ?_
    show Go p e below T11 (mkF m 50 #[.val (.ref t), .val (.long ka2), .second, .val (.int (2 : Int32)), .val (.int (1 : Int32)), .val (.int (own_at cs 2))] [(.int (8 : Int32)), (.long ka2)]) _
    refine stp (fun _ => XS.lshl X11.here hx rfl (hb hby d7_50) rfl) ?_
    show Go p e below T11 (mkF m 51 #[.val (.ref t), .val (.long ka2), .second, .val (.int (2 : Int32)), .val (.int (1 : Int32)), .val (.int (own_at cs 2))] [(.long (ka2 <<< ((8 : Int32) &&& 0x3f).toInt64))]) _
    refine stp (fun _ => XS.iload X11.here hx rfl (hb hby d7_51) rfl) ?_
    show Go p e below T11 (mkF m 53 #[.val (.ref t), .val (.long ka2), .second, .val (.int (2 : Int32)), .val (.int (1 : Int32)), .val (.int (own_at cs 2))] [(.int (1 : Int32)), (.long (ka2 <<< ((8 : Int32) &&& 0x3f).toInt64))]) _
    refine stp (fun _ => XS.ifNo X11.here hx rfl (hb hby d7_53) rfl (by decide)) ?_
    show Go p e below T11 (mkF m 56 #[.val (.ref t), .val (.long ka2), .second, .val (.int (2 : Int32)), .val (.int (1 : Int32)), .val (.int (own_at cs 2))] [(.long (ka2 <<< ((8 : Int32) &&& 0x3f).toInt64))]) _
    refine stp (fun _ => XS.sipush X11.here hx rfl (hb hby d7_56)) ?_
    show Go p e below T11 (mkF m 59 #[.val (.ref t), .val (.long ka2), .second, .val (.int (2 : Int32)), .val (.int (1 : Int32)), .val (.int (own_at cs 2))] [(.int (255 : Int32)), (.long (ka2 <<< ((8 : Int32) &&& 0x3f).toInt64))]) _
    refine stp (fun _ => XS.goto X11.here hx rfl (pc0 := 59) (pc' := 64) rfl (hb hby d7_59) (by decide) (by decide)) ?_
    show Go p e below T11 (mkF m 64 #[.val (.ref t), .val (.long ka2), .second, .val (.int (2 : Int32)), .val (.int (1 : Int32)), .val (.int (own_at cs 2))] [(.int (255 : Int32)), (.long (ka2 <<< ((8 : Int32) &&& 0x3f).toInt64))]) _
    refine stp (fun _ => XS.i2l X11.here hx rfl (hb hby d7_64) rfl) ?_
    show Go p e below T11 (mkF m 65 #[.val (.ref t), .val (.long ka2), .second, .val (.int (2 : Int32)), .val (.int (1 : Int32)), .val (.int (own_at cs 2))] [(.long ((255 : Int32).toInt64)), (.long (ka2 <<< ((8 : Int32) &&& 0x3f).toInt64))]) _
    refine stp (fun _ => XS.lor X11.here hx rfl (hb hby d7_65) rfl) ?_
    show Go p e below T11 (mkF m 66 #[.val (.ref t), .val (.long ka2), .second, .val (.int (2 : Int32)), .val (.int (1 : Int32)), .val (.int (own_at cs 2))] [(.long ((ka2 <<< ((8 : Int32) &&& 0x3f).toInt64) ||| ((255 : Int32).toInt64)))]) _
    refine stp (fun _ => XS.lstoreN X11.here hx rfl (hb hby d7_66) rfl (l' := #[.val (.ref t), .val (.long ((ka2 <<< ((8 : Int32) &&& 0x3f).toInt64) ||| ((255 : Int32).toInt64))), .second, .val (.int (2 : Int32)), .val (.int (1 : Int32)), .val (.int (own_at cs 2))]) rfl) ?_
    show Go p e below T11 (mkF m 67 #[.val (.ref t), .val (.long ((ka2 <<< ((8 : Int32) &&& 0x3f).toInt64) ||| ((255 : Int32).toInt64))), .second, .val (.int (2 : Int32)), .val (.int (1 : Int32)), .val (.int (own_at cs 2))] []) _
    refine stp (fun _ => XS.iinc X11.here hx rfl (hb hby d7_67) rfl (l' := #[.val (.ref t), .val (.long ((ka2 <<< ((8 : Int32) &&& 0x3f).toInt64) ||| ((255 : Int32).toInt64))), .second, .val (.int (3 : Int32)), .val (.int (1 : Int32)), .val (.int (own_at cs 2))]) rfl) ?_
    show Go p e below T11 (mkF m 70 #[.val (.ref t), .val (.long ((ka2 <<< ((8 : Int32) &&& 0x3f).toInt64) ||| ((255 : Int32).toInt64))), .second, .val (.int (3 : Int32)), .val (.int (1 : Int32)), .val (.int (own_at cs 2))] []) _
    refine stp (fun _ => XS.goto X11.here hx rfl (pc0 := 70) (pc' := 7) rfl (hb hby d7_70) (by decide) (by decide)) ?_
    show Go p e below T11 (mkF m 7 #[.val (.ref t), .val (.long ((ka2 <<< ((8 : Int32) &&& 0x3f).toInt64) ||| ((255 : Int32).toInt64))), .second, .val (.int (3 : Int32)), .val (.int (1 : Int32)), .val (.int (own_at cs 2))] []) _
    obtain ⟨ka3, hka3⟩ : ∃ z : Int64, z = ((ka2 <<< ((8 : Int32) &&& 0x3f).toInt64) ||| ((255 : Int32).toInt64)) := ⟨_, rfl⟩
    rw [← hka3]
    show Go p e below T11 (mkF m 7 #[.val (.ref t), .val (.long ka3), .second, .val (.int (3 : Int32)), .val (.int (1 : Int32)), .val (.int (own_at cs 2))] []) _
    refine stp (fun _ => XS.iload X11.here hx rfl (hb hby d7_7) rfl) ?_
    show Go p e below T11 (mkF m 9 #[.val (.ref t), .val (.long ka3), .second, .val (.int (3 : Int32)), .val (.int (1 : Int32)), .val (.int (own_at cs 2))] [(.int (1 : Int32))]) _
    refine stp (fun _ => XS.ifYes X11.here hx rfl (pc0 := 9) (pc' := 73) rfl (hb hby d7_9) rfl (by decide) (by decide) (by decide)) ?_
    show Go p e below T11 (mkF m 73 #[.val (.ref t), .val (.long ka3), .second, .val (.int (3 : Int32)), .val (.int (1 : Int32)), .val (.int (own_at cs 2))] []) _
    refine stp (fun _ => XS.lloadN X11.here hx rfl (hb hby d7_73) rfl) ?_
    refine stp (fun _ => XS.bipush X11.here hx rfl (hb hby d7_74)) ?_
    refine stp (fun _ => XS.bipush X11.here hx rfl (hb hby d7_76)) ?_
    refine stp (fun _ => XS.iloadN X11.here hx rfl (hb hby d7_78) rfl) ?_
    show Go p e below T11 (mkF m 79 #[.val (.ref t), .val (.long ka3), .second, .val (.int (3 : Int32)), .val (.int (1 : Int32)), .val (.int (own_at cs 2))] [(.int (3 : Int32)), (.int (8 : Int32)), (.int (8 : Int32)), (.long ka3)]) _
    refine stp (fun _ => XS.isub X11.here hx rfl (hb hby d7_79) rfl) ?_
    show Go p e below T11 (mkF m 80 #[.val (.ref t), .val (.long ka3), .second, .val (.int (3 : Int32)), .val (.int (1 : Int32)), .val (.int (own_at cs 2))] [(.int (5 : Int32)), (.int (8 : Int32)), (.long ka3)]) _
    refine stp (fun _ => XS.imul X11.here hx rfl (hb hby d7_80) rfl) ?_
    show Go p e below T11 (mkF m 81 #[.val (.ref t), .val (.long ka3), .second, .val (.int (3 : Int32)), .val (.int (1 : Int32)), .val (.int (own_at cs 2))] [(.int (40 : Int32)), (.long ka3)]) _
    refine stp (fun _ => XS.lshl X11.here hx rfl (hb hby d7_81) rfl) ?_
    show Go p e below T11 (mkF m 82 #[.val (.ref t), .val (.long ka3), .second, .val (.int (3 : Int32)), .val (.int (1 : Int32)), .val (.int (own_at cs 2))] [(.long (ka3 <<< ((40 : Int32) &&& 0x3f).toInt64))]) _
    refine stp (fun _ => X11.ldc2Long hx hown (mvT hZ (hw _ (List.mem_of_getElem? (i := 49) rfl))) (g := (mkF m 82 #[.val (.ref t), .val (.long ka3), .second, .val (.int (3 : Int32)), .val (.int (1 : Int32)), .val (.int (own_at cs 2))] [(.long (ka3 <<< ((40 : Int32) &&& 0x3f).toInt64))])) rfl (hb hby d7_82) _) ?_
    show Go p e below T11 (mkF m 85 #[.val (.ref t), .val (.long ka3), .second, .val (.int (3 : Int32)), .val (.int (1 : Int32)), .val (.int (own_at cs 2))] [(.long (-9223372036854775808 : Int64)), (.long (ka3 <<< ((40 : Int32) &&& 0x3f).toInt64))]) _
    refine stp (fun _ => XS.lxor X11.here hx rfl (hb hby d7_85) rfl) ?_
    show Go p e below T11 (mkF m 86 #[.val (.ref t), .val (.long ka3), .second, .val (.int (3 : Int32)), .val (.int (1 : Int32)), .val (.int (own_at cs 2))] [(.long ((ka3 <<< ((40 : Int32) &&& 0x3f).toInt64) ^^^ (-9223372036854775808 : Int64)))]) _
    refine outJ X11 hx hret (hb hby d7_86) hlk (by decide) (by decide) ?_
    exact ⟨own_somej (by simp only [own_k0, own_k1, own_k2, own_k3, own_k4, own_k5, own_k6, own_k7, own_k8, own_fin, if_pos q23_2, if_neg q37_4, if_pos q23_6, if_neg q37_8, if_pos q23_10, if_pos q37_12, hka1, hka2, hka3]), N11, e11⟩
  refine stp (fun _ => XS.icmpYes X11.here hx rfl (pc0 := 37) (pc' := 44) rfl (hb hby d7_37) rfl (XT.ii_le_t q37_12) (by decide) (by decide)) ?_
  show Go p e below T11 (mkF m 44 #[.val (.ref t), .val (.long ka2), .second, .val (.int (2 : Int32)), .val (.int (0 : Int32)), .val (.int (own_at cs 2))] []) _
  refine stp (fun _ => XS.iconst X11.here hx rfl (hb hby d7_44)) ?_
  show Go p e below T11 (mkF m 45 #[.val (.ref t), .val (.long ka2), .second, .val (.int (2 : Int32)), .val (.int (0 : Int32)), .val (.int (own_at cs 2))] [(.int (0 : Int32))]) _
  refine stp (fun _ => XS.istore X11.here hx rfl (hb hby d7_45) rfl (l' := #[.val (.ref t), .val (.long ka2), .second, .val (.int (2 : Int32)), .val (.int (0 : Int32)), .val (.int (own_at cs 2))]) rfl) ?_
  show Go p e below T11 (mkF m 47 #[.val (.ref t), .val (.long ka2), .second, .val (.int (2 : Int32)), .val (.int (0 : Int32)), .val (.int (own_at cs 2))] []) _
  refine stp (fun _ => XS.lloadN X11.here hx rfl (hb hby d7_47) rfl) ?_
  refine stp (fun _ => XS.bipush X11.here hx rfl (hb hby d7_48)) ?_
  show Go p e below T11 (mkF m 50 #[.val (.ref t), .val (.long ka2), .second, .val (.int (2 : Int32)), .val (.int (0 : Int32)), .val (.int (own_at cs 2))] [(.int (8 : Int32)), (.long ka2)]) _
  refine stp (fun _ => XS.lshl X11.here hx rfl (hb hby d7_50) rfl) ?_
  show Go p e below T11 (mkF m 51 #[.val (.ref t), .val (.long ka2), .second, .val (.int (2 : Int32)), .val (.int (0 : Int32)), .val (.int (own_at cs 2))] [(.long (ka2 <<< ((8 : Int32) &&& 0x3f).toInt64))]) _
  refine stp (fun _ => XS.iload X11.here hx rfl (hb hby d7_51) rfl) ?_
  show Go p e below T11 (mkF m 53 #[.val (.ref t), .val (.long ka2), .second, .val (.int (2 : Int32)), .val (.int (0 : Int32)), .val (.int (own_at cs 2))] [(.int (0 : Int32)), (.long (ka2 <<< ((8 : Int32) &&& 0x3f).toInt64))]) _
  refine stp (fun _ => XS.ifYes X11.here hx rfl (pc0 := 53) (pc' := 62) rfl (hb hby d7_53) rfl (by decide) (by decide) (by decide)) ?_
  show Go p e below T11 (mkF m 62 #[.val (.ref t), .val (.long ka2), .second, .val (.int (2 : Int32)), .val (.int (0 : Int32)), .val (.int (own_at cs 2))] [(.long (ka2 <<< ((8 : Int32) &&& 0x3f).toInt64))]) _
  refine stp (fun _ => XS.iload X11.here hx rfl (hb hby d7_62) rfl) ?_
  show Go p e below T11 (mkF m 64 #[.val (.ref t), .val (.long ka2), .second, .val (.int (2 : Int32)), .val (.int (0 : Int32)), .val (.int (own_at cs 2))] [(.int (own_at cs 2)), (.long (ka2 <<< ((8 : Int32) &&& 0x3f).toInt64))]) _
  refine stp (fun _ => XS.i2l X11.here hx rfl (hb hby d7_64) rfl) ?_
  show Go p e below T11 (mkF m 65 #[.val (.ref t), .val (.long ka2), .second, .val (.int (2 : Int32)), .val (.int (0 : Int32)), .val (.int (own_at cs 2))] [(.long ((own_at cs 2).toInt64)), (.long (ka2 <<< ((8 : Int32) &&& 0x3f).toInt64))]) _
  refine stp (fun _ => XS.lor X11.here hx rfl (hb hby d7_65) rfl) ?_
  show Go p e below T11 (mkF m 66 #[.val (.ref t), .val (.long ka2), .second, .val (.int (2 : Int32)), .val (.int (0 : Int32)), .val (.int (own_at cs 2))] [(.long ((ka2 <<< ((8 : Int32) &&& 0x3f).toInt64) ||| ((own_at cs 2).toInt64)))]) _
  refine stp (fun _ => XS.lstoreN X11.here hx rfl (hb hby d7_66) rfl (l' := #[.val (.ref t), .val (.long ((ka2 <<< ((8 : Int32) &&& 0x3f).toInt64) ||| ((own_at cs 2).toInt64))), .second, .val (.int (2 : Int32)), .val (.int (0 : Int32)), .val (.int (own_at cs 2))]) rfl) ?_
  show Go p e below T11 (mkF m 67 #[.val (.ref t), .val (.long ((ka2 <<< ((8 : Int32) &&& 0x3f).toInt64) ||| ((own_at cs 2).toInt64))), .second, .val (.int (2 : Int32)), .val (.int (0 : Int32)), .val (.int (own_at cs 2))] []) _
  refine stp (fun _ => XS.iinc X11.here hx rfl (hb hby d7_67) rfl (l' := #[.val (.ref t), .val (.long ((ka2 <<< ((8 : Int32) &&& 0x3f).toInt64) ||| ((own_at cs 2).toInt64))), .second, .val (.int (3 : Int32)), .val (.int (0 : Int32)), .val (.int (own_at cs 2))]) rfl) ?_
  show Go p e below T11 (mkF m 70 #[.val (.ref t), .val (.long ((ka2 <<< ((8 : Int32) &&& 0x3f).toInt64) ||| ((own_at cs 2).toInt64))), .second, .val (.int (3 : Int32)), .val (.int (0 : Int32)), .val (.int (own_at cs 2))] []) _
  refine stp (fun _ => XS.goto X11.here hx rfl (pc0 := 70) (pc' := 7) rfl (hb hby d7_70) (by decide) (by decide)) ?_
  show Go p e below T11 (mkF m 7 #[.val (.ref t), .val (.long ((ka2 <<< ((8 : Int32) &&& 0x3f).toInt64) ||| ((own_at cs 2).toInt64))), .second, .val (.int (3 : Int32)), .val (.int (0 : Int32)), .val (.int (own_at cs 2))] []) _
  obtain ⟨ka3, hka3⟩ : ∃ z : Int64, z = ((ka2 <<< ((8 : Int32) &&& 0x3f).toInt64) ||| ((own_at cs 2).toInt64)) := ⟨_, rfl⟩
  rw [← hka3]
  show Go p e below T11 (mkF m 7 #[.val (.ref t), .val (.long ka3), .second, .val (.int (3 : Int32)), .val (.int (0 : Int32)), .val (.int (own_at cs 2))] []) _
  refine stp (fun _ => XS.iload X11.here hx rfl (hb hby d7_7) rfl) ?_
  show Go p e below T11 (mkF m 9 #[.val (.ref t), .val (.long ka3), .second, .val (.int (3 : Int32)), .val (.int (0 : Int32)), .val (.int (own_at cs 2))] [(.int (0 : Int32))]) _
  refine stp (fun _ => XS.ifNo X11.here hx rfl (hb hby d7_9) rfl (by decide)) ?_
  show Go p e below T11 (mkF m 12 #[.val (.ref t), .val (.long ka3), .second, .val (.int (3 : Int32)), .val (.int (0 : Int32)), .val (.int (own_at cs 2))] []) _
  refine stp (fun _ => XS.iloadN X11.here hx rfl (hb hby d7_12) rfl) ?_
  refine stp (fun _ => XS.bipush X11.here hx rfl (hb hby d7_13)) ?_
  show Go p e below T11 (mkF m 15 #[.val (.ref t), .val (.long ka3), .second, .val (.int (3 : Int32)), .val (.int (0 : Int32)), .val (.int (own_at cs 2))] [(.int (8 : Int32)), (.int (3 : Int32))]) _
  refine stp (fun _ => XS.icmpNo X11.here hx rfl (hb hby d7_15) rfl (by decide)) ?_
  show Go p e below T11 (mkF m 18 #[.val (.ref t), .val (.long ka3), .second, .val (.int (3 : Int32)), .val (.int (0 : Int32)), .val (.int (own_at cs 2))] []) _
  refine stp (fun _ => XS.iloadN X11.here hx rfl (hb hby d7_18) rfl) ?_
  refine stp (fun _ => XS.aloadN X11.here hx rfl (hb hby d7_19) rfl rfl) ?_
  show Go p e below T11 (mkF m 20 #[.val (.ref t), .val (.long ka3), .second, .val (.int (3 : Int32)), .val (.int (0 : Int32)), .val (.int (own_at cs 2))] [(.ref t), (.int (3 : Int32))]) _
  obtain ⟨cq13, kq13, q13a, q13b, q13c⟩ := isOf hZ e11 Q_t.exa
  obtain ⟨_, _, ⟨T13, L13, k13, n13⟩, -, X13, ⟨Lc13, hQ13, l13, y13, z13⟩, st13⟩ := X11.virtualBack hx (y := (⟨"java/lang/String", "length", "()I"⟩ : MethodName)) (z := (⟨"java/lang/String", "length", "()I"⟩ : MethodName)) hown (mvT hZ (hw _ (List.mem_of_getElem? (i := 38) rfl))) (mvT hZ (hw _ (List.mem_of_getElem? (i := 39) rfl))) (notFace_of_selects (args := #[]) (mvT hZ (hw _ (List.mem_of_getElem? (i := 41) rfl)))) (mvT hZ (hw _ (List.mem_of_getElem? (i := 41) rfl))) (mvT hZ (hw _ (List.mem_of_getElem? (i := 40) rfl))) (by decide) (backOf (W := 1) (rm_ulen l Z a0 hw [] t cs cz h0 n0 O0 Q_t S_COMPACT_STRINGS hcz) hZ (hw _ (List.mem_of_getElem? (i := 42) rfl)) (hw _ (List.mem_of_getElem? (i := 11) rfl)) (by decide) (by decide)) q13a q13c (g := (mkF m 20 #[.val (.ref t), .val (.long ka3), .second, .val (.int (3 : Int32)), .val (.int (0 : Int32)), .val (.int (own_at cs 2))] [(.ref t), (.int (3 : Int32))])) rfl (by rw [hml]; rfl) (Steps.refl _) (argsL := []) (rest := [(.int (3 : Int32))]) (lenOf pd_15 rfl) rfl (by show 2 * 0 + _ ≤ _; exact Nat.le_of_eq rfl) (hb hby d7_20) (fun _ _ => ⟨rfl, e11, (by decide : 0 + 0 ≤ _), (by decide : 0 + 0 ≤ _)⟩)
  dsimp only [Pt.U, Pt.locs, Pt.cells, Pt.slots] at X13 l13 y13 z13 st13 hQ13
  subst y13 z13
  obtain ⟨rfl, N13q, e13⟩ := hQ13
  have N13 : Fr n0 L13 := by rw [l13]; exact Fr.app N11 N13q
  refine stt st13 ?_
  show Go p e below T13 (mkF m 23 #[.val (.ref t), .val (.long ka3), .second, .val (.int (3 : Int32)), .val (.int (0 : Int32)), .val (.int (own_at cs 2))] [(.int (Int32.ofNat cs.length)), (.int (3 : Int32))]) _
  by_cases q23_14 : (3 : Int32) < (Int32.ofNat cs.length)
  rotate_left
  · refine stp (fun _ => XS.icmpYes X13.here hx rfl (pc0 := 23) (pc' := 73) rfl (hb hby d7_23) rfl (XT.ii_ge_t q23_14) (by decide) (by decide)) ?_
    show Go p e below T13 (mkF m 73 #[.val (.ref t), .val (.long ka3), .second, .val (.int (3 : Int32)), .val (.int (0 : Int32)), .val (.int (own_at cs 2))] []) _
    refine stp (fun _ => XS.lloadN X13.here hx rfl (hb hby d7_73) rfl) ?_
    refine stp (fun _ => XS.bipush X13.here hx rfl (hb hby d7_74)) ?_
    refine stp (fun _ => XS.bipush X13.here hx rfl (hb hby d7_76)) ?_
    refine stp (fun _ => XS.iloadN X13.here hx rfl (hb hby d7_78) rfl) ?_
    show Go p e below T13 (mkF m 79 #[.val (.ref t), .val (.long ka3), .second, .val (.int (3 : Int32)), .val (.int (0 : Int32)), .val (.int (own_at cs 2))] [(.int (3 : Int32)), (.int (8 : Int32)), (.int (8 : Int32)), (.long ka3)]) _
    refine stp (fun _ => XS.isub X13.here hx rfl (hb hby d7_79) rfl) ?_
    show Go p e below T13 (mkF m 80 #[.val (.ref t), .val (.long ka3), .second, .val (.int (3 : Int32)), .val (.int (0 : Int32)), .val (.int (own_at cs 2))] [(.int (5 : Int32)), (.int (8 : Int32)), (.long ka3)]) _
    refine stp (fun _ => XS.imul X13.here hx rfl (hb hby d7_80) rfl) ?_
    show Go p e below T13 (mkF m 81 #[.val (.ref t), .val (.long ka3), .second, .val (.int (3 : Int32)), .val (.int (0 : Int32)), .val (.int (own_at cs 2))] [(.int (40 : Int32)), (.long ka3)]) _
    refine stp (fun _ => XS.lshl X13.here hx rfl (hb hby d7_81) rfl) ?_
    show Go p e below T13 (mkF m 82 #[.val (.ref t), .val (.long ka3), .second, .val (.int (3 : Int32)), .val (.int (0 : Int32)), .val (.int (own_at cs 2))] [(.long (ka3 <<< ((40 : Int32) &&& 0x3f).toInt64))]) _
    refine stp (fun _ => X13.ldc2Long hx hown (mvT hZ (hw _ (List.mem_of_getElem? (i := 49) rfl))) (g := (mkF m 82 #[.val (.ref t), .val (.long ka3), .second, .val (.int (3 : Int32)), .val (.int (0 : Int32)), .val (.int (own_at cs 2))] [(.long (ka3 <<< ((40 : Int32) &&& 0x3f).toInt64))])) rfl (hb hby d7_82) _) ?_
    show Go p e below T13 (mkF m 85 #[.val (.ref t), .val (.long ka3), .second, .val (.int (3 : Int32)), .val (.int (0 : Int32)), .val (.int (own_at cs 2))] [(.long (-9223372036854775808 : Int64)), (.long (ka3 <<< ((40 : Int32) &&& 0x3f).toInt64))]) _
    refine stp (fun _ => XS.lxor X13.here hx rfl (hb hby d7_85) rfl) ?_
    show Go p e below T13 (mkF m 86 #[.val (.ref t), .val (.long ka3), .second, .val (.int (3 : Int32)), .val (.int (0 : Int32)), .val (.int (own_at cs 2))] [(.long ((ka3 <<< ((40 : Int32) &&& 0x3f).toInt64) ^^^ (-9223372036854775808 : Int64)))]) _
    refine outJ X13 hx hret (hb hby d7_86) hlk (by decide) (by decide) ?_
    exact ⟨own_somej (by simp only [own_k0, own_k1, own_k2, own_k3, own_k4, own_k5, own_k6, own_k7, own_k8, own_fin, if_pos q23_2, if_neg q37_4, if_pos q23_6, if_neg q37_8, if_pos q23_10, if_neg q37_12, if_neg q23_14, hka1, hka2, hka3]), N13, e13⟩
  refine stp (fun _ => XS.icmpNo X13.here hx rfl (hb hby d7_23) rfl (XT.ii_ge_f q23_14)) ?_
  show Go p e below T13 (mkF m 26 #[.val (.ref t), .val (.long ka3), .second, .val (.int (3 : Int32)), .val (.int (0 : Int32)), .val (.int (own_at cs 2))] []) _
  refine stp (fun _ => XS.aloadN X13.here hx rfl (hb hby d7_26) rfl rfl) ?_
  refine stp (fun _ => XS.iloadN X13.here hx rfl (hb hby d7_27) rfl) ?_
  show Go p e below T13 (mkF m 28 #[.val (.ref t), .val (.long ka3), .second, .val (.int (3 : Int32)), .val (.int (0 : Int32)), .val (.int (own_at cs 2))] [(.int (3 : Int32)), (.ref t)]) _
  obtain ⟨cq15, kq15, q15a, q15b, q15c⟩ := isOf hZ e13 Q_t.exa
  obtain ⟨_, _, ⟨T15, L15, k15, n15⟩, -, X15, ⟨Lc15, hQ15, l15, y15, z15⟩, st15⟩ := X13.virtualBack hx (y := (⟨"java/lang/String", "charAt", "(I)C"⟩ : MethodName)) (z := (⟨"java/lang/String", "charAt", "(I)C"⟩ : MethodName)) hown (mvT hZ (hw _ (List.mem_of_getElem? (i := 80) rfl))) (mvT hZ (hw _ (List.mem_of_getElem? (i := 81) rfl))) (notFace_of_selects (args := #[]) (mvT hZ (hw _ (List.mem_of_getElem? (i := 83) rfl)))) (mvT hZ (hw _ (List.mem_of_getElem? (i := 83) rfl))) (mvT hZ (hw _ (List.mem_of_getElem? (i := 82) rfl))) (by decide) (backOf (W := 0) (rm_uch l Z a0 hw [] t (3 : Int32) cs cz fm 3 h0 n0 O0 Q_t S_COMPACT_STRINGS S_SIOOBE_FORMATTER S__assertionsDisabled S_HI_BYTE_SHIFT S_LO_BYTE_SHIFT hcz hfm (by decide) (own_idx (by decide) hN1 q23_14)) hZ (hw _ (List.mem_of_getElem? (i := 84) rfl)) (hw _ (List.mem_of_getElem? (i := 11) rfl)) (by decide) (by decide)) q15a q15c (g := (mkF m 28 #[.val (.ref t), .val (.long ka3), .second, .val (.int (3 : Int32)), .val (.int (0 : Int32)), .val (.int (own_at cs 2))] [(.int (3 : Int32)), (.ref t)])) rfl (by rw [hml]; rfl) (Steps.refl _) (argsL := [(.int (3 : Int32))]) (rest := []) (lenOf pd_16 rfl) rfl (by show 2 * 0 + _ ≤ _; exact Nat.le_of_eq rfl) (hb hby d7_28) (fun _ _ => ⟨rfl, e13, (by decide : 0 + 0 ≤ _), (by decide : 0 + 0 ≤ _)⟩)
  dsimp only [Pt.U, Pt.locs, Pt.cells, Pt.slots] at X15 l15 y15 z15 st15 hQ15
  subst y15 z15
  obtain ⟨rfl, N15q, e15⟩ := hQ15
  have N15 : Fr n0 L15 := by rw [l15]; exact Fr.app N13 N15q
  refine stt st15 ?_
  show Go p e below T15 (mkF m 31 #[.val (.ref t), .val (.long ka3), .second, .val (.int (3 : Int32)), .val (.int (0 : Int32)), .val (.int (own_at cs 2))] [(.int (own_at cs 3))]) _
  refine stp (fun _ => XS.istore X15.here hx rfl (hb hby d7_31) rfl (l' := #[.val (.ref t), .val (.long ka3), .second, .val (.int (3 : Int32)), .val (.int (0 : Int32)), .val (.int (own_at cs 3))]) rfl) ?_
  show Go p e below T15 (mkF m 33 #[.val (.ref t), .val (.long ka3), .second, .val (.int (3 : Int32)), .val (.int (0 : Int32)), .val (.int (own_at cs 3))] []) _
  refine stp (fun _ => XS.iload X15.here hx rfl (hb hby d7_33) rfl) ?_
  refine stp (fun _ => XS.bipush X15.here hx rfl (hb hby d7_35)) ?_
  show Go p e below T15 (mkF m 37 #[.val (.ref t), .val (.long ka3), .second, .val (.int (3 : Int32)), .val (.int (0 : Int32)), .val (.int (own_at cs 3))] [(.int (127 : Int32)), (.int (own_at cs 3))]) _
  by_cases q37_16 : (127 : Int32) < (own_at cs 3)
  · refine stp (fun _ => XS.icmpNo X15.here hx rfl (hb hby d7_37) rfl (XT.ii_le_f q37_16)) ?_
    show Go p e below T15 (mkF m 40 #[.val (.ref t), .val (.long ka3), .second, .val (.int (3 : Int32)), .val (.int (0 : Int32)), .val (.int (own_at cs 3))] []) _
    refine stp (fun _ => XS.iconst X15.here hx rfl (hb hby d7_40)) ?_
    show Go p e below T15 (mkF m 41 #[.val (.ref t), .val (.long ka3), .second, .val (.int (3 : Int32)), .val (.int (0 : Int32)), .val (.int (own_at cs 3))] [(.int (1 : Int32))]) _
    refine stp (fun _ => XS.goto X15.here hx rfl (pc0 := 41) (pc' := 45) rfl (hb hby d7_41) (by decide) (by decide)) ?_
    show Go p e below T15 (mkF m 45 #[.val (.ref t), .val (.long ka3), .second, .val (.int (3 : Int32)), .val (.int (0 : Int32)), .val (.int (own_at cs 3))] [(.int (1 : Int32))]) _
    refine stp (fun _ => XS.istore X15.here hx rfl (hb hby d7_45) rfl (l' := #[.val (.ref t), .val (.long ka3), .second, .val (.int (3 : Int32)), .val (.int (1 : Int32)), .val (.int (own_at cs 3))]) rfl) ?_
    show Go p e below T15 (mkF m 47 #[.val (.ref t), .val (.long ka3), .second, .val (.int (3 : Int32)), .val (.int (1 : Int32)), .val (.int (own_at cs 3))] []) _
    refine stp (fun _ => XS.lloadN X15.here hx rfl (hb hby d7_47) rfl) ?_
    refine stp (fun _ => XS.bipush X15.here hx rfl (hb hby d7_48)) ?_
    show Go p e below T15 (mkF m 50 #[.val (.ref t), .val (.long ka3), .second, .val (.int (3 : Int32)), .val (.int (1 : Int32)), .val (.int (own_at cs 3))] [(.int (8 : Int32)), (.long ka3)]) _
    refine stp (fun _ => XS.lshl X15.here hx rfl (hb hby d7_50) rfl) ?_
    show Go p e below T15 (mkF m 51 #[.val (.ref t), .val (.long ka3), .second, .val (.int (3 : Int32)), .val (.int (1 : Int32)), .val (.int (own_at cs 3))] [(.long (ka3 <<< ((8 : Int32) &&& 0x3f).toInt64))]) _
    refine stp (fun _ => XS.iload X15.here hx rfl (hb hby d7_51) rfl) ?_
    show Go p e below T15 (mkF m 53 #[.val (.ref t), .val (.long ka3), .second, .val (.int (3 : Int32)), .val (.int (1 : Int32)), .val (.int (own_at cs 3))] [(.int (1 : Int32)), (.long (ka3 <<< ((8 : Int32) &&& 0x3f).toInt64))]) _
    refine stp (fun _ => XS.ifNo X15.here hx rfl (hb hby d7_53) rfl (by decide)) ?_
    show Go p e below T15 (mkF m 56 #[.val (.ref t), .val (.long ka3), .second, .val (.int (3 : Int32)), .val (.int (1 : Int32)), .val (.int (own_at cs 3))] [(.long (ka3 <<< ((8 : Int32) &&& 0x3f).toInt64))]) _
    refine stp (fun _ => XS.sipush X15.here hx rfl (hb hby d7_56)) ?_
    show Go p e below T15 (mkF m 59 #[.val (.ref t), .val (.long ka3), .second, .val (.int (3 : Int32)), .val (.int (1 : Int32)), .val (.int (own_at cs 3))] [(.int (255 : Int32)), (.long (ka3 <<< ((8 : Int32) &&& 0x3f).toInt64))]) _
    refine stp (fun _ => XS.goto X15.here hx rfl (pc0 := 59) (pc' := 64) rfl (hb hby d7_59) (by decide) (by decide)) ?_
    show Go p e below T15 (mkF m 64 #[.val (.ref t), .val (.long ka3), .second, .val (.int (3 : Int32)), .val (.int (1 : Int32)), .val (.int (own_at cs 3))] [(.int (255 : Int32)), (.long (ka3 <<< ((8 : Int32) &&& 0x3f).toInt64))]) _
    refine stp (fun _ => XS.i2l X15.here hx rfl (hb hby d7_64) rfl) ?_
    show Go p e below T15 (mkF m 65 #[.val (.ref t), .val (.long ka3), .second, .val (.int (3 : Int32)), .val (.int (1 : Int32)), .val (.int (own_at cs 3))] [(.long ((255 : Int32).toInt64)), (.long (ka3 <<< ((8 : Int32) &&& 0x3f).toInt64))]) _
    refine stp (fun _ => XS.lor X15.here hx rfl (hb hby d7_65) rfl) ?_
    show Go p e below T15 (mkF m 66 #[.val (.ref t), .val (.long ka3), .second, .val (.int (3 : Int32)), .val (.int (1 : Int32)), .val (.int (own_at cs 3))] [(.long ((ka3 <<< ((8 : Int32) &&& 0x3f).toInt64) ||| ((255 : Int32).toInt64)))]) _
    refine stp (fun _ => XS.lstoreN X15.here hx rfl (hb hby d7_66) rfl (l' := #[.val (.ref t), .val (.long ((ka3 <<< ((8 : Int32) &&& 0x3f).toInt64) ||| ((255 : Int32).toInt64))), .second, .val (.int (3 : Int32)), .val (.int (1 : Int32)), .val (.int (own_at cs 3))]) rfl) ?_
    show Go p e below T15 (mkF m 67 #[.val (.ref t), .val (.long ((ka3 <<< ((8 : Int32) &&& 0x3f).toInt64) ||| ((255 : Int32).toInt64))), .second, .val (.int (3 : Int32)), .val (.int (1 : Int32)), .val (.int (own_at cs 3))] []) _
    refine stp (fun _ => XS.iinc X15.here hx rfl (hb hby d7_67) rfl (l' := #[.val (.ref t), .val (.long ((ka3 <<< ((8 : Int32) &&& 0x3f).toInt64) ||| ((255 : Int32).toInt64))), .second, .val (.int (4 : Int32)), .val (.int (1 : Int32)), .val (.int (own_at cs 3))]) rfl) ?_
    show Go p e below T15 (mkF m 70 #[.val (.ref t), .val (.long ((ka3 <<< ((8 : Int32) &&& 0x3f).toInt64) ||| ((255 : Int32).toInt64))), .second, .val (.int (4 : Int32)), .val (.int (1 : Int32)), .val (.int (own_at cs 3))] []) _
    refine stp (fun _ => XS.goto X15.here hx rfl (pc0 := 70) (pc' := 7) rfl (hb hby d7_70) (by decide) (by decide)) ?_
    show Go p e below T15 (mkF m 7 #[.val (.ref t), .val (.long ((ka3 <<< ((8 : Int32) &&& 0x3f).toInt64) ||| ((255 : Int32).toInt64))), .second, .val (.int (4 : Int32)), .val (.int (1 : Int32)), .val (.int (own_at cs 3))] []) _
    obtain ⟨ka4, hka4⟩ : ∃ z : Int64, z = ((ka3 <<< ((8 : Int32) &&& 0x3f).toInt64) ||| ((255 : Int32).toInt64)) := ⟨_, rfl⟩
    rw [← hka4]
    show Go p e below T15 (mkF m 7 #[.val (.ref t), .val (.long ka4), .second, .val (.int (4 : Int32)), .val (.int (1 : Int32)), .val (.int (own_at cs 3))] []) _
    refine stp (fun _ => XS.iload X15.here hx rfl (hb hby d7_7) rfl) ?_
    show Go p e below T15 (mkF m 9 #[.val (.ref t), .val (.long ka4), .second, .val (.int (4 : Int32)), .val (.int (1 : Int32)), .val (.int (own_at cs 3))] [(.int (1 : Int32))]) _
    refine stp (fun _ => XS.ifYes X15.here hx rfl (pc0 := 9) (pc' := 73) rfl (hb hby d7_9) rfl (by decide) (by decide) (by decide)) ?_
    show Go p e below T15 (mkF m 73 #[.val (.ref t), .val (.long ka4), .second, .val (.int (4 : Int32)), .val (.int (1 : Int32)), .val (.int (own_at cs 3))] []) _
    refine stp (fun _ => XS.lloadN X15.here hx rfl (hb hby d7_73) rfl) ?_
    refine stp (fun _ => XS.bipush X15.here hx rfl (hb hby d7_74)) ?_
    refine stp (fun _ => XS.bipush X15.here hx rfl (hb hby d7_76)) ?_
    refine stp (fun _ => XS.iloadN X15.here hx rfl (hb hby d7_78) rfl) ?_
    show Go p e below T15 (mkF m 79 #[.val (.ref t), .val (.long ka4), .second, .val (.int (4 : Int32)), .val (.int (1 : Int32)), .val (.int (own_at cs 3))] [(.int (4 : Int32)), (.int (8 : Int32)), (.int (8 : Int32)), (.long ka4)]) _
    refine stp (fun _ => XS.isub X15.here hx rfl (hb hby d7_79) rfl) ?_
    show Go p e below T15 (mkF m 80 #[.val (.ref t), .val (.long ka4), .second, .val (.int (4 : Int32)), .val (.int (1 : Int32)), .val (.int (own_at cs 3))] [(.int (4 : Int32)), (.int (8 : Int32)), (.long ka4)]) _
    refine stp (fun _ => XS.imul X15.here hx rfl (hb hby d7_80) rfl) ?_
    show Go p e below T15 (mkF m 81 #[.val (.ref t), .val (.long ka4), .second, .val (.int (4 : Int32)), .val (.int (1 : Int32)), .val (.int (own_at cs 3))] [(.int (32 : Int32)), (.long ka4)]) _
    refine stp (fun _ => XS.lshl X15.here hx rfl (hb hby d7_81) rfl) ?_
    show Go p e below T15 (mkF m 82 #[.val (.ref t), .val (.long ka4), .second, .val (.int (4 : Int32)), .val (.int (1 : Int32)), .val (.int (own_at cs 3))] [(.long (ka4 <<< ((32 : Int32) &&& 0x3f).toInt64))]) _
    refine stp (fun _ => X15.ldc2Long hx hown (mvT hZ (hw _ (List.mem_of_getElem? (i := 49) rfl))) (g := (mkF m 82 #[.val (.ref t), .val (.long ka4), .second, .val (.int (4 : Int32)), .val (.int (1 : Int32)), .val (.int (own_at cs 3))] [(.long (ka4 <<< ((32 : Int32) &&& 0x3f).toInt64))])) rfl (hb hby d7_82) _) ?_
    show Go p e below T15 (mkF m 85 #[.val (.ref t), .val (.long ka4), .second, .val (.int (4 : Int32)), .val (.int (1 : Int32)), .val (.int (own_at cs 3))] [(.long (-9223372036854775808 : Int64)), (.long (ka4 <<< ((32 : Int32) &&& 0x3f).toInt64))]) _
    refine stp (fun _ => XS.lxor X15.here hx rfl (hb hby d7_85) rfl) ?_
    show Go p e below T15 (mkF m 86 #[.val (.ref t), .val (.long ka4), .second, .val (.int (4 : Int32)), .val (.int (1 : Int32)), .val (.int (own_at cs 3))] [(.long ((ka4 <<< ((32 : Int32) &&& 0x3f).toInt64) ^^^ (-9223372036854775808 : Int64)))]) _
    refine outJ X15 hx hret (hb hby d7_86) hlk (by decide) (by decide) ?_
    exact ⟨own_somej (by simp only [own_k0, own_k1, own_k2, own_k3, own_k4, own_k5, own_k6, own_k7, own_k8, own_fin, if_pos q23_2, if_neg q37_4, if_pos q23_6, if_neg q37_8, if_pos q23_10, if_neg q37_12, if_pos q23_14, if_pos q37_16, hka1, hka2, hka3, hka4]), N15, e15⟩
  refine stp (fun _ => XS.icmpYes X15.here hx rfl (pc0 := 37) (pc' := 44) rfl (hb hby d7_37) rfl (XT.ii_le_t q37_16) (by decide) (by decide)) ?_
  show Go p e below T15 (mkF m 44 #[.val (.ref t), .val (.long ka3), .second, .val (.int (3 : Int32)), .val (.int (0 : Int32)), .val (.int (own_at cs 3))] []) _
  refine stp (fun _ => XS.iconst X15.here hx rfl (hb hby d7_44)) ?_
  show Go p e below T15 (mkF m 45 #[.val (.ref t), .val (.long ka3), .second, .val (.int (3 : Int32)), .val (.int (0 : Int32)), .val (.int (own_at cs 3))] [(.int (0 : Int32))]) _
  refine stp (fun _ => XS.istore X15.here hx rfl (hb hby d7_45) rfl (l' := #[.val (.ref t), .val (.long ka3), .second, .val (.int (3 : Int32)), .val (.int (0 : Int32)), .val (.int (own_at cs 3))]) rfl) ?_
  show Go p e below T15 (mkF m 47 #[.val (.ref t), .val (.long ka3), .second, .val (.int (3 : Int32)), .val (.int (0 : Int32)), .val (.int (own_at cs 3))] []) _
  refine stp (fun _ => XS.lloadN X15.here hx rfl (hb hby d7_47) rfl) ?_
  refine stp (fun _ => XS.bipush X15.here hx rfl (hb hby d7_48)) ?_
  show Go p e below T15 (mkF m 50 #[.val (.ref t), .val (.long ka3), .second, .val (.int (3 : Int32)), .val (.int (0 : Int32)), .val (.int (own_at cs 3))] [(.int (8 : Int32)), (.long ka3)]) _
  refine stp (fun _ => XS.lshl X15.here hx rfl (hb hby d7_50) rfl) ?_
  show Go p e below T15 (mkF m 51 #[.val (.ref t), .val (.long ka3), .second, .val (.int (3 : Int32)), .val (.int (0 : Int32)), .val (.int (own_at cs 3))] [(.long (ka3 <<< ((8 : Int32) &&& 0x3f).toInt64))]) _
  refine stp (fun _ => XS.iload X15.here hx rfl (hb hby d7_51) rfl) ?_
  show Go p e below T15 (mkF m 53 #[.val (.ref t), .val (.long ka3), .second, .val (.int (3 : Int32)), .val (.int (0 : Int32)), .val (.int (own_at cs 3))] [(.int (0 : Int32)), (.long (ka3 <<< ((8 : Int32) &&& 0x3f).toInt64))]) _
  refine stp (fun _ => XS.ifYes X15.here hx rfl (pc0 := 53) (pc' := 62) rfl (hb hby d7_53) rfl (by decide) (by decide) (by decide)) ?_
  show Go p e below T15 (mkF m 62 #[.val (.ref t), .val (.long ka3), .second, .val (.int (3 : Int32)), .val (.int (0 : Int32)), .val (.int (own_at cs 3))] [(.long (ka3 <<< ((8 : Int32) &&& 0x3f).toInt64))]) _
  refine stp (fun _ => XS.iload X15.here hx rfl (hb hby d7_62) rfl) ?_
  show Go p e below T15 (mkF m 64 #[.val (.ref t), .val (.long ka3), .second, .val (.int (3 : Int32)), .val (.int (0 : Int32)), .val (.int (own_at cs 3))] [(.int (own_at cs 3)), (.long (ka3 <<< ((8 : Int32) &&& 0x3f).toInt64))]) _
  refine stp (fun _ => XS.i2l X15.here hx rfl (hb hby d7_64) rfl) ?_
  show Go p e below T15 (mkF m 65 #[.val (.ref t), .val (.long ka3), .second, .val (.int (3 : Int32)), .val (.int (0 : Int32)), .val (.int (own_at cs 3))] [(.long ((own_at cs 3).toInt64)), (.long (ka3 <<< ((8 : Int32) &&& 0x3f).toInt64))]) _
  refine stp (fun _ => XS.lor X15.here hx rfl (hb hby d7_65) rfl) ?_
  show Go p e below T15 (mkF m 66 #[.val (.ref t), .val (.long ka3), .second, .val (.int (3 : Int32)), .val (.int (0 : Int32)), .val (.int (own_at cs 3))] [(.long ((ka3 <<< ((8 : Int32) &&& 0x3f).toInt64) ||| ((own_at cs 3).toInt64)))]) _
  refine stp (fun _ => XS.lstoreN X15.here hx rfl (hb hby d7_66) rfl (l' := #[.val (.ref t), .val (.long ((ka3 <<< ((8 : Int32) &&& 0x3f).toInt64) ||| ((own_at cs 3).toInt64))), .second, .val (.int (3 : Int32)), .val (.int (0 : Int32)), .val (.int (own_at cs 3))]) rfl) ?_
  show Go p e below T15 (mkF m 67 #[.val (.ref t), .val (.long ((ka3 <<< ((8 : Int32) &&& 0x3f).toInt64) ||| ((own_at cs 3).toInt64))), .second, .val (.int (3 : Int32)), .val (.int (0 : Int32)), .val (.int (own_at cs 3))] []) _
  refine stp (fun _ => XS.iinc X15.here hx rfl (hb hby d7_67) rfl (l' := #[.val (.ref t), .val (.long ((ka3 <<< ((8 : Int32) &&& 0x3f).toInt64) ||| ((own_at cs 3).toInt64))), .second, .val (.int (4 : Int32)), .val (.int (0 : Int32)), .val (.int (own_at cs 3))]) rfl) ?_
  show Go p e below T15 (mkF m 70 #[.val (.ref t), .val (.long ((ka3 <<< ((8 : Int32) &&& 0x3f).toInt64) ||| ((own_at cs 3).toInt64))), .second, .val (.int (4 : Int32)), .val (.int (0 : Int32)), .val (.int (own_at cs 3))] []) _
  refine stp (fun _ => XS.goto X15.here hx rfl (pc0 := 70) (pc' := 7) rfl (hb hby d7_70) (by decide) (by decide)) ?_
  show Go p e below T15 (mkF m 7 #[.val (.ref t), .val (.long ((ka3 <<< ((8 : Int32) &&& 0x3f).toInt64) ||| ((own_at cs 3).toInt64))), .second, .val (.int (4 : Int32)), .val (.int (0 : Int32)), .val (.int (own_at cs 3))] []) _
  obtain ⟨ka4, hka4⟩ : ∃ z : Int64, z = ((ka3 <<< ((8 : Int32) &&& 0x3f).toInt64) ||| ((own_at cs 3).toInt64)) := ⟨_, rfl⟩
  rw [← hka4]
  show Go p e below T15 (mkF m 7 #[.val (.ref t), .val (.long ka4), .second, .val (.int (4 : Int32)), .val (.int (0 : Int32)), .val (.int (own_at cs 3))] []) _
  refine stp (fun _ => XS.iload X15.here hx rfl (hb hby d7_7) rfl) ?_
  show Go p e below T15 (mkF m 9 #[.val (.ref t), .val (.long ka4), .second, .val (.int (4 : Int32)), .val (.int (0 : Int32)), .val (.int (own_at cs 3))] [(.int (0 : Int32))]) _
  refine stp (fun _ => XS.ifNo X15.here hx rfl (hb hby d7_9) rfl (by decide)) ?_
  show Go p e below T15 (mkF m 12 #[.val (.ref t), .val (.long ka4), .second, .val (.int (4 : Int32)), .val (.int (0 : Int32)), .val (.int (own_at cs 3))] []) _
  refine stp (fun _ => XS.iloadN X15.here hx rfl (hb hby d7_12) rfl) ?_
  refine stp (fun _ => XS.bipush X15.here hx rfl (hb hby d7_13)) ?_
  show Go p e below T15 (mkF m 15 #[.val (.ref t), .val (.long ka4), .second, .val (.int (4 : Int32)), .val (.int (0 : Int32)), .val (.int (own_at cs 3))] [(.int (8 : Int32)), (.int (4 : Int32))]) _
  refine stp (fun _ => XS.icmpNo X15.here hx rfl (hb hby d7_15) rfl (by decide)) ?_
  show Go p e below T15 (mkF m 18 #[.val (.ref t), .val (.long ka4), .second, .val (.int (4 : Int32)), .val (.int (0 : Int32)), .val (.int (own_at cs 3))] []) _
  refine stp (fun _ => XS.iloadN X15.here hx rfl (hb hby d7_18) rfl) ?_
  refine stp (fun _ => XS.aloadN X15.here hx rfl (hb hby d7_19) rfl rfl) ?_
  show Go p e below T15 (mkF m 20 #[.val (.ref t), .val (.long ka4), .second, .val (.int (4 : Int32)), .val (.int (0 : Int32)), .val (.int (own_at cs 3))] [(.ref t), (.int (4 : Int32))]) _
  obtain ⟨cq17, kq17, q17a, q17b, q17c⟩ := isOf hZ e15 Q_t.exa
  obtain ⟨_, _, ⟨T17, L17, k17, n17⟩, -, X17, ⟨Lc17, hQ17, l17, y17, z17⟩, st17⟩ := X15.virtualBack hx (y := (⟨"java/lang/String", "length", "()I"⟩ : MethodName)) (z := (⟨"java/lang/String", "length", "()I"⟩ : MethodName)) hown (mvT hZ (hw _ (List.mem_of_getElem? (i := 38) rfl))) (mvT hZ (hw _ (List.mem_of_getElem? (i := 39) rfl))) (notFace_of_selects (args := #[]) (mvT hZ (hw _ (List.mem_of_getElem? (i := 41) rfl)))) (mvT hZ (hw _ (List.mem_of_getElem? (i := 41) rfl))) (mvT hZ (hw _ (List.mem_of_getElem? (i := 40) rfl))) (by decide) (backOf (W := 1) (rm_ulen l Z a0 hw [] t cs cz h0 n0 O0 Q_t S_COMPACT_STRINGS hcz) hZ (hw _ (List.mem_of_getElem? (i := 42) rfl)) (hw _ (List.mem_of_getElem? (i := 11) rfl)) (by decide) (by decide)) q17a q17c (g := (mkF m 20 #[.val (.ref t), .val (.long ka4), .second, .val (.int (4 : Int32)), .val (.int (0 : Int32)), .val (.int (own_at cs 3))] [(.ref t), (.int (4 : Int32))])) rfl (by rw [hml]; rfl) (Steps.refl _) (argsL := []) (rest := [(.int (4 : Int32))]) (lenOf pd_15 rfl) rfl (by show 2 * 0 + _ ≤ _; exact Nat.le_of_eq rfl) (hb hby d7_20) (fun _ _ => ⟨rfl, e15, (by decide : 0 + 0 ≤ _), (by decide : 0 + 0 ≤ _)⟩)
  dsimp only [Pt.U, Pt.locs, Pt.cells, Pt.slots] at X17 l17 y17 z17 st17 hQ17
  subst y17 z17
  obtain ⟨rfl, N17q, e17⟩ := hQ17
  have N17 : Fr n0 L17 := by rw [l17]; exact Fr.app N15 N17q
  refine stt st17 ?_
  show Go p e below T17 (mkF m 23 #[.val (.ref t), .val (.long ka4), .second, .val (.int (4 : Int32)), .val (.int (0 : Int32)), .val (.int (own_at cs 3))] [(.int (Int32.ofNat cs.length)), (.int (4 : Int32))]) _
  by_cases q23_18 : (4 : Int32) < (Int32.ofNat cs.length)
  rotate_left
  · refine stp (fun _ => XS.icmpYes X17.here hx rfl (pc0 := 23) (pc' := 73) rfl (hb hby d7_23) rfl (XT.ii_ge_t q23_18) (by decide) (by decide)) ?_
    show Go p e below T17 (mkF m 73 #[.val (.ref t), .val (.long ka4), .second, .val (.int (4 : Int32)), .val (.int (0 : Int32)), .val (.int (own_at cs 3))] []) _
    refine stp (fun _ => XS.lloadN X17.here hx rfl (hb hby d7_73) rfl) ?_
    refine stp (fun _ => XS.bipush X17.here hx rfl (hb hby d7_74)) ?_
    refine stp (fun _ => XS.bipush X17.here hx rfl (hb hby d7_76)) ?_
    refine stp (fun _ => XS.iloadN X17.here hx rfl (hb hby d7_78) rfl) ?_
    show Go p e below T17 (mkF m 79 #[.val (.ref t), .val (.long ka4), .second, .val (.int (4 : Int32)), .val (.int (0 : Int32)), .val (.int (own_at cs 3))] [(.int (4 : Int32)), (.int (8 : Int32)), (.int (8 : Int32)), (.long ka4)]) _
    refine stp (fun _ => XS.isub X17.here hx rfl (hb hby d7_79) rfl) ?_
    show Go p e below T17 (mkF m 80 #[.val (.ref t), .val (.long ka4), .second, .val (.int (4 : Int32)), .val (.int (0 : Int32)), .val (.int (own_at cs 3))] [(.int (4 : Int32)), (.int (8 : Int32)), (.long ka4)]) _
    refine stp (fun _ => XS.imul X17.here hx rfl (hb hby d7_80) rfl) ?_
    show Go p e below T17 (mkF m 81 #[.val (.ref t), .val (.long ka4), .second, .val (.int (4 : Int32)), .val (.int (0 : Int32)), .val (.int (own_at cs 3))] [(.int (32 : Int32)), (.long ka4)]) _
    refine stp (fun _ => XS.lshl X17.here hx rfl (hb hby d7_81) rfl) ?_
    show Go p e below T17 (mkF m 82 #[.val (.ref t), .val (.long ka4), .second, .val (.int (4 : Int32)), .val (.int (0 : Int32)), .val (.int (own_at cs 3))] [(.long (ka4 <<< ((32 : Int32) &&& 0x3f).toInt64))]) _
    refine stp (fun _ => X17.ldc2Long hx hown (mvT hZ (hw _ (List.mem_of_getElem? (i := 49) rfl))) (g := (mkF m 82 #[.val (.ref t), .val (.long ka4), .second, .val (.int (4 : Int32)), .val (.int (0 : Int32)), .val (.int (own_at cs 3))] [(.long (ka4 <<< ((32 : Int32) &&& 0x3f).toInt64))])) rfl (hb hby d7_82) _) ?_
    show Go p e below T17 (mkF m 85 #[.val (.ref t), .val (.long ka4), .second, .val (.int (4 : Int32)), .val (.int (0 : Int32)), .val (.int (own_at cs 3))] [(.long (-9223372036854775808 : Int64)), (.long (ka4 <<< ((32 : Int32) &&& 0x3f).toInt64))]) _
    refine stp (fun _ => XS.lxor X17.here hx rfl (hb hby d7_85) rfl) ?_
    show Go p e below T17 (mkF m 86 #[.val (.ref t), .val (.long ka4), .second, .val (.int (4 : Int32)), .val (.int (0 : Int32)), .val (.int (own_at cs 3))] [(.long ((ka4 <<< ((32 : Int32) &&& 0x3f).toInt64) ^^^ (-9223372036854775808 : Int64)))]) _
    refine outJ X17 hx hret (hb hby d7_86) hlk (by decide) (by decide) ?_
    exact ⟨own_somej (by simp only [own_k0, own_k1, own_k2, own_k3, own_k4, own_k5, own_k6, own_k7, own_k8, own_fin, if_pos q23_2, if_neg q37_4, if_pos q23_6, if_neg q37_8, if_pos q23_10, if_neg q37_12, if_pos q23_14, if_neg q37_16, if_neg q23_18, hka1, hka2, hka3, hka4]), N17, e17⟩
  refine stp (fun _ => XS.icmpNo X17.here hx rfl (hb hby d7_23) rfl (XT.ii_ge_f q23_18)) ?_
  show Go p e below T17 (mkF m 26 #[.val (.ref t), .val (.long ka4), .second, .val (.int (4 : Int32)), .val (.int (0 : Int32)), .val (.int (own_at cs 3))] []) _
  refine stp (fun _ => XS.aloadN X17.here hx rfl (hb hby d7_26) rfl rfl) ?_
  refine stp (fun _ => XS.iloadN X17.here hx rfl (hb hby d7_27) rfl) ?_
  show Go p e below T17 (mkF m 28 #[.val (.ref t), .val (.long ka4), .second, .val (.int (4 : Int32)), .val (.int (0 : Int32)), .val (.int (own_at cs 3))] [(.int (4 : Int32)), (.ref t)]) _
  obtain ⟨cq19, kq19, q19a, q19b, q19c⟩ := isOf hZ e17 Q_t.exa
  obtain ⟨_, _, ⟨T19, L19, k19, n19⟩, -, X19, ⟨Lc19, hQ19, l19, y19, z19⟩, st19⟩ := X17.virtualBack hx (y := (⟨"java/lang/String", "charAt", "(I)C"⟩ : MethodName)) (z := (⟨"java/lang/String", "charAt", "(I)C"⟩ : MethodName)) hown (mvT hZ (hw _ (List.mem_of_getElem? (i := 80) rfl))) (mvT hZ (hw _ (List.mem_of_getElem? (i := 81) rfl))) (notFace_of_selects (args := #[]) (mvT hZ (hw _ (List.mem_of_getElem? (i := 83) rfl)))) (mvT hZ (hw _ (List.mem_of_getElem? (i := 83) rfl))) (mvT hZ (hw _ (List.mem_of_getElem? (i := 82) rfl))) (by decide) (backOf (W := 0) (rm_uch l Z a0 hw [] t (4 : Int32) cs cz fm 4 h0 n0 O0 Q_t S_COMPACT_STRINGS S_SIOOBE_FORMATTER S__assertionsDisabled S_HI_BYTE_SHIFT S_LO_BYTE_SHIFT hcz hfm (by decide) (own_idx (by decide) hN1 q23_18)) hZ (hw _ (List.mem_of_getElem? (i := 84) rfl)) (hw _ (List.mem_of_getElem? (i := 11) rfl)) (by decide) (by decide)) q19a q19c (g := (mkF m 28 #[.val (.ref t), .val (.long ka4), .second, .val (.int (4 : Int32)), .val (.int (0 : Int32)), .val (.int (own_at cs 3))] [(.int (4 : Int32)), (.ref t)])) rfl (by rw [hml]; rfl) (Steps.refl _) (argsL := [(.int (4 : Int32))]) (rest := []) (lenOf pd_16 rfl) rfl (by show 2 * 0 + _ ≤ _; exact Nat.le_of_eq rfl) (hb hby d7_28) (fun _ _ => ⟨rfl, e17, (by decide : 0 + 0 ≤ _), (by decide : 0 + 0 ≤ _)⟩)
  dsimp only [Pt.U, Pt.locs, Pt.cells, Pt.slots] at X19 l19 y19 z19 st19 hQ19
  subst y19 z19
  obtain ⟨rfl, N19q, e19⟩ := hQ19
  have N19 : Fr n0 L19 := by rw [l19]; exact Fr.app N17 N19q
  refine stt st19 ?_
  show Go p e below T19 (mkF m 31 #[.val (.ref t), .val (.long ka4), .second, .val (.int (4 : Int32)), .val (.int (0 : Int32)), .val (.int (own_at cs 3))] [(.int (own_at cs 4))]) _
  refine stp (fun _ => XS.istore X19.here hx rfl (hb hby d7_31) rfl (l' := #[.val (.ref t), .val (.long ka4), .second, .val (.int (4 : Int32)), .val (.int (0 : Int32)), .val (.int (own_at cs 4))]) rfl) ?_
  show Go p e below T19 (mkF m 33 #[.val (.ref t), .val (.long ka4), .second, .val (.int (4 : Int32)), .val (.int (0 : Int32)), .val (.int (own_at cs 4))] []) _
  refine stp (fun _ => XS.iload X19.here hx rfl (hb hby d7_33) rfl) ?_
  refine stp (fun _ => XS.bipush X19.here hx rfl (hb hby d7_35)) ?_
  show Go p e below T19 (mkF m 37 #[.val (.ref t), .val (.long ka4), .second, .val (.int (4 : Int32)), .val (.int (0 : Int32)), .val (.int (own_at cs 4))] [(.int (127 : Int32)), (.int (own_at cs 4))]) _
  by_cases q37_20 : (127 : Int32) < (own_at cs 4)
  · refine stp (fun _ => XS.icmpNo X19.here hx rfl (hb hby d7_37) rfl (XT.ii_le_f q37_20)) ?_
    show Go p e below T19 (mkF m 40 #[.val (.ref t), .val (.long ka4), .second, .val (.int (4 : Int32)), .val (.int (0 : Int32)), .val (.int (own_at cs 4))] []) _
    refine stp (fun _ => XS.iconst X19.here hx rfl (hb hby d7_40)) ?_
    show Go p e below T19 (mkF m 41 #[.val (.ref t), .val (.long ka4), .second, .val (.int (4 : Int32)), .val (.int (0 : Int32)), .val (.int (own_at cs 4))] [(.int (1 : Int32))]) _
    refine stp (fun _ => XS.goto X19.here hx rfl (pc0 := 41) (pc' := 45) rfl (hb hby d7_41) (by decide) (by decide)) ?_
    show Go p e below T19 (mkF m 45 #[.val (.ref t), .val (.long ka4), .second, .val (.int (4 : Int32)), .val (.int (0 : Int32)), .val (.int (own_at cs 4))] [(.int (1 : Int32))]) _
    refine stp (fun _ => XS.istore X19.here hx rfl (hb hby d7_45) rfl (l' := #[.val (.ref t), .val (.long ka4), .second, .val (.int (4 : Int32)), .val (.int (1 : Int32)), .val (.int (own_at cs 4))]) rfl) ?_
    show Go p e below T19 (mkF m 47 #[.val (.ref t), .val (.long ka4), .second, .val (.int (4 : Int32)), .val (.int (1 : Int32)), .val (.int (own_at cs 4))] []) _
    refine stp (fun _ => XS.lloadN X19.here hx rfl (hb hby d7_47) rfl) ?_
    refine stp (fun _ => XS.bipush X19.here hx rfl (hb hby d7_48)) ?_
    show Go p e below T19 (mkF m 50 #[.val (.ref t), .val (.long ka4), .second, .val (.int (4 : Int32)), .val (.int (1 : Int32)), .val (.int (own_at cs 4))] [(.int (8 : Int32)), (.long ka4)]) _
    refine stp (fun _ => XS.lshl X19.here hx rfl (hb hby d7_50) rfl) ?_
    show Go p e below T19 (mkF m 51 #[.val (.ref t), .val (.long ka4), .second, .val (.int (4 : Int32)), .val (.int (1 : Int32)), .val (.int (own_at cs 4))] [(.long (ka4 <<< ((8 : Int32) &&& 0x3f).toInt64))]) _
    refine stp (fun _ => XS.iload X19.here hx rfl (hb hby d7_51) rfl) ?_
    show Go p e below T19 (mkF m 53 #[.val (.ref t), .val (.long ka4), .second, .val (.int (4 : Int32)), .val (.int (1 : Int32)), .val (.int (own_at cs 4))] [(.int (1 : Int32)), (.long (ka4 <<< ((8 : Int32) &&& 0x3f).toInt64))]) _
    refine stp (fun _ => XS.ifNo X19.here hx rfl (hb hby d7_53) rfl (by decide)) ?_
    show Go p e below T19 (mkF m 56 #[.val (.ref t), .val (.long ka4), .second, .val (.int (4 : Int32)), .val (.int (1 : Int32)), .val (.int (own_at cs 4))] [(.long (ka4 <<< ((8 : Int32) &&& 0x3f).toInt64))]) _
    refine stp (fun _ => XS.sipush X19.here hx rfl (hb hby d7_56)) ?_
    show Go p e below T19 (mkF m 59 #[.val (.ref t), .val (.long ka4), .second, .val (.int (4 : Int32)), .val (.int (1 : Int32)), .val (.int (own_at cs 4))] [(.int (255 : Int32)), (.long (ka4 <<< ((8 : Int32) &&& 0x3f).toInt64))]) _
    refine stp (fun _ => XS.goto X19.here hx rfl (pc0 := 59) (pc' := 64) rfl (hb hby d7_59) (by decide) (by decide)) ?_
    show Go p e below T19 (mkF m 64 #[.val (.ref t), .val (.long ka4), .second, .val (.int (4 : Int32)), .val (.int (1 : Int32)), .val (.int (own_at cs 4))] [(.int (255 : Int32)), (.long (ka4 <<< ((8 : Int32) &&& 0x3f).toInt64))]) _
    refine stp (fun _ => XS.i2l X19.here hx rfl (hb hby d7_64) rfl) ?_
    show Go p e below T19 (mkF m 65 #[.val (.ref t), .val (.long ka4), .second, .val (.int (4 : Int32)), .val (.int (1 : Int32)), .val (.int (own_at cs 4))] [(.long ((255 : Int32).toInt64)), (.long (ka4 <<< ((8 : Int32) &&& 0x3f).toInt64))]) _
    refine stp (fun _ => XS.lor X19.here hx rfl (hb hby d7_65) rfl) ?_
    show Go p e below T19 (mkF m 66 #[.val (.ref t), .val (.long ka4), .second, .val (.int (4 : Int32)), .val (.int (1 : Int32)), .val (.int (own_at cs 4))] [(.long ((ka4 <<< ((8 : Int32) &&& 0x3f).toInt64) ||| ((255 : Int32).toInt64)))]) _
    refine stp (fun _ => XS.lstoreN X19.here hx rfl (hb hby d7_66) rfl (l' := #[.val (.ref t), .val (.long ((ka4 <<< ((8 : Int32) &&& 0x3f).toInt64) ||| ((255 : Int32).toInt64))), .second, .val (.int (4 : Int32)), .val (.int (1 : Int32)), .val (.int (own_at cs 4))]) rfl) ?_
    show Go p e below T19 (mkF m 67 #[.val (.ref t), .val (.long ((ka4 <<< ((8 : Int32) &&& 0x3f).toInt64) ||| ((255 : Int32).toInt64))), .second, .val (.int (4 : Int32)), .val (.int (1 : Int32)), .val (.int (own_at cs 4))] []) _
    refine stp (fun _ => XS.iinc X19.here hx rfl (hb hby d7_67) rfl (l' := #[.val (.ref t), .val (.long ((ka4 <<< ((8 : Int32) &&& 0x3f).toInt64) ||| ((255 : Int32).toInt64))), .second, .val (.int (5 : Int32)), .val (.int (1 : Int32)), .val (.int (own_at cs 4))]) rfl) ?_
    show Go p e below T19 (mkF m 70 #[.val (.ref t), .val (.long ((ka4 <<< ((8 : Int32) &&& 0x3f).toInt64) ||| ((255 : Int32).toInt64))), .second, .val (.int (5 : Int32)), .val (.int (1 : Int32)), .val (.int (own_at cs 4))] []) _
    refine stp (fun _ => XS.goto X19.here hx rfl (pc0 := 70) (pc' := 7) rfl (hb hby d7_70) (by decide) (by decide)) ?_
    show Go p e below T19 (mkF m 7 #[.val (.ref t), .val (.long ((ka4 <<< ((8 : Int32) &&& 0x3f).toInt64) ||| ((255 : Int32).toInt64))), .second, .val (.int (5 : Int32)), .val (.int (1 : Int32)), .val (.int (own_at cs 4))] []) _
    obtain ⟨ka5, hka5⟩ : ∃ z : Int64, z = ((ka4 <<< ((8 : Int32) &&& 0x3f).toInt64) ||| ((255 : Int32).toInt64)) := ⟨_, rfl⟩
    rw [← hka5]
    show Go p e below T19 (mkF m 7 #[.val (.ref t), .val (.long ka5), .second, .val (.int (5 : Int32)), .val (.int (1 : Int32)), .val (.int (own_at cs 4))] []) _
    refine stp (fun _ => XS.iload X19.here hx rfl (hb hby d7_7) rfl) ?_
    show Go p e below T19 (mkF m 9 #[.val (.ref t), .val (.long ka5), .second, .val (.int (5 : Int32)), .val (.int (1 : Int32)), .val (.int (own_at cs 4))] [(.int (1 : Int32))]) _
    refine stp (fun _ => XS.ifYes X19.here hx rfl (pc0 := 9) (pc' := 73) rfl (hb hby d7_9) rfl (by decide) (by decide) (by decide)) ?_
    show Go p e below T19 (mkF m 73 #[.val (.ref t), .val (.long ka5), .second, .val (.int (5 : Int32)), .val (.int (1 : Int32)), .val (.int (own_at cs 4))] []) _
    refine stp (fun _ => XS.lloadN X19.here hx rfl (hb hby d7_73) rfl) ?_
    refine stp (fun _ => XS.bipush X19.here hx rfl (hb hby d7_74)) ?_
    refine stp (fun _ => XS.bipush X19.here hx rfl (hb hby d7_76)) ?_
    refine stp (fun _ => XS.iloadN X19.here hx rfl (hb hby d7_78) rfl) ?_
    show Go p e below T19 (mkF m 79 #[.val (.ref t), .val (.long ka5), .second, .val (.int (5 : Int32)), .val (.int (1 : Int32)), .val (.int (own_at cs 4))] [(.int (5 : Int32)), (.int (8 : Int32)), (.int (8 : Int32)), (.long ka5)]) _
    refine stp (fun _ => XS.isub X19.here hx rfl (hb hby d7_79) rfl) ?_
    show Go p e below T19 (mkF m 80 #[.val (.ref t), .val (.long ka5), .second, .val (.int (5 : Int32)), .val (.int (1 : Int32)), .val (.int (own_at cs 4))] [(.int (3 : Int32)), (.int (8 : Int32)), (.long ka5)]) _
    refine stp (fun _ => XS.imul X19.here hx rfl (hb hby d7_80) rfl) ?_
    show Go p e below T19 (mkF m 81 #[.val (.ref t), .val (.long ka5), .second, .val (.int (5 : Int32)), .val (.int (1 : Int32)), .val (.int (own_at cs 4))] [(.int (24 : Int32)), (.long ka5)]) _
    refine stp (fun _ => XS.lshl X19.here hx rfl (hb hby d7_81) rfl) ?_
    show Go p e below T19 (mkF m 82 #[.val (.ref t), .val (.long ka5), .second, .val (.int (5 : Int32)), .val (.int (1 : Int32)), .val (.int (own_at cs 4))] [(.long (ka5 <<< ((24 : Int32) &&& 0x3f).toInt64))]) _
    refine stp (fun _ => X19.ldc2Long hx hown (mvT hZ (hw _ (List.mem_of_getElem? (i := 49) rfl))) (g := (mkF m 82 #[.val (.ref t), .val (.long ka5), .second, .val (.int (5 : Int32)), .val (.int (1 : Int32)), .val (.int (own_at cs 4))] [(.long (ka5 <<< ((24 : Int32) &&& 0x3f).toInt64))])) rfl (hb hby d7_82) _) ?_
    show Go p e below T19 (mkF m 85 #[.val (.ref t), .val (.long ka5), .second, .val (.int (5 : Int32)), .val (.int (1 : Int32)), .val (.int (own_at cs 4))] [(.long (-9223372036854775808 : Int64)), (.long (ka5 <<< ((24 : Int32) &&& 0x3f).toInt64))]) _
    refine stp (fun _ => XS.lxor X19.here hx rfl (hb hby d7_85) rfl) ?_
    show Go p e below T19 (mkF m 86 #[.val (.ref t), .val (.long ka5), .second, .val (.int (5 : Int32)), .val (.int (1 : Int32)), .val (.int (own_at cs 4))] [(.long ((ka5 <<< ((24 : Int32) &&& 0x3f).toInt64) ^^^ (-9223372036854775808 : Int64)))]) _
    refine outJ X19 hx hret (hb hby d7_86) hlk (by decide) (by decide) ?_
    exact ⟨own_somej (by simp only [own_k0, own_k1, own_k2, own_k3, own_k4, own_k5, own_k6, own_k7, own_k8, own_fin, if_pos q23_2, if_neg q37_4, if_pos q23_6, if_neg q37_8, if_pos q23_10, if_neg q37_12, if_pos q23_14, if_neg q37_16, if_pos q23_18, if_pos q37_20, hka1, hka2, hka3, hka4, hka5]), N19, e19⟩
  refine stp (fun _ => XS.icmpYes X19.here hx rfl (pc0 := 37) (pc' := 44) rfl (hb hby d7_37) rfl (XT.ii_le_t q37_20) (by decide) (by decide)) ?_
  show Go p e below T19 (mkF m 44 #[.val (.ref t), .val (.long ka4), .second, .val (.int (4 : Int32)), .val (.int (0 : Int32)), .val (.int (own_at cs 4))] []) _
  refine stp (fun _ => XS.iconst X19.here hx rfl (hb hby d7_44)) ?_
  show Go p e below T19 (mkF m 45 #[.val (.ref t), .val (.long ka4), .second, .val (.int (4 : Int32)), .val (.int (0 : Int32)), .val (.int (own_at cs 4))] [(.int (0 : Int32))]) _
  refine stp (fun _ => XS.istore X19.here hx rfl (hb hby d7_45) rfl (l' := #[.val (.ref t), .val (.long ka4), .second, .val (.int (4 : Int32)), .val (.int (0 : Int32)), .val (.int (own_at cs 4))]) rfl) ?_
  show Go p e below T19 (mkF m 47 #[.val (.ref t), .val (.long ka4), .second, .val (.int (4 : Int32)), .val (.int (0 : Int32)), .val (.int (own_at cs 4))] []) _
  refine stp (fun _ => XS.lloadN X19.here hx rfl (hb hby d7_47) rfl) ?_
  refine stp (fun _ => XS.bipush X19.here hx rfl (hb hby d7_48)) ?_
  show Go p e below T19 (mkF m 50 #[.val (.ref t), .val (.long ka4), .second, .val (.int (4 : Int32)), .val (.int (0 : Int32)), .val (.int (own_at cs 4))] [(.int (8 : Int32)), (.long ka4)]) _
  refine stp (fun _ => XS.lshl X19.here hx rfl (hb hby d7_50) rfl) ?_
  show Go p e below T19 (mkF m 51 #[.val (.ref t), .val (.long ka4), .second, .val (.int (4 : Int32)), .val (.int (0 : Int32)), .val (.int (own_at cs 4))] [(.long (ka4 <<< ((8 : Int32) &&& 0x3f).toInt64))]) _
  refine stp (fun _ => XS.iload X19.here hx rfl (hb hby d7_51) rfl) ?_
  show Go p e below T19 (mkF m 53 #[.val (.ref t), .val (.long ka4), .second, .val (.int (4 : Int32)), .val (.int (0 : Int32)), .val (.int (own_at cs 4))] [(.int (0 : Int32)), (.long (ka4 <<< ((8 : Int32) &&& 0x3f).toInt64))]) _
  refine stp (fun _ => XS.ifYes X19.here hx rfl (pc0 := 53) (pc' := 62) rfl (hb hby d7_53) rfl (by decide) (by decide) (by decide)) ?_
  show Go p e below T19 (mkF m 62 #[.val (.ref t), .val (.long ka4), .second, .val (.int (4 : Int32)), .val (.int (0 : Int32)), .val (.int (own_at cs 4))] [(.long (ka4 <<< ((8 : Int32) &&& 0x3f).toInt64))]) _
  refine stp (fun _ => XS.iload X19.here hx rfl (hb hby d7_62) rfl) ?_
  show Go p e below T19 (mkF m 64 #[.val (.ref t), .val (.long ka4), .second, .val (.int (4 : Int32)), .val (.int (0 : Int32)), .val (.int (own_at cs 4))] [(.int (own_at cs 4)), (.long (ka4 <<< ((8 : Int32) &&& 0x3f).toInt64))]) _
  refine stp (fun _ => XS.i2l X19.here hx rfl (hb hby d7_64) rfl) ?_
  show Go p e below T19 (mkF m 65 #[.val (.ref t), .val (.long ka4), .second, .val (.int (4 : Int32)), .val (.int (0 : Int32)), .val (.int (own_at cs 4))] [(.long ((own_at cs 4).toInt64)), (.long (ka4 <<< ((8 : Int32) &&& 0x3f).toInt64))]) _
  refine stp (fun _ => XS.lor X19.here hx rfl (hb hby d7_65) rfl) ?_
  show Go p e below T19 (mkF m 66 #[.val (.ref t), .val (.long ka4), .second, .val (.int (4 : Int32)), .val (.int (0 : Int32)), .val (.int (own_at cs 4))] [(.long ((ka4 <<< ((8 : Int32) &&& 0x3f).toInt64) ||| ((own_at cs 4).toInt64)))]) _
  refine stp (fun _ => XS.lstoreN X19.here hx rfl (hb hby d7_66) rfl (l' := #[.val (.ref t), .val (.long ((ka4 <<< ((8 : Int32) &&& 0x3f).toInt64) ||| ((own_at cs 4).toInt64))), .second, .val (.int (4 : Int32)), .val (.int (0 : Int32)), .val (.int (own_at cs 4))]) rfl) ?_
  show Go p e below T19 (mkF m 67 #[.val (.ref t), .val (.long ((ka4 <<< ((8 : Int32) &&& 0x3f).toInt64) ||| ((own_at cs 4).toInt64))), .second, .val (.int (4 : Int32)), .val (.int (0 : Int32)), .val (.int (own_at cs 4))] []) _
  refine stp (fun _ => XS.iinc X19.here hx rfl (hb hby d7_67) rfl (l' := #[.val (.ref t), .val (.long ((ka4 <<< ((8 : Int32) &&& 0x3f).toInt64) ||| ((own_at cs 4).toInt64))), .second, .val (.int (5 : Int32)), .val (.int (0 : Int32)), .val (.int (own_at cs 4))]) rfl) ?_
  show Go p e below T19 (mkF m 70 #[.val (.ref t), .val (.long ((ka4 <<< ((8 : Int32) &&& 0x3f).toInt64) ||| ((own_at cs 4).toInt64))), .second, .val (.int (5 : Int32)), .val (.int (0 : Int32)), .val (.int (own_at cs 4))] []) _
  refine stp (fun _ => XS.goto X19.here hx rfl (pc0 := 70) (pc' := 7) rfl (hb hby d7_70) (by decide) (by decide)) ?_
  show Go p e below T19 (mkF m 7 #[.val (.ref t), .val (.long ((ka4 <<< ((8 : Int32) &&& 0x3f).toInt64) ||| ((own_at cs 4).toInt64))), .second, .val (.int (5 : Int32)), .val (.int (0 : Int32)), .val (.int (own_at cs 4))] []) _
  obtain ⟨ka5, hka5⟩ : ∃ z : Int64, z = ((ka4 <<< ((8 : Int32) &&& 0x3f).toInt64) ||| ((own_at cs 4).toInt64)) := ⟨_, rfl⟩
  rw [← hka5]
  show Go p e below T19 (mkF m 7 #[.val (.ref t), .val (.long ka5), .second, .val (.int (5 : Int32)), .val (.int (0 : Int32)), .val (.int (own_at cs 4))] []) _
  refine stp (fun _ => XS.iload X19.here hx rfl (hb hby d7_7) rfl) ?_
  show Go p e below T19 (mkF m 9 #[.val (.ref t), .val (.long ka5), .second, .val (.int (5 : Int32)), .val (.int (0 : Int32)), .val (.int (own_at cs 4))] [(.int (0 : Int32))]) _
  refine stp (fun _ => XS.ifNo X19.here hx rfl (hb hby d7_9) rfl (by decide)) ?_
  show Go p e below T19 (mkF m 12 #[.val (.ref t), .val (.long ka5), .second, .val (.int (5 : Int32)), .val (.int (0 : Int32)), .val (.int (own_at cs 4))] []) _
  refine stp (fun _ => XS.iloadN X19.here hx rfl (hb hby d7_12) rfl) ?_
  refine stp (fun _ => XS.bipush X19.here hx rfl (hb hby d7_13)) ?_
  show Go p e below T19 (mkF m 15 #[.val (.ref t), .val (.long ka5), .second, .val (.int (5 : Int32)), .val (.int (0 : Int32)), .val (.int (own_at cs 4))] [(.int (8 : Int32)), (.int (5 : Int32))]) _
  refine stp (fun _ => XS.icmpNo X19.here hx rfl (hb hby d7_15) rfl (by decide)) ?_
  show Go p e below T19 (mkF m 18 #[.val (.ref t), .val (.long ka5), .second, .val (.int (5 : Int32)), .val (.int (0 : Int32)), .val (.int (own_at cs 4))] []) _
  refine stp (fun _ => XS.iloadN X19.here hx rfl (hb hby d7_18) rfl) ?_
  refine stp (fun _ => XS.aloadN X19.here hx rfl (hb hby d7_19) rfl rfl) ?_
  show Go p e below T19 (mkF m 20 #[.val (.ref t), .val (.long ka5), .second, .val (.int (5 : Int32)), .val (.int (0 : Int32)), .val (.int (own_at cs 4))] [(.ref t), (.int (5 : Int32))]) _
  obtain ⟨cq21, kq21, q21a, q21b, q21c⟩ := isOf hZ e19 Q_t.exa
  obtain ⟨_, _, ⟨T21, L21, k21, n21⟩, -, X21, ⟨Lc21, hQ21, l21, y21, z21⟩, st21⟩ := X19.virtualBack hx (y := (⟨"java/lang/String", "length", "()I"⟩ : MethodName)) (z := (⟨"java/lang/String", "length", "()I"⟩ : MethodName)) hown (mvT hZ (hw _ (List.mem_of_getElem? (i := 38) rfl))) (mvT hZ (hw _ (List.mem_of_getElem? (i := 39) rfl))) (notFace_of_selects (args := #[]) (mvT hZ (hw _ (List.mem_of_getElem? (i := 41) rfl)))) (mvT hZ (hw _ (List.mem_of_getElem? (i := 41) rfl))) (mvT hZ (hw _ (List.mem_of_getElem? (i := 40) rfl))) (by decide) (backOf (W := 1) (rm_ulen l Z a0 hw [] t cs cz h0 n0 O0 Q_t S_COMPACT_STRINGS hcz) hZ (hw _ (List.mem_of_getElem? (i := 42) rfl)) (hw _ (List.mem_of_getElem? (i := 11) rfl)) (by decide) (by decide)) q21a q21c (g := (mkF m 20 #[.val (.ref t), .val (.long ka5), .second, .val (.int (5 : Int32)), .val (.int (0 : Int32)), .val (.int (own_at cs 4))] [(.ref t), (.int (5 : Int32))])) rfl (by rw [hml]; rfl) (Steps.refl _) (argsL := []) (rest := [(.int (5 : Int32))]) (lenOf pd_15 rfl) rfl (by show 2 * 0 + _ ≤ _; exact Nat.le_of_eq rfl) (hb hby d7_20) (fun _ _ => ⟨rfl, e19, (by decide : 0 + 0 ≤ _), (by decide : 0 + 0 ≤ _)⟩)
  dsimp only [Pt.U, Pt.locs, Pt.cells, Pt.slots] at X21 l21 y21 z21 st21 hQ21
  subst y21 z21
  obtain ⟨rfl, N21q, e21⟩ := hQ21
  have N21 : Fr n0 L21 := by rw [l21]; exact Fr.app N19 N21q
  refine stt st21 ?_
  show Go p e below T21 (mkF m 23 #[.val (.ref t), .val (.long ka5), .second, .val (.int (5 : Int32)), .val (.int (0 : Int32)), .val (.int (own_at cs 4))] [(.int (Int32.ofNat cs.length)), (.int (5 : Int32))]) _
  by_cases q23_22 : (5 : Int32) < (Int32.ofNat cs.length)
  rotate_left
  · refine stp (fun _ => XS.icmpYes X21.here hx rfl (pc0 := 23) (pc' := 73) rfl (hb hby d7_23) rfl (XT.ii_ge_t q23_22) (by decide) (by decide)) ?_
    show Go p e below T21 (mkF m 73 #[.val (.ref t), .val (.long ka5), .second, .val (.int (5 : Int32)), .val (.int (0 : Int32)), .val (.int (own_at cs 4))] []) _
    refine stp (fun _ => XS.lloadN X21.here hx rfl (hb hby d7_73) rfl) ?_
    refine stp (fun _ => XS.bipush X21.here hx rfl (hb hby d7_74)) ?_
    refine stp (fun _ => XS.bipush X21.here hx rfl (hb hby d7_76)) ?_
    refine stp (fun _ => XS.iloadN X21.here hx rfl (hb hby d7_78) rfl) ?_
    show Go p e below T21 (mkF m 79 #[.val (.ref t), .val (.long ka5), .second, .val (.int (5 : Int32)), .val (.int (0 : Int32)), .val (.int (own_at cs 4))] [(.int (5 : Int32)), (.int (8 : Int32)), (.int (8 : Int32)), (.long ka5)]) _
    refine stp (fun _ => XS.isub X21.here hx rfl (hb hby d7_79) rfl) ?_
    show Go p e below T21 (mkF m 80 #[.val (.ref t), .val (.long ka5), .second, .val (.int (5 : Int32)), .val (.int (0 : Int32)), .val (.int (own_at cs 4))] [(.int (3 : Int32)), (.int (8 : Int32)), (.long ka5)]) _
    refine stp (fun _ => XS.imul X21.here hx rfl (hb hby d7_80) rfl) ?_
    show Go p e below T21 (mkF m 81 #[.val (.ref t), .val (.long ka5), .second, .val (.int (5 : Int32)), .val (.int (0 : Int32)), .val (.int (own_at cs 4))] [(.int (24 : Int32)), (.long ka5)]) _
    refine stp (fun _ => XS.lshl X21.here hx rfl (hb hby d7_81) rfl) ?_
    show Go p e below T21 (mkF m 82 #[.val (.ref t), .val (.long ka5), .second, .val (.int (5 : Int32)), .val (.int (0 : Int32)), .val (.int (own_at cs 4))] [(.long (ka5 <<< ((24 : Int32) &&& 0x3f).toInt64))]) _
    refine stp (fun _ => X21.ldc2Long hx hown (mvT hZ (hw _ (List.mem_of_getElem? (i := 49) rfl))) (g := (mkF m 82 #[.val (.ref t), .val (.long ka5), .second, .val (.int (5 : Int32)), .val (.int (0 : Int32)), .val (.int (own_at cs 4))] [(.long (ka5 <<< ((24 : Int32) &&& 0x3f).toInt64))])) rfl (hb hby d7_82) _) ?_
    show Go p e below T21 (mkF m 85 #[.val (.ref t), .val (.long ka5), .second, .val (.int (5 : Int32)), .val (.int (0 : Int32)), .val (.int (own_at cs 4))] [(.long (-9223372036854775808 : Int64)), (.long (ka5 <<< ((24 : Int32) &&& 0x3f).toInt64))]) _
    refine stp (fun _ => XS.lxor X21.here hx rfl (hb hby d7_85) rfl) ?_
    show Go p e below T21 (mkF m 86 #[.val (.ref t), .val (.long ka5), .second, .val (.int (5 : Int32)), .val (.int (0 : Int32)), .val (.int (own_at cs 4))] [(.long ((ka5 <<< ((24 : Int32) &&& 0x3f).toInt64) ^^^ (-9223372036854775808 : Int64)))]) _
    refine outJ X21 hx hret (hb hby d7_86) hlk (by decide) (by decide) ?_
    exact ⟨own_somej (by simp only [own_k0, own_k1, own_k2, own_k3, own_k4, own_k5, own_k6, own_k7, own_k8, own_fin, if_pos q23_2, if_neg q37_4, if_pos q23_6, if_neg q37_8, if_pos q23_10, if_neg q37_12, if_pos q23_14, if_neg q37_16, if_pos q23_18, if_neg q37_20, if_neg q23_22, hka1, hka2, hka3, hka4, hka5]), N21, e21⟩
  refine stp (fun _ => XS.icmpNo X21.here hx rfl (hb hby d7_23) rfl (XT.ii_ge_f q23_22)) ?_
  show Go p e below T21 (mkF m 26 #[.val (.ref t), .val (.long ka5), .second, .val (.int (5 : Int32)), .val (.int (0 : Int32)), .val (.int (own_at cs 4))] []) _
  refine stp (fun _ => XS.aloadN X21.here hx rfl (hb hby d7_26) rfl rfl) ?_
  refine stp (fun _ => XS.iloadN X21.here hx rfl (hb hby d7_27) rfl) ?_
  show Go p e below T21 (mkF m 28 #[.val (.ref t), .val (.long ka5), .second, .val (.int (5 : Int32)), .val (.int (0 : Int32)), .val (.int (own_at cs 4))] [(.int (5 : Int32)), (.ref t)]) _
  obtain ⟨cq23, kq23, q23a, q23b, q23c⟩ := isOf hZ e21 Q_t.exa
  obtain ⟨_, _, ⟨T23, L23, k23, n23⟩, -, X23, ⟨Lc23, hQ23, l23, y23, z23⟩, st23⟩ := X21.virtualBack hx (y := (⟨"java/lang/String", "charAt", "(I)C"⟩ : MethodName)) (z := (⟨"java/lang/String", "charAt", "(I)C"⟩ : MethodName)) hown (mvT hZ (hw _ (List.mem_of_getElem? (i := 80) rfl))) (mvT hZ (hw _ (List.mem_of_getElem? (i := 81) rfl))) (notFace_of_selects (args := #[]) (mvT hZ (hw _ (List.mem_of_getElem? (i := 83) rfl)))) (mvT hZ (hw _ (List.mem_of_getElem? (i := 83) rfl))) (mvT hZ (hw _ (List.mem_of_getElem? (i := 82) rfl))) (by decide) (backOf (W := 0) (rm_uch l Z a0 hw [] t (5 : Int32) cs cz fm 5 h0 n0 O0 Q_t S_COMPACT_STRINGS S_SIOOBE_FORMATTER S__assertionsDisabled S_HI_BYTE_SHIFT S_LO_BYTE_SHIFT hcz hfm (by decide) (own_idx (by decide) hN1 q23_22)) hZ (hw _ (List.mem_of_getElem? (i := 84) rfl)) (hw _ (List.mem_of_getElem? (i := 11) rfl)) (by decide) (by decide)) q23a q23c (g := (mkF m 28 #[.val (.ref t), .val (.long ka5), .second, .val (.int (5 : Int32)), .val (.int (0 : Int32)), .val (.int (own_at cs 4))] [(.int (5 : Int32)), (.ref t)])) rfl (by rw [hml]; rfl) (Steps.refl _) (argsL := [(.int (5 : Int32))]) (rest := []) (lenOf pd_16 rfl) rfl (by show 2 * 0 + _ ≤ _; exact Nat.le_of_eq rfl) (hb hby d7_28) (fun _ _ => ⟨rfl, e21, (by decide : 0 + 0 ≤ _), (by decide : 0 + 0 ≤ _)⟩)
  dsimp only [Pt.U, Pt.locs, Pt.cells, Pt.slots] at X23 l23 y23 z23 st23 hQ23
  subst y23 z23
  obtain ⟨rfl, N23q, e23⟩ := hQ23
  have N23 : Fr n0 L23 := by rw [l23]; exact Fr.app N21 N23q
  refine stt st23 ?_
  show Go p e below T23 (mkF m 31 #[.val (.ref t), .val (.long ka5), .second, .val (.int (5 : Int32)), .val (.int (0 : Int32)), .val (.int (own_at cs 4))] [(.int (own_at cs 5))]) _
  refine stp (fun _ => XS.istore X23.here hx rfl (hb hby d7_31) rfl (l' := #[.val (.ref t), .val (.long ka5), .second, .val (.int (5 : Int32)), .val (.int (0 : Int32)), .val (.int (own_at cs 5))]) rfl) ?_
  show Go p e below T23 (mkF m 33 #[.val (.ref t), .val (.long ka5), .second, .val (.int (5 : Int32)), .val (.int (0 : Int32)), .val (.int (own_at cs 5))] []) _
  refine stp (fun _ => XS.iload X23.here hx rfl (hb hby d7_33) rfl) ?_
  refine stp (fun _ => XS.bipush X23.here hx rfl (hb hby d7_35)) ?_
  show Go p e below T23 (mkF m 37 #[.val (.ref t), .val (.long ka5), .second, .val (.int (5 : Int32)), .val (.int (0 : Int32)), .val (.int (own_at cs 5))] [(.int (127 : Int32)), (.int (own_at cs 5))]) _
  by_cases q37_24 : (127 : Int32) < (own_at cs 5)
  · refine stp (fun _ => XS.icmpNo X23.here hx rfl (hb hby d7_37) rfl (XT.ii_le_f q37_24)) ?_
    show Go p e below T23 (mkF m 40 #[.val (.ref t), .val (.long ka5), .second, .val (.int (5 : Int32)), .val (.int (0 : Int32)), .val (.int (own_at cs 5))] []) _
    refine stp (fun _ => XS.iconst X23.here hx rfl (hb hby d7_40)) ?_
    show Go p e below T23 (mkF m 41 #[.val (.ref t), .val (.long ka5), .second, .val (.int (5 : Int32)), .val (.int (0 : Int32)), .val (.int (own_at cs 5))] [(.int (1 : Int32))]) _
    refine stp (fun _ => XS.goto X23.here hx rfl (pc0 := 41) (pc' := 45) rfl (hb hby d7_41) (by decide) (by decide)) ?_
    show Go p e below T23 (mkF m 45 #[.val (.ref t), .val (.long ka5), .second, .val (.int (5 : Int32)), .val (.int (0 : Int32)), .val (.int (own_at cs 5))] [(.int (1 : Int32))]) _
    refine stp (fun _ => XS.istore X23.here hx rfl (hb hby d7_45) rfl (l' := #[.val (.ref t), .val (.long ka5), .second, .val (.int (5 : Int32)), .val (.int (1 : Int32)), .val (.int (own_at cs 5))]) rfl) ?_
    show Go p e below T23 (mkF m 47 #[.val (.ref t), .val (.long ka5), .second, .val (.int (5 : Int32)), .val (.int (1 : Int32)), .val (.int (own_at cs 5))] []) _
    refine stp (fun _ => XS.lloadN X23.here hx rfl (hb hby d7_47) rfl) ?_
    refine stp (fun _ => XS.bipush X23.here hx rfl (hb hby d7_48)) ?_
    show Go p e below T23 (mkF m 50 #[.val (.ref t), .val (.long ka5), .second, .val (.int (5 : Int32)), .val (.int (1 : Int32)), .val (.int (own_at cs 5))] [(.int (8 : Int32)), (.long ka5)]) _
    refine stp (fun _ => XS.lshl X23.here hx rfl (hb hby d7_50) rfl) ?_
    show Go p e below T23 (mkF m 51 #[.val (.ref t), .val (.long ka5), .second, .val (.int (5 : Int32)), .val (.int (1 : Int32)), .val (.int (own_at cs 5))] [(.long (ka5 <<< ((8 : Int32) &&& 0x3f).toInt64))]) _
    refine stp (fun _ => XS.iload X23.here hx rfl (hb hby d7_51) rfl) ?_
    show Go p e below T23 (mkF m 53 #[.val (.ref t), .val (.long ka5), .second, .val (.int (5 : Int32)), .val (.int (1 : Int32)), .val (.int (own_at cs 5))] [(.int (1 : Int32)), (.long (ka5 <<< ((8 : Int32) &&& 0x3f).toInt64))]) _
    refine stp (fun _ => XS.ifNo X23.here hx rfl (hb hby d7_53) rfl (by decide)) ?_
    show Go p e below T23 (mkF m 56 #[.val (.ref t), .val (.long ka5), .second, .val (.int (5 : Int32)), .val (.int (1 : Int32)), .val (.int (own_at cs 5))] [(.long (ka5 <<< ((8 : Int32) &&& 0x3f).toInt64))]) _
    refine stp (fun _ => XS.sipush X23.here hx rfl (hb hby d7_56)) ?_
    show Go p e below T23 (mkF m 59 #[.val (.ref t), .val (.long ka5), .second, .val (.int (5 : Int32)), .val (.int (1 : Int32)), .val (.int (own_at cs 5))] [(.int (255 : Int32)), (.long (ka5 <<< ((8 : Int32) &&& 0x3f).toInt64))]) _
    refine stp (fun _ => XS.goto X23.here hx rfl (pc0 := 59) (pc' := 64) rfl (hb hby d7_59) (by decide) (by decide)) ?_
    show Go p e below T23 (mkF m 64 #[.val (.ref t), .val (.long ka5), .second, .val (.int (5 : Int32)), .val (.int (1 : Int32)), .val (.int (own_at cs 5))] [(.int (255 : Int32)), (.long (ka5 <<< ((8 : Int32) &&& 0x3f).toInt64))]) _
    refine stp (fun _ => XS.i2l X23.here hx rfl (hb hby d7_64) rfl) ?_
    show Go p e below T23 (mkF m 65 #[.val (.ref t), .val (.long ka5), .second, .val (.int (5 : Int32)), .val (.int (1 : Int32)), .val (.int (own_at cs 5))] [(.long ((255 : Int32).toInt64)), (.long (ka5 <<< ((8 : Int32) &&& 0x3f).toInt64))]) _
    refine stp (fun _ => XS.lor X23.here hx rfl (hb hby d7_65) rfl) ?_
    show Go p e below T23 (mkF m 66 #[.val (.ref t), .val (.long ka5), .second, .val (.int (5 : Int32)), .val (.int (1 : Int32)), .val (.int (own_at cs 5))] [(.long ((ka5 <<< ((8 : Int32) &&& 0x3f).toInt64) ||| ((255 : Int32).toInt64)))]) _
    refine stp (fun _ => XS.lstoreN X23.here hx rfl (hb hby d7_66) rfl (l' := #[.val (.ref t), .val (.long ((ka5 <<< ((8 : Int32) &&& 0x3f).toInt64) ||| ((255 : Int32).toInt64))), .second, .val (.int (5 : Int32)), .val (.int (1 : Int32)), .val (.int (own_at cs 5))]) rfl) ?_
    show Go p e below T23 (mkF m 67 #[.val (.ref t), .val (.long ((ka5 <<< ((8 : Int32) &&& 0x3f).toInt64) ||| ((255 : Int32).toInt64))), .second, .val (.int (5 : Int32)), .val (.int (1 : Int32)), .val (.int (own_at cs 5))] []) _
    refine stp (fun _ => XS.iinc X23.here hx rfl (hb hby d7_67) rfl (l' := #[.val (.ref t), .val (.long ((ka5 <<< ((8 : Int32) &&& 0x3f).toInt64) ||| ((255 : Int32).toInt64))), .second, .val (.int (6 : Int32)), .val (.int (1 : Int32)), .val (.int (own_at cs 5))]) rfl) ?_
    show Go p e below T23 (mkF m 70 #[.val (.ref t), .val (.long ((ka5 <<< ((8 : Int32) &&& 0x3f).toInt64) ||| ((255 : Int32).toInt64))), .second, .val (.int (6 : Int32)), .val (.int (1 : Int32)), .val (.int (own_at cs 5))] []) _
    refine stp (fun _ => XS.goto X23.here hx rfl (pc0 := 70) (pc' := 7) rfl (hb hby d7_70) (by decide) (by decide)) ?_
    show Go p e below T23 (mkF m 7 #[.val (.ref t), .val (.long ((ka5 <<< ((8 : Int32) &&& 0x3f).toInt64) ||| ((255 : Int32).toInt64))), .second, .val (.int (6 : Int32)), .val (.int (1 : Int32)), .val (.int (own_at cs 5))] []) _
    obtain ⟨ka6, hka6⟩ : ∃ z : Int64, z = ((ka5 <<< ((8 : Int32) &&& 0x3f).toInt64) ||| ((255 : Int32).toInt64)) := ⟨_, rfl⟩
    rw [← hka6]
    show Go p e below T23 (mkF m 7 #[.val (.ref t), .val (.long ka6), .second, .val (.int (6 : Int32)), .val (.int (1 : Int32)), .val (.int (own_at cs 5))] []) _
    refine stp (fun _ => XS.iload X23.here hx rfl (hb hby d7_7) rfl) ?_
    show Go p e below T23 (mkF m 9 #[.val (.ref t), .val (.long ka6), .second, .val (.int (6 : Int32)), .val (.int (1 : Int32)), .val (.int (own_at cs 5))] [(.int (1 : Int32))]) _
    refine stp (fun _ => XS.ifYes X23.here hx rfl (pc0 := 9) (pc' := 73) rfl (hb hby d7_9) rfl (by decide) (by decide) (by decide)) ?_
    show Go p e below T23 (mkF m 73 #[.val (.ref t), .val (.long ka6), .second, .val (.int (6 : Int32)), .val (.int (1 : Int32)), .val (.int (own_at cs 5))] []) _
    refine stp (fun _ => XS.lloadN X23.here hx rfl (hb hby d7_73) rfl) ?_
    refine stp (fun _ => XS.bipush X23.here hx rfl (hb hby d7_74)) ?_
    refine stp (fun _ => XS.bipush X23.here hx rfl (hb hby d7_76)) ?_
    refine stp (fun _ => XS.iloadN X23.here hx rfl (hb hby d7_78) rfl) ?_
    show Go p e below T23 (mkF m 79 #[.val (.ref t), .val (.long ka6), .second, .val (.int (6 : Int32)), .val (.int (1 : Int32)), .val (.int (own_at cs 5))] [(.int (6 : Int32)), (.int (8 : Int32)), (.int (8 : Int32)), (.long ka6)]) _
    refine stp (fun _ => XS.isub X23.here hx rfl (hb hby d7_79) rfl) ?_
    show Go p e below T23 (mkF m 80 #[.val (.ref t), .val (.long ka6), .second, .val (.int (6 : Int32)), .val (.int (1 : Int32)), .val (.int (own_at cs 5))] [(.int (2 : Int32)), (.int (8 : Int32)), (.long ka6)]) _
    refine stp (fun _ => XS.imul X23.here hx rfl (hb hby d7_80) rfl) ?_
    show Go p e below T23 (mkF m 81 #[.val (.ref t), .val (.long ka6), .second, .val (.int (6 : Int32)), .val (.int (1 : Int32)), .val (.int (own_at cs 5))] [(.int (16 : Int32)), (.long ka6)]) _
    refine stp (fun _ => XS.lshl X23.here hx rfl (hb hby d7_81) rfl) ?_
    show Go p e below T23 (mkF m 82 #[.val (.ref t), .val (.long ka6), .second, .val (.int (6 : Int32)), .val (.int (1 : Int32)), .val (.int (own_at cs 5))] [(.long (ka6 <<< ((16 : Int32) &&& 0x3f).toInt64))]) _
    refine stp (fun _ => X23.ldc2Long hx hown (mvT hZ (hw _ (List.mem_of_getElem? (i := 49) rfl))) (g := (mkF m 82 #[.val (.ref t), .val (.long ka6), .second, .val (.int (6 : Int32)), .val (.int (1 : Int32)), .val (.int (own_at cs 5))] [(.long (ka6 <<< ((16 : Int32) &&& 0x3f).toInt64))])) rfl (hb hby d7_82) _) ?_
    show Go p e below T23 (mkF m 85 #[.val (.ref t), .val (.long ka6), .second, .val (.int (6 : Int32)), .val (.int (1 : Int32)), .val (.int (own_at cs 5))] [(.long (-9223372036854775808 : Int64)), (.long (ka6 <<< ((16 : Int32) &&& 0x3f).toInt64))]) _
    refine stp (fun _ => XS.lxor X23.here hx rfl (hb hby d7_85) rfl) ?_
    show Go p e below T23 (mkF m 86 #[.val (.ref t), .val (.long ka6), .second, .val (.int (6 : Int32)), .val (.int (1 : Int32)), .val (.int (own_at cs 5))] [(.long ((ka6 <<< ((16 : Int32) &&& 0x3f).toInt64) ^^^ (-9223372036854775808 : Int64)))]) _
    refine outJ X23 hx hret (hb hby d7_86) hlk (by decide) (by decide) ?_
    exact ⟨own_somej (by simp only [own_k0, own_k1, own_k2, own_k3, own_k4, own_k5, own_k6, own_k7, own_k8, own_fin, if_pos q23_2, if_neg q37_4, if_pos q23_6, if_neg q37_8, if_pos q23_10, if_neg q37_12, if_pos q23_14, if_neg q37_16, if_pos q23_18, if_neg q37_20, if_pos q23_22, if_pos q37_24, hka1, hka2, hka3, hka4, hka5, hka6]), N23, e23⟩
  refine stp (fun _ => XS.icmpYes X23.here hx rfl (pc0 := 37) (pc' := 44) rfl (hb hby d7_37) rfl (XT.ii_le_t q37_24) (by decide) (by decide)) ?_
  show Go p e below T23 (mkF m 44 #[.val (.ref t), .val (.long ka5), .second, .val (.int (5 : Int32)), .val (.int (0 : Int32)), .val (.int (own_at cs 5))] []) _
  refine stp (fun _ => XS.iconst X23.here hx rfl (hb hby d7_44)) ?_
  show Go p e below T23 (mkF m 45 #[.val (.ref t), .val (.long ka5), .second, .val (.int (5 : Int32)), .val (.int (0 : Int32)), .val (.int (own_at cs 5))] [(.int (0 : Int32))]) _
  refine stp (fun _ => XS.istore X23.here hx rfl (hb hby d7_45) rfl (l' := #[.val (.ref t), .val (.long ka5), .second, .val (.int (5 : Int32)), .val (.int (0 : Int32)), .val (.int (own_at cs 5))]) rfl) ?_
  show Go p e below T23 (mkF m 47 #[.val (.ref t), .val (.long ka5), .second, .val (.int (5 : Int32)), .val (.int (0 : Int32)), .val (.int (own_at cs 5))] []) _
  refine stp (fun _ => XS.lloadN X23.here hx rfl (hb hby d7_47) rfl) ?_
  refine stp (fun _ => XS.bipush X23.here hx rfl (hb hby d7_48)) ?_
  show Go p e below T23 (mkF m 50 #[.val (.ref t), .val (.long ka5), .second, .val (.int (5 : Int32)), .val (.int (0 : Int32)), .val (.int (own_at cs 5))] [(.int (8 : Int32)), (.long ka5)]) _
  refine stp (fun _ => XS.lshl X23.here hx rfl (hb hby d7_50) rfl) ?_
  show Go p e below T23 (mkF m 51 #[.val (.ref t), .val (.long ka5), .second, .val (.int (5 : Int32)), .val (.int (0 : Int32)), .val (.int (own_at cs 5))] [(.long (ka5 <<< ((8 : Int32) &&& 0x3f).toInt64))]) _
  refine stp (fun _ => XS.iload X23.here hx rfl (hb hby d7_51) rfl) ?_
  show Go p e below T23 (mkF m 53 #[.val (.ref t), .val (.long ka5), .second, .val (.int (5 : Int32)), .val (.int (0 : Int32)), .val (.int (own_at cs 5))] [(.int (0 : Int32)), (.long (ka5 <<< ((8 : Int32) &&& 0x3f).toInt64))]) _
  refine stp (fun _ => XS.ifYes X23.here hx rfl (pc0 := 53) (pc' := 62) rfl (hb hby d7_53) rfl (by decide) (by decide) (by decide)) ?_
  show Go p e below T23 (mkF m 62 #[.val (.ref t), .val (.long ka5), .second, .val (.int (5 : Int32)), .val (.int (0 : Int32)), .val (.int (own_at cs 5))] [(.long (ka5 <<< ((8 : Int32) &&& 0x3f).toInt64))]) _
  refine stp (fun _ => XS.iload X23.here hx rfl (hb hby d7_62) rfl) ?_
  show Go p e below T23 (mkF m 64 #[.val (.ref t), .val (.long ka5), .second, .val (.int (5 : Int32)), .val (.int (0 : Int32)), .val (.int (own_at cs 5))] [(.int (own_at cs 5)), (.long (ka5 <<< ((8 : Int32) &&& 0x3f).toInt64))]) _
  refine stp (fun _ => XS.i2l X23.here hx rfl (hb hby d7_64) rfl) ?_
  show Go p e below T23 (mkF m 65 #[.val (.ref t), .val (.long ka5), .second, .val (.int (5 : Int32)), .val (.int (0 : Int32)), .val (.int (own_at cs 5))] [(.long ((own_at cs 5).toInt64)), (.long (ka5 <<< ((8 : Int32) &&& 0x3f).toInt64))]) _
  refine stp (fun _ => XS.lor X23.here hx rfl (hb hby d7_65) rfl) ?_
  show Go p e below T23 (mkF m 66 #[.val (.ref t), .val (.long ka5), .second, .val (.int (5 : Int32)), .val (.int (0 : Int32)), .val (.int (own_at cs 5))] [(.long ((ka5 <<< ((8 : Int32) &&& 0x3f).toInt64) ||| ((own_at cs 5).toInt64)))]) _
  refine stp (fun _ => XS.lstoreN X23.here hx rfl (hb hby d7_66) rfl (l' := #[.val (.ref t), .val (.long ((ka5 <<< ((8 : Int32) &&& 0x3f).toInt64) ||| ((own_at cs 5).toInt64))), .second, .val (.int (5 : Int32)), .val (.int (0 : Int32)), .val (.int (own_at cs 5))]) rfl) ?_
  show Go p e below T23 (mkF m 67 #[.val (.ref t), .val (.long ((ka5 <<< ((8 : Int32) &&& 0x3f).toInt64) ||| ((own_at cs 5).toInt64))), .second, .val (.int (5 : Int32)), .val (.int (0 : Int32)), .val (.int (own_at cs 5))] []) _
  refine stp (fun _ => XS.iinc X23.here hx rfl (hb hby d7_67) rfl (l' := #[.val (.ref t), .val (.long ((ka5 <<< ((8 : Int32) &&& 0x3f).toInt64) ||| ((own_at cs 5).toInt64))), .second, .val (.int (6 : Int32)), .val (.int (0 : Int32)), .val (.int (own_at cs 5))]) rfl) ?_
  show Go p e below T23 (mkF m 70 #[.val (.ref t), .val (.long ((ka5 <<< ((8 : Int32) &&& 0x3f).toInt64) ||| ((own_at cs 5).toInt64))), .second, .val (.int (6 : Int32)), .val (.int (0 : Int32)), .val (.int (own_at cs 5))] []) _
  refine stp (fun _ => XS.goto X23.here hx rfl (pc0 := 70) (pc' := 7) rfl (hb hby d7_70) (by decide) (by decide)) ?_
  show Go p e below T23 (mkF m 7 #[.val (.ref t), .val (.long ((ka5 <<< ((8 : Int32) &&& 0x3f).toInt64) ||| ((own_at cs 5).toInt64))), .second, .val (.int (6 : Int32)), .val (.int (0 : Int32)), .val (.int (own_at cs 5))] []) _
  obtain ⟨ka6, hka6⟩ : ∃ z : Int64, z = ((ka5 <<< ((8 : Int32) &&& 0x3f).toInt64) ||| ((own_at cs 5).toInt64)) := ⟨_, rfl⟩
  rw [← hka6]
  show Go p e below T23 (mkF m 7 #[.val (.ref t), .val (.long ka6), .second, .val (.int (6 : Int32)), .val (.int (0 : Int32)), .val (.int (own_at cs 5))] []) _
  refine stp (fun _ => XS.iload X23.here hx rfl (hb hby d7_7) rfl) ?_
  show Go p e below T23 (mkF m 9 #[.val (.ref t), .val (.long ka6), .second, .val (.int (6 : Int32)), .val (.int (0 : Int32)), .val (.int (own_at cs 5))] [(.int (0 : Int32))]) _
  refine stp (fun _ => XS.ifNo X23.here hx rfl (hb hby d7_9) rfl (by decide)) ?_
  show Go p e below T23 (mkF m 12 #[.val (.ref t), .val (.long ka6), .second, .val (.int (6 : Int32)), .val (.int (0 : Int32)), .val (.int (own_at cs 5))] []) _
  refine stp (fun _ => XS.iloadN X23.here hx rfl (hb hby d7_12) rfl) ?_
  refine stp (fun _ => XS.bipush X23.here hx rfl (hb hby d7_13)) ?_
  show Go p e below T23 (mkF m 15 #[.val (.ref t), .val (.long ka6), .second, .val (.int (6 : Int32)), .val (.int (0 : Int32)), .val (.int (own_at cs 5))] [(.int (8 : Int32)), (.int (6 : Int32))]) _
  refine stp (fun _ => XS.icmpNo X23.here hx rfl (hb hby d7_15) rfl (by decide)) ?_
  show Go p e below T23 (mkF m 18 #[.val (.ref t), .val (.long ka6), .second, .val (.int (6 : Int32)), .val (.int (0 : Int32)), .val (.int (own_at cs 5))] []) _
  refine stp (fun _ => XS.iloadN X23.here hx rfl (hb hby d7_18) rfl) ?_
  refine stp (fun _ => XS.aloadN X23.here hx rfl (hb hby d7_19) rfl rfl) ?_
  show Go p e below T23 (mkF m 20 #[.val (.ref t), .val (.long ka6), .second, .val (.int (6 : Int32)), .val (.int (0 : Int32)), .val (.int (own_at cs 5))] [(.ref t), (.int (6 : Int32))]) _
  obtain ⟨cq25, kq25, q25a, q25b, q25c⟩ := isOf hZ e23 Q_t.exa
  obtain ⟨_, _, ⟨T25, L25, k25, n25⟩, -, X25, ⟨Lc25, hQ25, l25, y25, z25⟩, st25⟩ := X23.virtualBack hx (y := (⟨"java/lang/String", "length", "()I"⟩ : MethodName)) (z := (⟨"java/lang/String", "length", "()I"⟩ : MethodName)) hown (mvT hZ (hw _ (List.mem_of_getElem? (i := 38) rfl))) (mvT hZ (hw _ (List.mem_of_getElem? (i := 39) rfl))) (notFace_of_selects (args := #[]) (mvT hZ (hw _ (List.mem_of_getElem? (i := 41) rfl)))) (mvT hZ (hw _ (List.mem_of_getElem? (i := 41) rfl))) (mvT hZ (hw _ (List.mem_of_getElem? (i := 40) rfl))) (by decide) (backOf (W := 1) (rm_ulen l Z a0 hw [] t cs cz h0 n0 O0 Q_t S_COMPACT_STRINGS hcz) hZ (hw _ (List.mem_of_getElem? (i := 42) rfl)) (hw _ (List.mem_of_getElem? (i := 11) rfl)) (by decide) (by decide)) q25a q25c (g := (mkF m 20 #[.val (.ref t), .val (.long ka6), .second, .val (.int (6 : Int32)), .val (.int (0 : Int32)), .val (.int (own_at cs 5))] [(.ref t), (.int (6 : Int32))])) rfl (by rw [hml]; rfl) (Steps.refl _) (argsL := []) (rest := [(.int (6 : Int32))]) (lenOf pd_15 rfl) rfl (by show 2 * 0 + _ ≤ _; exact Nat.le_of_eq rfl) (hb hby d7_20) (fun _ _ => ⟨rfl, e23, (by decide : 0 + 0 ≤ _), (by decide : 0 + 0 ≤ _)⟩)
  dsimp only [Pt.U, Pt.locs, Pt.cells, Pt.slots] at X25 l25 y25 z25 st25 hQ25
  subst y25 z25
  obtain ⟨rfl, N25q, e25⟩ := hQ25
  have N25 : Fr n0 L25 := by rw [l25]; exact Fr.app N23 N25q
  refine stt st25 ?_
  show Go p e below T25 (mkF m 23 #[.val (.ref t), .val (.long ka6), .second, .val (.int (6 : Int32)), .val (.int (0 : Int32)), .val (.int (own_at cs 5))] [(.int (Int32.ofNat cs.length)), (.int (6 : Int32))]) _
  by_cases q23_26 : (6 : Int32) < (Int32.ofNat cs.length)
  rotate_left
  · refine stp (fun _ => XS.icmpYes X25.here hx rfl (pc0 := 23) (pc' := 73) rfl (hb hby d7_23) rfl (XT.ii_ge_t q23_26) (by decide) (by decide)) ?_
    show Go p e below T25 (mkF m 73 #[.val (.ref t), .val (.long ka6), .second, .val (.int (6 : Int32)), .val (.int (0 : Int32)), .val (.int (own_at cs 5))] []) _
    refine stp (fun _ => XS.lloadN X25.here hx rfl (hb hby d7_73) rfl) ?_
    refine stp (fun _ => XS.bipush X25.here hx rfl (hb hby d7_74)) ?_
    refine stp (fun _ => XS.bipush X25.here hx rfl (hb hby d7_76)) ?_
    refine stp (fun _ => XS.iloadN X25.here hx rfl (hb hby d7_78) rfl) ?_
    show Go p e below T25 (mkF m 79 #[.val (.ref t), .val (.long ka6), .second, .val (.int (6 : Int32)), .val (.int (0 : Int32)), .val (.int (own_at cs 5))] [(.int (6 : Int32)), (.int (8 : Int32)), (.int (8 : Int32)), (.long ka6)]) _
    refine stp (fun _ => XS.isub X25.here hx rfl (hb hby d7_79) rfl) ?_
    show Go p e below T25 (mkF m 80 #[.val (.ref t), .val (.long ka6), .second, .val (.int (6 : Int32)), .val (.int (0 : Int32)), .val (.int (own_at cs 5))] [(.int (2 : Int32)), (.int (8 : Int32)), (.long ka6)]) _
    refine stp (fun _ => XS.imul X25.here hx rfl (hb hby d7_80) rfl) ?_
    show Go p e below T25 (mkF m 81 #[.val (.ref t), .val (.long ka6), .second, .val (.int (6 : Int32)), .val (.int (0 : Int32)), .val (.int (own_at cs 5))] [(.int (16 : Int32)), (.long ka6)]) _
    refine stp (fun _ => XS.lshl X25.here hx rfl (hb hby d7_81) rfl) ?_
    show Go p e below T25 (mkF m 82 #[.val (.ref t), .val (.long ka6), .second, .val (.int (6 : Int32)), .val (.int (0 : Int32)), .val (.int (own_at cs 5))] [(.long (ka6 <<< ((16 : Int32) &&& 0x3f).toInt64))]) _
    refine stp (fun _ => X25.ldc2Long hx hown (mvT hZ (hw _ (List.mem_of_getElem? (i := 49) rfl))) (g := (mkF m 82 #[.val (.ref t), .val (.long ka6), .second, .val (.int (6 : Int32)), .val (.int (0 : Int32)), .val (.int (own_at cs 5))] [(.long (ka6 <<< ((16 : Int32) &&& 0x3f).toInt64))])) rfl (hb hby d7_82) _) ?_
    show Go p e below T25 (mkF m 85 #[.val (.ref t), .val (.long ka6), .second, .val (.int (6 : Int32)), .val (.int (0 : Int32)), .val (.int (own_at cs 5))] [(.long (-9223372036854775808 : Int64)), (.long (ka6 <<< ((16 : Int32) &&& 0x3f).toInt64))]) _
    refine stp (fun _ => XS.lxor X25.here hx rfl (hb hby d7_85) rfl) ?_
    show Go p e below T25 (mkF m 86 #[.val (.ref t), .val (.long ka6), .second, .val (.int (6 : Int32)), .val (.int (0 : Int32)), .val (.int (own_at cs 5))] [(.long ((ka6 <<< ((16 : Int32) &&& 0x3f).toInt64) ^^^ (-9223372036854775808 : Int64)))]) _
    refine outJ X25 hx hret (hb hby d7_86) hlk (by decide) (by decide) ?_
    exact ⟨own_somej (by simp only [own_k0, own_k1, own_k2, own_k3, own_k4, own_k5, own_k6, own_k7, own_k8, own_fin, if_pos q23_2, if_neg q37_4, if_pos q23_6, if_neg q37_8, if_pos q23_10, if_neg q37_12, if_pos q23_14, if_neg q37_16, if_pos q23_18, if_neg q37_20, if_pos q23_22, if_neg q37_24, if_neg q23_26, hka1, hka2, hka3, hka4, hka5, hka6]), N25, e25⟩
  refine stp (fun _ => XS.icmpNo X25.here hx rfl (hb hby d7_23) rfl (XT.ii_ge_f q23_26)) ?_
  show Go p e below T25 (mkF m 26 #[.val (.ref t), .val (.long ka6), .second, .val (.int (6 : Int32)), .val (.int (0 : Int32)), .val (.int (own_at cs 5))] []) _
  refine stp (fun _ => XS.aloadN X25.here hx rfl (hb hby d7_26) rfl rfl) ?_
  refine stp (fun _ => XS.iloadN X25.here hx rfl (hb hby d7_27) rfl) ?_
  show Go p e below T25 (mkF m 28 #[.val (.ref t), .val (.long ka6), .second, .val (.int (6 : Int32)), .val (.int (0 : Int32)), .val (.int (own_at cs 5))] [(.int (6 : Int32)), (.ref t)]) _
  obtain ⟨cq27, kq27, q27a, q27b, q27c⟩ := isOf hZ e25 Q_t.exa
  obtain ⟨_, _, ⟨T27, L27, k27, n27⟩, -, X27, ⟨Lc27, hQ27, l27, y27, z27⟩, st27⟩ := X25.virtualBack hx (y := (⟨"java/lang/String", "charAt", "(I)C"⟩ : MethodName)) (z := (⟨"java/lang/String", "charAt", "(I)C"⟩ : MethodName)) hown (mvT hZ (hw _ (List.mem_of_getElem? (i := 80) rfl))) (mvT hZ (hw _ (List.mem_of_getElem? (i := 81) rfl))) (notFace_of_selects (args := #[]) (mvT hZ (hw _ (List.mem_of_getElem? (i := 83) rfl)))) (mvT hZ (hw _ (List.mem_of_getElem? (i := 83) rfl))) (mvT hZ (hw _ (List.mem_of_getElem? (i := 82) rfl))) (by decide) (backOf (W := 0) (rm_uch l Z a0 hw [] t (6 : Int32) cs cz fm 6 h0 n0 O0 Q_t S_COMPACT_STRINGS S_SIOOBE_FORMATTER S__assertionsDisabled S_HI_BYTE_SHIFT S_LO_BYTE_SHIFT hcz hfm (by decide) (own_idx (by decide) hN1 q23_26)) hZ (hw _ (List.mem_of_getElem? (i := 84) rfl)) (hw _ (List.mem_of_getElem? (i := 11) rfl)) (by decide) (by decide)) q27a q27c (g := (mkF m 28 #[.val (.ref t), .val (.long ka6), .second, .val (.int (6 : Int32)), .val (.int (0 : Int32)), .val (.int (own_at cs 5))] [(.int (6 : Int32)), (.ref t)])) rfl (by rw [hml]; rfl) (Steps.refl _) (argsL := [(.int (6 : Int32))]) (rest := []) (lenOf pd_16 rfl) rfl (by show 2 * 0 + _ ≤ _; exact Nat.le_of_eq rfl) (hb hby d7_28) (fun _ _ => ⟨rfl, e25, (by decide : 0 + 0 ≤ _), (by decide : 0 + 0 ≤ _)⟩)
  dsimp only [Pt.U, Pt.locs, Pt.cells, Pt.slots] at X27 l27 y27 z27 st27 hQ27
  subst y27 z27
  obtain ⟨rfl, N27q, e27⟩ := hQ27
  have N27 : Fr n0 L27 := by rw [l27]; exact Fr.app N25 N27q
  refine stt st27 ?_
  show Go p e below T27 (mkF m 31 #[.val (.ref t), .val (.long ka6), .second, .val (.int (6 : Int32)), .val (.int (0 : Int32)), .val (.int (own_at cs 5))] [(.int (own_at cs 6))]) _
  refine stp (fun _ => XS.istore X27.here hx rfl (hb hby d7_31) rfl (l' := #[.val (.ref t), .val (.long ka6), .second, .val (.int (6 : Int32)), .val (.int (0 : Int32)), .val (.int (own_at cs 6))]) rfl) ?_
  show Go p e below T27 (mkF m 33 #[.val (.ref t), .val (.long ka6), .second, .val (.int (6 : Int32)), .val (.int (0 : Int32)), .val (.int (own_at cs 6))] []) _
  refine stp (fun _ => XS.iload X27.here hx rfl (hb hby d7_33) rfl) ?_
  refine stp (fun _ => XS.bipush X27.here hx rfl (hb hby d7_35)) ?_
  show Go p e below T27 (mkF m 37 #[.val (.ref t), .val (.long ka6), .second, .val (.int (6 : Int32)), .val (.int (0 : Int32)), .val (.int (own_at cs 6))] [(.int (127 : Int32)), (.int (own_at cs 6))]) _
  by_cases q37_28 : (127 : Int32) < (own_at cs 6)
  · refine stp (fun _ => XS.icmpNo X27.here hx rfl (hb hby d7_37) rfl (XT.ii_le_f q37_28)) ?_
    show Go p e below T27 (mkF m 40 #[.val (.ref t), .val (.long ka6), .second, .val (.int (6 : Int32)), .val (.int (0 : Int32)), .val (.int (own_at cs 6))] []) _
    refine stp (fun _ => XS.iconst X27.here hx rfl (hb hby d7_40)) ?_
    show Go p e below T27 (mkF m 41 #[.val (.ref t), .val (.long ka6), .second, .val (.int (6 : Int32)), .val (.int (0 : Int32)), .val (.int (own_at cs 6))] [(.int (1 : Int32))]) _
    refine stp (fun _ => XS.goto X27.here hx rfl (pc0 := 41) (pc' := 45) rfl (hb hby d7_41) (by decide) (by decide)) ?_
    show Go p e below T27 (mkF m 45 #[.val (.ref t), .val (.long ka6), .second, .val (.int (6 : Int32)), .val (.int (0 : Int32)), .val (.int (own_at cs 6))] [(.int (1 : Int32))]) _
    refine stp (fun _ => XS.istore X27.here hx rfl (hb hby d7_45) rfl (l' := #[.val (.ref t), .val (.long ka6), .second, .val (.int (6 : Int32)), .val (.int (1 : Int32)), .val (.int (own_at cs 6))]) rfl) ?_
    show Go p e below T27 (mkF m 47 #[.val (.ref t), .val (.long ka6), .second, .val (.int (6 : Int32)), .val (.int (1 : Int32)), .val (.int (own_at cs 6))] []) _
    refine stp (fun _ => XS.lloadN X27.here hx rfl (hb hby d7_47) rfl) ?_
    refine stp (fun _ => XS.bipush X27.here hx rfl (hb hby d7_48)) ?_
    show Go p e below T27 (mkF m 50 #[.val (.ref t), .val (.long ka6), .second, .val (.int (6 : Int32)), .val (.int (1 : Int32)), .val (.int (own_at cs 6))] [(.int (8 : Int32)), (.long ka6)]) _
    refine stp (fun _ => XS.lshl X27.here hx rfl (hb hby d7_50) rfl) ?_
    show Go p e below T27 (mkF m 51 #[.val (.ref t), .val (.long ka6), .second, .val (.int (6 : Int32)), .val (.int (1 : Int32)), .val (.int (own_at cs 6))] [(.long (ka6 <<< ((8 : Int32) &&& 0x3f).toInt64))]) _
    refine stp (fun _ => XS.iload X27.here hx rfl (hb hby d7_51) rfl) ?_
    show Go p e below T27 (mkF m 53 #[.val (.ref t), .val (.long ka6), .second, .val (.int (6 : Int32)), .val (.int (1 : Int32)), .val (.int (own_at cs 6))] [(.int (1 : Int32)), (.long (ka6 <<< ((8 : Int32) &&& 0x3f).toInt64))]) _
    refine stp (fun _ => XS.ifNo X27.here hx rfl (hb hby d7_53) rfl (by decide)) ?_
    show Go p e below T27 (mkF m 56 #[.val (.ref t), .val (.long ka6), .second, .val (.int (6 : Int32)), .val (.int (1 : Int32)), .val (.int (own_at cs 6))] [(.long (ka6 <<< ((8 : Int32) &&& 0x3f).toInt64))]) _
    refine stp (fun _ => XS.sipush X27.here hx rfl (hb hby d7_56)) ?_
    show Go p e below T27 (mkF m 59 #[.val (.ref t), .val (.long ka6), .second, .val (.int (6 : Int32)), .val (.int (1 : Int32)), .val (.int (own_at cs 6))] [(.int (255 : Int32)), (.long (ka6 <<< ((8 : Int32) &&& 0x3f).toInt64))]) _
    refine stp (fun _ => XS.goto X27.here hx rfl (pc0 := 59) (pc' := 64) rfl (hb hby d7_59) (by decide) (by decide)) ?_
    show Go p e below T27 (mkF m 64 #[.val (.ref t), .val (.long ka6), .second, .val (.int (6 : Int32)), .val (.int (1 : Int32)), .val (.int (own_at cs 6))] [(.int (255 : Int32)), (.long (ka6 <<< ((8 : Int32) &&& 0x3f).toInt64))]) _
    refine stp (fun _ => XS.i2l X27.here hx rfl (hb hby d7_64) rfl) ?_
    show Go p e below T27 (mkF m 65 #[.val (.ref t), .val (.long ka6), .second, .val (.int (6 : Int32)), .val (.int (1 : Int32)), .val (.int (own_at cs 6))] [(.long ((255 : Int32).toInt64)), (.long (ka6 <<< ((8 : Int32) &&& 0x3f).toInt64))]) _
    refine stp (fun _ => XS.lor X27.here hx rfl (hb hby d7_65) rfl) ?_
    show Go p e below T27 (mkF m 66 #[.val (.ref t), .val (.long ka6), .second, .val (.int (6 : Int32)), .val (.int (1 : Int32)), .val (.int (own_at cs 6))] [(.long ((ka6 <<< ((8 : Int32) &&& 0x3f).toInt64) ||| ((255 : Int32).toInt64)))]) _
    refine stp (fun _ => XS.lstoreN X27.here hx rfl (hb hby d7_66) rfl (l' := #[.val (.ref t), .val (.long ((ka6 <<< ((8 : Int32) &&& 0x3f).toInt64) ||| ((255 : Int32).toInt64))), .second, .val (.int (6 : Int32)), .val (.int (1 : Int32)), .val (.int (own_at cs 6))]) rfl) ?_
    show Go p e below T27 (mkF m 67 #[.val (.ref t), .val (.long ((ka6 <<< ((8 : Int32) &&& 0x3f).toInt64) ||| ((255 : Int32).toInt64))), .second, .val (.int (6 : Int32)), .val (.int (1 : Int32)), .val (.int (own_at cs 6))] []) _
    refine stp (fun _ => XS.iinc X27.here hx rfl (hb hby d7_67) rfl (l' := #[.val (.ref t), .val (.long ((ka6 <<< ((8 : Int32) &&& 0x3f).toInt64) ||| ((255 : Int32).toInt64))), .second, .val (.int (7 : Int32)), .val (.int (1 : Int32)), .val (.int (own_at cs 6))]) rfl) ?_
    show Go p e below T27 (mkF m 70 #[.val (.ref t), .val (.long ((ka6 <<< ((8 : Int32) &&& 0x3f).toInt64) ||| ((255 : Int32).toInt64))), .second, .val (.int (7 : Int32)), .val (.int (1 : Int32)), .val (.int (own_at cs 6))] []) _
    refine stp (fun _ => XS.goto X27.here hx rfl (pc0 := 70) (pc' := 7) rfl (hb hby d7_70) (by decide) (by decide)) ?_
    show Go p e below T27 (mkF m 7 #[.val (.ref t), .val (.long ((ka6 <<< ((8 : Int32) &&& 0x3f).toInt64) ||| ((255 : Int32).toInt64))), .second, .val (.int (7 : Int32)), .val (.int (1 : Int32)), .val (.int (own_at cs 6))] []) _
    obtain ⟨ka7, hka7⟩ : ∃ z : Int64, z = ((ka6 <<< ((8 : Int32) &&& 0x3f).toInt64) ||| ((255 : Int32).toInt64)) := ⟨_, rfl⟩
    rw [← hka7]
    show Go p e below T27 (mkF m 7 #[.val (.ref t), .val (.long ka7), .second, .val (.int (7 : Int32)), .val (.int (1 : Int32)), .val (.int (own_at cs 6))] []) _
    refine stp (fun _ => XS.iload X27.here hx rfl (hb hby d7_7) rfl) ?_
    show Go p e below T27 (mkF m 9 #[.val (.ref t), .val (.long ka7), .second, .val (.int (7 : Int32)), .val (.int (1 : Int32)), .val (.int (own_at cs 6))] [(.int (1 : Int32))]) _
    refine stp (fun _ => XS.ifYes X27.here hx rfl (pc0 := 9) (pc' := 73) rfl (hb hby d7_9) rfl (by decide) (by decide) (by decide)) ?_
    show Go p e below T27 (mkF m 73 #[.val (.ref t), .val (.long ka7), .second, .val (.int (7 : Int32)), .val (.int (1 : Int32)), .val (.int (own_at cs 6))] []) _
    refine stp (fun _ => XS.lloadN X27.here hx rfl (hb hby d7_73) rfl) ?_
    refine stp (fun _ => XS.bipush X27.here hx rfl (hb hby d7_74)) ?_
    refine stp (fun _ => XS.bipush X27.here hx rfl (hb hby d7_76)) ?_
    refine stp (fun _ => XS.iloadN X27.here hx rfl (hb hby d7_78) rfl) ?_
    show Go p e below T27 (mkF m 79 #[.val (.ref t), .val (.long ka7), .second, .val (.int (7 : Int32)), .val (.int (1 : Int32)), .val (.int (own_at cs 6))] [(.int (7 : Int32)), (.int (8 : Int32)), (.int (8 : Int32)), (.long ka7)]) _
    refine stp (fun _ => XS.isub X27.here hx rfl (hb hby d7_79) rfl) ?_
    show Go p e below T27 (mkF m 80 #[.val (.ref t), .val (.long ka7), .second, .val (.int (7 : Int32)), .val (.int (1 : Int32)), .val (.int (own_at cs 6))] [(.int (1 : Int32)), (.int (8 : Int32)), (.long ka7)]) _
    refine stp (fun _ => XS.imul X27.here hx rfl (hb hby d7_80) rfl) ?_
    show Go p e below T27 (mkF m 81 #[.val (.ref t), .val (.long ka7), .second, .val (.int (7 : Int32)), .val (.int (1 : Int32)), .val (.int (own_at cs 6))] [(.int (8 : Int32)), (.long ka7)]) _
    refine stp (fun _ => XS.lshl X27.here hx rfl (hb hby d7_81) rfl) ?_
    show Go p e below T27 (mkF m 82 #[.val (.ref t), .val (.long ka7), .second, .val (.int (7 : Int32)), .val (.int (1 : Int32)), .val (.int (own_at cs 6))] [(.long (ka7 <<< ((8 : Int32) &&& 0x3f).toInt64))]) _
    refine stp (fun _ => X27.ldc2Long hx hown (mvT hZ (hw _ (List.mem_of_getElem? (i := 49) rfl))) (g := (mkF m 82 #[.val (.ref t), .val (.long ka7), .second, .val (.int (7 : Int32)), .val (.int (1 : Int32)), .val (.int (own_at cs 6))] [(.long (ka7 <<< ((8 : Int32) &&& 0x3f).toInt64))])) rfl (hb hby d7_82) _) ?_
    show Go p e below T27 (mkF m 85 #[.val (.ref t), .val (.long ka7), .second, .val (.int (7 : Int32)), .val (.int (1 : Int32)), .val (.int (own_at cs 6))] [(.long (-9223372036854775808 : Int64)), (.long (ka7 <<< ((8 : Int32) &&& 0x3f).toInt64))]) _
    refine stp (fun _ => XS.lxor X27.here hx rfl (hb hby d7_85) rfl) ?_
    show Go p e below T27 (mkF m 86 #[.val (.ref t), .val (.long ka7), .second, .val (.int (7 : Int32)), .val (.int (1 : Int32)), .val (.int (own_at cs 6))] [(.long ((ka7 <<< ((8 : Int32) &&& 0x3f).toInt64) ^^^ (-9223372036854775808 : Int64)))]) _
    refine outJ X27 hx hret (hb hby d7_86) hlk (by decide) (by decide) ?_
    exact ⟨own_somej (by simp only [own_k0, own_k1, own_k2, own_k3, own_k4, own_k5, own_k6, own_k7, own_k8, own_fin, if_pos q23_2, if_neg q37_4, if_pos q23_6, if_neg q37_8, if_pos q23_10, if_neg q37_12, if_pos q23_14, if_neg q37_16, if_pos q23_18, if_neg q37_20, if_pos q23_22, if_neg q37_24, if_pos q23_26, if_pos q37_28, hka1, hka2, hka3, hka4, hka5, hka6, hka7]), N27, e27⟩
  refine stp (fun _ => XS.icmpYes X27.here hx rfl (pc0 := 37) (pc' := 44) rfl (hb hby d7_37) rfl (XT.ii_le_t q37_28) (by decide) (by decide)) ?_
  show Go p e below T27 (mkF m 44 #[.val (.ref t), .val (.long ka6), .second, .val (.int (6 : Int32)), .val (.int (0 : Int32)), .val (.int (own_at cs 6))] []) _
  refine stp (fun _ => XS.iconst X27.here hx rfl (hb hby d7_44)) ?_
  show Go p e below T27 (mkF m 45 #[.val (.ref t), .val (.long ka6), .second, .val (.int (6 : Int32)), .val (.int (0 : Int32)), .val (.int (own_at cs 6))] [(.int (0 : Int32))]) _
  refine stp (fun _ => XS.istore X27.here hx rfl (hb hby d7_45) rfl (l' := #[.val (.ref t), .val (.long ka6), .second, .val (.int (6 : Int32)), .val (.int (0 : Int32)), .val (.int (own_at cs 6))]) rfl) ?_
  show Go p e below T27 (mkF m 47 #[.val (.ref t), .val (.long ka6), .second, .val (.int (6 : Int32)), .val (.int (0 : Int32)), .val (.int (own_at cs 6))] []) _
  refine stp (fun _ => XS.lloadN X27.here hx rfl (hb hby d7_47) rfl) ?_
  refine stp (fun _ => XS.bipush X27.here hx rfl (hb hby d7_48)) ?_
  show Go p e below T27 (mkF m 50 #[.val (.ref t), .val (.long ka6), .second, .val (.int (6 : Int32)), .val (.int (0 : Int32)), .val (.int (own_at cs 6))] [(.int (8 : Int32)), (.long ka6)]) _
  refine stp (fun _ => XS.lshl X27.here hx rfl (hb hby d7_50) rfl) ?_
  show Go p e below T27 (mkF m 51 #[.val (.ref t), .val (.long ka6), .second, .val (.int (6 : Int32)), .val (.int (0 : Int32)), .val (.int (own_at cs 6))] [(.long (ka6 <<< ((8 : Int32) &&& 0x3f).toInt64))]) _
  refine stp (fun _ => XS.iload X27.here hx rfl (hb hby d7_51) rfl) ?_
  show Go p e below T27 (mkF m 53 #[.val (.ref t), .val (.long ka6), .second, .val (.int (6 : Int32)), .val (.int (0 : Int32)), .val (.int (own_at cs 6))] [(.int (0 : Int32)), (.long (ka6 <<< ((8 : Int32) &&& 0x3f).toInt64))]) _
  refine stp (fun _ => XS.ifYes X27.here hx rfl (pc0 := 53) (pc' := 62) rfl (hb hby d7_53) rfl (by decide) (by decide) (by decide)) ?_
  show Go p e below T27 (mkF m 62 #[.val (.ref t), .val (.long ka6), .second, .val (.int (6 : Int32)), .val (.int (0 : Int32)), .val (.int (own_at cs 6))] [(.long (ka6 <<< ((8 : Int32) &&& 0x3f).toInt64))]) _
  refine stp (fun _ => XS.iload X27.here hx rfl (hb hby d7_62) rfl) ?_
  show Go p e below T27 (mkF m 64 #[.val (.ref t), .val (.long ka6), .second, .val (.int (6 : Int32)), .val (.int (0 : Int32)), .val (.int (own_at cs 6))] [(.int (own_at cs 6)), (.long (ka6 <<< ((8 : Int32) &&& 0x3f).toInt64))]) _
  refine stp (fun _ => XS.i2l X27.here hx rfl (hb hby d7_64) rfl) ?_
  show Go p e below T27 (mkF m 65 #[.val (.ref t), .val (.long ka6), .second, .val (.int (6 : Int32)), .val (.int (0 : Int32)), .val (.int (own_at cs 6))] [(.long ((own_at cs 6).toInt64)), (.long (ka6 <<< ((8 : Int32) &&& 0x3f).toInt64))]) _
  refine stp (fun _ => XS.lor X27.here hx rfl (hb hby d7_65) rfl) ?_
  show Go p e below T27 (mkF m 66 #[.val (.ref t), .val (.long ka6), .second, .val (.int (6 : Int32)), .val (.int (0 : Int32)), .val (.int (own_at cs 6))] [(.long ((ka6 <<< ((8 : Int32) &&& 0x3f).toInt64) ||| ((own_at cs 6).toInt64)))]) _
  refine stp (fun _ => XS.lstoreN X27.here hx rfl (hb hby d7_66) rfl (l' := #[.val (.ref t), .val (.long ((ka6 <<< ((8 : Int32) &&& 0x3f).toInt64) ||| ((own_at cs 6).toInt64))), .second, .val (.int (6 : Int32)), .val (.int (0 : Int32)), .val (.int (own_at cs 6))]) rfl) ?_
  show Go p e below T27 (mkF m 67 #[.val (.ref t), .val (.long ((ka6 <<< ((8 : Int32) &&& 0x3f).toInt64) ||| ((own_at cs 6).toInt64))), .second, .val (.int (6 : Int32)), .val (.int (0 : Int32)), .val (.int (own_at cs 6))] []) _
  refine stp (fun _ => XS.iinc X27.here hx rfl (hb hby d7_67) rfl (l' := #[.val (.ref t), .val (.long ((ka6 <<< ((8 : Int32) &&& 0x3f).toInt64) ||| ((own_at cs 6).toInt64))), .second, .val (.int (7 : Int32)), .val (.int (0 : Int32)), .val (.int (own_at cs 6))]) rfl) ?_
  show Go p e below T27 (mkF m 70 #[.val (.ref t), .val (.long ((ka6 <<< ((8 : Int32) &&& 0x3f).toInt64) ||| ((own_at cs 6).toInt64))), .second, .val (.int (7 : Int32)), .val (.int (0 : Int32)), .val (.int (own_at cs 6))] []) _
  refine stp (fun _ => XS.goto X27.here hx rfl (pc0 := 70) (pc' := 7) rfl (hb hby d7_70) (by decide) (by decide)) ?_
  show Go p e below T27 (mkF m 7 #[.val (.ref t), .val (.long ((ka6 <<< ((8 : Int32) &&& 0x3f).toInt64) ||| ((own_at cs 6).toInt64))), .second, .val (.int (7 : Int32)), .val (.int (0 : Int32)), .val (.int (own_at cs 6))] []) _
  obtain ⟨ka7, hka7⟩ : ∃ z : Int64, z = ((ka6 <<< ((8 : Int32) &&& 0x3f).toInt64) ||| ((own_at cs 6).toInt64)) := ⟨_, rfl⟩
  rw [← hka7]
  show Go p e below T27 (mkF m 7 #[.val (.ref t), .val (.long ka7), .second, .val (.int (7 : Int32)), .val (.int (0 : Int32)), .val (.int (own_at cs 6))] []) _
  refine stp (fun _ => XS.iload X27.here hx rfl (hb hby d7_7) rfl) ?_
  show Go p e below T27 (mkF m 9 #[.val (.ref t), .val (.long ka7), .second, .val (.int (7 : Int32)), .val (.int (0 : Int32)), .val (.int (own_at cs 6))] [(.int (0 : Int32))]) _
  refine stp (fun _ => XS.ifNo X27.here hx rfl (hb hby d7_9) rfl (by decide)) ?_
  show Go p e below T27 (mkF m 12 #[.val (.ref t), .val (.long ka7), .second, .val (.int (7 : Int32)), .val (.int (0 : Int32)), .val (.int (own_at cs 6))] []) _
  refine stp (fun _ => XS.iloadN X27.here hx rfl (hb hby d7_12) rfl) ?_
  refine stp (fun _ => XS.bipush X27.here hx rfl (hb hby d7_13)) ?_
  show Go p e below T27 (mkF m 15 #[.val (.ref t), .val (.long ka7), .second, .val (.int (7 : Int32)), .val (.int (0 : Int32)), .val (.int (own_at cs 6))] [(.int (8 : Int32)), (.int (7 : Int32))]) _
  refine stp (fun _ => XS.icmpNo X27.here hx rfl (hb hby d7_15) rfl (by decide)) ?_
  show Go p e below T27 (mkF m 18 #[.val (.ref t), .val (.long ka7), .second, .val (.int (7 : Int32)), .val (.int (0 : Int32)), .val (.int (own_at cs 6))] []) _
  refine stp (fun _ => XS.iloadN X27.here hx rfl (hb hby d7_18) rfl) ?_
  refine stp (fun _ => XS.aloadN X27.here hx rfl (hb hby d7_19) rfl rfl) ?_
  show Go p e below T27 (mkF m 20 #[.val (.ref t), .val (.long ka7), .second, .val (.int (7 : Int32)), .val (.int (0 : Int32)), .val (.int (own_at cs 6))] [(.ref t), (.int (7 : Int32))]) _
  obtain ⟨cq29, kq29, q29a, q29b, q29c⟩ := isOf hZ e27 Q_t.exa
  obtain ⟨_, _, ⟨T29, L29, k29, n29⟩, -, X29, ⟨Lc29, hQ29, l29, y29, z29⟩, st29⟩ := X27.virtualBack hx (y := (⟨"java/lang/String", "length", "()I"⟩ : MethodName)) (z := (⟨"java/lang/String", "length", "()I"⟩ : MethodName)) hown (mvT hZ (hw _ (List.mem_of_getElem? (i := 38) rfl))) (mvT hZ (hw _ (List.mem_of_getElem? (i := 39) rfl))) (notFace_of_selects (args := #[]) (mvT hZ (hw _ (List.mem_of_getElem? (i := 41) rfl)))) (mvT hZ (hw _ (List.mem_of_getElem? (i := 41) rfl))) (mvT hZ (hw _ (List.mem_of_getElem? (i := 40) rfl))) (by decide) (backOf (W := 1) (rm_ulen l Z a0 hw [] t cs cz h0 n0 O0 Q_t S_COMPACT_STRINGS hcz) hZ (hw _ (List.mem_of_getElem? (i := 42) rfl)) (hw _ (List.mem_of_getElem? (i := 11) rfl)) (by decide) (by decide)) q29a q29c (g := (mkF m 20 #[.val (.ref t), .val (.long ka7), .second, .val (.int (7 : Int32)), .val (.int (0 : Int32)), .val (.int (own_at cs 6))] [(.ref t), (.int (7 : Int32))])) rfl (by rw [hml]; rfl) (Steps.refl _) (argsL := []) (rest := [(.int (7 : Int32))]) (lenOf pd_15 rfl) rfl (by show 2 * 0 + _ ≤ _; exact Nat.le_of_eq rfl) (hb hby d7_20) (fun _ _ => ⟨rfl, e27, (by decide : 0 + 0 ≤ _), (by decide : 0 + 0 ≤ _)⟩)
  dsimp only [Pt.U, Pt.locs, Pt.cells, Pt.slots] at X29 l29 y29 z29 st29 hQ29
  subst y29 z29
  obtain ⟨rfl, N29q, e29⟩ := hQ29
  have N29 : Fr n0 L29 := by rw [l29]; exact Fr.app N27 N29q
  refine stt st29 ?_
  show Go p e below T29 (mkF m 23 #[.val (.ref t), .val (.long ka7), .second, .val (.int (7 : Int32)), .val (.int (0 : Int32)), .val (.int (own_at cs 6))] [(.int (Int32.ofNat cs.length)), (.int (7 : Int32))]) _
  by_cases q23_30 : (7 : Int32) < (Int32.ofNat cs.length)
  rotate_left
  · refine stp (fun _ => XS.icmpYes X29.here hx rfl (pc0 := 23) (pc' := 73) rfl (hb hby d7_23) rfl (XT.ii_ge_t q23_30) (by decide) (by decide)) ?_
    show Go p e below T29 (mkF m 73 #[.val (.ref t), .val (.long ka7), .second, .val (.int (7 : Int32)), .val (.int (0 : Int32)), .val (.int (own_at cs 6))] []) _
    refine stp (fun _ => XS.lloadN X29.here hx rfl (hb hby d7_73) rfl) ?_
    refine stp (fun _ => XS.bipush X29.here hx rfl (hb hby d7_74)) ?_
    refine stp (fun _ => XS.bipush X29.here hx rfl (hb hby d7_76)) ?_
    refine stp (fun _ => XS.iloadN X29.here hx rfl (hb hby d7_78) rfl) ?_
    show Go p e below T29 (mkF m 79 #[.val (.ref t), .val (.long ka7), .second, .val (.int (7 : Int32)), .val (.int (0 : Int32)), .val (.int (own_at cs 6))] [(.int (7 : Int32)), (.int (8 : Int32)), (.int (8 : Int32)), (.long ka7)]) _
    refine stp (fun _ => XS.isub X29.here hx rfl (hb hby d7_79) rfl) ?_
    show Go p e below T29 (mkF m 80 #[.val (.ref t), .val (.long ka7), .second, .val (.int (7 : Int32)), .val (.int (0 : Int32)), .val (.int (own_at cs 6))] [(.int (1 : Int32)), (.int (8 : Int32)), (.long ka7)]) _
    refine stp (fun _ => XS.imul X29.here hx rfl (hb hby d7_80) rfl) ?_
    show Go p e below T29 (mkF m 81 #[.val (.ref t), .val (.long ka7), .second, .val (.int (7 : Int32)), .val (.int (0 : Int32)), .val (.int (own_at cs 6))] [(.int (8 : Int32)), (.long ka7)]) _
    refine stp (fun _ => XS.lshl X29.here hx rfl (hb hby d7_81) rfl) ?_
    show Go p e below T29 (mkF m 82 #[.val (.ref t), .val (.long ka7), .second, .val (.int (7 : Int32)), .val (.int (0 : Int32)), .val (.int (own_at cs 6))] [(.long (ka7 <<< ((8 : Int32) &&& 0x3f).toInt64))]) _
    refine stp (fun _ => X29.ldc2Long hx hown (mvT hZ (hw _ (List.mem_of_getElem? (i := 49) rfl))) (g := (mkF m 82 #[.val (.ref t), .val (.long ka7), .second, .val (.int (7 : Int32)), .val (.int (0 : Int32)), .val (.int (own_at cs 6))] [(.long (ka7 <<< ((8 : Int32) &&& 0x3f).toInt64))])) rfl (hb hby d7_82) _) ?_
    show Go p e below T29 (mkF m 85 #[.val (.ref t), .val (.long ka7), .second, .val (.int (7 : Int32)), .val (.int (0 : Int32)), .val (.int (own_at cs 6))] [(.long (-9223372036854775808 : Int64)), (.long (ka7 <<< ((8 : Int32) &&& 0x3f).toInt64))]) _
    refine stp (fun _ => XS.lxor X29.here hx rfl (hb hby d7_85) rfl) ?_
    show Go p e below T29 (mkF m 86 #[.val (.ref t), .val (.long ka7), .second, .val (.int (7 : Int32)), .val (.int (0 : Int32)), .val (.int (own_at cs 6))] [(.long ((ka7 <<< ((8 : Int32) &&& 0x3f).toInt64) ^^^ (-9223372036854775808 : Int64)))]) _
    refine outJ X29 hx hret (hb hby d7_86) hlk (by decide) (by decide) ?_
    exact ⟨own_somej (by simp only [own_k0, own_k1, own_k2, own_k3, own_k4, own_k5, own_k6, own_k7, own_k8, own_fin, if_pos q23_2, if_neg q37_4, if_pos q23_6, if_neg q37_8, if_pos q23_10, if_neg q37_12, if_pos q23_14, if_neg q37_16, if_pos q23_18, if_neg q37_20, if_pos q23_22, if_neg q37_24, if_pos q23_26, if_neg q37_28, if_neg q23_30, hka1, hka2, hka3, hka4, hka5, hka6, hka7]), N29, e29⟩
  refine stp (fun _ => XS.icmpNo X29.here hx rfl (hb hby d7_23) rfl (XT.ii_ge_f q23_30)) ?_
  show Go p e below T29 (mkF m 26 #[.val (.ref t), .val (.long ka7), .second, .val (.int (7 : Int32)), .val (.int (0 : Int32)), .val (.int (own_at cs 6))] []) _
  refine stp (fun _ => XS.aloadN X29.here hx rfl (hb hby d7_26) rfl rfl) ?_
  refine stp (fun _ => XS.iloadN X29.here hx rfl (hb hby d7_27) rfl) ?_
  show Go p e below T29 (mkF m 28 #[.val (.ref t), .val (.long ka7), .second, .val (.int (7 : Int32)), .val (.int (0 : Int32)), .val (.int (own_at cs 6))] [(.int (7 : Int32)), (.ref t)]) _
  obtain ⟨cq31, kq31, q31a, q31b, q31c⟩ := isOf hZ e29 Q_t.exa
  obtain ⟨_, _, ⟨T31, L31, k31, n31⟩, -, X31, ⟨Lc31, hQ31, l31, y31, z31⟩, st31⟩ := X29.virtualBack hx (y := (⟨"java/lang/String", "charAt", "(I)C"⟩ : MethodName)) (z := (⟨"java/lang/String", "charAt", "(I)C"⟩ : MethodName)) hown (mvT hZ (hw _ (List.mem_of_getElem? (i := 80) rfl))) (mvT hZ (hw _ (List.mem_of_getElem? (i := 81) rfl))) (notFace_of_selects (args := #[]) (mvT hZ (hw _ (List.mem_of_getElem? (i := 83) rfl)))) (mvT hZ (hw _ (List.mem_of_getElem? (i := 83) rfl))) (mvT hZ (hw _ (List.mem_of_getElem? (i := 82) rfl))) (by decide) (backOf (W := 0) (rm_uch l Z a0 hw [] t (7 : Int32) cs cz fm 7 h0 n0 O0 Q_t S_COMPACT_STRINGS S_SIOOBE_FORMATTER S__assertionsDisabled S_HI_BYTE_SHIFT S_LO_BYTE_SHIFT hcz hfm (by decide) (own_idx (by decide) hN1 q23_30)) hZ (hw _ (List.mem_of_getElem? (i := 84) rfl)) (hw _ (List.mem_of_getElem? (i := 11) rfl)) (by decide) (by decide)) q31a q31c (g := (mkF m 28 #[.val (.ref t), .val (.long ka7), .second, .val (.int (7 : Int32)), .val (.int (0 : Int32)), .val (.int (own_at cs 6))] [(.int (7 : Int32)), (.ref t)])) rfl (by rw [hml]; rfl) (Steps.refl _) (argsL := [(.int (7 : Int32))]) (rest := []) (lenOf pd_16 rfl) rfl (by show 2 * 0 + _ ≤ _; exact Nat.le_of_eq rfl) (hb hby d7_28) (fun _ _ => ⟨rfl, e29, (by decide : 0 + 0 ≤ _), (by decide : 0 + 0 ≤ _)⟩)
  dsimp only [Pt.U, Pt.locs, Pt.cells, Pt.slots] at X31 l31 y31 z31 st31 hQ31
  subst y31 z31
  obtain ⟨rfl, N31q, e31⟩ := hQ31
  have N31 : Fr n0 L31 := by rw [l31]; exact Fr.app N29 N31q
  refine stt st31 ?_
  show Go p e below T31 (mkF m 31 #[.val (.ref t), .val (.long ka7), .second, .val (.int (7 : Int32)), .val (.int (0 : Int32)), .val (.int (own_at cs 6))] [(.int (own_at cs 7))]) _
  refine stp (fun _ => XS.istore X31.here hx rfl (hb hby d7_31) rfl (l' := #[.val (.ref t), .val (.long ka7), .second, .val (.int (7 : Int32)), .val (.int (0 : Int32)), .val (.int (own_at cs 7))]) rfl) ?_
  show Go p e below T31 (mkF m 33 #[.val (.ref t), .val (.long ka7), .second, .val (.int (7 : Int32)), .val (.int (0 : Int32)), .val (.int (own_at cs 7))] []) _
  refine stp (fun _ => XS.iload X31.here hx rfl (hb hby d7_33) rfl) ?_
  refine stp (fun _ => XS.bipush X31.here hx rfl (hb hby d7_35)) ?_
  show Go p e below T31 (mkF m 37 #[.val (.ref t), .val (.long ka7), .second, .val (.int (7 : Int32)), .val (.int (0 : Int32)), .val (.int (own_at cs 7))] [(.int (127 : Int32)), (.int (own_at cs 7))]) _
  by_cases q37_32 : (127 : Int32) < (own_at cs 7)
  · refine stp (fun _ => XS.icmpNo X31.here hx rfl (hb hby d7_37) rfl (XT.ii_le_f q37_32)) ?_
    show Go p e below T31 (mkF m 40 #[.val (.ref t), .val (.long ka7), .second, .val (.int (7 : Int32)), .val (.int (0 : Int32)), .val (.int (own_at cs 7))] []) _
    refine stp (fun _ => XS.iconst X31.here hx rfl (hb hby d7_40)) ?_
    show Go p e below T31 (mkF m 41 #[.val (.ref t), .val (.long ka7), .second, .val (.int (7 : Int32)), .val (.int (0 : Int32)), .val (.int (own_at cs 7))] [(.int (1 : Int32))]) _
    refine stp (fun _ => XS.goto X31.here hx rfl (pc0 := 41) (pc' := 45) rfl (hb hby d7_41) (by decide) (by decide)) ?_
    show Go p e below T31 (mkF m 45 #[.val (.ref t), .val (.long ka7), .second, .val (.int (7 : Int32)), .val (.int (0 : Int32)), .val (.int (own_at cs 7))] [(.int (1 : Int32))]) _
    refine stp (fun _ => XS.istore X31.here hx rfl (hb hby d7_45) rfl (l' := #[.val (.ref t), .val (.long ka7), .second, .val (.int (7 : Int32)), .val (.int (1 : Int32)), .val (.int (own_at cs 7))]) rfl) ?_
    show Go p e below T31 (mkF m 47 #[.val (.ref t), .val (.long ka7), .second, .val (.int (7 : Int32)), .val (.int (1 : Int32)), .val (.int (own_at cs 7))] []) _
    refine stp (fun _ => XS.lloadN X31.here hx rfl (hb hby d7_47) rfl) ?_
    refine stp (fun _ => XS.bipush X31.here hx rfl (hb hby d7_48)) ?_
    show Go p e below T31 (mkF m 50 #[.val (.ref t), .val (.long ka7), .second, .val (.int (7 : Int32)), .val (.int (1 : Int32)), .val (.int (own_at cs 7))] [(.int (8 : Int32)), (.long ka7)]) _
    refine stp (fun _ => XS.lshl X31.here hx rfl (hb hby d7_50) rfl) ?_
    show Go p e below T31 (mkF m 51 #[.val (.ref t), .val (.long ka7), .second, .val (.int (7 : Int32)), .val (.int (1 : Int32)), .val (.int (own_at cs 7))] [(.long (ka7 <<< ((8 : Int32) &&& 0x3f).toInt64))]) _
    refine stp (fun _ => XS.iload X31.here hx rfl (hb hby d7_51) rfl) ?_
    show Go p e below T31 (mkF m 53 #[.val (.ref t), .val (.long ka7), .second, .val (.int (7 : Int32)), .val (.int (1 : Int32)), .val (.int (own_at cs 7))] [(.int (1 : Int32)), (.long (ka7 <<< ((8 : Int32) &&& 0x3f).toInt64))]) _
    refine stp (fun _ => XS.ifNo X31.here hx rfl (hb hby d7_53) rfl (by decide)) ?_
    show Go p e below T31 (mkF m 56 #[.val (.ref t), .val (.long ka7), .second, .val (.int (7 : Int32)), .val (.int (1 : Int32)), .val (.int (own_at cs 7))] [(.long (ka7 <<< ((8 : Int32) &&& 0x3f).toInt64))]) _
    refine stp (fun _ => XS.sipush X31.here hx rfl (hb hby d7_56)) ?_
    show Go p e below T31 (mkF m 59 #[.val (.ref t), .val (.long ka7), .second, .val (.int (7 : Int32)), .val (.int (1 : Int32)), .val (.int (own_at cs 7))] [(.int (255 : Int32)), (.long (ka7 <<< ((8 : Int32) &&& 0x3f).toInt64))]) _
    refine stp (fun _ => XS.goto X31.here hx rfl (pc0 := 59) (pc' := 64) rfl (hb hby d7_59) (by decide) (by decide)) ?_
    show Go p e below T31 (mkF m 64 #[.val (.ref t), .val (.long ka7), .second, .val (.int (7 : Int32)), .val (.int (1 : Int32)), .val (.int (own_at cs 7))] [(.int (255 : Int32)), (.long (ka7 <<< ((8 : Int32) &&& 0x3f).toInt64))]) _
    refine stp (fun _ => XS.i2l X31.here hx rfl (hb hby d7_64) rfl) ?_
    show Go p e below T31 (mkF m 65 #[.val (.ref t), .val (.long ka7), .second, .val (.int (7 : Int32)), .val (.int (1 : Int32)), .val (.int (own_at cs 7))] [(.long ((255 : Int32).toInt64)), (.long (ka7 <<< ((8 : Int32) &&& 0x3f).toInt64))]) _
    refine stp (fun _ => XS.lor X31.here hx rfl (hb hby d7_65) rfl) ?_
    show Go p e below T31 (mkF m 66 #[.val (.ref t), .val (.long ka7), .second, .val (.int (7 : Int32)), .val (.int (1 : Int32)), .val (.int (own_at cs 7))] [(.long ((ka7 <<< ((8 : Int32) &&& 0x3f).toInt64) ||| ((255 : Int32).toInt64)))]) _
    refine stp (fun _ => XS.lstoreN X31.here hx rfl (hb hby d7_66) rfl (l' := #[.val (.ref t), .val (.long ((ka7 <<< ((8 : Int32) &&& 0x3f).toInt64) ||| ((255 : Int32).toInt64))), .second, .val (.int (7 : Int32)), .val (.int (1 : Int32)), .val (.int (own_at cs 7))]) rfl) ?_
    show Go p e below T31 (mkF m 67 #[.val (.ref t), .val (.long ((ka7 <<< ((8 : Int32) &&& 0x3f).toInt64) ||| ((255 : Int32).toInt64))), .second, .val (.int (7 : Int32)), .val (.int (1 : Int32)), .val (.int (own_at cs 7))] []) _
    refine stp (fun _ => XS.iinc X31.here hx rfl (hb hby d7_67) rfl (l' := #[.val (.ref t), .val (.long ((ka7 <<< ((8 : Int32) &&& 0x3f).toInt64) ||| ((255 : Int32).toInt64))), .second, .val (.int (8 : Int32)), .val (.int (1 : Int32)), .val (.int (own_at cs 7))]) rfl) ?_
    show Go p e below T31 (mkF m 70 #[.val (.ref t), .val (.long ((ka7 <<< ((8 : Int32) &&& 0x3f).toInt64) ||| ((255 : Int32).toInt64))), .second, .val (.int (8 : Int32)), .val (.int (1 : Int32)), .val (.int (own_at cs 7))] []) _
    refine stp (fun _ => XS.goto X31.here hx rfl (pc0 := 70) (pc' := 7) rfl (hb hby d7_70) (by decide) (by decide)) ?_
    show Go p e below T31 (mkF m 7 #[.val (.ref t), .val (.long ((ka7 <<< ((8 : Int32) &&& 0x3f).toInt64) ||| ((255 : Int32).toInt64))), .second, .val (.int (8 : Int32)), .val (.int (1 : Int32)), .val (.int (own_at cs 7))] []) _
    obtain ⟨ka8, hka8⟩ : ∃ z : Int64, z = ((ka7 <<< ((8 : Int32) &&& 0x3f).toInt64) ||| ((255 : Int32).toInt64)) := ⟨_, rfl⟩
    rw [← hka8]
    show Go p e below T31 (mkF m 7 #[.val (.ref t), .val (.long ka8), .second, .val (.int (8 : Int32)), .val (.int (1 : Int32)), .val (.int (own_at cs 7))] []) _
    refine stp (fun _ => XS.iload X31.here hx rfl (hb hby d7_7) rfl) ?_
    show Go p e below T31 (mkF m 9 #[.val (.ref t), .val (.long ka8), .second, .val (.int (8 : Int32)), .val (.int (1 : Int32)), .val (.int (own_at cs 7))] [(.int (1 : Int32))]) _
    refine stp (fun _ => XS.ifYes X31.here hx rfl (pc0 := 9) (pc' := 73) rfl (hb hby d7_9) rfl (by decide) (by decide) (by decide)) ?_
    show Go p e below T31 (mkF m 73 #[.val (.ref t), .val (.long ka8), .second, .val (.int (8 : Int32)), .val (.int (1 : Int32)), .val (.int (own_at cs 7))] []) _
    refine stp (fun _ => XS.lloadN X31.here hx rfl (hb hby d7_73) rfl) ?_
    refine stp (fun _ => XS.bipush X31.here hx rfl (hb hby d7_74)) ?_
    refine stp (fun _ => XS.bipush X31.here hx rfl (hb hby d7_76)) ?_
    refine stp (fun _ => XS.iloadN X31.here hx rfl (hb hby d7_78) rfl) ?_
    show Go p e below T31 (mkF m 79 #[.val (.ref t), .val (.long ka8), .second, .val (.int (8 : Int32)), .val (.int (1 : Int32)), .val (.int (own_at cs 7))] [(.int (8 : Int32)), (.int (8 : Int32)), (.int (8 : Int32)), (.long ka8)]) _
    refine stp (fun _ => XS.isub X31.here hx rfl (hb hby d7_79) rfl) ?_
    show Go p e below T31 (mkF m 80 #[.val (.ref t), .val (.long ka8), .second, .val (.int (8 : Int32)), .val (.int (1 : Int32)), .val (.int (own_at cs 7))] [(.int (0 : Int32)), (.int (8 : Int32)), (.long ka8)]) _
    refine stp (fun _ => XS.imul X31.here hx rfl (hb hby d7_80) rfl) ?_
    show Go p e below T31 (mkF m 81 #[.val (.ref t), .val (.long ka8), .second, .val (.int (8 : Int32)), .val (.int (1 : Int32)), .val (.int (own_at cs 7))] [(.int (0 : Int32)), (.long ka8)]) _
    refine stp (fun _ => XS.lshl X31.here hx rfl (hb hby d7_81) rfl) ?_
    show Go p e below T31 (mkF m 82 #[.val (.ref t), .val (.long ka8), .second, .val (.int (8 : Int32)), .val (.int (1 : Int32)), .val (.int (own_at cs 7))] [(.long (ka8 <<< ((0 : Int32) &&& 0x3f).toInt64))]) _
    refine stp (fun _ => X31.ldc2Long hx hown (mvT hZ (hw _ (List.mem_of_getElem? (i := 49) rfl))) (g := (mkF m 82 #[.val (.ref t), .val (.long ka8), .second, .val (.int (8 : Int32)), .val (.int (1 : Int32)), .val (.int (own_at cs 7))] [(.long (ka8 <<< ((0 : Int32) &&& 0x3f).toInt64))])) rfl (hb hby d7_82) _) ?_
    show Go p e below T31 (mkF m 85 #[.val (.ref t), .val (.long ka8), .second, .val (.int (8 : Int32)), .val (.int (1 : Int32)), .val (.int (own_at cs 7))] [(.long (-9223372036854775808 : Int64)), (.long (ka8 <<< ((0 : Int32) &&& 0x3f).toInt64))]) _
    refine stp (fun _ => XS.lxor X31.here hx rfl (hb hby d7_85) rfl) ?_
    show Go p e below T31 (mkF m 86 #[.val (.ref t), .val (.long ka8), .second, .val (.int (8 : Int32)), .val (.int (1 : Int32)), .val (.int (own_at cs 7))] [(.long ((ka8 <<< ((0 : Int32) &&& 0x3f).toInt64) ^^^ (-9223372036854775808 : Int64)))]) _
    refine outJ X31 hx hret (hb hby d7_86) hlk (by decide) (by decide) ?_
    exact ⟨own_somej (by simp only [own_k0, own_k1, own_k2, own_k3, own_k4, own_k5, own_k6, own_k7, own_k8, own_fin, if_pos q23_2, if_neg q37_4, if_pos q23_6, if_neg q37_8, if_pos q23_10, if_neg q37_12, if_pos q23_14, if_neg q37_16, if_pos q23_18, if_neg q37_20, if_pos q23_22, if_neg q37_24, if_pos q23_26, if_neg q37_28, if_pos q23_30, if_pos q37_32, hka1, hka2, hka3, hka4, hka5, hka6, hka7, hka8]), N31, e31⟩
  refine stp (fun _ => XS.icmpYes X31.here hx rfl (pc0 := 37) (pc' := 44) rfl (hb hby d7_37) rfl (XT.ii_le_t q37_32) (by decide) (by decide)) ?_
  show Go p e below T31 (mkF m 44 #[.val (.ref t), .val (.long ka7), .second, .val (.int (7 : Int32)), .val (.int (0 : Int32)), .val (.int (own_at cs 7))] []) _
  refine stp (fun _ => XS.iconst X31.here hx rfl (hb hby d7_44)) ?_
  show Go p e below T31 (mkF m 45 #[.val (.ref t), .val (.long ka7), .second, .val (.int (7 : Int32)), .val (.int (0 : Int32)), .val (.int (own_at cs 7))] [(.int (0 : Int32))]) _
  refine stp (fun _ => XS.istore X31.here hx rfl (hb hby d7_45) rfl (l' := #[.val (.ref t), .val (.long ka7), .second, .val (.int (7 : Int32)), .val (.int (0 : Int32)), .val (.int (own_at cs 7))]) rfl) ?_
  show Go p e below T31 (mkF m 47 #[.val (.ref t), .val (.long ka7), .second, .val (.int (7 : Int32)), .val (.int (0 : Int32)), .val (.int (own_at cs 7))] []) _
  refine stp (fun _ => XS.lloadN X31.here hx rfl (hb hby d7_47) rfl) ?_
  refine stp (fun _ => XS.bipush X31.here hx rfl (hb hby d7_48)) ?_
  show Go p e below T31 (mkF m 50 #[.val (.ref t), .val (.long ka7), .second, .val (.int (7 : Int32)), .val (.int (0 : Int32)), .val (.int (own_at cs 7))] [(.int (8 : Int32)), (.long ka7)]) _
  refine stp (fun _ => XS.lshl X31.here hx rfl (hb hby d7_50) rfl) ?_
  show Go p e below T31 (mkF m 51 #[.val (.ref t), .val (.long ka7), .second, .val (.int (7 : Int32)), .val (.int (0 : Int32)), .val (.int (own_at cs 7))] [(.long (ka7 <<< ((8 : Int32) &&& 0x3f).toInt64))]) _
  refine stp (fun _ => XS.iload X31.here hx rfl (hb hby d7_51) rfl) ?_
  show Go p e below T31 (mkF m 53 #[.val (.ref t), .val (.long ka7), .second, .val (.int (7 : Int32)), .val (.int (0 : Int32)), .val (.int (own_at cs 7))] [(.int (0 : Int32)), (.long (ka7 <<< ((8 : Int32) &&& 0x3f).toInt64))]) _
  refine stp (fun _ => XS.ifYes X31.here hx rfl (pc0 := 53) (pc' := 62) rfl (hb hby d7_53) rfl (by decide) (by decide) (by decide)) ?_
  show Go p e below T31 (mkF m 62 #[.val (.ref t), .val (.long ka7), .second, .val (.int (7 : Int32)), .val (.int (0 : Int32)), .val (.int (own_at cs 7))] [(.long (ka7 <<< ((8 : Int32) &&& 0x3f).toInt64))]) _
  refine stp (fun _ => XS.iload X31.here hx rfl (hb hby d7_62) rfl) ?_
  show Go p e below T31 (mkF m 64 #[.val (.ref t), .val (.long ka7), .second, .val (.int (7 : Int32)), .val (.int (0 : Int32)), .val (.int (own_at cs 7))] [(.int (own_at cs 7)), (.long (ka7 <<< ((8 : Int32) &&& 0x3f).toInt64))]) _
  refine stp (fun _ => XS.i2l X31.here hx rfl (hb hby d7_64) rfl) ?_
  show Go p e below T31 (mkF m 65 #[.val (.ref t), .val (.long ka7), .second, .val (.int (7 : Int32)), .val (.int (0 : Int32)), .val (.int (own_at cs 7))] [(.long ((own_at cs 7).toInt64)), (.long (ka7 <<< ((8 : Int32) &&& 0x3f).toInt64))]) _
  refine stp (fun _ => XS.lor X31.here hx rfl (hb hby d7_65) rfl) ?_
  show Go p e below T31 (mkF m 66 #[.val (.ref t), .val (.long ka7), .second, .val (.int (7 : Int32)), .val (.int (0 : Int32)), .val (.int (own_at cs 7))] [(.long ((ka7 <<< ((8 : Int32) &&& 0x3f).toInt64) ||| ((own_at cs 7).toInt64)))]) _
  refine stp (fun _ => XS.lstoreN X31.here hx rfl (hb hby d7_66) rfl (l' := #[.val (.ref t), .val (.long ((ka7 <<< ((8 : Int32) &&& 0x3f).toInt64) ||| ((own_at cs 7).toInt64))), .second, .val (.int (7 : Int32)), .val (.int (0 : Int32)), .val (.int (own_at cs 7))]) rfl) ?_
  show Go p e below T31 (mkF m 67 #[.val (.ref t), .val (.long ((ka7 <<< ((8 : Int32) &&& 0x3f).toInt64) ||| ((own_at cs 7).toInt64))), .second, .val (.int (7 : Int32)), .val (.int (0 : Int32)), .val (.int (own_at cs 7))] []) _
  refine stp (fun _ => XS.iinc X31.here hx rfl (hb hby d7_67) rfl (l' := #[.val (.ref t), .val (.long ((ka7 <<< ((8 : Int32) &&& 0x3f).toInt64) ||| ((own_at cs 7).toInt64))), .second, .val (.int (8 : Int32)), .val (.int (0 : Int32)), .val (.int (own_at cs 7))]) rfl) ?_
  show Go p e below T31 (mkF m 70 #[.val (.ref t), .val (.long ((ka7 <<< ((8 : Int32) &&& 0x3f).toInt64) ||| ((own_at cs 7).toInt64))), .second, .val (.int (8 : Int32)), .val (.int (0 : Int32)), .val (.int (own_at cs 7))] []) _
  refine stp (fun _ => XS.goto X31.here hx rfl (pc0 := 70) (pc' := 7) rfl (hb hby d7_70) (by decide) (by decide)) ?_
  show Go p e below T31 (mkF m 7 #[.val (.ref t), .val (.long ((ka7 <<< ((8 : Int32) &&& 0x3f).toInt64) ||| ((own_at cs 7).toInt64))), .second, .val (.int (8 : Int32)), .val (.int (0 : Int32)), .val (.int (own_at cs 7))] []) _
  obtain ⟨ka8, hka8⟩ : ∃ z : Int64, z = ((ka7 <<< ((8 : Int32) &&& 0x3f).toInt64) ||| ((own_at cs 7).toInt64)) := ⟨_, rfl⟩
  rw [← hka8]
  show Go p e below T31 (mkF m 7 #[.val (.ref t), .val (.long ka8), .second, .val (.int (8 : Int32)), .val (.int (0 : Int32)), .val (.int (own_at cs 7))] []) _
  refine stp (fun _ => XS.iload X31.here hx rfl (hb hby d7_7) rfl) ?_
  show Go p e below T31 (mkF m 9 #[.val (.ref t), .val (.long ka8), .second, .val (.int (8 : Int32)), .val (.int (0 : Int32)), .val (.int (own_at cs 7))] [(.int (0 : Int32))]) _
  refine stp (fun _ => XS.ifNo X31.here hx rfl (hb hby d7_9) rfl (by decide)) ?_
  show Go p e below T31 (mkF m 12 #[.val (.ref t), .val (.long ka8), .second, .val (.int (8 : Int32)), .val (.int (0 : Int32)), .val (.int (own_at cs 7))] []) _
  refine stp (fun _ => XS.iloadN X31.here hx rfl (hb hby d7_12) rfl) ?_
  refine stp (fun _ => XS.bipush X31.here hx rfl (hb hby d7_13)) ?_
  show Go p e below T31 (mkF m 15 #[.val (.ref t), .val (.long ka8), .second, .val (.int (8 : Int32)), .val (.int (0 : Int32)), .val (.int (own_at cs 7))] [(.int (8 : Int32)), (.int (8 : Int32))]) _
  refine stp (fun _ => XS.icmpYes X31.here hx rfl (pc0 := 15) (pc' := 73) rfl (hb hby d7_15) rfl (by decide) (by decide) (by decide)) ?_
  show Go p e below T31 (mkF m 73 #[.val (.ref t), .val (.long ka8), .second, .val (.int (8 : Int32)), .val (.int (0 : Int32)), .val (.int (own_at cs 7))] []) _
  refine stp (fun _ => XS.lloadN X31.here hx rfl (hb hby d7_73) rfl) ?_
  refine stp (fun _ => XS.bipush X31.here hx rfl (hb hby d7_74)) ?_
  refine stp (fun _ => XS.bipush X31.here hx rfl (hb hby d7_76)) ?_
  refine stp (fun _ => XS.iloadN X31.here hx rfl (hb hby d7_78) rfl) ?_
  show Go p e below T31 (mkF m 79 #[.val (.ref t), .val (.long ka8), .second, .val (.int (8 : Int32)), .val (.int (0 : Int32)), .val (.int (own_at cs 7))] [(.int (8 : Int32)), (.int (8 : Int32)), (.int (8 : Int32)), (.long ka8)]) _
  refine stp (fun _ => XS.isub X31.here hx rfl (hb hby d7_79) rfl) ?_
  show Go p e below T31 (mkF m 80 #[.val (.ref t), .val (.long ka8), .second, .val (.int (8 : Int32)), .val (.int (0 : Int32)), .val (.int (own_at cs 7))] [(.int (0 : Int32)), (.int (8 : Int32)), (.long ka8)]) _
  refine stp (fun _ => XS.imul X31.here hx rfl (hb hby d7_80) rfl) ?_
  show Go p e below T31 (mkF m 81 #[.val (.ref t), .val (.long ka8), .second, .val (.int (8 : Int32)), .val (.int (0 : Int32)), .val (.int (own_at cs 7))] [(.int (0 : Int32)), (.long ka8)]) _
  refine stp (fun _ => XS.lshl X31.here hx rfl (hb hby d7_81) rfl) ?_
  show Go p e below T31 (mkF m 82 #[.val (.ref t), .val (.long ka8), .second, .val (.int (8 : Int32)), .val (.int (0 : Int32)), .val (.int (own_at cs 7))] [(.long (ka8 <<< ((0 : Int32) &&& 0x3f).toInt64))]) _
  refine stp (fun _ => X31.ldc2Long hx hown (mvT hZ (hw _ (List.mem_of_getElem? (i := 49) rfl))) (g := (mkF m 82 #[.val (.ref t), .val (.long ka8), .second, .val (.int (8 : Int32)), .val (.int (0 : Int32)), .val (.int (own_at cs 7))] [(.long (ka8 <<< ((0 : Int32) &&& 0x3f).toInt64))])) rfl (hb hby d7_82) _) ?_
  show Go p e below T31 (mkF m 85 #[.val (.ref t), .val (.long ka8), .second, .val (.int (8 : Int32)), .val (.int (0 : Int32)), .val (.int (own_at cs 7))] [(.long (-9223372036854775808 : Int64)), (.long (ka8 <<< ((0 : Int32) &&& 0x3f).toInt64))]) _
  refine stp (fun _ => XS.lxor X31.here hx rfl (hb hby d7_85) rfl) ?_
  show Go p e below T31 (mkF m 86 #[.val (.ref t), .val (.long ka8), .second, .val (.int (8 : Int32)), .val (.int (0 : Int32)), .val (.int (own_at cs 7))] [(.long ((ka8 <<< ((0 : Int32) &&& 0x3f).toInt64) ^^^ (-9223372036854775808 : Int64)))]) _
  refine outJ X31 hx hret (hb hby d7_86) hlk (by decide) (by decide) ?_
  exact ⟨own_somej (by simp only [own_k0, own_k1, own_k2, own_k3, own_k4, own_k5, own_k6, own_k7, own_k8, own_fin, if_pos q23_2, if_neg q37_4, if_pos q23_6, if_neg q37_8, if_pos q23_10, if_neg q37_12, if_pos q23_14, if_neg q37_16, if_pos q23_18, if_neg q37_20, if_pos q23_22, if_neg q37_24, if_pos q23_26, if_neg q37_28, if_pos q23_30, if_neg q37_32, hka1, hka2, hka3, hka4, hka5, hka6, hka7, hka8]), N31, e31⟩
theorem pd_17 : parseMethodDescriptor "(JIII)C" = some ⟨[.long, .int, .int, .int], some .char⟩ := by decide +kernel
theorem pd_18 : parseMethodDescriptor "([CI)Ljava/lang/String;" = some ⟨[(.array .char), .int], some (.object "java/lang/String")⟩ := by decide +kernel
theorem pd_19 : parseMethodDescriptor "(ZC)J" = some ⟨[.boolean, .char], some .long⟩ := by decide +kernel
theorem pd_20 : parseMethodDescriptor "(Ljava/lang/String;)J" = some ⟨[(.object "java/lang/String")], some .long⟩ := by decide +kernel
theorem ef_rm0 (m : MethodId) (le : Int32) (wa : Int64) (wb : Int64) (wc : Int64) (se : Int32)  : entryFrame m #[(.int le), (.long wa), (.long wb), (.long wc), (.int se)] maxLocals = mkF m 0 #[.val (.int le), .val (.long wa), .second, .val (.long wb), .second, .val (.long wc), .second, .val (.int se), .unset, .unset, .unset, .unset, .unset, .unset, .unset, .unset, .unset, .unset, .unset, .unset, .unset] [] := by first | (simp [entryFrame, mkF, argsToLocals, Value.category, maxLocals]; done) | rfl
def Q_rm0 (Z : State) (le : Int32) (wa : Int64) (wb : Int64) (wc : Int64) (se : Int32) (cz : Int32) (fm : Value) (h0 : Heap) (n0 : Nat) (v : Option Value) (h : Heap) (L : List Loc) : Prop := v = some (.int 1) ∧ Fr n0 L
theorem pn_24_ : plainName "com/example/heedful_rank/heedfulrank/history/ByteOrderPrefixKeyPinLaw" = true := by first | (simp [plainName, overriddenIn]; done) | decide +kernel
theorem pn_24 : plainFor (⟨"com/example/heedful_rank/heedfulrank/history/ByteOrderPrefixKeyPinLaw", "law", "(IJJJI)Z"⟩ : MethodName) = true := plainFor_of_name pn_24_
set_option maxRecDepth 65536 in
set_option maxHeartbeats 40000000 in
theorem rm0 (l : Launch) (Z : State) (a0 : Array Value) (hw : ∀ d ∈ tables_1, d.before a0 Z = true) (ws : List Jvm.Cond) (le : Int32) (wa : Int64) (wb : Int64) (wc : Int64) (se : Int32) (cz : Int32) (fm : Value) (h0 : Heap) (n0 : Nat) (O0 : Old Z n0 h0) (hEL : EW Z a0 consts_1) (S_CS : Sta Z Z.heap "java/lang/String" "COMPACT_STRINGS" "Z" (.int cz)) (hcz : ¬ cz = (0 : Int32)) (S_FM : Sta Z Z.heap "jdk/internal/util/Preconditions" "SIOOBE_FORMATTER" "Ljava/util/function/BiFunction;" fm) (hfm : fm.isRef = true) (S_AS : Sta Z Z.heap "java/lang/StringUTF16" "$assertionsDisabled" "Z" (.int (1 : Int32))) (S_HI : Sta Z Z.heap "java/lang/StringUTF16" "HI_BYTE_SHIFT" "I" (.int (0 : Int32))) (S_LO : Sta Z Z.heap "java/lang/StringUTF16" "LO_BYTE_SHIFT" "I" (.int (8 : Int32))) :
    MetFree l x (head1 (Jvm.Cond.code x code maxLocals ret :: ws) room_1) (fun args_ U => args_ = #[(.int le), (.long wa), (.long wb), (.long wc), (.int se)] ∧ Z.Warmed39 U.vm ∧ U.heap = h0 ∧ CHv Z consts_1 U.vm h0) (fun _ _ _ _ _ => True) (fun _ U out_ U' => ∃ val_ loc_, out_ = .returned val_ ∧ (Q_rm0 Z le wa wb wc se cz fm h0 n0) val_ U'.heap loc_ ∧ CHr Z consts_1 U.vm U.heap U'.vm U'.heap ∧ ReturnedEndW U out_ U' loc_ 5 52) := by
  refine startW (Q := (Q_rm0 Z le wa wb wc se cz fm h0 n0)) (show plainFor x = true from pn_24) ?_
  intro p e s m below meth c T0 X0 hx hby hml hown hnm hret hlk hZ e0 hS CR
  have hk : 0 ≤ h0.size := Nat.zero_le _
  have wS : ∀ a ∈ Bundle.stringAtoms, a.before a0 Z = true := own_wS hw
  replace hown : s.vm.findClass "com/example/heedful_rank/heedfulrank/history/ByteOrderPrefixKeyPinLaw" = some m.cls := hown
  replace hml : c.maxLocals = 21 := hml
  refine goAt (ef_rm0 m le wa wb wc se ) ?_
  have N0 := Fr.nil n0
  show Go p e below T0 (mkF m 0 #[.val (.int le), .val (.long wa), .second, .val (.long wb), .second, .val (.long wc), .second, .val (.int se), .unset, .unset, .unset, .unset, .unset, .unset, .unset, .unset, .unset, .unset, .unset, .unset, .unset] []) _
  refine stp (fun _ => XS.iloadN X0.here hx rfl (hb hby at_0) rfl) ?_
  show Go p e below T0 (mkF m 1 #[.val (.int le), .val (.long wa), .second, .val (.long wb), .second, .val (.long wc), .second, .val (.int se), .unset, .unset, .unset, .unset, .unset, .unset, .unset, .unset, .unset, .unset, .unset, .unset, .unset] [(.int le)]) _
  refine stp (fun _ => X0.ldcInt hx hown (mvT hZ (hw _ (List.mem_of_getElem? (i := 0) rfl))) (g := (mkF m 1 #[.val (.int le), .val (.long wa), .second, .val (.long wb), .second, .val (.long wc), .second, .val (.int se), .unset, .unset, .unset, .unset, .unset, .unset, .unset, .unset, .unset, .unset, .unset, .unset, .unset] [(.int le)])) rfl (hb hby at_1) _) ?_
  show Go p e below T0 (mkF m 3 #[.val (.int le), .val (.long wa), .second, .val (.long wb), .second, .val (.long wc), .second, .val (.int se), .unset, .unset, .unset, .unset, .unset, .unset, .unset, .unset, .unset, .unset, .unset, .unset, .unset] [(.int (2147483647 : Int32)), (.int le)]) _
  refine stp (fun _ => XS.iand X0.here hx rfl (hb hby at_3) rfl) ?_
  show Go p e below T0 (mkF m 4 #[.val (.int le), .val (.long wa), .second, .val (.long wb), .second, .val (.long wc), .second, .val (.int se), .unset, .unset, .unset, .unset, .unset, .unset, .unset, .unset, .unset, .unset, .unset, .unset, .unset] [(.int (le &&& (2147483647 : Int32)))]) _
  refine stp (fun _ => XS.bipush X0.here hx rfl (hb hby at_4)) ?_
  show Go p e below T0 (mkF m 6 #[.val (.int le), .val (.long wa), .second, .val (.long wb), .second, .val (.long wc), .second, .val (.int se), .unset, .unset, .unset, .unset, .unset, .unset, .unset, .unset, .unset, .unset, .unset, .unset, .unset] [(.int (10 : Int32)), (.int (le &&& (2147483647 : Int32)))]) _
  refine stp (fun _ => iremM X0 hx rfl (hb hby at_6) rfl (by decide)) ?_
  show Go p e below T0 (mkF m 7 #[.val (.int le), .val (.long wa), .second, .val (.long wb), .second, .val (.long wc), .second, .val (.int se), .unset, .unset, .unset, .unset, .unset, .unset, .unset, .unset, .unset, .unset, .unset, .unset, .unset] [(.int ((le &&& (2147483647 : Int32)) % (10 : Int32)))]) _
  refine stp (fun _ => XS.istore X0.here hx rfl (hb hby at_7) rfl (l' := #[.val (.int le), .val (.long wa), .second, .val (.long wb), .second, .val (.long wc), .second, .val (.int se), .val (.int ((le &&& (2147483647 : Int32)) % (10 : Int32))), .unset, .unset, .unset, .unset, .unset, .unset, .unset, .unset, .unset, .unset, .unset, .unset]) rfl) ?_
  show Go p e below T0 (mkF m 9 #[.val (.int le), .val (.long wa), .second, .val (.long wb), .second, .val (.long wc), .second, .val (.int se), .val (.int ((le &&& (2147483647 : Int32)) % (10 : Int32))), .unset, .unset, .unset, .unset, .unset, .unset, .unset, .unset, .unset, .unset, .unset, .unset] []) _
  obtain ⟨n, hn⟩ : ∃ z : Int32, z = ((le &&& (2147483647 : Int32)) % (10 : Int32)) := ⟨_, rfl⟩
  rw [← hn]
  show Go p e below T0 (mkF m 9 #[.val (.int le), .val (.long wa), .second, .val (.long wb), .second, .val (.long wc), .second, .val (.int se), .val (.int n), .unset, .unset, .unset, .unset, .unset, .unset, .unset, .unset, .unset, .unset, .unset, .unset] []) _
  replace hn := own_n10 hn
  refine stp (fun _ => XS.bipush X0.here hx rfl (hb hby at_9)) ?_
  show Go p e below T0 (mkF m 11 #[.val (.int le), .val (.long wa), .second, .val (.long wb), .second, .val (.long wc), .second, .val (.int se), .val (.int n), .unset, .unset, .unset, .unset, .unset, .unset, .unset, .unset, .unset, .unset, .unset, .unset] [(.int (9 : Int32))]) _
  obtain ⟨T1, h1, k1, X1, e1, E1, A1, B1, st1⟩ := newPE X0 hx hZ (hw _ (List.mem_of_getElem? (i := 1) rfl)) e0 (g := (mkF m 11 #[.val (.int le), .val (.long wa), .second, .val (.long wb), .second, .val (.long wc), .second, .val (.int se), .val (.int n), .unset, .unset, .unset, .unset, .unset, .unset, .unset, .unset, .unset, .unset, .unset, .unset] [(.int (9 : Int32))])) rfl (hb hby at_11) rfl (by decide) (cap := 9) (by decide) (by decide) (by decide) (by decide) (ad := "[C") (by decide)
  obtain ⟨b1, g1⟩ : ∃ z, z = h0.size := ⟨_, rfl⟩
  rw [← g1] at A1 B1 st1
  have sz_b1 : h0.size ≤ b1 := Nat.le_trans (Keep.refl h0 []).1 (Nat.le_of_eq g1.symm)
  have ge_b1 : n0 ≤ b1 := Nat.le_trans (old_le O0) (Nat.le_of_eq g1.symm)
  have hk := Nat.le_trans hk E1.1
  have CR := CR.trans (CHr.ext E1 CR.1)
  have K1 : Keep h0 h1 [] := (Keep.refl h0 []).ext E1
  have O1 := O0.ext E1
  have V1 : Arv Z h1 b1 k1 .char (9 : Int32) [(.int (0 : Int32)), (.int (0 : Int32)), (.int (0 : Int32)), (.int (0 : Int32)), (.int (0 : Int32)), (.int (0 : Int32)), (.int (0 : Int32)), (.int (0 : Int32)), (.int (0 : Int32))] (.int (0 : Int32)) := (Arv.new A1 (by decide)).pad (pad_rep [] (.int (0 : Int32)) 9)
  refine stp st1 ?_
  show Go p e below T1 (mkF m 13 #[.val (.int le), .val (.long wa), .second, .val (.long wb), .second, .val (.long wc), .second, .val (.int se), .val (.int n), .unset, .unset, .unset, .unset, .unset, .unset, .unset, .unset, .unset, .unset, .unset, .unset] [(.ref b1)]) _
  refine stp (fun _ => XS.astore X1.here hx rfl (hb hby at_13) rfl rfl (l' := #[.val (.int le), .val (.long wa), .second, .val (.long wb), .second, .val (.long wc), .second, .val (.int se), .val (.int n), .val (.ref b1), .unset, .unset, .unset, .unset, .unset, .unset, .unset, .unset, .unset, .unset, .unset]) rfl) ?_
  show Go p e below T1 (mkF m 15 #[.val (.int le), .val (.long wa), .second, .val (.long wb), .second, .val (.long wc), .second, .val (.int se), .val (.int n), .val (.ref b1), .unset, .unset, .unset, .unset, .unset, .unset, .unset, .unset, .unset, .unset, .unset] []) _
  refine stp (fun _ => XS.aload X1.here hx rfl (hb hby at_15) rfl rfl) ?_
  refine stp (fun _ => XS.iconst X1.here hx rfl (hb hby at_17)) ?_
  refine stp (fun _ => XS.lloadN X1.here hx rfl (hb hby at_18) rfl) ?_
  refine stp (fun _ => XS.iconst X1.here hx rfl (hb hby at_19)) ?_
  refine stp (fun _ => XS.iload X1.here hx rfl (hb hby at_20) rfl) ?_
  show Go p e below T1 (mkF m 22 #[.val (.int le), .val (.long wa), .second, .val (.long wb), .second, .val (.long wc), .second, .val (.int se), .val (.int n), .val (.ref b1), .unset, .unset, .unset, .unset, .unset, .unset, .unset, .unset, .unset, .unset, .unset] [(.int se), (.int (0 : Int32)), (.long wa), (.int (0 : Int32)), (.ref b1)]) _
  refine stp (fun _ => XS.iconst X1.here hx rfl (hb hby at_22)) ?_
  show Go p e below T1 (mkF m 23 #[.val (.int le), .val (.long wa), .second, .val (.long wb), .second, .val (.long wc), .second, .val (.int se), .val (.int n), .val (.ref b1), .unset, .unset, .unset, .unset, .unset, .unset, .unset, .unset, .unset, .unset, .unset] [(.int (0 : Int32)), (.int se), (.int (0 : Int32)), (.long wa), (.int (0 : Int32)), (.ref b1)]) _
  obtain ⟨_, _, ⟨T2, L2, k2, n2⟩, -, X2, ⟨Lc2, hQ2, l2, y2, z2⟩, st2⟩ := Jvm.LawKit.callS X1 hx (y := (⟨"com/example/heedful_rank/heedfulrank/history/ByteOrderPrefixKeyPinLaw", "ch", "(JIII)C"⟩ : MethodName)) hown (mvT hZ (hw _ (List.mem_of_getElem? (i := 2) rfl))) (mvT hZ (hw _ (List.mem_of_getElem? (i := 3) rfl))) (mvT hZ (hw _ (List.mem_of_getElem? (i := 4) rfl))) (mvT hZ (hw _ (List.mem_of_getElem? (i := 5) rfl))) (by decide) (backOf (W := 2) (rm_ch l Z a0 hw [] wa (0 : Int32) se (0 : Int32)  h1 n0 O1 ) hZ (hw _ (List.mem_of_getElem? (i := 5) rfl)) (hw _ (List.mem_of_getElem? (i := 4) rfl)) (by decide) (by decide)) (g := (mkF m 23 #[.val (.int le), .val (.long wa), .second, .val (.long wb), .second, .val (.long wc), .second, .val (.int se), .val (.int n), .val (.ref b1), .unset, .unset, .unset, .unset, .unset, .unset, .unset, .unset, .unset, .unset, .unset] [(.int (0 : Int32)), (.int se), (.int (0 : Int32)), (.long wa), (.int (0 : Int32)), (.ref b1)])) rfl (by rw [hml]; rfl) (argsL := [(.long wa), (.int (0 : Int32)), (.int se), (.int (0 : Int32))]) (rest := [(.int (0 : Int32)), (.ref b1)]) (lenOf pd_17 rfl) rfl (by show 2 * 0 + _ ≤ _; exact Nat.le_of_eq rfl) (hb hby at_23) (fun _ _ => ⟨rfl, e1, (by decide : 1 + 0 ≤ _), (by decide : 9 + 0 ≤ _)⟩)
  dsimp only [Pt.U, Pt.locs, Pt.cells, Pt.slots] at X2 l2 y2 z2 st2 hQ2
  subst y2 z2
  obtain ⟨rfl, N2q, e2⟩ := hQ2
  have N2 : Fr n0 L2 := by rw [l2]; exact Fr.app N0 N2q
  refine stp st2 ?_
  show Go p e below T2 (mkF m 26 #[.val (.int le), .val (.long wa), .second, .val (.long wb), .second, .val (.long wc), .second, .val (.int se), .val (.int n), .val (.ref b1), .unset, .unset, .unset, .unset, .unset, .unset, .unset, .unset, .unset, .unset, .unset] [(.int (own_ch wa (0 : Int32) se (0 : Int32))), (.int (0 : Int32)), (.ref b1)]) _
  obtain ⟨cl3, Ar3, q3, S3, M3, H3, G3⟩ := (id V1)
  have in3 : ¬ ((0 : Int32) < 0 ∨ cl3.slots.size ≤ ((0 : Int32)).toNatClampNeg) := inb_of S3 ⟨by decide, by decide⟩
  obtain ⟨T3, h3, X3, e3, W3, st3⟩ := stC X2 hx hZ e2 Ar3 (j := (0 : Int32)) in3 (g := (mkF m 26 #[.val (.int le), .val (.long wa), .second, .val (.long wb), .second, .val (.long wc), .second, .val (.int se), .val (.int n), .val (.ref b1), .unset, .unset, .unset, .unset, .unset, .unset, .unset, .unset, .unset, .unset, .unset] [(.int (own_ch wa (0 : Int32) se (0 : Int32))), (.int (0 : Int32)), (.ref b1)])) rfl rfl (hb hby at_26)
  have V3 : Arv Z h3 b1 k1 .char (9 : Int32) [(.int (own_ch wa (0 : Int32) se (0 : Int32))), (.int (0 : Int32)), (.int (0 : Int32)), (.int (0 : Int32)), (.int (0 : Int32)), (.int (0 : Int32)), (.int (0 : Int32)), (.int (0 : Int32)), (.int (0 : Int32))] (.int (0 : Int32)) := Arv.set Ar3 q3 S3 M3 H3 G3 (ow_fits_char (own_cs16 (own_ch_sm ..))) (ow_wr_char (own_cs16 (own_ch_sm ..)) W3) 0 rfl (Nat.le_of_ble_eq_true rfl)
  have f4 := B1.wr W3
  have hk := Nat.le_trans hk (Keep.of_wr W3).1
  have CR := CR.trans (CHr.wr W3 (Safe.exa hZ.alike B1 (by decide) (by decide)) CR.1)
  have K3 : Keep h0 h3 [] := K1.wr W3 (Or.inr sz_b1)
  have O3 := O1.wr W3 ge_b1
  have N3 := Fr.snoc X3 N2 ge_b1
  refine stp st3 ?_
  show Go p e below T3 (mkF m 27 #[.val (.int le), .val (.long wa), .second, .val (.long wb), .second, .val (.long wc), .second, .val (.int se), .val (.int n), .val (.ref b1), .unset, .unset, .unset, .unset, .unset, .unset, .unset, .unset, .unset, .unset, .unset] []) _
  refine stp (fun _ => XS.aload X3.here hx rfl (hb hby at_27) rfl rfl) ?_
  refine stp (fun _ => XS.iconst X3.here hx rfl (hb hby at_29)) ?_
  refine stp (fun _ => XS.lloadN X3.here hx rfl (hb hby at_30) rfl) ?_
  refine stp (fun _ => XS.bipush X3.here hx rfl (hb hby at_31)) ?_
  refine stp (fun _ => XS.iload X3.here hx rfl (hb hby at_33) rfl) ?_
  show Go p e below T3 (mkF m 35 #[.val (.int le), .val (.long wa), .second, .val (.long wb), .second, .val (.long wc), .second, .val (.int se), .val (.int n), .val (.ref b1), .unset, .unset, .unset, .unset, .unset, .unset, .unset, .unset, .unset, .unset, .unset] [(.int se), (.int (16 : Int32)), (.long wa), (.int (1 : Int32)), (.ref b1)]) _
  refine stp (fun _ => XS.iconst X3.here hx rfl (hb hby at_35)) ?_
  show Go p e below T3 (mkF m 36 #[.val (.int le), .val (.long wa), .second, .val (.long wb), .second, .val (.long wc), .second, .val (.int se), .val (.int n), .val (.ref b1), .unset, .unset, .unset, .unset, .unset, .unset, .unset, .unset, .unset, .unset, .unset] [(.int (1 : Int32)), (.int se), (.int (16 : Int32)), (.long wa), (.int (1 : Int32)), (.ref b1)]) _
  obtain ⟨_, _, ⟨T6, L6, k6, n6⟩, -, X6, ⟨Lc6, hQ6, l6, y6, z6⟩, st6⟩ := Jvm.LawKit.callS X3 hx (y := (⟨"com/example/heedful_rank/heedfulrank/history/ByteOrderPrefixKeyPinLaw", "ch", "(JIII)C"⟩ : MethodName)) hown (mvT hZ (hw _ (List.mem_of_getElem? (i := 2) rfl))) (mvT hZ (hw _ (List.mem_of_getElem? (i := 3) rfl))) (mvT hZ (hw _ (List.mem_of_getElem? (i := 4) rfl))) (mvT hZ (hw _ (List.mem_of_getElem? (i := 5) rfl))) (by decide) (backOf (W := 2) (rm_ch l Z a0 hw [] wa (16 : Int32) se (1 : Int32)  h3 n0 O3 ) hZ (hw _ (List.mem_of_getElem? (i := 5) rfl)) (hw _ (List.mem_of_getElem? (i := 4) rfl)) (by decide) (by decide)) (g := (mkF m 36 #[.val (.int le), .val (.long wa), .second, .val (.long wb), .second, .val (.long wc), .second, .val (.int se), .val (.int n), .val (.ref b1), .unset, .unset, .unset, .unset, .unset, .unset, .unset, .unset, .unset, .unset, .unset] [(.int (1 : Int32)), (.int se), (.int (16 : Int32)), (.long wa), (.int (1 : Int32)), (.ref b1)])) rfl (by rw [hml]; rfl) (argsL := [(.long wa), (.int (16 : Int32)), (.int se), (.int (1 : Int32))]) (rest := [(.int (1 : Int32)), (.ref b1)]) (lenOf pd_17 rfl) rfl (by show 2 * 0 + _ ≤ _; exact Nat.le_of_eq rfl) (hb hby at_36) (fun _ _ => ⟨rfl, e3, (by decide : 1 + 0 ≤ _), (by decide : 9 + 0 ≤ _)⟩)
  dsimp only [Pt.U, Pt.locs, Pt.cells, Pt.slots] at X6 l6 y6 z6 st6 hQ6
  subst y6 z6
  obtain ⟨rfl, N6q, e6⟩ := hQ6
  have N6 : Fr n0 L6 := by rw [l6]; exact Fr.app N3 N6q
  refine stp st6 ?_
  show Go p e below T6 (mkF m 39 #[.val (.int le), .val (.long wa), .second, .val (.long wb), .second, .val (.long wc), .second, .val (.int se), .val (.int n), .val (.ref b1), .unset, .unset, .unset, .unset, .unset, .unset, .unset, .unset, .unset, .unset, .unset] [(.int (own_ch wa (16 : Int32) se (1 : Int32))), (.int (1 : Int32)), (.ref b1)]) _
  obtain ⟨cl7, Ar7, q7, S7, M7, H7, G7⟩ := (id V3)
  have in7 : ¬ ((1 : Int32) < 0 ∨ cl7.slots.size ≤ ((1 : Int32)).toNatClampNeg) := inb_of S7 ⟨by decide, by decide⟩
  obtain ⟨T7, h7, X7, e7, W7, st7⟩ := stC X6 hx hZ e6 Ar7 (j := (1 : Int32)) in7 (g := (mkF m 39 #[.val (.int le), .val (.long wa), .second, .val (.long wb), .second, .val (.long wc), .second, .val (.int se), .val (.int n), .val (.ref b1), .unset, .unset, .unset, .unset, .unset, .unset, .unset, .unset, .unset, .unset, .unset] [(.int (own_ch wa (16 : Int32) se (1 : Int32))), (.int (1 : Int32)), (.ref b1)])) rfl rfl (hb hby at_39)
  have V7 : Arv Z h7 b1 k1 .char (9 : Int32) [(.int (own_ch wa (0 : Int32) se (0 : Int32))), (.int (own_ch wa (16 : Int32) se (1 : Int32))), (.int (0 : Int32)), (.int (0 : Int32)), (.int (0 : Int32)), (.int (0 : Int32)), (.int (0 : Int32)), (.int (0 : Int32)), (.int (0 : Int32))] (.int (0 : Int32)) := Arv.set Ar7 q7 S7 M7 H7 G7 (ow_fits_char (own_cs16 (own_ch_sm ..))) (ow_wr_char (own_cs16 (own_ch_sm ..)) W7) 1 rfl (Nat.le_of_ble_eq_true rfl)
  have f8 := f4.wr W7
  have hk := Nat.le_trans hk (Keep.of_wr W7).1
  have CR := CR.trans (CHr.wr W7 (Safe.exa hZ.alike f4 (by decide) (by decide)) CR.1)
  have K7 : Keep h0 h7 [] := K3.wr W7 (Or.inr sz_b1)
  have O7 := O3.wr W7 ge_b1
  have N7 := Fr.snoc X7 N6 ge_b1
  refine stp st7 ?_
  show Go p e below T7 (mkF m 40 #[.val (.int le), .val (.long wa), .second, .val (.long wb), .second, .val (.long wc), .second, .val (.int se), .val (.int n), .val (.ref b1), .unset, .unset, .unset, .unset, .unset, .unset, .unset, .unset, .unset, .unset, .unset] []) _
  refine stp (fun _ => XS.aload X7.here hx rfl (hb hby at_40) rfl rfl) ?_
  refine stp (fun _ => XS.iconst X7.here hx rfl (hb hby at_42)) ?_
  refine stp (fun _ => XS.lloadN X7.here hx rfl (hb hby at_43) rfl) ?_
  refine stp (fun _ => XS.bipush X7.here hx rfl (hb hby at_44)) ?_
  refine stp (fun _ => XS.iload X7.here hx rfl (hb hby at_46) rfl) ?_
  show Go p e below T7 (mkF m 48 #[.val (.int le), .val (.long wa), .second, .val (.long wb), .second, .val (.long wc), .second, .val (.int se), .val (.int n), .val (.ref b1), .unset, .unset, .unset, .unset, .unset, .unset, .unset, .unset, .unset, .unset, .unset] [(.int se), (.int (32 : Int32)), (.long wa), (.int (2 : Int32)), (.ref b1)]) _
  refine stp (fun _ => XS.iconst X7.here hx rfl (hb hby at_48)) ?_
  show Go p e below T7 (mkF m 49 #[.val (.int le), .val (.long wa), .second, .val (.long wb), .second, .val (.long wc), .second, .val (.int se), .val (.int n), .val (.ref b1), .unset, .unset, .unset, .unset, .unset, .unset, .unset, .unset, .unset, .unset, .unset] [(.int (2 : Int32)), (.int se), (.int (32 : Int32)), (.long wa), (.int (2 : Int32)), (.ref b1)]) _
  obtain ⟨_, _, ⟨T10, L10, k10, n10⟩, -, X10, ⟨Lc10, hQ10, l10, y10, z10⟩, st10⟩ := Jvm.LawKit.callS X7 hx (y := (⟨"com/example/heedful_rank/heedfulrank/history/ByteOrderPrefixKeyPinLaw", "ch", "(JIII)C"⟩ : MethodName)) hown (mvT hZ (hw _ (List.mem_of_getElem? (i := 2) rfl))) (mvT hZ (hw _ (List.mem_of_getElem? (i := 3) rfl))) (mvT hZ (hw _ (List.mem_of_getElem? (i := 4) rfl))) (mvT hZ (hw _ (List.mem_of_getElem? (i := 5) rfl))) (by decide) (backOf (W := 2) (rm_ch l Z a0 hw [] wa (32 : Int32) se (2 : Int32)  h7 n0 O7 ) hZ (hw _ (List.mem_of_getElem? (i := 5) rfl)) (hw _ (List.mem_of_getElem? (i := 4) rfl)) (by decide) (by decide)) (g := (mkF m 49 #[.val (.int le), .val (.long wa), .second, .val (.long wb), .second, .val (.long wc), .second, .val (.int se), .val (.int n), .val (.ref b1), .unset, .unset, .unset, .unset, .unset, .unset, .unset, .unset, .unset, .unset, .unset] [(.int (2 : Int32)), (.int se), (.int (32 : Int32)), (.long wa), (.int (2 : Int32)), (.ref b1)])) rfl (by rw [hml]; rfl) (argsL := [(.long wa), (.int (32 : Int32)), (.int se), (.int (2 : Int32))]) (rest := [(.int (2 : Int32)), (.ref b1)]) (lenOf pd_17 rfl) rfl (by show 2 * 0 + _ ≤ _; exact Nat.le_of_eq rfl) (hb hby at_49) (fun _ _ => ⟨rfl, e7, (by decide : 1 + 0 ≤ _), (by decide : 9 + 0 ≤ _)⟩)
  dsimp only [Pt.U, Pt.locs, Pt.cells, Pt.slots] at X10 l10 y10 z10 st10 hQ10
  subst y10 z10
  obtain ⟨rfl, N10q, e10⟩ := hQ10
  have N10 : Fr n0 L10 := by rw [l10]; exact Fr.app N7 N10q
  refine stp st10 ?_
  show Go p e below T10 (mkF m 52 #[.val (.int le), .val (.long wa), .second, .val (.long wb), .second, .val (.long wc), .second, .val (.int se), .val (.int n), .val (.ref b1), .unset, .unset, .unset, .unset, .unset, .unset, .unset, .unset, .unset, .unset, .unset] [(.int (own_ch wa (32 : Int32) se (2 : Int32))), (.int (2 : Int32)), (.ref b1)]) _
  obtain ⟨cl11, Ar11, q11, S11, M11, H11, G11⟩ := (id V7)
  have in11 : ¬ ((2 : Int32) < 0 ∨ cl11.slots.size ≤ ((2 : Int32)).toNatClampNeg) := inb_of S11 ⟨by decide, by decide⟩
  obtain ⟨T11, h11, X11, e11, W11, st11⟩ := stC X10 hx hZ e10 Ar11 (j := (2 : Int32)) in11 (g := (mkF m 52 #[.val (.int le), .val (.long wa), .second, .val (.long wb), .second, .val (.long wc), .second, .val (.int se), .val (.int n), .val (.ref b1), .unset, .unset, .unset, .unset, .unset, .unset, .unset, .unset, .unset, .unset, .unset] [(.int (own_ch wa (32 : Int32) se (2 : Int32))), (.int (2 : Int32)), (.ref b1)])) rfl rfl (hb hby at_52)
  have V11 : Arv Z h11 b1 k1 .char (9 : Int32) [(.int (own_ch wa (0 : Int32) se (0 : Int32))), (.int (own_ch wa (16 : Int32) se (1 : Int32))), (.int (own_ch wa (32 : Int32) se (2 : Int32))), (.int (0 : Int32)), (.int (0 : Int32)), (.int (0 : Int32)), (.int (0 : Int32)), (.int (0 : Int32)), (.int (0 : Int32))] (.int (0 : Int32)) := Arv.set Ar11 q11 S11 M11 H11 G11 (ow_fits_char (own_cs16 (own_ch_sm ..))) (ow_wr_char (own_cs16 (own_ch_sm ..)) W11) 2 rfl (Nat.le_of_ble_eq_true rfl)
  have f12 := f8.wr W11
  have hk := Nat.le_trans hk (Keep.of_wr W11).1
  have CR := CR.trans (CHr.wr W11 (Safe.exa hZ.alike f8 (by decide) (by decide)) CR.1)
  have K11 : Keep h0 h11 [] := K7.wr W11 (Or.inr sz_b1)
  have O11 := O7.wr W11 ge_b1
  have N11 := Fr.snoc X11 N10 ge_b1
  refine stp st11 ?_
  show Go p e below T11 (mkF m 53 #[.val (.int le), .val (.long wa), .second, .val (.long wb), .second, .val (.long wc), .second, .val (.int se), .val (.int n), .val (.ref b1), .unset, .unset, .unset, .unset, .unset, .unset, .unset, .unset, .unset, .unset, .unset] []) _
  refine stp (fun _ => XS.aload X11.here hx rfl (hb hby at_53) rfl rfl) ?_
  refine stp (fun _ => XS.iconst X11.here hx rfl (hb hby at_55)) ?_
  refine stp (fun _ => XS.lloadN X11.here hx rfl (hb hby at_56) rfl) ?_
  refine stp (fun _ => XS.bipush X11.here hx rfl (hb hby at_57)) ?_
  refine stp (fun _ => XS.iload X11.here hx rfl (hb hby at_59) rfl) ?_
  show Go p e below T11 (mkF m 61 #[.val (.int le), .val (.long wa), .second, .val (.long wb), .second, .val (.long wc), .second, .val (.int se), .val (.int n), .val (.ref b1), .unset, .unset, .unset, .unset, .unset, .unset, .unset, .unset, .unset, .unset, .unset] [(.int se), (.int (48 : Int32)), (.long wa), (.int (3 : Int32)), (.ref b1)]) _
  refine stp (fun _ => XS.iconst X11.here hx rfl (hb hby at_61)) ?_
  show Go p e below T11 (mkF m 62 #[.val (.int le), .val (.long wa), .second, .val (.long wb), .second, .val (.long wc), .second, .val (.int se), .val (.int n), .val (.ref b1), .unset, .unset, .unset, .unset, .unset, .unset, .unset, .unset, .unset, .unset, .unset] [(.int (3 : Int32)), (.int se), (.int (48 : Int32)), (.long wa), (.int (3 : Int32)), (.ref b1)]) _
  obtain ⟨_, _, ⟨T14, L14, k14, n14⟩, -, X14, ⟨Lc14, hQ14, l14, y14, z14⟩, st14⟩ := Jvm.LawKit.callS X11 hx (y := (⟨"com/example/heedful_rank/heedfulrank/history/ByteOrderPrefixKeyPinLaw", "ch", "(JIII)C"⟩ : MethodName)) hown (mvT hZ (hw _ (List.mem_of_getElem? (i := 2) rfl))) (mvT hZ (hw _ (List.mem_of_getElem? (i := 3) rfl))) (mvT hZ (hw _ (List.mem_of_getElem? (i := 4) rfl))) (mvT hZ (hw _ (List.mem_of_getElem? (i := 5) rfl))) (by decide) (backOf (W := 2) (rm_ch l Z a0 hw [] wa (48 : Int32) se (3 : Int32)  h11 n0 O11 ) hZ (hw _ (List.mem_of_getElem? (i := 5) rfl)) (hw _ (List.mem_of_getElem? (i := 4) rfl)) (by decide) (by decide)) (g := (mkF m 62 #[.val (.int le), .val (.long wa), .second, .val (.long wb), .second, .val (.long wc), .second, .val (.int se), .val (.int n), .val (.ref b1), .unset, .unset, .unset, .unset, .unset, .unset, .unset, .unset, .unset, .unset, .unset] [(.int (3 : Int32)), (.int se), (.int (48 : Int32)), (.long wa), (.int (3 : Int32)), (.ref b1)])) rfl (by rw [hml]; rfl) (argsL := [(.long wa), (.int (48 : Int32)), (.int se), (.int (3 : Int32))]) (rest := [(.int (3 : Int32)), (.ref b1)]) (lenOf pd_17 rfl) rfl (by show 2 * 0 + _ ≤ _; exact Nat.le_of_eq rfl) (hb hby at_62) (fun _ _ => ⟨rfl, e11, (by decide : 1 + 0 ≤ _), (by decide : 9 + 0 ≤ _)⟩)
  dsimp only [Pt.U, Pt.locs, Pt.cells, Pt.slots] at X14 l14 y14 z14 st14 hQ14
  subst y14 z14
  obtain ⟨rfl, N14q, e14⟩ := hQ14
  have N14 : Fr n0 L14 := by rw [l14]; exact Fr.app N11 N14q
  refine stp st14 ?_
  show Go p e below T14 (mkF m 65 #[.val (.int le), .val (.long wa), .second, .val (.long wb), .second, .val (.long wc), .second, .val (.int se), .val (.int n), .val (.ref b1), .unset, .unset, .unset, .unset, .unset, .unset, .unset, .unset, .unset, .unset, .unset] [(.int (own_ch wa (48 : Int32) se (3 : Int32))), (.int (3 : Int32)), (.ref b1)]) _
  obtain ⟨cl15, Ar15, q15, S15, M15, H15, G15⟩ := (id V11)
  have in15 : ¬ ((3 : Int32) < 0 ∨ cl15.slots.size ≤ ((3 : Int32)).toNatClampNeg) := inb_of S15 ⟨by decide, by decide⟩
  obtain ⟨T15, h15, X15, e15, W15, st15⟩ := stC X14 hx hZ e14 Ar15 (j := (3 : Int32)) in15 (g := (mkF m 65 #[.val (.int le), .val (.long wa), .second, .val (.long wb), .second, .val (.long wc), .second, .val (.int se), .val (.int n), .val (.ref b1), .unset, .unset, .unset, .unset, .unset, .unset, .unset, .unset, .unset, .unset, .unset] [(.int (own_ch wa (48 : Int32) se (3 : Int32))), (.int (3 : Int32)), (.ref b1)])) rfl rfl (hb hby at_65)
  have V15 : Arv Z h15 b1 k1 .char (9 : Int32) [(.int (own_ch wa (0 : Int32) se (0 : Int32))), (.int (own_ch wa (16 : Int32) se (1 : Int32))), (.int (own_ch wa (32 : Int32) se (2 : Int32))), (.int (own_ch wa (48 : Int32) se (3 : Int32))), (.int (0 : Int32)), (.int (0 : Int32)), (.int (0 : Int32)), (.int (0 : Int32)), (.int (0 : Int32))] (.int (0 : Int32)) := Arv.set Ar15 q15 S15 M15 H15 G15 (ow_fits_char (own_cs16 (own_ch_sm ..))) (ow_wr_char (own_cs16 (own_ch_sm ..)) W15) 3 rfl (Nat.le_of_ble_eq_true rfl)
  have f16 := f12.wr W15
  have hk := Nat.le_trans hk (Keep.of_wr W15).1
  have CR := CR.trans (CHr.wr W15 (Safe.exa hZ.alike f12 (by decide) (by decide)) CR.1)
  have K15 : Keep h0 h15 [] := K11.wr W15 (Or.inr sz_b1)
  have O15 := O11.wr W15 ge_b1
  have N15 := Fr.snoc X15 N14 ge_b1
  refine stp st15 ?_
  show Go p e below T15 (mkF m 66 #[.val (.int le), .val (.long wa), .second, .val (.long wb), .second, .val (.long wc), .second, .val (.int se), .val (.int n), .val (.ref b1), .unset, .unset, .unset, .unset, .unset, .unset, .unset, .unset, .unset, .unset, .unset] []) _
  refine stp (fun _ => XS.aload X15.here hx rfl (hb hby at_66) rfl rfl) ?_
  refine stp (fun _ => XS.iconst X15.here hx rfl (hb hby at_68)) ?_
  refine stp (fun _ => XS.lloadN X15.here hx rfl (hb hby at_69) rfl) ?_
  refine stp (fun _ => XS.iconst X15.here hx rfl (hb hby at_70)) ?_
  refine stp (fun _ => XS.iload X15.here hx rfl (hb hby at_71) rfl) ?_
  show Go p e below T15 (mkF m 73 #[.val (.int le), .val (.long wa), .second, .val (.long wb), .second, .val (.long wc), .second, .val (.int se), .val (.int n), .val (.ref b1), .unset, .unset, .unset, .unset, .unset, .unset, .unset, .unset, .unset, .unset, .unset] [(.int se), (.int (0 : Int32)), (.long wb), (.int (4 : Int32)), (.ref b1)]) _
  refine stp (fun _ => XS.iconst X15.here hx rfl (hb hby at_73)) ?_
  show Go p e below T15 (mkF m 74 #[.val (.int le), .val (.long wa), .second, .val (.long wb), .second, .val (.long wc), .second, .val (.int se), .val (.int n), .val (.ref b1), .unset, .unset, .unset, .unset, .unset, .unset, .unset, .unset, .unset, .unset, .unset] [(.int (4 : Int32)), (.int se), (.int (0 : Int32)), (.long wb), (.int (4 : Int32)), (.ref b1)]) _
  obtain ⟨_, _, ⟨T18, L18, k18, n18⟩, -, X18, ⟨Lc18, hQ18, l18, y18, z18⟩, st18⟩ := Jvm.LawKit.callS X15 hx (y := (⟨"com/example/heedful_rank/heedfulrank/history/ByteOrderPrefixKeyPinLaw", "ch", "(JIII)C"⟩ : MethodName)) hown (mvT hZ (hw _ (List.mem_of_getElem? (i := 2) rfl))) (mvT hZ (hw _ (List.mem_of_getElem? (i := 3) rfl))) (mvT hZ (hw _ (List.mem_of_getElem? (i := 4) rfl))) (mvT hZ (hw _ (List.mem_of_getElem? (i := 5) rfl))) (by decide) (backOf (W := 2) (rm_ch l Z a0 hw [] wb (0 : Int32) se (4 : Int32)  h15 n0 O15 ) hZ (hw _ (List.mem_of_getElem? (i := 5) rfl)) (hw _ (List.mem_of_getElem? (i := 4) rfl)) (by decide) (by decide)) (g := (mkF m 74 #[.val (.int le), .val (.long wa), .second, .val (.long wb), .second, .val (.long wc), .second, .val (.int se), .val (.int n), .val (.ref b1), .unset, .unset, .unset, .unset, .unset, .unset, .unset, .unset, .unset, .unset, .unset] [(.int (4 : Int32)), (.int se), (.int (0 : Int32)), (.long wb), (.int (4 : Int32)), (.ref b1)])) rfl (by rw [hml]; rfl) (argsL := [(.long wb), (.int (0 : Int32)), (.int se), (.int (4 : Int32))]) (rest := [(.int (4 : Int32)), (.ref b1)]) (lenOf pd_17 rfl) rfl (by show 2 * 0 + _ ≤ _; exact Nat.le_of_eq rfl) (hb hby at_74) (fun _ _ => ⟨rfl, e15, (by decide : 1 + 0 ≤ _), (by decide : 9 + 0 ≤ _)⟩)
  dsimp only [Pt.U, Pt.locs, Pt.cells, Pt.slots] at X18 l18 y18 z18 st18 hQ18
  subst y18 z18
  obtain ⟨rfl, N18q, e18⟩ := hQ18
  have N18 : Fr n0 L18 := by rw [l18]; exact Fr.app N15 N18q
  refine stp st18 ?_
  show Go p e below T18 (mkF m 77 #[.val (.int le), .val (.long wa), .second, .val (.long wb), .second, .val (.long wc), .second, .val (.int se), .val (.int n), .val (.ref b1), .unset, .unset, .unset, .unset, .unset, .unset, .unset, .unset, .unset, .unset, .unset] [(.int (own_ch wb (0 : Int32) se (4 : Int32))), (.int (4 : Int32)), (.ref b1)]) _
  obtain ⟨cl19, Ar19, q19, S19, M19, H19, G19⟩ := (id V15)
  have in19 : ¬ ((4 : Int32) < 0 ∨ cl19.slots.size ≤ ((4 : Int32)).toNatClampNeg) := inb_of S19 ⟨by decide, by decide⟩
  obtain ⟨T19, h19, X19, e19, W19, st19⟩ := stC X18 hx hZ e18 Ar19 (j := (4 : Int32)) in19 (g := (mkF m 77 #[.val (.int le), .val (.long wa), .second, .val (.long wb), .second, .val (.long wc), .second, .val (.int se), .val (.int n), .val (.ref b1), .unset, .unset, .unset, .unset, .unset, .unset, .unset, .unset, .unset, .unset, .unset] [(.int (own_ch wb (0 : Int32) se (4 : Int32))), (.int (4 : Int32)), (.ref b1)])) rfl rfl (hb hby at_77)
  have V19 : Arv Z h19 b1 k1 .char (9 : Int32) [(.int (own_ch wa (0 : Int32) se (0 : Int32))), (.int (own_ch wa (16 : Int32) se (1 : Int32))), (.int (own_ch wa (32 : Int32) se (2 : Int32))), (.int (own_ch wa (48 : Int32) se (3 : Int32))), (.int (own_ch wb (0 : Int32) se (4 : Int32))), (.int (0 : Int32)), (.int (0 : Int32)), (.int (0 : Int32)), (.int (0 : Int32))] (.int (0 : Int32)) := Arv.set Ar19 q19 S19 M19 H19 G19 (ow_fits_char (own_cs16 (own_ch_sm ..))) (ow_wr_char (own_cs16 (own_ch_sm ..)) W19) 4 rfl (Nat.le_of_ble_eq_true rfl)
  have f20 := f16.wr W19
  have hk := Nat.le_trans hk (Keep.of_wr W19).1
  have CR := CR.trans (CHr.wr W19 (Safe.exa hZ.alike f16 (by decide) (by decide)) CR.1)
  have K19 : Keep h0 h19 [] := K15.wr W19 (Or.inr sz_b1)
  have O19 := O15.wr W19 ge_b1
  have N19 := Fr.snoc X19 N18 ge_b1
  refine stp st19 ?_
  show Go p e below T19 (mkF m 78 #[.val (.int le), .val (.long wa), .second, .val (.long wb), .second, .val (.long wc), .second, .val (.int se), .val (.int n), .val (.ref b1), .unset, .unset, .unset, .unset, .unset, .unset, .unset, .unset, .unset, .unset, .unset] []) _
  refine stp (fun _ => XS.aload X19.here hx rfl (hb hby at_78) rfl rfl) ?_
  refine stp (fun _ => XS.iconst X19.here hx rfl (hb hby at_80)) ?_
  refine stp (fun _ => XS.lloadN X19.here hx rfl (hb hby at_81) rfl) ?_
  refine stp (fun _ => XS.bipush X19.here hx rfl (hb hby at_82)) ?_
  refine stp (fun _ => XS.iload X19.here hx rfl (hb hby at_84) rfl) ?_
  show Go p e below T19 (mkF m 86 #[.val (.int le), .val (.long wa), .second, .val (.long wb), .second, .val (.long wc), .second, .val (.int se), .val (.int n), .val (.ref b1), .unset, .unset, .unset, .unset, .unset, .unset, .unset, .unset, .unset, .unset, .unset] [(.int se), (.int (16 : Int32)), (.long wb), (.int (5 : Int32)), (.ref b1)]) _
  refine stp (fun _ => XS.iconst X19.here hx rfl (hb hby at_86)) ?_
  show Go p e below T19 (mkF m 87 #[.val (.int le), .val (.long wa), .second, .val (.long wb), .second, .val (.long wc), .second, .val (.int se), .val (.int n), .val (.ref b1), .unset, .unset, .unset, .unset, .unset, .unset, .unset, .unset, .unset, .unset, .unset] [(.int (5 : Int32)), (.int se), (.int (16 : Int32)), (.long wb), (.int (5 : Int32)), (.ref b1)]) _
  obtain ⟨_, _, ⟨T22, L22, k22, n22⟩, -, X22, ⟨Lc22, hQ22, l22, y22, z22⟩, st22⟩ := Jvm.LawKit.callS X19 hx (y := (⟨"com/example/heedful_rank/heedfulrank/history/ByteOrderPrefixKeyPinLaw", "ch", "(JIII)C"⟩ : MethodName)) hown (mvT hZ (hw _ (List.mem_of_getElem? (i := 2) rfl))) (mvT hZ (hw _ (List.mem_of_getElem? (i := 3) rfl))) (mvT hZ (hw _ (List.mem_of_getElem? (i := 4) rfl))) (mvT hZ (hw _ (List.mem_of_getElem? (i := 5) rfl))) (by decide) (backOf (W := 2) (rm_ch l Z a0 hw [] wb (16 : Int32) se (5 : Int32)  h19 n0 O19 ) hZ (hw _ (List.mem_of_getElem? (i := 5) rfl)) (hw _ (List.mem_of_getElem? (i := 4) rfl)) (by decide) (by decide)) (g := (mkF m 87 #[.val (.int le), .val (.long wa), .second, .val (.long wb), .second, .val (.long wc), .second, .val (.int se), .val (.int n), .val (.ref b1), .unset, .unset, .unset, .unset, .unset, .unset, .unset, .unset, .unset, .unset, .unset] [(.int (5 : Int32)), (.int se), (.int (16 : Int32)), (.long wb), (.int (5 : Int32)), (.ref b1)])) rfl (by rw [hml]; rfl) (argsL := [(.long wb), (.int (16 : Int32)), (.int se), (.int (5 : Int32))]) (rest := [(.int (5 : Int32)), (.ref b1)]) (lenOf pd_17 rfl) rfl (by show 2 * 0 + _ ≤ _; exact Nat.le_of_eq rfl) (hb hby at_87) (fun _ _ => ⟨rfl, e19, (by decide : 1 + 0 ≤ _), (by decide : 9 + 0 ≤ _)⟩)
  dsimp only [Pt.U, Pt.locs, Pt.cells, Pt.slots] at X22 l22 y22 z22 st22 hQ22
  subst y22 z22
  obtain ⟨rfl, N22q, e22⟩ := hQ22
  have N22 : Fr n0 L22 := by rw [l22]; exact Fr.app N19 N22q
  refine stp st22 ?_
  show Go p e below T22 (mkF m 90 #[.val (.int le), .val (.long wa), .second, .val (.long wb), .second, .val (.long wc), .second, .val (.int se), .val (.int n), .val (.ref b1), .unset, .unset, .unset, .unset, .unset, .unset, .unset, .unset, .unset, .unset, .unset] [(.int (own_ch wb (16 : Int32) se (5 : Int32))), (.int (5 : Int32)), (.ref b1)]) _
  obtain ⟨cl23, Ar23, q23, S23, M23, H23, G23⟩ := (id V19)
  have in23 : ¬ ((5 : Int32) < 0 ∨ cl23.slots.size ≤ ((5 : Int32)).toNatClampNeg) := inb_of S23 ⟨by decide, by decide⟩
  obtain ⟨T23, h23, X23, e23, W23, st23⟩ := stC X22 hx hZ e22 Ar23 (j := (5 : Int32)) in23 (g := (mkF m 90 #[.val (.int le), .val (.long wa), .second, .val (.long wb), .second, .val (.long wc), .second, .val (.int se), .val (.int n), .val (.ref b1), .unset, .unset, .unset, .unset, .unset, .unset, .unset, .unset, .unset, .unset, .unset] [(.int (own_ch wb (16 : Int32) se (5 : Int32))), (.int (5 : Int32)), (.ref b1)])) rfl rfl (hb hby at_90)
  have V23 : Arv Z h23 b1 k1 .char (9 : Int32) [(.int (own_ch wa (0 : Int32) se (0 : Int32))), (.int (own_ch wa (16 : Int32) se (1 : Int32))), (.int (own_ch wa (32 : Int32) se (2 : Int32))), (.int (own_ch wa (48 : Int32) se (3 : Int32))), (.int (own_ch wb (0 : Int32) se (4 : Int32))), (.int (own_ch wb (16 : Int32) se (5 : Int32))), (.int (0 : Int32)), (.int (0 : Int32)), (.int (0 : Int32))] (.int (0 : Int32)) := Arv.set Ar23 q23 S23 M23 H23 G23 (ow_fits_char (own_cs16 (own_ch_sm ..))) (ow_wr_char (own_cs16 (own_ch_sm ..)) W23) 5 rfl (Nat.le_of_ble_eq_true rfl)
  have f24 := f20.wr W23
  have hk := Nat.le_trans hk (Keep.of_wr W23).1
  have CR := CR.trans (CHr.wr W23 (Safe.exa hZ.alike f20 (by decide) (by decide)) CR.1)
  have K23 : Keep h0 h23 [] := K19.wr W23 (Or.inr sz_b1)
  have O23 := O19.wr W23 ge_b1
  have N23 := Fr.snoc X23 N22 ge_b1
  refine stp st23 ?_
  show Go p e below T23 (mkF m 91 #[.val (.int le), .val (.long wa), .second, .val (.long wb), .second, .val (.long wc), .second, .val (.int se), .val (.int n), .val (.ref b1), .unset, .unset, .unset, .unset, .unset, .unset, .unset, .unset, .unset, .unset, .unset] []) _
  refine stp (fun _ => XS.aload X23.here hx rfl (hb hby at_91) rfl rfl) ?_
  refine stp (fun _ => XS.bipush X23.here hx rfl (hb hby at_93)) ?_
  refine stp (fun _ => XS.lloadN X23.here hx rfl (hb hby at_95) rfl) ?_
  refine stp (fun _ => XS.bipush X23.here hx rfl (hb hby at_96)) ?_
  refine stp (fun _ => XS.iload X23.here hx rfl (hb hby at_98) rfl) ?_
  show Go p e below T23 (mkF m 100 #[.val (.int le), .val (.long wa), .second, .val (.long wb), .second, .val (.long wc), .second, .val (.int se), .val (.int n), .val (.ref b1), .unset, .unset, .unset, .unset, .unset, .unset, .unset, .unset, .unset, .unset, .unset] [(.int se), (.int (32 : Int32)), (.long wb), (.int (6 : Int32)), (.ref b1)]) _
  refine stp (fun _ => XS.bipush X23.here hx rfl (hb hby at_100)) ?_
  show Go p e below T23 (mkF m 102 #[.val (.int le), .val (.long wa), .second, .val (.long wb), .second, .val (.long wc), .second, .val (.int se), .val (.int n), .val (.ref b1), .unset, .unset, .unset, .unset, .unset, .unset, .unset, .unset, .unset, .unset, .unset] [(.int (6 : Int32)), (.int se), (.int (32 : Int32)), (.long wb), (.int (6 : Int32)), (.ref b1)]) _
  obtain ⟨_, _, ⟨T26, L26, k26, n26⟩, -, X26, ⟨Lc26, hQ26, l26, y26, z26⟩, st26⟩ := Jvm.LawKit.callS X23 hx (y := (⟨"com/example/heedful_rank/heedfulrank/history/ByteOrderPrefixKeyPinLaw", "ch", "(JIII)C"⟩ : MethodName)) hown (mvT hZ (hw _ (List.mem_of_getElem? (i := 2) rfl))) (mvT hZ (hw _ (List.mem_of_getElem? (i := 3) rfl))) (mvT hZ (hw _ (List.mem_of_getElem? (i := 4) rfl))) (mvT hZ (hw _ (List.mem_of_getElem? (i := 5) rfl))) (by decide) (backOf (W := 2) (rm_ch l Z a0 hw [] wb (32 : Int32) se (6 : Int32)  h23 n0 O23 ) hZ (hw _ (List.mem_of_getElem? (i := 5) rfl)) (hw _ (List.mem_of_getElem? (i := 4) rfl)) (by decide) (by decide)) (g := (mkF m 102 #[.val (.int le), .val (.long wa), .second, .val (.long wb), .second, .val (.long wc), .second, .val (.int se), .val (.int n), .val (.ref b1), .unset, .unset, .unset, .unset, .unset, .unset, .unset, .unset, .unset, .unset, .unset] [(.int (6 : Int32)), (.int se), (.int (32 : Int32)), (.long wb), (.int (6 : Int32)), (.ref b1)])) rfl (by rw [hml]; rfl) (argsL := [(.long wb), (.int (32 : Int32)), (.int se), (.int (6 : Int32))]) (rest := [(.int (6 : Int32)), (.ref b1)]) (lenOf pd_17 rfl) rfl (by show 2 * 0 + _ ≤ _; exact Nat.le_of_eq rfl) (hb hby at_102) (fun _ _ => ⟨rfl, e23, (by decide : 1 + 0 ≤ _), (by decide : 9 + 0 ≤ _)⟩)
  dsimp only [Pt.U, Pt.locs, Pt.cells, Pt.slots] at X26 l26 y26 z26 st26 hQ26
  subst y26 z26
  obtain ⟨rfl, N26q, e26⟩ := hQ26
  have N26 : Fr n0 L26 := by rw [l26]; exact Fr.app N23 N26q
  refine stp st26 ?_
  show Go p e below T26 (mkF m 105 #[.val (.int le), .val (.long wa), .second, .val (.long wb), .second, .val (.long wc), .second, .val (.int se), .val (.int n), .val (.ref b1), .unset, .unset, .unset, .unset, .unset, .unset, .unset, .unset, .unset, .unset, .unset] [(.int (own_ch wb (32 : Int32) se (6 : Int32))), (.int (6 : Int32)), (.ref b1)]) _
  obtain ⟨cl27, Ar27, q27, S27, M27, H27, G27⟩ := (id V23)
  have in27 : ¬ ((6 : Int32) < 0 ∨ cl27.slots.size ≤ ((6 : Int32)).toNatClampNeg) := inb_of S27 ⟨by decide, by decide⟩
  obtain ⟨T27, h27, X27, e27, W27, st27⟩ := stC X26 hx hZ e26 Ar27 (j := (6 : Int32)) in27 (g := (mkF m 105 #[.val (.int le), .val (.long wa), .second, .val (.long wb), .second, .val (.long wc), .second, .val (.int se), .val (.int n), .val (.ref b1), .unset, .unset, .unset, .unset, .unset, .unset, .unset, .unset, .unset, .unset, .unset] [(.int (own_ch wb (32 : Int32) se (6 : Int32))), (.int (6 : Int32)), (.ref b1)])) rfl rfl (hb hby at_105)
  have V27 : Arv Z h27 b1 k1 .char (9 : Int32) [(.int (own_ch wa (0 : Int32) se (0 : Int32))), (.int (own_ch wa (16 : Int32) se (1 : Int32))), (.int (own_ch wa (32 : Int32) se (2 : Int32))), (.int (own_ch wa (48 : Int32) se (3 : Int32))), (.int (own_ch wb (0 : Int32) se (4 : Int32))), (.int (own_ch wb (16 : Int32) se (5 : Int32))), (.int (own_ch wb (32 : Int32) se (6 : Int32))), (.int (0 : Int32)), (.int (0 : Int32))] (.int (0 : Int32)) := Arv.set Ar27 q27 S27 M27 H27 G27 (ow_fits_char (own_cs16 (own_ch_sm ..))) (ow_wr_char (own_cs16 (own_ch_sm ..)) W27) 6 rfl (Nat.le_of_ble_eq_true rfl)
  have f28 := f24.wr W27
  have hk := Nat.le_trans hk (Keep.of_wr W27).1
  have CR := CR.trans (CHr.wr W27 (Safe.exa hZ.alike f24 (by decide) (by decide)) CR.1)
  have K27 : Keep h0 h27 [] := K23.wr W27 (Or.inr sz_b1)
  have O27 := O23.wr W27 ge_b1
  have N27 := Fr.snoc X27 N26 ge_b1
  refine stp st27 ?_
  show Go p e below T27 (mkF m 106 #[.val (.int le), .val (.long wa), .second, .val (.long wb), .second, .val (.long wc), .second, .val (.int se), .val (.int n), .val (.ref b1), .unset, .unset, .unset, .unset, .unset, .unset, .unset, .unset, .unset, .unset, .unset] []) _
  refine stp (fun _ => XS.aload X27.here hx rfl (hb hby at_106) rfl rfl) ?_
  refine stp (fun _ => XS.bipush X27.here hx rfl (hb hby at_108)) ?_
  refine stp (fun _ => XS.lloadN X27.here hx rfl (hb hby at_110) rfl) ?_
  refine stp (fun _ => XS.bipush X27.here hx rfl (hb hby at_111)) ?_
  refine stp (fun _ => XS.iload X27.here hx rfl (hb hby at_113) rfl) ?_
  show Go p e below T27 (mkF m 115 #[.val (.int le), .val (.long wa), .second, .val (.long wb), .second, .val (.long wc), .second, .val (.int se), .val (.int n), .val (.ref b1), .unset, .unset, .unset, .unset, .unset, .unset, .unset, .unset, .unset, .unset, .unset] [(.int se), (.int (48 : Int32)), (.long wb), (.int (7 : Int32)), (.ref b1)]) _
  refine stp (fun _ => XS.bipush X27.here hx rfl (hb hby at_115)) ?_
  show Go p e below T27 (mkF m 117 #[.val (.int le), .val (.long wa), .second, .val (.long wb), .second, .val (.long wc), .second, .val (.int se), .val (.int n), .val (.ref b1), .unset, .unset, .unset, .unset, .unset, .unset, .unset, .unset, .unset, .unset, .unset] [(.int (7 : Int32)), (.int se), (.int (48 : Int32)), (.long wb), (.int (7 : Int32)), (.ref b1)]) _
  obtain ⟨_, _, ⟨T30, L30, k30, n30⟩, -, X30, ⟨Lc30, hQ30, l30, y30, z30⟩, st30⟩ := Jvm.LawKit.callS X27 hx (y := (⟨"com/example/heedful_rank/heedfulrank/history/ByteOrderPrefixKeyPinLaw", "ch", "(JIII)C"⟩ : MethodName)) hown (mvT hZ (hw _ (List.mem_of_getElem? (i := 2) rfl))) (mvT hZ (hw _ (List.mem_of_getElem? (i := 3) rfl))) (mvT hZ (hw _ (List.mem_of_getElem? (i := 4) rfl))) (mvT hZ (hw _ (List.mem_of_getElem? (i := 5) rfl))) (by decide) (backOf (W := 2) (rm_ch l Z a0 hw [] wb (48 : Int32) se (7 : Int32)  h27 n0 O27 ) hZ (hw _ (List.mem_of_getElem? (i := 5) rfl)) (hw _ (List.mem_of_getElem? (i := 4) rfl)) (by decide) (by decide)) (g := (mkF m 117 #[.val (.int le), .val (.long wa), .second, .val (.long wb), .second, .val (.long wc), .second, .val (.int se), .val (.int n), .val (.ref b1), .unset, .unset, .unset, .unset, .unset, .unset, .unset, .unset, .unset, .unset, .unset] [(.int (7 : Int32)), (.int se), (.int (48 : Int32)), (.long wb), (.int (7 : Int32)), (.ref b1)])) rfl (by rw [hml]; rfl) (argsL := [(.long wb), (.int (48 : Int32)), (.int se), (.int (7 : Int32))]) (rest := [(.int (7 : Int32)), (.ref b1)]) (lenOf pd_17 rfl) rfl (by show 2 * 0 + _ ≤ _; exact Nat.le_of_eq rfl) (hb hby at_117) (fun _ _ => ⟨rfl, e27, (by decide : 1 + 0 ≤ _), (by decide : 9 + 0 ≤ _)⟩)
  dsimp only [Pt.U, Pt.locs, Pt.cells, Pt.slots] at X30 l30 y30 z30 st30 hQ30
  subst y30 z30
  obtain ⟨rfl, N30q, e30⟩ := hQ30
  have N30 : Fr n0 L30 := by rw [l30]; exact Fr.app N27 N30q
  refine stp st30 ?_
  show Go p e below T30 (mkF m 120 #[.val (.int le), .val (.long wa), .second, .val (.long wb), .second, .val (.long wc), .second, .val (.int se), .val (.int n), .val (.ref b1), .unset, .unset, .unset, .unset, .unset, .unset, .unset, .unset, .unset, .unset, .unset] [(.int (own_ch wb (48 : Int32) se (7 : Int32))), (.int (7 : Int32)), (.ref b1)]) _
  obtain ⟨cl31, Ar31, q31, S31, M31, H31, G31⟩ := (id V27)
  have in31 : ¬ ((7 : Int32) < 0 ∨ cl31.slots.size ≤ ((7 : Int32)).toNatClampNeg) := inb_of S31 ⟨by decide, by decide⟩
  obtain ⟨T31, h31, X31, e31, W31, st31⟩ := stC X30 hx hZ e30 Ar31 (j := (7 : Int32)) in31 (g := (mkF m 120 #[.val (.int le), .val (.long wa), .second, .val (.long wb), .second, .val (.long wc), .second, .val (.int se), .val (.int n), .val (.ref b1), .unset, .unset, .unset, .unset, .unset, .unset, .unset, .unset, .unset, .unset, .unset] [(.int (own_ch wb (48 : Int32) se (7 : Int32))), (.int (7 : Int32)), (.ref b1)])) rfl rfl (hb hby at_120)
  have V31 : Arv Z h31 b1 k1 .char (9 : Int32) [(.int (own_ch wa (0 : Int32) se (0 : Int32))), (.int (own_ch wa (16 : Int32) se (1 : Int32))), (.int (own_ch wa (32 : Int32) se (2 : Int32))), (.int (own_ch wa (48 : Int32) se (3 : Int32))), (.int (own_ch wb (0 : Int32) se (4 : Int32))), (.int (own_ch wb (16 : Int32) se (5 : Int32))), (.int (own_ch wb (32 : Int32) se (6 : Int32))), (.int (own_ch wb (48 : Int32) se (7 : Int32))), (.int (0 : Int32))] (.int (0 : Int32)) := Arv.set Ar31 q31 S31 M31 H31 G31 (ow_fits_char (own_cs16 (own_ch_sm ..))) (ow_wr_char (own_cs16 (own_ch_sm ..)) W31) 7 rfl (Nat.le_of_ble_eq_true rfl)
  have f32 := f28.wr W31
  have hk := Nat.le_trans hk (Keep.of_wr W31).1
  have CR := CR.trans (CHr.wr W31 (Safe.exa hZ.alike f28 (by decide) (by decide)) CR.1)
  have K31 : Keep h0 h31 [] := K27.wr W31 (Or.inr sz_b1)
  have O31 := O27.wr W31 ge_b1
  have N31 := Fr.snoc X31 N30 ge_b1
  refine stp st31 ?_
  show Go p e below T31 (mkF m 121 #[.val (.int le), .val (.long wa), .second, .val (.long wb), .second, .val (.long wc), .second, .val (.int se), .val (.int n), .val (.ref b1), .unset, .unset, .unset, .unset, .unset, .unset, .unset, .unset, .unset, .unset, .unset] []) _
  refine stp (fun _ => XS.aload X31.here hx rfl (hb hby at_121) rfl rfl) ?_
  refine stp (fun _ => XS.bipush X31.here hx rfl (hb hby at_123)) ?_
  refine stp (fun _ => XS.lload X31.here hx rfl (hb hby at_125) rfl) ?_
  refine stp (fun _ => XS.iconst X31.here hx rfl (hb hby at_127)) ?_
  refine stp (fun _ => XS.iload X31.here hx rfl (hb hby at_128) rfl) ?_
  show Go p e below T31 (mkF m 130 #[.val (.int le), .val (.long wa), .second, .val (.long wb), .second, .val (.long wc), .second, .val (.int se), .val (.int n), .val (.ref b1), .unset, .unset, .unset, .unset, .unset, .unset, .unset, .unset, .unset, .unset, .unset] [(.int se), (.int (0 : Int32)), (.long wc), (.int (8 : Int32)), (.ref b1)]) _
  refine stp (fun _ => XS.bipush X31.here hx rfl (hb hby at_130)) ?_
  show Go p e below T31 (mkF m 132 #[.val (.int le), .val (.long wa), .second, .val (.long wb), .second, .val (.long wc), .second, .val (.int se), .val (.int n), .val (.ref b1), .unset, .unset, .unset, .unset, .unset, .unset, .unset, .unset, .unset, .unset, .unset] [(.int (8 : Int32)), (.int se), (.int (0 : Int32)), (.long wc), (.int (8 : Int32)), (.ref b1)]) _
  obtain ⟨_, _, ⟨T34, L34, k34, n34⟩, -, X34, ⟨Lc34, hQ34, l34, y34, z34⟩, st34⟩ := Jvm.LawKit.callS X31 hx (y := (⟨"com/example/heedful_rank/heedfulrank/history/ByteOrderPrefixKeyPinLaw", "ch", "(JIII)C"⟩ : MethodName)) hown (mvT hZ (hw _ (List.mem_of_getElem? (i := 2) rfl))) (mvT hZ (hw _ (List.mem_of_getElem? (i := 3) rfl))) (mvT hZ (hw _ (List.mem_of_getElem? (i := 4) rfl))) (mvT hZ (hw _ (List.mem_of_getElem? (i := 5) rfl))) (by decide) (backOf (W := 2) (rm_ch l Z a0 hw [] wc (0 : Int32) se (8 : Int32)  h31 n0 O31 ) hZ (hw _ (List.mem_of_getElem? (i := 5) rfl)) (hw _ (List.mem_of_getElem? (i := 4) rfl)) (by decide) (by decide)) (g := (mkF m 132 #[.val (.int le), .val (.long wa), .second, .val (.long wb), .second, .val (.long wc), .second, .val (.int se), .val (.int n), .val (.ref b1), .unset, .unset, .unset, .unset, .unset, .unset, .unset, .unset, .unset, .unset, .unset] [(.int (8 : Int32)), (.int se), (.int (0 : Int32)), (.long wc), (.int (8 : Int32)), (.ref b1)])) rfl (by rw [hml]; rfl) (argsL := [(.long wc), (.int (0 : Int32)), (.int se), (.int (8 : Int32))]) (rest := [(.int (8 : Int32)), (.ref b1)]) (lenOf pd_17 rfl) rfl (by show 2 * 0 + _ ≤ _; exact Nat.le_of_eq rfl) (hb hby at_132) (fun _ _ => ⟨rfl, e31, (by decide : 1 + 0 ≤ _), (by decide : 9 + 0 ≤ _)⟩)
  dsimp only [Pt.U, Pt.locs, Pt.cells, Pt.slots] at X34 l34 y34 z34 st34 hQ34
  subst y34 z34
  obtain ⟨rfl, N34q, e34⟩ := hQ34
  have N34 : Fr n0 L34 := by rw [l34]; exact Fr.app N31 N34q
  refine stp st34 ?_
  show Go p e below T34 (mkF m 135 #[.val (.int le), .val (.long wa), .second, .val (.long wb), .second, .val (.long wc), .second, .val (.int se), .val (.int n), .val (.ref b1), .unset, .unset, .unset, .unset, .unset, .unset, .unset, .unset, .unset, .unset, .unset] [(.int (own_ch wc (0 : Int32) se (8 : Int32))), (.int (8 : Int32)), (.ref b1)]) _
  obtain ⟨cl35, Ar35, q35, S35, M35, H35, G35⟩ := (id V31)
  have in35 : ¬ ((8 : Int32) < 0 ∨ cl35.slots.size ≤ ((8 : Int32)).toNatClampNeg) := inb_of S35 ⟨by decide, by decide⟩
  obtain ⟨T35, h35, X35, e35, W35, st35⟩ := stC X34 hx hZ e34 Ar35 (j := (8 : Int32)) in35 (g := (mkF m 135 #[.val (.int le), .val (.long wa), .second, .val (.long wb), .second, .val (.long wc), .second, .val (.int se), .val (.int n), .val (.ref b1), .unset, .unset, .unset, .unset, .unset, .unset, .unset, .unset, .unset, .unset, .unset] [(.int (own_ch wc (0 : Int32) se (8 : Int32))), (.int (8 : Int32)), (.ref b1)])) rfl rfl (hb hby at_135)
  have V35 : Arv Z h35 b1 k1 .char (9 : Int32) [(.int (own_ch wa (0 : Int32) se (0 : Int32))), (.int (own_ch wa (16 : Int32) se (1 : Int32))), (.int (own_ch wa (32 : Int32) se (2 : Int32))), (.int (own_ch wa (48 : Int32) se (3 : Int32))), (.int (own_ch wb (0 : Int32) se (4 : Int32))), (.int (own_ch wb (16 : Int32) se (5 : Int32))), (.int (own_ch wb (32 : Int32) se (6 : Int32))), (.int (own_ch wb (48 : Int32) se (7 : Int32))), (.int (own_ch wc (0 : Int32) se (8 : Int32)))] (.int (0 : Int32)) := Arv.set Ar35 q35 S35 M35 H35 G35 (ow_fits_char (own_cs16 (own_ch_sm ..))) (ow_wr_char (own_cs16 (own_ch_sm ..)) W35) 8 rfl (Nat.le_of_ble_eq_true rfl)
  have f36 := f32.wr W35
  have hk := Nat.le_trans hk (Keep.of_wr W35).1
  have CR := CR.trans (CHr.wr W35 (Safe.exa hZ.alike f32 (by decide) (by decide)) CR.1)
  have K35 : Keep h0 h35 [] := K31.wr W35 (Or.inr sz_b1)
  have O35 := O31.wr W35 ge_b1
  have N35 := Fr.snoc X35 N34 ge_b1
  refine stp st35 ?_
  show Go p e below T35 (mkF m 136 #[.val (.int le), .val (.long wa), .second, .val (.long wb), .second, .val (.long wc), .second, .val (.int se), .val (.int n), .val (.ref b1), .unset, .unset, .unset, .unset, .unset, .unset, .unset, .unset, .unset, .unset, .unset] []) _
  obtain ⟨s0, hs0⟩ : ∃ z : Int32, z = (own_ch wa (0 : Int32) se (0 : Int32)) := ⟨_, rfl⟩
  obtain ⟨s1, hs1⟩ : ∃ z : Int32, z = (own_ch wa (16 : Int32) se (1 : Int32)) := ⟨_, rfl⟩
  obtain ⟨s2, hs2⟩ : ∃ z : Int32, z = (own_ch wa (32 : Int32) se (2 : Int32)) := ⟨_, rfl⟩
  obtain ⟨s3, hs3⟩ : ∃ z : Int32, z = (own_ch wa (48 : Int32) se (3 : Int32)) := ⟨_, rfl⟩
  obtain ⟨s4, hs4⟩ : ∃ z : Int32, z = (own_ch wb (0 : Int32) se (4 : Int32)) := ⟨_, rfl⟩
  obtain ⟨s5, hs5⟩ : ∃ z : Int32, z = (own_ch wb (16 : Int32) se (5 : Int32)) := ⟨_, rfl⟩
  obtain ⟨s6, hs6⟩ : ∃ z : Int32, z = (own_ch wb (32 : Int32) se (6 : Int32)) := ⟨_, rfl⟩
  obtain ⟨s7, hs7⟩ : ∃ z : Int32, z = (own_ch wb (48 : Int32) se (7 : Int32)) := ⟨_, rfl⟩
  obtain ⟨s8, hs8⟩ : ∃ z : Int32, z = (own_ch wc (0 : Int32) se (8 : Int32)) := ⟨_, rfl⟩
  have V38 : Arv Z h35 b1 k1 .char (9 : Int32) [(.int s0), (.int s1), (.int s2), (.int s3), (.int s4), (.int s5), (.int s6), (.int s7), (.int s8)] (.int (0 : Int32)) := by rw [hs0, hs1, hs2, hs3, hs4, hs5, hs6, hs7, hs8]; exact V35
  replace hs0 := own_s16 hs0
  replace hs1 := own_s16 hs1
  replace hs2 := own_s16 hs2
  replace hs3 := own_s16 hs3
  replace hs4 := own_s16 hs4
  replace hs5 := own_s16 hs5
  replace hs6 := own_s16 hs6
  replace hs7 := own_s16 hs7
  replace hs8 := own_s16 hs8
  refine stp (fun _ => XS.aload X35.here hx rfl (hb hby at_136) rfl rfl) ?_
  refine stp (fun _ => XS.iload X35.here hx rfl (hb hby at_138) rfl) ?_
  show Go p e below T35 (mkF m 140 #[.val (.int le), .val (.long wa), .second, .val (.long wb), .second, .val (.long wc), .second, .val (.int se), .val (.int n), .val (.ref b1), .unset, .unset, .unset, .unset, .unset, .unset, .unset, .unset, .unset, .unset, .unset] [(.int n), (.ref b1)]) _
  obtain ⟨_, _, ⟨T39, L39, k39, n39⟩, -, X39, hS39, gg39, ⟨Lc39, hQ39, l39, y39, z39, CRn39⟩, st39⟩ := callSS X35 hx (y := (⟨"com/example/heedful_rank/heedfulrank/history/ByteOrderPrefixKeyPinLaw", "make", "([CI)Ljava/lang/String;"⟩ : MethodName)) hown (mvT hZ (hw _ (List.mem_of_getElem? (i := 6) rfl))) (mvT hZ (hw _ (List.mem_of_getElem? (i := 7) rfl))) (mvT hZ (hw _ (List.mem_of_getElem? (i := 4) rfl))) (mvT hZ (hw _ (List.mem_of_getElem? (i := 8) rfl))) (by decide) (backOfSH (W := 0) (rm_make l Z a0 hw [] b1 n s0 s1 s2 s3 s4 s5 s6 s7 s8 cz k1 h35 n0 O35 hEL V38 S_CS S_AS S_HI S_LO hcz hs0 hs1 hs2 hs3 hs4 hs5 hs6 hs7 hs8) hZ (hw _ (List.mem_of_getElem? (i := 8) rfl)) (hw _ (List.mem_of_getElem? (i := 4) rfl)) (by decide) (by decide) hEL CR.1) (g := (mkF m 140 #[.val (.int le), .val (.long wa), .second, .val (.long wb), .second, .val (.long wc), .second, .val (.int se), .val (.int n), .val (.ref b1), .unset, .unset, .unset, .unset, .unset, .unset, .unset, .unset, .unset, .unset, .unset] [(.int n), (.ref b1)])) rfl (by rw [hml]; rfl) (argsL := [(.ref b1), (.int n)]) (rest := []) (lenOf pd_18 rfl) rfl (by show 2 * 0 + _ ≤ _; exact Nat.le_of_eq rfl) (hb hby at_140) (fun _ _ => ⟨rfl, e35, (by decide : 1 + 4 ≤ _), (by decide : 9 + 43 ≤ _)⟩)
  dsimp only [Pt.U, Pt.locs, Pt.cells, Pt.slots] at X39 hS39 gg39 l39 y39 z39 st39 hQ39 CRn39
  subst y39 z39
  obtain ⟨X39, hS, hZ, hown⟩ := rebS hS (by rw [e35]; exact hk) X39 hS39 gg39 hZ hown
  obtain ⟨r39, rfl, N39q, K39q, ⟨ge_r39, sz39_r39⟩, r39_0⟩ := hQ39
  have N39 : Fr n0 L39 := by rw [l39]; exact Fr.app N35 N39q
  have ne40 : b1 ≠ r39 := Nat.ne_of_lt (Nat.lt_of_lt_of_le f36.lt sz39_r39)
  have f41 := f36.keep K39q
  have f42 := V38.keep K39q nin0
  have sz_r39 : h0.size ≤ r39 := Nat.le_trans K35.1 sz39_r39
  have K39 : Keep h0 T39.heap [] := K35.trans K39q all0
  have O39 := O35.keep K39q all0
  have hk : T39.heap.size ≤ T39.heap.size := Nat.le_refl _
  have CR := CR.trans CRn39
  refine stt st39 ?_
  show Go p e below T39 (mkF m 143 #[.val (.int le), .val (.long wa), .second, .val (.long wb), .second, .val (.long wc), .second, .val (.int se), .val (.int n), .val (.ref b1), .unset, .unset, .unset, .unset, .unset, .unset, .unset, .unset, .unset, .unset, .unset] [(.ref r39)]) _
  refine stp (fun _ => XS.astore X39.here hx rfl (hb hby at_143) rfl rfl (l' := #[.val (.int le), .val (.long wa), .second, .val (.long wb), .second, .val (.long wc), .second, .val (.int se), .val (.int n), .val (.ref b1), .val (.ref r39), .unset, .unset, .unset, .unset, .unset, .unset, .unset, .unset, .unset, .unset]) rfl) ?_
  show Go p e below T39 (mkF m 145 #[.val (.int le), .val (.long wa), .second, .val (.long wb), .second, .val (.long wc), .second, .val (.int se), .val (.int n), .val (.ref b1), .val (.ref r39), .unset, .unset, .unset, .unset, .unset, .unset, .unset, .unset, .unset, .unset] []) _
  have J0 : ∀ l0 : Int32, l0 = (if (0 : Int32) < n then (1 : Int32) else (0 : Int32)) → Go p e below T39 (mkF m 155 #[.val (.int le), .val (.long wa), .second, .val (.long wb), .second, .val (.long wc), .second, .val (.int se), .val (.int n), .val (.ref b1), .val (.ref r39), .unset, .unset, .unset, .unset, .unset, .unset, .unset, .unset, .unset, .unset] [(.int l0)]) (PoW s Z consts_1 (Q_rm0 Z le wa wb wc se cz fm h0 n0) 5 52) := by
    intro l0 hl0
    show Go p e below T39 (mkF m 155 #[.val (.int le), .val (.long wa), .second, .val (.long wb), .second, .val (.long wc), .second, .val (.int se), .val (.int n), .val (.ref b1), .val (.ref r39), .unset, .unset, .unset, .unset, .unset, .unset, .unset, .unset, .unset, .unset] [(.int l0)]) _
    refine stp (fun _ => XS.istore X39.here hx rfl (hb hby at_155) rfl (l' := #[.val (.int le), .val (.long wa), .second, .val (.long wb), .second, .val (.long wc), .second, .val (.int se), .val (.int n), .val (.ref b1), .val (.ref r39), .val (.int l0), .unset, .unset, .unset, .unset, .unset, .unset, .unset, .unset, .unset]) rfl) ?_
    show Go p e below T39 (mkF m 157 #[.val (.int le), .val (.long wa), .second, .val (.long wb), .second, .val (.long wc), .second, .val (.int se), .val (.int n), .val (.ref b1), .val (.ref r39), .val (.int l0), .unset, .unset, .unset, .unset, .unset, .unset, .unset, .unset, .unset] []) _
    have J1 : ∀ l1 : Int32, l1 = (if l0 = 0 then (0 : Int32) else if (127 : Int32) < s0 then (0 : Int32) else if (1 : Int32) < n then (1 : Int32) else (0 : Int32)) → Go p e below T39 (mkF m 182 #[.val (.int le), .val (.long wa), .second, .val (.long wb), .second, .val (.long wc), .second, .val (.int se), .val (.int n), .val (.ref b1), .val (.ref r39), .val (.int l0), .unset, .unset, .unset, .unset, .unset, .unset, .unset, .unset, .unset] [(.int l1)]) (PoW s Z consts_1 (Q_rm0 Z le wa wb wc se cz fm h0 n0) 5 52) := by
      intro l1 hl1
      show Go p e below T39 (mkF m 182 #[.val (.int le), .val (.long wa), .second, .val (.long wb), .second, .val (.long wc), .second, .val (.int se), .val (.int n), .val (.ref b1), .val (.ref r39), .val (.int l0), .unset, .unset, .unset, .unset, .unset, .unset, .unset, .unset, .unset] [(.int l1)]) _
      refine stp (fun _ => XS.istore X39.here hx rfl (hb hby at_182) rfl (l' := #[.val (.int le), .val (.long wa), .second, .val (.long wb), .second, .val (.long wc), .second, .val (.int se), .val (.int n), .val (.ref b1), .val (.ref r39), .val (.int l0), .val (.int l1), .unset, .unset, .unset, .unset, .unset, .unset, .unset, .unset]) rfl) ?_
      show Go p e below T39 (mkF m 184 #[.val (.int le), .val (.long wa), .second, .val (.long wb), .second, .val (.long wc), .second, .val (.int se), .val (.int n), .val (.ref b1), .val (.ref r39), .val (.int l0), .val (.int l1), .unset, .unset, .unset, .unset, .unset, .unset, .unset, .unset] []) _
      have J2 : ∀ l2 : Int32, l2 = (if l1 = 0 then (0 : Int32) else if (127 : Int32) < s1 then (0 : Int32) else if (2 : Int32) < n then (1 : Int32) else (0 : Int32)) → Go p e below T39 (mkF m 209 #[.val (.int le), .val (.long wa), .second, .val (.long wb), .second, .val (.long wc), .second, .val (.int se), .val (.int n), .val (.ref b1), .val (.ref r39), .val (.int l0), .val (.int l1), .unset, .unset, .unset, .unset, .unset, .unset, .unset, .unset] [(.int l2)]) (PoW s Z consts_1 (Q_rm0 Z le wa wb wc se cz fm h0 n0) 5 52) := by
        intro l2 hl2
        show Go p e below T39 (mkF m 209 #[.val (.int le), .val (.long wa), .second, .val (.long wb), .second, .val (.long wc), .second, .val (.int se), .val (.int n), .val (.ref b1), .val (.ref r39), .val (.int l0), .val (.int l1), .unset, .unset, .unset, .unset, .unset, .unset, .unset, .unset] [(.int l2)]) _
        refine stp (fun _ => XS.istore X39.here hx rfl (hb hby at_209) rfl (l' := #[.val (.int le), .val (.long wa), .second, .val (.long wb), .second, .val (.long wc), .second, .val (.int se), .val (.int n), .val (.ref b1), .val (.ref r39), .val (.int l0), .val (.int l1), .val (.int l2), .unset, .unset, .unset, .unset, .unset, .unset, .unset]) rfl) ?_
        show Go p e below T39 (mkF m 211 #[.val (.int le), .val (.long wa), .second, .val (.long wb), .second, .val (.long wc), .second, .val (.int se), .val (.int n), .val (.ref b1), .val (.ref r39), .val (.int l0), .val (.int l1), .val (.int l2), .unset, .unset, .unset, .unset, .unset, .unset, .unset] []) _
        have J3 : ∀ l3 : Int32, l3 = (if l2 = 0 then (0 : Int32) else if (127 : Int32) < s2 then (0 : Int32) else if (3 : Int32) < n then (1 : Int32) else (0 : Int32)) → Go p e below T39 (mkF m 236 #[.val (.int le), .val (.long wa), .second, .val (.long wb), .second, .val (.long wc), .second, .val (.int se), .val (.int n), .val (.ref b1), .val (.ref r39), .val (.int l0), .val (.int l1), .val (.int l2), .unset, .unset, .unset, .unset, .unset, .unset, .unset] [(.int l3)]) (PoW s Z consts_1 (Q_rm0 Z le wa wb wc se cz fm h0 n0) 5 52) := by
          intro l3 hl3
          show Go p e below T39 (mkF m 236 #[.val (.int le), .val (.long wa), .second, .val (.long wb), .second, .val (.long wc), .second, .val (.int se), .val (.int n), .val (.ref b1), .val (.ref r39), .val (.int l0), .val (.int l1), .val (.int l2), .unset, .unset, .unset, .unset, .unset, .unset, .unset] [(.int l3)]) _
          refine stp (fun _ => XS.istore X39.here hx rfl (hb hby at_236) rfl (l' := #[.val (.int le), .val (.long wa), .second, .val (.long wb), .second, .val (.long wc), .second, .val (.int se), .val (.int n), .val (.ref b1), .val (.ref r39), .val (.int l0), .val (.int l1), .val (.int l2), .val (.int l3), .unset, .unset, .unset, .unset, .unset, .unset]) rfl) ?_
          show Go p e below T39 (mkF m 238 #[.val (.int le), .val (.long wa), .second, .val (.long wb), .second, .val (.long wc), .second, .val (.int se), .val (.int n), .val (.ref b1), .val (.ref r39), .val (.int l0), .val (.int l1), .val (.int l2), .val (.int l3), .unset, .unset, .unset, .unset, .unset, .unset] []) _
          have J4 : ∀ l4 : Int32, l4 = (if l3 = 0 then (0 : Int32) else if (127 : Int32) < s3 then (0 : Int32) else if (4 : Int32) < n then (1 : Int32) else (0 : Int32)) → Go p e below T39 (mkF m 263 #[.val (.int le), .val (.long wa), .second, .val (.long wb), .second, .val (.long wc), .second, .val (.int se), .val (.int n), .val (.ref b1), .val (.ref r39), .val (.int l0), .val (.int l1), .val (.int l2), .val (.int l3), .unset, .unset, .unset, .unset, .unset, .unset] [(.int l4)]) (PoW s Z consts_1 (Q_rm0 Z le wa wb wc se cz fm h0 n0) 5 52) := by
            intro l4 hl4
            show Go p e below T39 (mkF m 263 #[.val (.int le), .val (.long wa), .second, .val (.long wb), .second, .val (.long wc), .second, .val (.int se), .val (.int n), .val (.ref b1), .val (.ref r39), .val (.int l0), .val (.int l1), .val (.int l2), .val (.int l3), .unset, .unset, .unset, .unset, .unset, .unset] [(.int l4)]) _
            refine stp (fun _ => XS.istore X39.here hx rfl (hb hby at_263) rfl (l' := #[.val (.int le), .val (.long wa), .second, .val (.long wb), .second, .val (.long wc), .second, .val (.int se), .val (.int n), .val (.ref b1), .val (.ref r39), .val (.int l0), .val (.int l1), .val (.int l2), .val (.int l3), .val (.int l4), .unset, .unset, .unset, .unset, .unset]) rfl) ?_
            show Go p e below T39 (mkF m 265 #[.val (.int le), .val (.long wa), .second, .val (.long wb), .second, .val (.long wc), .second, .val (.int se), .val (.int n), .val (.ref b1), .val (.ref r39), .val (.int l0), .val (.int l1), .val (.int l2), .val (.int l3), .val (.int l4), .unset, .unset, .unset, .unset, .unset] []) _
            have J5 : ∀ l5 : Int32, l5 = (if l4 = 0 then (0 : Int32) else if (127 : Int32) < s4 then (0 : Int32) else if (5 : Int32) < n then (1 : Int32) else (0 : Int32)) → Go p e below T39 (mkF m 290 #[.val (.int le), .val (.long wa), .second, .val (.long wb), .second, .val (.long wc), .second, .val (.int se), .val (.int n), .val (.ref b1), .val (.ref r39), .val (.int l0), .val (.int l1), .val (.int l2), .val (.int l3), .val (.int l4), .unset, .unset, .unset, .unset, .unset] [(.int l5)]) (PoW s Z consts_1 (Q_rm0 Z le wa wb wc se cz fm h0 n0) 5 52) := by
              intro l5 hl5
              show Go p e below T39 (mkF m 290 #[.val (.int le), .val (.long wa), .second, .val (.long wb), .second, .val (.long wc), .second, .val (.int se), .val (.int n), .val (.ref b1), .val (.ref r39), .val (.int l0), .val (.int l1), .val (.int l2), .val (.int l3), .val (.int l4), .unset, .unset, .unset, .unset, .unset] [(.int l5)]) _
              refine stp (fun _ => XS.istore X39.here hx rfl (hb hby at_290) rfl (l' := #[.val (.int le), .val (.long wa), .second, .val (.long wb), .second, .val (.long wc), .second, .val (.int se), .val (.int n), .val (.ref b1), .val (.ref r39), .val (.int l0), .val (.int l1), .val (.int l2), .val (.int l3), .val (.int l4), .val (.int l5), .unset, .unset, .unset, .unset]) rfl) ?_
              show Go p e below T39 (mkF m 292 #[.val (.int le), .val (.long wa), .second, .val (.long wb), .second, .val (.long wc), .second, .val (.int se), .val (.int n), .val (.ref b1), .val (.ref r39), .val (.int l0), .val (.int l1), .val (.int l2), .val (.int l3), .val (.int l4), .val (.int l5), .unset, .unset, .unset, .unset] []) _
              have J6 : ∀ l6 : Int32, l6 = (if l5 = 0 then (0 : Int32) else if (127 : Int32) < s5 then (0 : Int32) else if (6 : Int32) < n then (1 : Int32) else (0 : Int32)) → Go p e below T39 (mkF m 318 #[.val (.int le), .val (.long wa), .second, .val (.long wb), .second, .val (.long wc), .second, .val (.int se), .val (.int n), .val (.ref b1), .val (.ref r39), .val (.int l0), .val (.int l1), .val (.int l2), .val (.int l3), .val (.int l4), .val (.int l5), .unset, .unset, .unset, .unset] [(.int l6)]) (PoW s Z consts_1 (Q_rm0 Z le wa wb wc se cz fm h0 n0) 5 52) := by
                intro l6 hl6
                show Go p e below T39 (mkF m 318 #[.val (.int le), .val (.long wa), .second, .val (.long wb), .second, .val (.long wc), .second, .val (.int se), .val (.int n), .val (.ref b1), .val (.ref r39), .val (.int l0), .val (.int l1), .val (.int l2), .val (.int l3), .val (.int l4), .val (.int l5), .unset, .unset, .unset, .unset] [(.int l6)]) _
                refine stp (fun _ => XS.istore X39.here hx rfl (hb hby at_318) rfl (l' := #[.val (.int le), .val (.long wa), .second, .val (.long wb), .second, .val (.long wc), .second, .val (.int se), .val (.int n), .val (.ref b1), .val (.ref r39), .val (.int l0), .val (.int l1), .val (.int l2), .val (.int l3), .val (.int l4), .val (.int l5), .val (.int l6), .unset, .unset, .unset]) rfl) ?_
                show Go p e below T39 (mkF m 320 #[.val (.int le), .val (.long wa), .second, .val (.long wb), .second, .val (.long wc), .second, .val (.int se), .val (.int n), .val (.ref b1), .val (.ref r39), .val (.int l0), .val (.int l1), .val (.int l2), .val (.int l3), .val (.int l4), .val (.int l5), .val (.int l6), .unset, .unset, .unset] []) _
                have J7 : ∀ l7 : Int32, l7 = (if l6 = 0 then (0 : Int32) else if (127 : Int32) < s6 then (0 : Int32) else if (7 : Int32) < n then (1 : Int32) else (0 : Int32)) → Go p e below T39 (mkF m 347 #[.val (.int le), .val (.long wa), .second, .val (.long wb), .second, .val (.long wc), .second, .val (.int se), .val (.int n), .val (.ref b1), .val (.ref r39), .val (.int l0), .val (.int l1), .val (.int l2), .val (.int l3), .val (.int l4), .val (.int l5), .val (.int l6), .unset, .unset, .unset] [(.int l7)]) (PoW s Z consts_1 (Q_rm0 Z le wa wb wc se cz fm h0 n0) 5 52) := by
                  intro l7 hl7
                  show Go p e below T39 (mkF m 347 #[.val (.int le), .val (.long wa), .second, .val (.long wb), .second, .val (.long wc), .second, .val (.int se), .val (.int n), .val (.ref b1), .val (.ref r39), .val (.int l0), .val (.int l1), .val (.int l2), .val (.int l3), .val (.int l4), .val (.int l5), .val (.int l6), .unset, .unset, .unset] [(.int l7)]) _
                  refine stp (fun _ => XS.istore X39.here hx rfl (hb hby at_347) rfl (l' := #[.val (.int le), .val (.long wa), .second, .val (.long wb), .second, .val (.long wc), .second, .val (.int se), .val (.int n), .val (.ref b1), .val (.ref r39), .val (.int l0), .val (.int l1), .val (.int l2), .val (.int l3), .val (.int l4), .val (.int l5), .val (.int l6), .val (.int l7), .unset, .unset]) rfl) ?_
                  show Go p e below T39 (mkF m 349 #[.val (.int le), .val (.long wa), .second, .val (.long wb), .second, .val (.long wc), .second, .val (.int se), .val (.int n), .val (.ref b1), .val (.ref r39), .val (.int l0), .val (.int l1), .val (.int l2), .val (.int l3), .val (.int l4), .val (.int l5), .val (.int l6), .val (.int l7), .unset, .unset] []) _
                  refine stp (fun _ => XS.iload X39.here hx rfl (hb hby at_349) rfl) ?_
                  refine stp (fun _ => XS.aload X39.here hx rfl (hb hby at_351) rfl rfl) ?_
                  refine stp (fun _ => XS.iconst X39.here hx rfl (hb hby at_353)) ?_
                  show Go p e below T39 (mkF m 354 #[.val (.int le), .val (.long wa), .second, .val (.long wb), .second, .val (.long wc), .second, .val (.int se), .val (.int n), .val (.ref b1), .val (.ref r39), .val (.int l0), .val (.int l1), .val (.int l2), .val (.int l3), .val (.int l4), .val (.int l5), .val (.int l6), .val (.int l7), .unset, .unset] [(.int (0 : Int32)), (.ref b1), (.int l0)]) _
                  obtain ⟨cl43, Ar43, q43, S43, M43, H43, G43⟩ := (id f42)
                  have in43 : ¬ ((0 : Int32) < 0 ∨ cl43.slots.size ≤ ((0 : Int32)).toNatClampNeg) := inb_of S43 ⟨by decide, by decide⟩
                  have at43 : cl43.slots[((0 : Int32)).toNatClampNeg]? = some (.int s0) := H43.at in43 rfl
                  refine stp (fun _ => X39.caload hx (j := (0 : Int32)) (v := (.int s0)) Ar43.1 (State.isArrayOf_alike hZ.alike Ar43.2.1) Ar43.2.2 in43 at43 (g := (mkF m 354 #[.val (.int le), .val (.long wa), .second, .val (.long wb), .second, .val (.long wc), .second, .val (.int se), .val (.int n), .val (.ref b1), .val (.ref r39), .val (.int l0), .val (.int l1), .val (.int l2), .val (.int l3), .val (.int l4), .val (.int l5), .val (.int l6), .val (.int l7), .unset, .unset] [(.int (0 : Int32)), (.ref b1), (.int l0)])) rfl rfl (hb hby at_354) _) ?_
                  show Go p e below T39 (mkF m 355 #[.val (.int le), .val (.long wa), .second, .val (.long wb), .second, .val (.long wc), .second, .val (.int se), .val (.int n), .val (.ref b1), .val (.ref r39), .val (.int l0), .val (.int l1), .val (.int l2), .val (.int l3), .val (.int l4), .val (.int l5), .val (.int l6), .val (.int l7), .unset, .unset] [(.int s0), (.int l0)]) _
                  obtain ⟨_, _, ⟨T44, L44, k44, n44⟩, -, X44, ⟨Lc44, hQ44, l44, y44, z44⟩, st44⟩ := Jvm.LawKit.callS X39 hx (y := (⟨"com/example/heedful_rank/heedfulrank/history/ByteOrderPrefixKeyPinLaw", "b", "(ZC)J"⟩ : MethodName)) hown (mvT hZ (hw _ (List.mem_of_getElem? (i := 30) rfl))) (mvT hZ (hw _ (List.mem_of_getElem? (i := 31) rfl))) (mvT hZ (hw _ (List.mem_of_getElem? (i := 4) rfl))) (mvT hZ (hw _ (List.mem_of_getElem? (i := 32) rfl))) (by decide) (backOf (W := 0) (rm_b l Z a0 hw [] l0 s0  T39.heap n0 O39 ) hZ (hw _ (List.mem_of_getElem? (i := 32) rfl)) (hw _ (List.mem_of_getElem? (i := 4) rfl)) (by decide) (by decide)) (g := (mkF m 355 #[.val (.int le), .val (.long wa), .second, .val (.long wb), .second, .val (.long wc), .second, .val (.int se), .val (.int n), .val (.ref b1), .val (.ref r39), .val (.int l0), .val (.int l1), .val (.int l2), .val (.int l3), .val (.int l4), .val (.int l5), .val (.int l6), .val (.int l7), .unset, .unset] [(.int s0), (.int l0)])) rfl (by rw [hml]; rfl) (argsL := [(.int l0), (.int s0)]) (rest := []) (lenOf pd_19 rfl) rfl (by show 2 * 0 + _ ≤ _; exact Nat.le_of_eq rfl) (hb hby at_355) (fun _ _ => ⟨rfl, rfl, (by decide : 5 + 0 ≤ _), (by decide : 52 + 0 ≤ _)⟩)
                  dsimp only [Pt.U, Pt.locs, Pt.cells, Pt.slots] at X44 l44 y44 z44 st44 hQ44
                  subst y44 z44
                  obtain ⟨rfl, N44q, e44⟩ := hQ44
                  have N44 : Fr n0 L44 := by rw [l44]; exact Fr.app N39 N44q
                  refine stp st44 ?_
                  show Go p e below T44 (mkF m 358 #[.val (.int le), .val (.long wa), .second, .val (.long wb), .second, .val (.long wc), .second, .val (.int se), .val (.int n), .val (.ref b1), .val (.ref r39), .val (.int l0), .val (.int l1), .val (.int l2), .val (.int l3), .val (.int l4), .val (.int l5), .val (.int l6), .val (.int l7), .unset, .unset] [(.long (own_b l0 s0))]) _
                  refine stp (fun _ => XS.bipush X44.here hx rfl (hb hby at_358)) ?_
                  show Go p e below T44 (mkF m 360 #[.val (.int le), .val (.long wa), .second, .val (.long wb), .second, .val (.long wc), .second, .val (.int se), .val (.int n), .val (.ref b1), .val (.ref r39), .val (.int l0), .val (.int l1), .val (.int l2), .val (.int l3), .val (.int l4), .val (.int l5), .val (.int l6), .val (.int l7), .unset, .unset] [(.int (56 : Int32)), (.long (own_b l0 s0))]) _
                  refine stp (fun _ => XS.lshl X44.here hx rfl (hb hby at_360) rfl) ?_
                  show Go p e below T44 (mkF m 361 #[.val (.int le), .val (.long wa), .second, .val (.long wb), .second, .val (.long wc), .second, .val (.int se), .val (.int n), .val (.ref b1), .val (.ref r39), .val (.int l0), .val (.int l1), .val (.int l2), .val (.int l3), .val (.int l4), .val (.int l5), .val (.int l6), .val (.int l7), .unset, .unset] [(.long ((own_b l0 s0) <<< ((56 : Int32) &&& 0x3f).toInt64))]) _
                  refine stp (fun _ => XS.iload X44.here hx rfl (hb hby at_361) rfl) ?_
                  refine stp (fun _ => XS.aload X44.here hx rfl (hb hby at_363) rfl rfl) ?_
                  refine stp (fun _ => XS.iconst X44.here hx rfl (hb hby at_365)) ?_
                  show Go p e below T44 (mkF m 366 #[.val (.int le), .val (.long wa), .second, .val (.long wb), .second, .val (.long wc), .second, .val (.int se), .val (.int n), .val (.ref b1), .val (.ref r39), .val (.int l0), .val (.int l1), .val (.int l2), .val (.int l3), .val (.int l4), .val (.int l5), .val (.int l6), .val (.int l7), .unset, .unset] [(.int (1 : Int32)), (.ref b1), (.int l1), (.long ((own_b l0 s0) <<< ((56 : Int32) &&& 0x3f).toInt64))]) _
                  obtain ⟨cl45, Ar45, q45, S45, M45, H45, G45⟩ := (id f42)
                  have in45 : ¬ ((1 : Int32) < 0 ∨ cl45.slots.size ≤ ((1 : Int32)).toNatClampNeg) := inb_of S45 ⟨by decide, by decide⟩
                  have at45 : cl45.slots[((1 : Int32)).toNatClampNeg]? = some (.int s1) := H45.at in45 rfl
                  refine stp (fun _ => X44.caload hx (j := (1 : Int32)) (v := (.int s1)) (by rw [e44]; exact Ar45.1) (State.isArrayOf_alike hZ.alike Ar45.2.1) Ar45.2.2 in45 at45 (g := (mkF m 366 #[.val (.int le), .val (.long wa), .second, .val (.long wb), .second, .val (.long wc), .second, .val (.int se), .val (.int n), .val (.ref b1), .val (.ref r39), .val (.int l0), .val (.int l1), .val (.int l2), .val (.int l3), .val (.int l4), .val (.int l5), .val (.int l6), .val (.int l7), .unset, .unset] [(.int (1 : Int32)), (.ref b1), (.int l1), (.long ((own_b l0 s0) <<< ((56 : Int32) &&& 0x3f).toInt64))])) rfl rfl (hb hby at_366) _) ?_
                  show Go p e below T44 (mkF m 367 #[.val (.int le), .val (.long wa), .second, .val (.long wb), .second, .val (.long wc), .second, .val (.int se), .val (.int n), .val (.ref b1), .val (.ref r39), .val (.int l0), .val (.int l1), .val (.int l2), .val (.int l3), .val (.int l4), .val (.int l5), .val (.int l6), .val (.int l7), .unset, .unset] [(.int s1), (.int l1), (.long ((own_b l0 s0) <<< ((56 : Int32) &&& 0x3f).toInt64))]) _
                  obtain ⟨_, _, ⟨T46, L46, k46, n46⟩, -, X46, ⟨Lc46, hQ46, l46, y46, z46⟩, st46⟩ := Jvm.LawKit.callS X44 hx (y := (⟨"com/example/heedful_rank/heedfulrank/history/ByteOrderPrefixKeyPinLaw", "b", "(ZC)J"⟩ : MethodName)) hown (mvT hZ (hw _ (List.mem_of_getElem? (i := 30) rfl))) (mvT hZ (hw _ (List.mem_of_getElem? (i := 31) rfl))) (mvT hZ (hw _ (List.mem_of_getElem? (i := 4) rfl))) (mvT hZ (hw _ (List.mem_of_getElem? (i := 32) rfl))) (by decide) (backOf (W := 2) (rm_b l Z a0 hw [] l1 s1  T39.heap n0 O39 ) hZ (hw _ (List.mem_of_getElem? (i := 32) rfl)) (hw _ (List.mem_of_getElem? (i := 4) rfl)) (by decide) (by decide)) (g := (mkF m 367 #[.val (.int le), .val (.long wa), .second, .val (.long wb), .second, .val (.long wc), .second, .val (.int se), .val (.int n), .val (.ref b1), .val (.ref r39), .val (.int l0), .val (.int l1), .val (.int l2), .val (.int l3), .val (.int l4), .val (.int l5), .val (.int l6), .val (.int l7), .unset, .unset] [(.int s1), (.int l1), (.long ((own_b l0 s0) <<< ((56 : Int32) &&& 0x3f).toInt64))])) rfl (by rw [hml]; rfl) (argsL := [(.int l1), (.int s1)]) (rest := [(.long ((own_b l0 s0) <<< ((56 : Int32) &&& 0x3f).toInt64))]) (lenOf pd_19 rfl) rfl (by show 2 * 0 + _ ≤ _; exact Nat.le_of_eq rfl) (hb hby at_367) (fun _ _ => ⟨rfl, e44, (by decide : 5 + 0 ≤ _), (by decide : 52 + 0 ≤ _)⟩)
                  dsimp only [Pt.U, Pt.locs, Pt.cells, Pt.slots] at X46 l46 y46 z46 st46 hQ46
                  subst y46 z46
                  obtain ⟨rfl, N46q, e46⟩ := hQ46
                  have N46 : Fr n0 L46 := by rw [l46]; exact Fr.app N44 N46q
                  refine stp st46 ?_
                  show Go p e below T46 (mkF m 370 #[.val (.int le), .val (.long wa), .second, .val (.long wb), .second, .val (.long wc), .second, .val (.int se), .val (.int n), .val (.ref b1), .val (.ref r39), .val (.int l0), .val (.int l1), .val (.int l2), .val (.int l3), .val (.int l4), .val (.int l5), .val (.int l6), .val (.int l7), .unset, .unset] [(.long (own_b l1 s1)), (.long ((own_b l0 s0) <<< ((56 : Int32) &&& 0x3f).toInt64))]) _
                  refine stp (fun _ => XS.bipush X46.here hx rfl (hb hby at_370)) ?_
                  show Go p e below T46 (mkF m 372 #[.val (.int le), .val (.long wa), .second, .val (.long wb), .second, .val (.long wc), .second, .val (.int se), .val (.int n), .val (.ref b1), .val (.ref r39), .val (.int l0), .val (.int l1), .val (.int l2), .val (.int l3), .val (.int l4), .val (.int l5), .val (.int l6), .val (.int l7), .unset, .unset] [(.int (48 : Int32)), (.long (own_b l1 s1)), (.long ((own_b l0 s0) <<< ((56 : Int32) &&& 0x3f).toInt64))]) _
                  refine stp (fun _ => XS.lshl X46.here hx rfl (hb hby at_372) rfl) ?_
                  show Go p e below T46 (mkF m 373 #[.val (.int le), .val (.long wa), .second, .val (.long wb), .second, .val (.long wc), .second, .val (.int se), .val (.int n), .val (.ref b1), .val (.ref r39), .val (.int l0), .val (.int l1), .val (.int l2), .val (.int l3), .val (.int l4), .val (.int l5), .val (.int l6), .val (.int l7), .unset, .unset] [(.long ((own_b l1 s1) <<< ((48 : Int32) &&& 0x3f).toInt64)), (.long ((own_b l0 s0) <<< ((56 : Int32) &&& 0x3f).toInt64))]) _
                  refine stp (fun _ => XS.lor X46.here hx rfl (hb hby at_373) rfl) ?_
                  show Go p e below T46 (mkF m 374 #[.val (.int le), .val (.long wa), .second, .val (.long wb), .second, .val (.long wc), .second, .val (.int se), .val (.int n), .val (.ref b1), .val (.ref r39), .val (.int l0), .val (.int l1), .val (.int l2), .val (.int l3), .val (.int l4), .val (.int l5), .val (.int l6), .val (.int l7), .unset, .unset] [(.long (((own_b l0 s0) <<< ((56 : Int32) &&& 0x3f).toInt64) ||| ((own_b l1 s1) <<< ((48 : Int32) &&& 0x3f).toInt64)))]) _
                  obtain ⟨E0, hE0⟩ : ∃ z : Int64, z = (((own_b l0 s0) <<< ((56 : Int32) &&& 0x3f).toInt64) ||| ((own_b l1 s1) <<< ((48 : Int32) &&& 0x3f).toInt64)) := ⟨_, rfl⟩
                  rw [← hE0]
                  show Go p e below T46 (mkF m 374 #[.val (.int le), .val (.long wa), .second, .val (.long wb), .second, .val (.long wc), .second, .val (.int se), .val (.int n), .val (.ref b1), .val (.ref r39), .val (.int l0), .val (.int l1), .val (.int l2), .val (.int l3), .val (.int l4), .val (.int l5), .val (.int l6), .val (.int l7), .unset, .unset] [(.long E0)]) _
                  refine stp (fun _ => XS.iload X46.here hx rfl (hb hby at_374) rfl) ?_
                  refine stp (fun _ => XS.aload X46.here hx rfl (hb hby at_376) rfl rfl) ?_
                  refine stp (fun _ => XS.iconst X46.here hx rfl (hb hby at_378)) ?_
                  show Go p e below T46 (mkF m 379 #[.val (.int le), .val (.long wa), .second, .val (.long wb), .second, .val (.long wc), .second, .val (.int se), .val (.int n), .val (.ref b1), .val (.ref r39), .val (.int l0), .val (.int l1), .val (.int l2), .val (.int l3), .val (.int l4), .val (.int l5), .val (.int l6), .val (.int l7), .unset, .unset] [(.int (2 : Int32)), (.ref b1), (.int l2), (.long E0)]) _
                  obtain ⟨cl47, Ar47, q47, S47, M47, H47, G47⟩ := (id f42)
                  have in47 : ¬ ((2 : Int32) < 0 ∨ cl47.slots.size ≤ ((2 : Int32)).toNatClampNeg) := inb_of S47 ⟨by decide, by decide⟩
                  have at47 : cl47.slots[((2 : Int32)).toNatClampNeg]? = some (.int s2) := H47.at in47 rfl
                  refine stp (fun _ => X46.caload hx (j := (2 : Int32)) (v := (.int s2)) (by rw [e46]; exact Ar47.1) (State.isArrayOf_alike hZ.alike Ar47.2.1) Ar47.2.2 in47 at47 (g := (mkF m 379 #[.val (.int le), .val (.long wa), .second, .val (.long wb), .second, .val (.long wc), .second, .val (.int se), .val (.int n), .val (.ref b1), .val (.ref r39), .val (.int l0), .val (.int l1), .val (.int l2), .val (.int l3), .val (.int l4), .val (.int l5), .val (.int l6), .val (.int l7), .unset, .unset] [(.int (2 : Int32)), (.ref b1), (.int l2), (.long E0)])) rfl rfl (hb hby at_379) _) ?_
                  show Go p e below T46 (mkF m 380 #[.val (.int le), .val (.long wa), .second, .val (.long wb), .second, .val (.long wc), .second, .val (.int se), .val (.int n), .val (.ref b1), .val (.ref r39), .val (.int l0), .val (.int l1), .val (.int l2), .val (.int l3), .val (.int l4), .val (.int l5), .val (.int l6), .val (.int l7), .unset, .unset] [(.int s2), (.int l2), (.long E0)]) _
                  obtain ⟨_, _, ⟨T48, L48, k48, n48⟩, -, X48, ⟨Lc48, hQ48, l48, y48, z48⟩, st48⟩ := Jvm.LawKit.callS X46 hx (y := (⟨"com/example/heedful_rank/heedfulrank/history/ByteOrderPrefixKeyPinLaw", "b", "(ZC)J"⟩ : MethodName)) hown (mvT hZ (hw _ (List.mem_of_getElem? (i := 30) rfl))) (mvT hZ (hw _ (List.mem_of_getElem? (i := 31) rfl))) (mvT hZ (hw _ (List.mem_of_getElem? (i := 4) rfl))) (mvT hZ (hw _ (List.mem_of_getElem? (i := 32) rfl))) (by decide) (backOf (W := 2) (rm_b l Z a0 hw [] l2 s2  T39.heap n0 O39 ) hZ (hw _ (List.mem_of_getElem? (i := 32) rfl)) (hw _ (List.mem_of_getElem? (i := 4) rfl)) (by decide) (by decide)) (g := (mkF m 380 #[.val (.int le), .val (.long wa), .second, .val (.long wb), .second, .val (.long wc), .second, .val (.int se), .val (.int n), .val (.ref b1), .val (.ref r39), .val (.int l0), .val (.int l1), .val (.int l2), .val (.int l3), .val (.int l4), .val (.int l5), .val (.int l6), .val (.int l7), .unset, .unset] [(.int s2), (.int l2), (.long E0)])) rfl (by rw [hml]; rfl) (argsL := [(.int l2), (.int s2)]) (rest := [(.long E0)]) (lenOf pd_19 rfl) rfl (by show 2 * 0 + _ ≤ _; exact Nat.le_of_eq rfl) (hb hby at_380) (fun _ _ => ⟨rfl, e46, (by decide : 5 + 0 ≤ _), (by decide : 52 + 0 ≤ _)⟩)
                  dsimp only [Pt.U, Pt.locs, Pt.cells, Pt.slots] at X48 l48 y48 z48 st48 hQ48
                  subst y48 z48
                  obtain ⟨rfl, N48q, e48⟩ := hQ48
                  have N48 : Fr n0 L48 := by rw [l48]; exact Fr.app N46 N48q
                  refine stp st48 ?_
                  show Go p e below T48 (mkF m 383 #[.val (.int le), .val (.long wa), .second, .val (.long wb), .second, .val (.long wc), .second, .val (.int se), .val (.int n), .val (.ref b1), .val (.ref r39), .val (.int l0), .val (.int l1), .val (.int l2), .val (.int l3), .val (.int l4), .val (.int l5), .val (.int l6), .val (.int l7), .unset, .unset] [(.long (own_b l2 s2)), (.long E0)]) _
                  refine stp (fun _ => XS.bipush X48.here hx rfl (hb hby at_383)) ?_
                  show Go p e below T48 (mkF m 385 #[.val (.int le), .val (.long wa), .second, .val (.long wb), .second, .val (.long wc), .second, .val (.int se), .val (.int n), .val (.ref b1), .val (.ref r39), .val (.int l0), .val (.int l1), .val (.int l2), .val (.int l3), .val (.int l4), .val (.int l5), .val (.int l6), .val (.int l7), .unset, .unset] [(.int (40 : Int32)), (.long (own_b l2 s2)), (.long E0)]) _
                  refine stp (fun _ => XS.lshl X48.here hx rfl (hb hby at_385) rfl) ?_
                  show Go p e below T48 (mkF m 386 #[.val (.int le), .val (.long wa), .second, .val (.long wb), .second, .val (.long wc), .second, .val (.int se), .val (.int n), .val (.ref b1), .val (.ref r39), .val (.int l0), .val (.int l1), .val (.int l2), .val (.int l3), .val (.int l4), .val (.int l5), .val (.int l6), .val (.int l7), .unset, .unset] [(.long ((own_b l2 s2) <<< ((40 : Int32) &&& 0x3f).toInt64)), (.long E0)]) _
                  refine stp (fun _ => XS.lor X48.here hx rfl (hb hby at_386) rfl) ?_
                  show Go p e below T48 (mkF m 387 #[.val (.int le), .val (.long wa), .second, .val (.long wb), .second, .val (.long wc), .second, .val (.int se), .val (.int n), .val (.ref b1), .val (.ref r39), .val (.int l0), .val (.int l1), .val (.int l2), .val (.int l3), .val (.int l4), .val (.int l5), .val (.int l6), .val (.int l7), .unset, .unset] [(.long (E0 ||| ((own_b l2 s2) <<< ((40 : Int32) &&& 0x3f).toInt64)))]) _
                  obtain ⟨E1, hE1⟩ : ∃ z : Int64, z = (E0 ||| ((own_b l2 s2) <<< ((40 : Int32) &&& 0x3f).toInt64)) := ⟨_, rfl⟩
                  rw [← hE1]
                  show Go p e below T48 (mkF m 387 #[.val (.int le), .val (.long wa), .second, .val (.long wb), .second, .val (.long wc), .second, .val (.int se), .val (.int n), .val (.ref b1), .val (.ref r39), .val (.int l0), .val (.int l1), .val (.int l2), .val (.int l3), .val (.int l4), .val (.int l5), .val (.int l6), .val (.int l7), .unset, .unset] [(.long E1)]) _
                  refine stp (fun _ => XS.iload X48.here hx rfl (hb hby at_387) rfl) ?_
                  refine stp (fun _ => XS.aload X48.here hx rfl (hb hby at_389) rfl rfl) ?_
                  refine stp (fun _ => XS.iconst X48.here hx rfl (hb hby at_391)) ?_
                  show Go p e below T48 (mkF m 392 #[.val (.int le), .val (.long wa), .second, .val (.long wb), .second, .val (.long wc), .second, .val (.int se), .val (.int n), .val (.ref b1), .val (.ref r39), .val (.int l0), .val (.int l1), .val (.int l2), .val (.int l3), .val (.int l4), .val (.int l5), .val (.int l6), .val (.int l7), .unset, .unset] [(.int (3 : Int32)), (.ref b1), (.int l3), (.long E1)]) _
                  obtain ⟨cl49, Ar49, q49, S49, M49, H49, G49⟩ := (id f42)
                  have in49 : ¬ ((3 : Int32) < 0 ∨ cl49.slots.size ≤ ((3 : Int32)).toNatClampNeg) := inb_of S49 ⟨by decide, by decide⟩
                  have at49 : cl49.slots[((3 : Int32)).toNatClampNeg]? = some (.int s3) := H49.at in49 rfl
                  refine stp (fun _ => X48.caload hx (j := (3 : Int32)) (v := (.int s3)) (by rw [e48]; exact Ar49.1) (State.isArrayOf_alike hZ.alike Ar49.2.1) Ar49.2.2 in49 at49 (g := (mkF m 392 #[.val (.int le), .val (.long wa), .second, .val (.long wb), .second, .val (.long wc), .second, .val (.int se), .val (.int n), .val (.ref b1), .val (.ref r39), .val (.int l0), .val (.int l1), .val (.int l2), .val (.int l3), .val (.int l4), .val (.int l5), .val (.int l6), .val (.int l7), .unset, .unset] [(.int (3 : Int32)), (.ref b1), (.int l3), (.long E1)])) rfl rfl (hb hby at_392) _) ?_
                  show Go p e below T48 (mkF m 393 #[.val (.int le), .val (.long wa), .second, .val (.long wb), .second, .val (.long wc), .second, .val (.int se), .val (.int n), .val (.ref b1), .val (.ref r39), .val (.int l0), .val (.int l1), .val (.int l2), .val (.int l3), .val (.int l4), .val (.int l5), .val (.int l6), .val (.int l7), .unset, .unset] [(.int s3), (.int l3), (.long E1)]) _
                  obtain ⟨_, _, ⟨T50, L50, k50, n50⟩, -, X50, ⟨Lc50, hQ50, l50, y50, z50⟩, st50⟩ := Jvm.LawKit.callS X48 hx (y := (⟨"com/example/heedful_rank/heedfulrank/history/ByteOrderPrefixKeyPinLaw", "b", "(ZC)J"⟩ : MethodName)) hown (mvT hZ (hw _ (List.mem_of_getElem? (i := 30) rfl))) (mvT hZ (hw _ (List.mem_of_getElem? (i := 31) rfl))) (mvT hZ (hw _ (List.mem_of_getElem? (i := 4) rfl))) (mvT hZ (hw _ (List.mem_of_getElem? (i := 32) rfl))) (by decide) (backOf (W := 2) (rm_b l Z a0 hw [] l3 s3  T39.heap n0 O39 ) hZ (hw _ (List.mem_of_getElem? (i := 32) rfl)) (hw _ (List.mem_of_getElem? (i := 4) rfl)) (by decide) (by decide)) (g := (mkF m 393 #[.val (.int le), .val (.long wa), .second, .val (.long wb), .second, .val (.long wc), .second, .val (.int se), .val (.int n), .val (.ref b1), .val (.ref r39), .val (.int l0), .val (.int l1), .val (.int l2), .val (.int l3), .val (.int l4), .val (.int l5), .val (.int l6), .val (.int l7), .unset, .unset] [(.int s3), (.int l3), (.long E1)])) rfl (by rw [hml]; rfl) (argsL := [(.int l3), (.int s3)]) (rest := [(.long E1)]) (lenOf pd_19 rfl) rfl (by show 2 * 0 + _ ≤ _; exact Nat.le_of_eq rfl) (hb hby at_393) (fun _ _ => ⟨rfl, e48, (by decide : 5 + 0 ≤ _), (by decide : 52 + 0 ≤ _)⟩)
                  dsimp only [Pt.U, Pt.locs, Pt.cells, Pt.slots] at X50 l50 y50 z50 st50 hQ50
                  subst y50 z50
                  obtain ⟨rfl, N50q, e50⟩ := hQ50
                  have N50 : Fr n0 L50 := by rw [l50]; exact Fr.app N48 N50q
                  refine stp st50 ?_
                  show Go p e below T50 (mkF m 396 #[.val (.int le), .val (.long wa), .second, .val (.long wb), .second, .val (.long wc), .second, .val (.int se), .val (.int n), .val (.ref b1), .val (.ref r39), .val (.int l0), .val (.int l1), .val (.int l2), .val (.int l3), .val (.int l4), .val (.int l5), .val (.int l6), .val (.int l7), .unset, .unset] [(.long (own_b l3 s3)), (.long E1)]) _
                  refine stp (fun _ => XS.bipush X50.here hx rfl (hb hby at_396)) ?_
                  show Go p e below T50 (mkF m 398 #[.val (.int le), .val (.long wa), .second, .val (.long wb), .second, .val (.long wc), .second, .val (.int se), .val (.int n), .val (.ref b1), .val (.ref r39), .val (.int l0), .val (.int l1), .val (.int l2), .val (.int l3), .val (.int l4), .val (.int l5), .val (.int l6), .val (.int l7), .unset, .unset] [(.int (32 : Int32)), (.long (own_b l3 s3)), (.long E1)]) _
                  refine stp (fun _ => XS.lshl X50.here hx rfl (hb hby at_398) rfl) ?_
                  show Go p e below T50 (mkF m 399 #[.val (.int le), .val (.long wa), .second, .val (.long wb), .second, .val (.long wc), .second, .val (.int se), .val (.int n), .val (.ref b1), .val (.ref r39), .val (.int l0), .val (.int l1), .val (.int l2), .val (.int l3), .val (.int l4), .val (.int l5), .val (.int l6), .val (.int l7), .unset, .unset] [(.long ((own_b l3 s3) <<< ((32 : Int32) &&& 0x3f).toInt64)), (.long E1)]) _
                  refine stp (fun _ => XS.lor X50.here hx rfl (hb hby at_399) rfl) ?_
                  show Go p e below T50 (mkF m 400 #[.val (.int le), .val (.long wa), .second, .val (.long wb), .second, .val (.long wc), .second, .val (.int se), .val (.int n), .val (.ref b1), .val (.ref r39), .val (.int l0), .val (.int l1), .val (.int l2), .val (.int l3), .val (.int l4), .val (.int l5), .val (.int l6), .val (.int l7), .unset, .unset] [(.long (E1 ||| ((own_b l3 s3) <<< ((32 : Int32) &&& 0x3f).toInt64)))]) _
                  obtain ⟨E2, hE2⟩ : ∃ z : Int64, z = (E1 ||| ((own_b l3 s3) <<< ((32 : Int32) &&& 0x3f).toInt64)) := ⟨_, rfl⟩
                  rw [← hE2]
                  show Go p e below T50 (mkF m 400 #[.val (.int le), .val (.long wa), .second, .val (.long wb), .second, .val (.long wc), .second, .val (.int se), .val (.int n), .val (.ref b1), .val (.ref r39), .val (.int l0), .val (.int l1), .val (.int l2), .val (.int l3), .val (.int l4), .val (.int l5), .val (.int l6), .val (.int l7), .unset, .unset] [(.long E2)]) _
                  refine stp (fun _ => XS.iload X50.here hx rfl (hb hby at_400) rfl) ?_
                  refine stp (fun _ => XS.aload X50.here hx rfl (hb hby at_402) rfl rfl) ?_
                  refine stp (fun _ => XS.iconst X50.here hx rfl (hb hby at_404)) ?_
                  show Go p e below T50 (mkF m 405 #[.val (.int le), .val (.long wa), .second, .val (.long wb), .second, .val (.long wc), .second, .val (.int se), .val (.int n), .val (.ref b1), .val (.ref r39), .val (.int l0), .val (.int l1), .val (.int l2), .val (.int l3), .val (.int l4), .val (.int l5), .val (.int l6), .val (.int l7), .unset, .unset] [(.int (4 : Int32)), (.ref b1), (.int l4), (.long E2)]) _
                  obtain ⟨cl51, Ar51, q51, S51, M51, H51, G51⟩ := (id f42)
                  have in51 : ¬ ((4 : Int32) < 0 ∨ cl51.slots.size ≤ ((4 : Int32)).toNatClampNeg) := inb_of S51 ⟨by decide, by decide⟩
                  have at51 : cl51.slots[((4 : Int32)).toNatClampNeg]? = some (.int s4) := H51.at in51 rfl
                  refine stp (fun _ => X50.caload hx (j := (4 : Int32)) (v := (.int s4)) (by rw [e50]; exact Ar51.1) (State.isArrayOf_alike hZ.alike Ar51.2.1) Ar51.2.2 in51 at51 (g := (mkF m 405 #[.val (.int le), .val (.long wa), .second, .val (.long wb), .second, .val (.long wc), .second, .val (.int se), .val (.int n), .val (.ref b1), .val (.ref r39), .val (.int l0), .val (.int l1), .val (.int l2), .val (.int l3), .val (.int l4), .val (.int l5), .val (.int l6), .val (.int l7), .unset, .unset] [(.int (4 : Int32)), (.ref b1), (.int l4), (.long E2)])) rfl rfl (hb hby at_405) _) ?_
                  show Go p e below T50 (mkF m 406 #[.val (.int le), .val (.long wa), .second, .val (.long wb), .second, .val (.long wc), .second, .val (.int se), .val (.int n), .val (.ref b1), .val (.ref r39), .val (.int l0), .val (.int l1), .val (.int l2), .val (.int l3), .val (.int l4), .val (.int l5), .val (.int l6), .val (.int l7), .unset, .unset] [(.int s4), (.int l4), (.long E2)]) _
                  obtain ⟨_, _, ⟨T52, L52, k52, n52⟩, -, X52, ⟨Lc52, hQ52, l52, y52, z52⟩, st52⟩ := Jvm.LawKit.callS X50 hx (y := (⟨"com/example/heedful_rank/heedfulrank/history/ByteOrderPrefixKeyPinLaw", "b", "(ZC)J"⟩ : MethodName)) hown (mvT hZ (hw _ (List.mem_of_getElem? (i := 30) rfl))) (mvT hZ (hw _ (List.mem_of_getElem? (i := 31) rfl))) (mvT hZ (hw _ (List.mem_of_getElem? (i := 4) rfl))) (mvT hZ (hw _ (List.mem_of_getElem? (i := 32) rfl))) (by decide) (backOf (W := 2) (rm_b l Z a0 hw [] l4 s4  T39.heap n0 O39 ) hZ (hw _ (List.mem_of_getElem? (i := 32) rfl)) (hw _ (List.mem_of_getElem? (i := 4) rfl)) (by decide) (by decide)) (g := (mkF m 406 #[.val (.int le), .val (.long wa), .second, .val (.long wb), .second, .val (.long wc), .second, .val (.int se), .val (.int n), .val (.ref b1), .val (.ref r39), .val (.int l0), .val (.int l1), .val (.int l2), .val (.int l3), .val (.int l4), .val (.int l5), .val (.int l6), .val (.int l7), .unset, .unset] [(.int s4), (.int l4), (.long E2)])) rfl (by rw [hml]; rfl) (argsL := [(.int l4), (.int s4)]) (rest := [(.long E2)]) (lenOf pd_19 rfl) rfl (by show 2 * 0 + _ ≤ _; exact Nat.le_of_eq rfl) (hb hby at_406) (fun _ _ => ⟨rfl, e50, (by decide : 5 + 0 ≤ _), (by decide : 52 + 0 ≤ _)⟩)
                  dsimp only [Pt.U, Pt.locs, Pt.cells, Pt.slots] at X52 l52 y52 z52 st52 hQ52
                  subst y52 z52
                  obtain ⟨rfl, N52q, e52⟩ := hQ52
                  have N52 : Fr n0 L52 := by rw [l52]; exact Fr.app N50 N52q
                  refine stp st52 ?_
                  show Go p e below T52 (mkF m 409 #[.val (.int le), .val (.long wa), .second, .val (.long wb), .second, .val (.long wc), .second, .val (.int se), .val (.int n), .val (.ref b1), .val (.ref r39), .val (.int l0), .val (.int l1), .val (.int l2), .val (.int l3), .val (.int l4), .val (.int l5), .val (.int l6), .val (.int l7), .unset, .unset] [(.long (own_b l4 s4)), (.long E2)]) _
                  refine stp (fun _ => XS.bipush X52.here hx rfl (hb hby at_409)) ?_
                  show Go p e below T52 (mkF m 411 #[.val (.int le), .val (.long wa), .second, .val (.long wb), .second, .val (.long wc), .second, .val (.int se), .val (.int n), .val (.ref b1), .val (.ref r39), .val (.int l0), .val (.int l1), .val (.int l2), .val (.int l3), .val (.int l4), .val (.int l5), .val (.int l6), .val (.int l7), .unset, .unset] [(.int (24 : Int32)), (.long (own_b l4 s4)), (.long E2)]) _
                  refine stp (fun _ => XS.lshl X52.here hx rfl (hb hby at_411) rfl) ?_
                  show Go p e below T52 (mkF m 412 #[.val (.int le), .val (.long wa), .second, .val (.long wb), .second, .val (.long wc), .second, .val (.int se), .val (.int n), .val (.ref b1), .val (.ref r39), .val (.int l0), .val (.int l1), .val (.int l2), .val (.int l3), .val (.int l4), .val (.int l5), .val (.int l6), .val (.int l7), .unset, .unset] [(.long ((own_b l4 s4) <<< ((24 : Int32) &&& 0x3f).toInt64)), (.long E2)]) _
                  refine stp (fun _ => XS.lor X52.here hx rfl (hb hby at_412) rfl) ?_
                  show Go p e below T52 (mkF m 413 #[.val (.int le), .val (.long wa), .second, .val (.long wb), .second, .val (.long wc), .second, .val (.int se), .val (.int n), .val (.ref b1), .val (.ref r39), .val (.int l0), .val (.int l1), .val (.int l2), .val (.int l3), .val (.int l4), .val (.int l5), .val (.int l6), .val (.int l7), .unset, .unset] [(.long (E2 ||| ((own_b l4 s4) <<< ((24 : Int32) &&& 0x3f).toInt64)))]) _
                  obtain ⟨E3, hE3⟩ : ∃ z : Int64, z = (E2 ||| ((own_b l4 s4) <<< ((24 : Int32) &&& 0x3f).toInt64)) := ⟨_, rfl⟩
                  rw [← hE3]
                  show Go p e below T52 (mkF m 413 #[.val (.int le), .val (.long wa), .second, .val (.long wb), .second, .val (.long wc), .second, .val (.int se), .val (.int n), .val (.ref b1), .val (.ref r39), .val (.int l0), .val (.int l1), .val (.int l2), .val (.int l3), .val (.int l4), .val (.int l5), .val (.int l6), .val (.int l7), .unset, .unset] [(.long E3)]) _
                  refine stp (fun _ => XS.iload X52.here hx rfl (hb hby at_413) rfl) ?_
                  refine stp (fun _ => XS.aload X52.here hx rfl (hb hby at_415) rfl rfl) ?_
                  refine stp (fun _ => XS.iconst X52.here hx rfl (hb hby at_417)) ?_
                  show Go p e below T52 (mkF m 418 #[.val (.int le), .val (.long wa), .second, .val (.long wb), .second, .val (.long wc), .second, .val (.int se), .val (.int n), .val (.ref b1), .val (.ref r39), .val (.int l0), .val (.int l1), .val (.int l2), .val (.int l3), .val (.int l4), .val (.int l5), .val (.int l6), .val (.int l7), .unset, .unset] [(.int (5 : Int32)), (.ref b1), (.int l5), (.long E3)]) _
                  obtain ⟨cl53, Ar53, q53, S53, M53, H53, G53⟩ := (id f42)
                  have in53 : ¬ ((5 : Int32) < 0 ∨ cl53.slots.size ≤ ((5 : Int32)).toNatClampNeg) := inb_of S53 ⟨by decide, by decide⟩
                  have at53 : cl53.slots[((5 : Int32)).toNatClampNeg]? = some (.int s5) := H53.at in53 rfl
                  refine stp (fun _ => X52.caload hx (j := (5 : Int32)) (v := (.int s5)) (by rw [e52]; exact Ar53.1) (State.isArrayOf_alike hZ.alike Ar53.2.1) Ar53.2.2 in53 at53 (g := (mkF m 418 #[.val (.int le), .val (.long wa), .second, .val (.long wb), .second, .val (.long wc), .second, .val (.int se), .val (.int n), .val (.ref b1), .val (.ref r39), .val (.int l0), .val (.int l1), .val (.int l2), .val (.int l3), .val (.int l4), .val (.int l5), .val (.int l6), .val (.int l7), .unset, .unset] [(.int (5 : Int32)), (.ref b1), (.int l5), (.long E3)])) rfl rfl (hb hby at_418) _) ?_
                  show Go p e below T52 (mkF m 419 #[.val (.int le), .val (.long wa), .second, .val (.long wb), .second, .val (.long wc), .second, .val (.int se), .val (.int n), .val (.ref b1), .val (.ref r39), .val (.int l0), .val (.int l1), .val (.int l2), .val (.int l3), .val (.int l4), .val (.int l5), .val (.int l6), .val (.int l7), .unset, .unset] [(.int s5), (.int l5), (.long E3)]) _
                  obtain ⟨_, _, ⟨T54, L54, k54, n54⟩, -, X54, ⟨Lc54, hQ54, l54, y54, z54⟩, st54⟩ := Jvm.LawKit.callS X52 hx (y := (⟨"com/example/heedful_rank/heedfulrank/history/ByteOrderPrefixKeyPinLaw", "b", "(ZC)J"⟩ : MethodName)) hown (mvT hZ (hw _ (List.mem_of_getElem? (i := 30) rfl))) (mvT hZ (hw _ (List.mem_of_getElem? (i := 31) rfl))) (mvT hZ (hw _ (List.mem_of_getElem? (i := 4) rfl))) (mvT hZ (hw _ (List.mem_of_getElem? (i := 32) rfl))) (by decide) (backOf (W := 2) (rm_b l Z a0 hw [] l5 s5  T39.heap n0 O39 ) hZ (hw _ (List.mem_of_getElem? (i := 32) rfl)) (hw _ (List.mem_of_getElem? (i := 4) rfl)) (by decide) (by decide)) (g := (mkF m 419 #[.val (.int le), .val (.long wa), .second, .val (.long wb), .second, .val (.long wc), .second, .val (.int se), .val (.int n), .val (.ref b1), .val (.ref r39), .val (.int l0), .val (.int l1), .val (.int l2), .val (.int l3), .val (.int l4), .val (.int l5), .val (.int l6), .val (.int l7), .unset, .unset] [(.int s5), (.int l5), (.long E3)])) rfl (by rw [hml]; rfl) (argsL := [(.int l5), (.int s5)]) (rest := [(.long E3)]) (lenOf pd_19 rfl) rfl (by show 2 * 0 + _ ≤ _; exact Nat.le_of_eq rfl) (hb hby at_419) (fun _ _ => ⟨rfl, e52, (by decide : 5 + 0 ≤ _), (by decide : 52 + 0 ≤ _)⟩)
                  dsimp only [Pt.U, Pt.locs, Pt.cells, Pt.slots] at X54 l54 y54 z54 st54 hQ54
                  subst y54 z54
                  obtain ⟨rfl, N54q, e54⟩ := hQ54
                  have N54 : Fr n0 L54 := by rw [l54]; exact Fr.app N52 N54q
                  refine stp st54 ?_
                  show Go p e below T54 (mkF m 422 #[.val (.int le), .val (.long wa), .second, .val (.long wb), .second, .val (.long wc), .second, .val (.int se), .val (.int n), .val (.ref b1), .val (.ref r39), .val (.int l0), .val (.int l1), .val (.int l2), .val (.int l3), .val (.int l4), .val (.int l5), .val (.int l6), .val (.int l7), .unset, .unset] [(.long (own_b l5 s5)), (.long E3)]) _
                  refine stp (fun _ => XS.bipush X54.here hx rfl (hb hby at_422)) ?_
                  show Go p e below T54 (mkF m 424 #[.val (.int le), .val (.long wa), .second, .val (.long wb), .second, .val (.long wc), .second, .val (.int se), .val (.int n), .val (.ref b1), .val (.ref r39), .val (.int l0), .val (.int l1), .val (.int l2), .val (.int l3), .val (.int l4), .val (.int l5), .val (.int l6), .val (.int l7), .unset, .unset] [(.int (16 : Int32)), (.long (own_b l5 s5)), (.long E3)]) _
                  refine stp (fun _ => XS.lshl X54.here hx rfl (hb hby at_424) rfl) ?_
                  show Go p e below T54 (mkF m 425 #[.val (.int le), .val (.long wa), .second, .val (.long wb), .second, .val (.long wc), .second, .val (.int se), .val (.int n), .val (.ref b1), .val (.ref r39), .val (.int l0), .val (.int l1), .val (.int l2), .val (.int l3), .val (.int l4), .val (.int l5), .val (.int l6), .val (.int l7), .unset, .unset] [(.long ((own_b l5 s5) <<< ((16 : Int32) &&& 0x3f).toInt64)), (.long E3)]) _
                  refine stp (fun _ => XS.lor X54.here hx rfl (hb hby at_425) rfl) ?_
                  show Go p e below T54 (mkF m 426 #[.val (.int le), .val (.long wa), .second, .val (.long wb), .second, .val (.long wc), .second, .val (.int se), .val (.int n), .val (.ref b1), .val (.ref r39), .val (.int l0), .val (.int l1), .val (.int l2), .val (.int l3), .val (.int l4), .val (.int l5), .val (.int l6), .val (.int l7), .unset, .unset] [(.long (E3 ||| ((own_b l5 s5) <<< ((16 : Int32) &&& 0x3f).toInt64)))]) _
                  obtain ⟨E4, hE4⟩ : ∃ z : Int64, z = (E3 ||| ((own_b l5 s5) <<< ((16 : Int32) &&& 0x3f).toInt64)) := ⟨_, rfl⟩
                  rw [← hE4]
                  show Go p e below T54 (mkF m 426 #[.val (.int le), .val (.long wa), .second, .val (.long wb), .second, .val (.long wc), .second, .val (.int se), .val (.int n), .val (.ref b1), .val (.ref r39), .val (.int l0), .val (.int l1), .val (.int l2), .val (.int l3), .val (.int l4), .val (.int l5), .val (.int l6), .val (.int l7), .unset, .unset] [(.long E4)]) _
                  refine stp (fun _ => XS.iload X54.here hx rfl (hb hby at_426) rfl) ?_
                  refine stp (fun _ => XS.aload X54.here hx rfl (hb hby at_428) rfl rfl) ?_
                  refine stp (fun _ => XS.bipush X54.here hx rfl (hb hby at_430)) ?_
                  show Go p e below T54 (mkF m 432 #[.val (.int le), .val (.long wa), .second, .val (.long wb), .second, .val (.long wc), .second, .val (.int se), .val (.int n), .val (.ref b1), .val (.ref r39), .val (.int l0), .val (.int l1), .val (.int l2), .val (.int l3), .val (.int l4), .val (.int l5), .val (.int l6), .val (.int l7), .unset, .unset] [(.int (6 : Int32)), (.ref b1), (.int l6), (.long E4)]) _
                  obtain ⟨cl55, Ar55, q55, S55, M55, H55, G55⟩ := (id f42)
                  have in55 : ¬ ((6 : Int32) < 0 ∨ cl55.slots.size ≤ ((6 : Int32)).toNatClampNeg) := inb_of S55 ⟨by decide, by decide⟩
                  have at55 : cl55.slots[((6 : Int32)).toNatClampNeg]? = some (.int s6) := H55.at in55 rfl
                  refine stp (fun _ => X54.caload hx (j := (6 : Int32)) (v := (.int s6)) (by rw [e54]; exact Ar55.1) (State.isArrayOf_alike hZ.alike Ar55.2.1) Ar55.2.2 in55 at55 (g := (mkF m 432 #[.val (.int le), .val (.long wa), .second, .val (.long wb), .second, .val (.long wc), .second, .val (.int se), .val (.int n), .val (.ref b1), .val (.ref r39), .val (.int l0), .val (.int l1), .val (.int l2), .val (.int l3), .val (.int l4), .val (.int l5), .val (.int l6), .val (.int l7), .unset, .unset] [(.int (6 : Int32)), (.ref b1), (.int l6), (.long E4)])) rfl rfl (hb hby at_432) _) ?_
                  show Go p e below T54 (mkF m 433 #[.val (.int le), .val (.long wa), .second, .val (.long wb), .second, .val (.long wc), .second, .val (.int se), .val (.int n), .val (.ref b1), .val (.ref r39), .val (.int l0), .val (.int l1), .val (.int l2), .val (.int l3), .val (.int l4), .val (.int l5), .val (.int l6), .val (.int l7), .unset, .unset] [(.int s6), (.int l6), (.long E4)]) _
                  obtain ⟨_, _, ⟨T56, L56, k56, n56⟩, -, X56, ⟨Lc56, hQ56, l56, y56, z56⟩, st56⟩ := Jvm.LawKit.callS X54 hx (y := (⟨"com/example/heedful_rank/heedfulrank/history/ByteOrderPrefixKeyPinLaw", "b", "(ZC)J"⟩ : MethodName)) hown (mvT hZ (hw _ (List.mem_of_getElem? (i := 30) rfl))) (mvT hZ (hw _ (List.mem_of_getElem? (i := 31) rfl))) (mvT hZ (hw _ (List.mem_of_getElem? (i := 4) rfl))) (mvT hZ (hw _ (List.mem_of_getElem? (i := 32) rfl))) (by decide) (backOf (W := 2) (rm_b l Z a0 hw [] l6 s6  T39.heap n0 O39 ) hZ (hw _ (List.mem_of_getElem? (i := 32) rfl)) (hw _ (List.mem_of_getElem? (i := 4) rfl)) (by decide) (by decide)) (g := (mkF m 433 #[.val (.int le), .val (.long wa), .second, .val (.long wb), .second, .val (.long wc), .second, .val (.int se), .val (.int n), .val (.ref b1), .val (.ref r39), .val (.int l0), .val (.int l1), .val (.int l2), .val (.int l3), .val (.int l4), .val (.int l5), .val (.int l6), .val (.int l7), .unset, .unset] [(.int s6), (.int l6), (.long E4)])) rfl (by rw [hml]; rfl) (argsL := [(.int l6), (.int s6)]) (rest := [(.long E4)]) (lenOf pd_19 rfl) rfl (by show 2 * 0 + _ ≤ _; exact Nat.le_of_eq rfl) (hb hby at_433) (fun _ _ => ⟨rfl, e54, (by decide : 5 + 0 ≤ _), (by decide : 52 + 0 ≤ _)⟩)
                  dsimp only [Pt.U, Pt.locs, Pt.cells, Pt.slots] at X56 l56 y56 z56 st56 hQ56
                  subst y56 z56
                  obtain ⟨rfl, N56q, e56⟩ := hQ56
                  have N56 : Fr n0 L56 := by rw [l56]; exact Fr.app N54 N56q
                  refine stp st56 ?_
                  show Go p e below T56 (mkF m 436 #[.val (.int le), .val (.long wa), .second, .val (.long wb), .second, .val (.long wc), .second, .val (.int se), .val (.int n), .val (.ref b1), .val (.ref r39), .val (.int l0), .val (.int l1), .val (.int l2), .val (.int l3), .val (.int l4), .val (.int l5), .val (.int l6), .val (.int l7), .unset, .unset] [(.long (own_b l6 s6)), (.long E4)]) _
                  refine stp (fun _ => XS.bipush X56.here hx rfl (hb hby at_436)) ?_
                  show Go p e below T56 (mkF m 438 #[.val (.int le), .val (.long wa), .second, .val (.long wb), .second, .val (.long wc), .second, .val (.int se), .val (.int n), .val (.ref b1), .val (.ref r39), .val (.int l0), .val (.int l1), .val (.int l2), .val (.int l3), .val (.int l4), .val (.int l5), .val (.int l6), .val (.int l7), .unset, .unset] [(.int (8 : Int32)), (.long (own_b l6 s6)), (.long E4)]) _
                  refine stp (fun _ => XS.lshl X56.here hx rfl (hb hby at_438) rfl) ?_
                  show Go p e below T56 (mkF m 439 #[.val (.int le), .val (.long wa), .second, .val (.long wb), .second, .val (.long wc), .second, .val (.int se), .val (.int n), .val (.ref b1), .val (.ref r39), .val (.int l0), .val (.int l1), .val (.int l2), .val (.int l3), .val (.int l4), .val (.int l5), .val (.int l6), .val (.int l7), .unset, .unset] [(.long ((own_b l6 s6) <<< ((8 : Int32) &&& 0x3f).toInt64)), (.long E4)]) _
                  refine stp (fun _ => XS.lor X56.here hx rfl (hb hby at_439) rfl) ?_
                  show Go p e below T56 (mkF m 440 #[.val (.int le), .val (.long wa), .second, .val (.long wb), .second, .val (.long wc), .second, .val (.int se), .val (.int n), .val (.ref b1), .val (.ref r39), .val (.int l0), .val (.int l1), .val (.int l2), .val (.int l3), .val (.int l4), .val (.int l5), .val (.int l6), .val (.int l7), .unset, .unset] [(.long (E4 ||| ((own_b l6 s6) <<< ((8 : Int32) &&& 0x3f).toInt64)))]) _
                  obtain ⟨E5, hE5⟩ : ∃ z : Int64, z = (E4 ||| ((own_b l6 s6) <<< ((8 : Int32) &&& 0x3f).toInt64)) := ⟨_, rfl⟩
                  rw [← hE5]
                  show Go p e below T56 (mkF m 440 #[.val (.int le), .val (.long wa), .second, .val (.long wb), .second, .val (.long wc), .second, .val (.int se), .val (.int n), .val (.ref b1), .val (.ref r39), .val (.int l0), .val (.int l1), .val (.int l2), .val (.int l3), .val (.int l4), .val (.int l5), .val (.int l6), .val (.int l7), .unset, .unset] [(.long E5)]) _
                  refine stp (fun _ => XS.iload X56.here hx rfl (hb hby at_440) rfl) ?_
                  refine stp (fun _ => XS.aload X56.here hx rfl (hb hby at_442) rfl rfl) ?_
                  refine stp (fun _ => XS.bipush X56.here hx rfl (hb hby at_444)) ?_
                  show Go p e below T56 (mkF m 446 #[.val (.int le), .val (.long wa), .second, .val (.long wb), .second, .val (.long wc), .second, .val (.int se), .val (.int n), .val (.ref b1), .val (.ref r39), .val (.int l0), .val (.int l1), .val (.int l2), .val (.int l3), .val (.int l4), .val (.int l5), .val (.int l6), .val (.int l7), .unset, .unset] [(.int (7 : Int32)), (.ref b1), (.int l7), (.long E5)]) _
                  obtain ⟨cl57, Ar57, q57, S57, M57, H57, G57⟩ := (id f42)
                  have in57 : ¬ ((7 : Int32) < 0 ∨ cl57.slots.size ≤ ((7 : Int32)).toNatClampNeg) := inb_of S57 ⟨by decide, by decide⟩
                  have at57 : cl57.slots[((7 : Int32)).toNatClampNeg]? = some (.int s7) := H57.at in57 rfl
                  refine stp (fun _ => X56.caload hx (j := (7 : Int32)) (v := (.int s7)) (by rw [e56]; exact Ar57.1) (State.isArrayOf_alike hZ.alike Ar57.2.1) Ar57.2.2 in57 at57 (g := (mkF m 446 #[.val (.int le), .val (.long wa), .second, .val (.long wb), .second, .val (.long wc), .second, .val (.int se), .val (.int n), .val (.ref b1), .val (.ref r39), .val (.int l0), .val (.int l1), .val (.int l2), .val (.int l3), .val (.int l4), .val (.int l5), .val (.int l6), .val (.int l7), .unset, .unset] [(.int (7 : Int32)), (.ref b1), (.int l7), (.long E5)])) rfl rfl (hb hby at_446) _) ?_
                  show Go p e below T56 (mkF m 447 #[.val (.int le), .val (.long wa), .second, .val (.long wb), .second, .val (.long wc), .second, .val (.int se), .val (.int n), .val (.ref b1), .val (.ref r39), .val (.int l0), .val (.int l1), .val (.int l2), .val (.int l3), .val (.int l4), .val (.int l5), .val (.int l6), .val (.int l7), .unset, .unset] [(.int s7), (.int l7), (.long E5)]) _
                  obtain ⟨_, _, ⟨T58, L58, k58, n58⟩, -, X58, ⟨Lc58, hQ58, l58, y58, z58⟩, st58⟩ := Jvm.LawKit.callS X56 hx (y := (⟨"com/example/heedful_rank/heedfulrank/history/ByteOrderPrefixKeyPinLaw", "b", "(ZC)J"⟩ : MethodName)) hown (mvT hZ (hw _ (List.mem_of_getElem? (i := 30) rfl))) (mvT hZ (hw _ (List.mem_of_getElem? (i := 31) rfl))) (mvT hZ (hw _ (List.mem_of_getElem? (i := 4) rfl))) (mvT hZ (hw _ (List.mem_of_getElem? (i := 32) rfl))) (by decide) (backOf (W := 2) (rm_b l Z a0 hw [] l7 s7  T39.heap n0 O39 ) hZ (hw _ (List.mem_of_getElem? (i := 32) rfl)) (hw _ (List.mem_of_getElem? (i := 4) rfl)) (by decide) (by decide)) (g := (mkF m 447 #[.val (.int le), .val (.long wa), .second, .val (.long wb), .second, .val (.long wc), .second, .val (.int se), .val (.int n), .val (.ref b1), .val (.ref r39), .val (.int l0), .val (.int l1), .val (.int l2), .val (.int l3), .val (.int l4), .val (.int l5), .val (.int l6), .val (.int l7), .unset, .unset] [(.int s7), (.int l7), (.long E5)])) rfl (by rw [hml]; rfl) (argsL := [(.int l7), (.int s7)]) (rest := [(.long E5)]) (lenOf pd_19 rfl) rfl (by show 2 * 0 + _ ≤ _; exact Nat.le_of_eq rfl) (hb hby at_447) (fun _ _ => ⟨rfl, e56, (by decide : 5 + 0 ≤ _), (by decide : 52 + 0 ≤ _)⟩)
                  dsimp only [Pt.U, Pt.locs, Pt.cells, Pt.slots] at X58 l58 y58 z58 st58 hQ58
                  subst y58 z58
                  obtain ⟨rfl, N58q, e58⟩ := hQ58
                  have N58 : Fr n0 L58 := by rw [l58]; exact Fr.app N56 N58q
                  refine stp st58 ?_
                  show Go p e below T58 (mkF m 450 #[.val (.int le), .val (.long wa), .second, .val (.long wb), .second, .val (.long wc), .second, .val (.int se), .val (.int n), .val (.ref b1), .val (.ref r39), .val (.int l0), .val (.int l1), .val (.int l2), .val (.int l3), .val (.int l4), .val (.int l5), .val (.int l6), .val (.int l7), .unset, .unset] [(.long (own_b l7 s7)), (.long E5)]) _
                  refine stp (fun _ => XS.lor X58.here hx rfl (hb hby at_450) rfl) ?_
                  show Go p e below T58 (mkF m 451 #[.val (.int le), .val (.long wa), .second, .val (.long wb), .second, .val (.long wc), .second, .val (.int se), .val (.int n), .val (.ref b1), .val (.ref r39), .val (.int l0), .val (.int l1), .val (.int l2), .val (.int l3), .val (.int l4), .val (.int l5), .val (.int l6), .val (.int l7), .unset, .unset] [(.long (E5 ||| (own_b l7 s7)))]) _
                  refine stp (fun _ => XS.lstore X58.here hx rfl (hb hby at_451) rfl (l' := #[.val (.int le), .val (.long wa), .second, .val (.long wb), .second, .val (.long wc), .second, .val (.int se), .val (.int n), .val (.ref b1), .val (.ref r39), .val (.int l0), .val (.int l1), .val (.int l2), .val (.int l3), .val (.int l4), .val (.int l5), .val (.int l6), .val (.int l7), .val (.long (E5 ||| (own_b l7 s7))), .second]) rfl) ?_
                  show Go p e below T58 (mkF m 453 #[.val (.int le), .val (.long wa), .second, .val (.long wb), .second, .val (.long wc), .second, .val (.int se), .val (.int n), .val (.ref b1), .val (.ref r39), .val (.int l0), .val (.int l1), .val (.int l2), .val (.int l3), .val (.int l4), .val (.int l5), .val (.int l6), .val (.int l7), .val (.long (E5 ||| (own_b l7 s7))), .second] []) _
                  refine stp (fun _ => XS.lload X58.here hx rfl (hb hby at_453) rfl) ?_
                  show Go p e below T58 (mkF m 455 #[.val (.int le), .val (.long wa), .second, .val (.long wb), .second, .val (.long wc), .second, .val (.int se), .val (.int n), .val (.ref b1), .val (.ref r39), .val (.int l0), .val (.int l1), .val (.int l2), .val (.int l3), .val (.int l4), .val (.int l5), .val (.int l6), .val (.int l7), .val (.long (E5 ||| (own_b l7 s7))), .second] [(.long (E5 ||| (own_b l7 s7)))]) _
                  refine stp (fun _ => X58.ldc2Long hx hown (mvT hZ (hw _ (List.mem_of_getElem? (i := 33) rfl))) (g := (mkF m 455 #[.val (.int le), .val (.long wa), .second, .val (.long wb), .second, .val (.long wc), .second, .val (.int se), .val (.int n), .val (.ref b1), .val (.ref r39), .val (.int l0), .val (.int l1), .val (.int l2), .val (.int l3), .val (.int l4), .val (.int l5), .val (.int l6), .val (.int l7), .val (.long (E5 ||| (own_b l7 s7))), .second] [(.long (E5 ||| (own_b l7 s7)))])) rfl (hb hby at_455) _) ?_
                  show Go p e below T58 (mkF m 458 #[.val (.int le), .val (.long wa), .second, .val (.long wb), .second, .val (.long wc), .second, .val (.int se), .val (.int n), .val (.ref b1), .val (.ref r39), .val (.int l0), .val (.int l1), .val (.int l2), .val (.int l3), .val (.int l4), .val (.int l5), .val (.int l6), .val (.int l7), .val (.long (E5 ||| (own_b l7 s7))), .second] [(.long (-9223372036854775808 : Int64)), (.long (E5 ||| (own_b l7 s7)))]) _
                  refine stp (fun _ => XS.lxor X58.here hx rfl (hb hby at_458) rfl) ?_
                  show Go p e below T58 (mkF m 459 #[.val (.int le), .val (.long wa), .second, .val (.long wb), .second, .val (.long wc), .second, .val (.int se), .val (.int n), .val (.ref b1), .val (.ref r39), .val (.int l0), .val (.int l1), .val (.int l2), .val (.int l3), .val (.int l4), .val (.int l5), .val (.int l6), .val (.int l7), .val (.long (E5 ||| (own_b l7 s7))), .second] [(.long ((E5 ||| (own_b l7 s7)) ^^^ (-9223372036854775808 : Int64)))]) _
                  refine stp (fun _ => XS.lstore X58.here hx rfl (hb hby at_459) rfl (l' := #[.val (.int le), .val (.long wa), .second, .val (.long wb), .second, .val (.long wc), .second, .val (.int se), .val (.int n), .val (.ref b1), .val (.ref r39), .val (.int l0), .val (.int l1), .val (.int l2), .val (.int l3), .val (.int l4), .val (.int l5), .val (.int l6), .val (.int l7), .val (.long ((E5 ||| (own_b l7 s7)) ^^^ (-9223372036854775808 : Int64))), .second]) rfl) ?_
                  show Go p e below T58 (mkF m 461 #[.val (.int le), .val (.long wa), .second, .val (.long wb), .second, .val (.long wc), .second, .val (.int se), .val (.int n), .val (.ref b1), .val (.ref r39), .val (.int l0), .val (.int l1), .val (.int l2), .val (.int l3), .val (.int l4), .val (.int l5), .val (.int l6), .val (.int l7), .val (.long ((E5 ||| (own_b l7 s7)) ^^^ (-9223372036854775808 : Int64))), .second] []) _
                  refine stp (fun _ => XS.aload X58.here hx rfl (hb hby at_461) rfl rfl) ?_
                  show Go p e below T58 (mkF m 463 #[.val (.int le), .val (.long wa), .second, .val (.long wb), .second, .val (.long wc), .second, .val (.int se), .val (.int n), .val (.ref b1), .val (.ref r39), .val (.int l0), .val (.int l1), .val (.int l2), .val (.int l3), .val (.int l4), .val (.int l5), .val (.int l6), .val (.int l7), .val (.long ((E5 ||| (own_b l7 s7)) ^^^ (-9223372036854775808 : Int64))), .second] [(.ref r39)]) _
                  obtain ⟨_, _, ⟨T59, L59, k59, n59⟩, -, X59, ⟨Lc59, hQ59, l59, y59, z59⟩, st59⟩ := Jvm.LawKit.callS X58 hx (y := (⟨"com/example/heedful_rank/heedfulrank/history/ByteOrder", "prefixKey", "(Ljava/lang/String;)J"⟩ : MethodName)) hown (mvT hZ (hw _ (List.mem_of_getElem? (i := 34) rfl))) (mvT hZ (hw _ (List.mem_of_getElem? (i := 35) rfl))) (mvT hZ (hw _ (List.mem_of_getElem? (i := 36) rfl))) (mvT hZ (hw _ (List.mem_of_getElem? (i := 37) rfl))) (by decide) (backOf (W := 0) (rm_pk l Z a0 hw [] r39 (own_mk s0 s1 s2 s3 s4 s5 s6 s7 s8 n) cz fm T39.heap n0 O39 r39_0 S_CS S_FM S_AS S_HI S_LO hcz hfm (own_mk_le hn)) hZ (hw _ (List.mem_of_getElem? (i := 37) rfl)) (hw _ (List.mem_of_getElem? (i := 36) rfl)) (by decide) (by decide)) (g := (mkF m 463 #[.val (.int le), .val (.long wa), .second, .val (.long wb), .second, .val (.long wc), .second, .val (.int se), .val (.int n), .val (.ref b1), .val (.ref r39), .val (.int l0), .val (.int l1), .val (.int l2), .val (.int l3), .val (.int l4), .val (.int l5), .val (.int l6), .val (.int l7), .val (.long ((E5 ||| (own_b l7 s7)) ^^^ (-9223372036854775808 : Int64))), .second] [(.ref r39)])) rfl (by rw [hml]; rfl) (argsL := [(.ref r39)]) (rest := []) (lenOf pd_20 rfl) rfl (by show 2 * 0 + _ ≤ _; exact Nat.le_of_eq rfl) (hb hby at_463) (fun _ _ => ⟨rfl, e58, (by decide : 5 + 0 ≤ _), (by decide : 52 + 0 ≤ _)⟩)
                  dsimp only [Pt.U, Pt.locs, Pt.cells, Pt.slots] at X59 l59 y59 z59 st59 hQ59
                  subst y59 z59
                  obtain ⟨rfl, N59q, e59⟩ := hQ59
                  have N59 : Fr n0 L59 := by rw [l59]; exact Fr.app N58 N59q
                  refine stp st59 ?_
                  show Go p e below T59 (mkF m 466 #[.val (.int le), .val (.long wa), .second, .val (.long wb), .second, .val (.long wc), .second, .val (.int se), .val (.int n), .val (.ref b1), .val (.ref r39), .val (.int l0), .val (.int l1), .val (.int l2), .val (.int l3), .val (.int l4), .val (.int l5), .val (.int l6), .val (.int l7), .val (.long ((E5 ||| (own_b l7 s7)) ^^^ (-9223372036854775808 : Int64))), .second] [(.long (own_k0 (own_mk s0 s1 s2 s3 s4 s5 s6 s7 s8 n) (0 : Int64)))]) _
                  refine stp (fun _ => XS.lload X59.here hx rfl (hb hby at_466) rfl) ?_
                  show Go p e below T59 (mkF m 468 #[.val (.int le), .val (.long wa), .second, .val (.long wb), .second, .val (.long wc), .second, .val (.int se), .val (.int n), .val (.ref b1), .val (.ref r39), .val (.int l0), .val (.int l1), .val (.int l2), .val (.int l3), .val (.int l4), .val (.int l5), .val (.int l6), .val (.int l7), .val (.long ((E5 ||| (own_b l7 s7)) ^^^ (-9223372036854775808 : Int64))), .second] [(.long ((E5 ||| (own_b l7 s7)) ^^^ (-9223372036854775808 : Int64))), (.long (own_k0 (own_mk s0 s1 s2 s3 s4 s5 s6 s7 s8 n) (0 : Int64)))]) _
                  refine stp (fun _ => XS.lcmp X59.here hx rfl (hb hby at_468) rfl) ?_
                  show Go p e below T59 (mkF m 469 #[.val (.int le), .val (.long wa), .second, .val (.long wb), .second, .val (.long wc), .second, .val (.int se), .val (.int n), .val (.ref b1), .val (.ref r39), .val (.int l0), .val (.int l1), .val (.int l2), .val (.int l3), .val (.int l4), .val (.int l5), .val (.int l6), .val (.int l7), .val (.long ((E5 ||| (own_b l7 s7)) ^^^ (-9223372036854775808 : Int64))), .second] [(.int (lcmpW (own_k0 (own_mk s0 s1 s2 s3 s4 s5 s6 s7 s8 n) (0 : Int64)) ((E5 ||| (own_b l7 s7)) ^^^ (-9223372036854775808 : Int64))))]) _
                  refine stp (fun _ => XS.ifNo X59.here hx rfl (hb hby at_469) rfl (XT.ll_ne_f (by rw [hE5, hE4, hE3, hE2, hE1, hE0]; exact own_key hn hl0 hl1 hl2 hl3 hl4 hl5 hl6 hl7))) ?_
                  show Go p e below T59 (mkF m 472 #[.val (.int le), .val (.long wa), .second, .val (.long wb), .second, .val (.long wc), .second, .val (.int se), .val (.int n), .val (.ref b1), .val (.ref r39), .val (.int l0), .val (.int l1), .val (.int l2), .val (.int l3), .val (.int l4), .val (.int l5), .val (.int l6), .val (.int l7), .val (.long ((E5 ||| (own_b l7 s7)) ^^^ (-9223372036854775808 : Int64))), .second] []) _
                  refine stp (fun _ => XS.iconst X59.here hx rfl (hb hby at_472)) ?_
                  show Go p e below T59 (mkF m 473 #[.val (.int le), .val (.long wa), .second, .val (.long wb), .second, .val (.long wc), .second, .val (.int se), .val (.int n), .val (.ref b1), .val (.ref r39), .val (.int l0), .val (.int l1), .val (.int l2), .val (.int l3), .val (.int l4), .val (.int l5), .val (.int l6), .val (.int l7), .val (.long ((E5 ||| (own_b l7 s7)) ^^^ (-9223372036854775808 : Int64))), .second] [(.int (1 : Int32))]) _
                  refine stp (fun _ => XS.goto X59.here hx rfl (pc0 := 473) (pc' := 477) rfl (hb hby at_473) (by decide) (by decide)) ?_
                  show Go p e below T59 (mkF m 477 #[.val (.int le), .val (.long wa), .second, .val (.long wb), .second, .val (.long wc), .second, .val (.int se), .val (.int n), .val (.ref b1), .val (.ref r39), .val (.int l0), .val (.int l1), .val (.int l2), .val (.int l3), .val (.int l4), .val (.int l5), .val (.int l6), .val (.int l7), .val (.long ((E5 ||| (own_b l7 s7)) ^^^ (-9223372036854775808 : Int64))), .second] [(.int (1 : Int32))]) _
                  refine outNW X59 hx hZ hEL e59 hS hk CR (t := .boolean) hret (by simp) (hb hby at_477) hlk (by decide) (by decide) ?_
                  exact ⟨rfl, N59⟩
                refine stp (fun _ => XS.iload X39.here hx rfl (hb hby at_320) rfl) ?_
                show Go p e below T39 (mkF m 322 #[.val (.int le), .val (.long wa), .second, .val (.long wb), .second, .val (.long wc), .second, .val (.int se), .val (.int n), .val (.ref b1), .val (.ref r39), .val (.int l0), .val (.int l1), .val (.int l2), .val (.int l3), .val (.int l4), .val (.int l5), .val (.int l6), .unset, .unset, .unset] [(.int l6)]) _
                by_cases q322_60 : l6 = 0
                · refine stp (fun _ => XS.ifYes X39.here hx rfl (pc0 := 322) (pc' := 346) rfl (hb hby at_322) rfl (XT.i0_eq_t q322_60) (by decide) (by decide)) ?_
                  show Go p e below T39 (mkF m 346 #[.val (.int le), .val (.long wa), .second, .val (.long wb), .second, .val (.long wc), .second, .val (.int se), .val (.int n), .val (.ref b1), .val (.ref r39), .val (.int l0), .val (.int l1), .val (.int l2), .val (.int l3), .val (.int l4), .val (.int l5), .val (.int l6), .unset, .unset, .unset] []) _
                  refine stp (fun _ => XS.iconst X39.here hx rfl (hb hby at_346)) ?_
                  show Go p e below T39 (mkF m 347 #[.val (.int le), .val (.long wa), .second, .val (.long wb), .second, .val (.long wc), .second, .val (.int se), .val (.int n), .val (.ref b1), .val (.ref r39), .val (.int l0), .val (.int l1), .val (.int l2), .val (.int l3), .val (.int l4), .val (.int l5), .val (.int l6), .unset, .unset, .unset] [(.int (0 : Int32))]) _
                  exact J7 _ (by simp only [if_pos q322_60])
                refine stp (fun _ => XS.ifNo X39.here hx rfl (hb hby at_322) rfl (XT.i0_eq_f q322_60)) ?_
                show Go p e below T39 (mkF m 325 #[.val (.int le), .val (.long wa), .second, .val (.long wb), .second, .val (.long wc), .second, .val (.int se), .val (.int n), .val (.ref b1), .val (.ref r39), .val (.int l0), .val (.int l1), .val (.int l2), .val (.int l3), .val (.int l4), .val (.int l5), .val (.int l6), .unset, .unset, .unset] []) _
                refine stp (fun _ => XS.aload X39.here hx rfl (hb hby at_325) rfl rfl) ?_
                refine stp (fun _ => XS.bipush X39.here hx rfl (hb hby at_327)) ?_
                show Go p e below T39 (mkF m 329 #[.val (.int le), .val (.long wa), .second, .val (.long wb), .second, .val (.long wc), .second, .val (.int se), .val (.int n), .val (.ref b1), .val (.ref r39), .val (.int l0), .val (.int l1), .val (.int l2), .val (.int l3), .val (.int l4), .val (.int l5), .val (.int l6), .unset, .unset, .unset] [(.int (6 : Int32)), (.ref b1)]) _
                obtain ⟨cl61, Ar61, q61, S61, M61, H61, G61⟩ := (id f42)
                have in61 : ¬ ((6 : Int32) < 0 ∨ cl61.slots.size ≤ ((6 : Int32)).toNatClampNeg) := inb_of S61 ⟨by decide, by decide⟩
                have at61 : cl61.slots[((6 : Int32)).toNatClampNeg]? = some (.int s6) := H61.at in61 rfl
                refine stp (fun _ => X39.caload hx (j := (6 : Int32)) (v := (.int s6)) Ar61.1 (State.isArrayOf_alike hZ.alike Ar61.2.1) Ar61.2.2 in61 at61 (g := (mkF m 329 #[.val (.int le), .val (.long wa), .second, .val (.long wb), .second, .val (.long wc), .second, .val (.int se), .val (.int n), .val (.ref b1), .val (.ref r39), .val (.int l0), .val (.int l1), .val (.int l2), .val (.int l3), .val (.int l4), .val (.int l5), .val (.int l6), .unset, .unset, .unset] [(.int (6 : Int32)), (.ref b1)])) rfl rfl (hb hby at_329) _) ?_
                show Go p e below T39 (mkF m 330 #[.val (.int le), .val (.long wa), .second, .val (.long wb), .second, .val (.long wc), .second, .val (.int se), .val (.int n), .val (.ref b1), .val (.ref r39), .val (.int l0), .val (.int l1), .val (.int l2), .val (.int l3), .val (.int l4), .val (.int l5), .val (.int l6), .unset, .unset, .unset] [(.int s6)]) _
                refine stp (fun _ => XS.bipush X39.here hx rfl (hb hby at_330)) ?_
                show Go p e below T39 (mkF m 332 #[.val (.int le), .val (.long wa), .second, .val (.long wb), .second, .val (.long wc), .second, .val (.int se), .val (.int n), .val (.ref b1), .val (.ref r39), .val (.int l0), .val (.int l1), .val (.int l2), .val (.int l3), .val (.int l4), .val (.int l5), .val (.int l6), .unset, .unset, .unset] [(.int (127 : Int32)), (.int s6)]) _
                by_cases q332_62 : (127 : Int32) < s6
                · refine stp (fun _ => XS.icmpYes X39.here hx rfl (pc0 := 332) (pc' := 346) rfl (hb hby at_332) rfl (XT.ii_gt_t q332_62) (by decide) (by decide)) ?_
                  show Go p e below T39 (mkF m 346 #[.val (.int le), .val (.long wa), .second, .val (.long wb), .second, .val (.long wc), .second, .val (.int se), .val (.int n), .val (.ref b1), .val (.ref r39), .val (.int l0), .val (.int l1), .val (.int l2), .val (.int l3), .val (.int l4), .val (.int l5), .val (.int l6), .unset, .unset, .unset] []) _
                  refine stp (fun _ => XS.iconst X39.here hx rfl (hb hby at_346)) ?_
                  show Go p e below T39 (mkF m 347 #[.val (.int le), .val (.long wa), .second, .val (.long wb), .second, .val (.long wc), .second, .val (.int se), .val (.int n), .val (.ref b1), .val (.ref r39), .val (.int l0), .val (.int l1), .val (.int l2), .val (.int l3), .val (.int l4), .val (.int l5), .val (.int l6), .unset, .unset, .unset] [(.int (0 : Int32))]) _
                  exact J7 _ (by simp only [if_neg q322_60, if_pos q332_62])
                refine stp (fun _ => XS.icmpNo X39.here hx rfl (hb hby at_332) rfl (XT.ii_gt_f q332_62)) ?_
                show Go p e below T39 (mkF m 335 #[.val (.int le), .val (.long wa), .second, .val (.long wb), .second, .val (.long wc), .second, .val (.int se), .val (.int n), .val (.ref b1), .val (.ref r39), .val (.int l0), .val (.int l1), .val (.int l2), .val (.int l3), .val (.int l4), .val (.int l5), .val (.int l6), .unset, .unset, .unset] []) _
                refine stp (fun _ => XS.iload X39.here hx rfl (hb hby at_335) rfl) ?_
                refine stp (fun _ => XS.bipush X39.here hx rfl (hb hby at_337)) ?_
                show Go p e below T39 (mkF m 339 #[.val (.int le), .val (.long wa), .second, .val (.long wb), .second, .val (.long wc), .second, .val (.int se), .val (.int n), .val (.ref b1), .val (.ref r39), .val (.int l0), .val (.int l1), .val (.int l2), .val (.int l3), .val (.int l4), .val (.int l5), .val (.int l6), .unset, .unset, .unset] [(.int (7 : Int32)), (.int n)]) _
                by_cases q339_63 : (7 : Int32) < n
                rotate_left
                · refine stp (fun _ => XS.icmpYes X39.here hx rfl (pc0 := 339) (pc' := 346) rfl (hb hby at_339) rfl (XT.ii_le_t q339_63) (by decide) (by decide)) ?_
                  show Go p e below T39 (mkF m 346 #[.val (.int le), .val (.long wa), .second, .val (.long wb), .second, .val (.long wc), .second, .val (.int se), .val (.int n), .val (.ref b1), .val (.ref r39), .val (.int l0), .val (.int l1), .val (.int l2), .val (.int l3), .val (.int l4), .val (.int l5), .val (.int l6), .unset, .unset, .unset] []) _
                  refine stp (fun _ => XS.iconst X39.here hx rfl (hb hby at_346)) ?_
                  show Go p e below T39 (mkF m 347 #[.val (.int le), .val (.long wa), .second, .val (.long wb), .second, .val (.long wc), .second, .val (.int se), .val (.int n), .val (.ref b1), .val (.ref r39), .val (.int l0), .val (.int l1), .val (.int l2), .val (.int l3), .val (.int l4), .val (.int l5), .val (.int l6), .unset, .unset, .unset] [(.int (0 : Int32))]) _
                  exact J7 _ (by simp only [if_neg q322_60, if_neg q332_62, if_neg q339_63])
                refine stp (fun _ => XS.icmpNo X39.here hx rfl (hb hby at_339) rfl (XT.ii_le_f q339_63)) ?_
                show Go p e below T39 (mkF m 342 #[.val (.int le), .val (.long wa), .second, .val (.long wb), .second, .val (.long wc), .second, .val (.int se), .val (.int n), .val (.ref b1), .val (.ref r39), .val (.int l0), .val (.int l1), .val (.int l2), .val (.int l3), .val (.int l4), .val (.int l5), .val (.int l6), .unset, .unset, .unset] []) _
                refine stp (fun _ => XS.iconst X39.here hx rfl (hb hby at_342)) ?_
                show Go p e below T39 (mkF m 343 #[.val (.int le), .val (.long wa), .second, .val (.long wb), .second, .val (.long wc), .second, .val (.int se), .val (.int n), .val (.ref b1), .val (.ref r39), .val (.int l0), .val (.int l1), .val (.int l2), .val (.int l3), .val (.int l4), .val (.int l5), .val (.int l6), .unset, .unset, .unset] [(.int (1 : Int32))]) _
                refine stp (fun _ => XS.goto X39.here hx rfl (pc0 := 343) (pc' := 347) rfl (hb hby at_343) (by decide) (by decide)) ?_
                show Go p e below T39 (mkF m 347 #[.val (.int le), .val (.long wa), .second, .val (.long wb), .second, .val (.long wc), .second, .val (.int se), .val (.int n), .val (.ref b1), .val (.ref r39), .val (.int l0), .val (.int l1), .val (.int l2), .val (.int l3), .val (.int l4), .val (.int l5), .val (.int l6), .unset, .unset, .unset] [(.int (1 : Int32))]) _
                exact J7 _ (by simp only [if_neg q322_60, if_neg q332_62, if_pos q339_63])
              refine stp (fun _ => XS.iload X39.here hx rfl (hb hby at_292) rfl) ?_
              show Go p e below T39 (mkF m 294 #[.val (.int le), .val (.long wa), .second, .val (.long wb), .second, .val (.long wc), .second, .val (.int se), .val (.int n), .val (.ref b1), .val (.ref r39), .val (.int l0), .val (.int l1), .val (.int l2), .val (.int l3), .val (.int l4), .val (.int l5), .unset, .unset, .unset, .unset] [(.int l5)]) _
              by_cases q294_64 : l5 = 0
              · refine stp (fun _ => XS.ifYes X39.here hx rfl (pc0 := 294) (pc' := 317) rfl (hb hby at_294) rfl (XT.i0_eq_t q294_64) (by decide) (by decide)) ?_
                show Go p e below T39 (mkF m 317 #[.val (.int le), .val (.long wa), .second, .val (.long wb), .second, .val (.long wc), .second, .val (.int se), .val (.int n), .val (.ref b1), .val (.ref r39), .val (.int l0), .val (.int l1), .val (.int l2), .val (.int l3), .val (.int l4), .val (.int l5), .unset, .unset, .unset, .unset] []) _
                refine stp (fun _ => XS.iconst X39.here hx rfl (hb hby at_317)) ?_
                show Go p e below T39 (mkF m 318 #[.val (.int le), .val (.long wa), .second, .val (.long wb), .second, .val (.long wc), .second, .val (.int se), .val (.int n), .val (.ref b1), .val (.ref r39), .val (.int l0), .val (.int l1), .val (.int l2), .val (.int l3), .val (.int l4), .val (.int l5), .unset, .unset, .unset, .unset] [(.int (0 : Int32))]) _
                exact J6 _ (by simp only [if_pos q294_64])
              refine stp (fun _ => XS.ifNo X39.here hx rfl (hb hby at_294) rfl (XT.i0_eq_f q294_64)) ?_
              show Go p e below T39 (mkF m 297 #[.val (.int le), .val (.long wa), .second, .val (.long wb), .second, .val (.long wc), .second, .val (.int se), .val (.int n), .val (.ref b1), .val (.ref r39), .val (.int l0), .val (.int l1), .val (.int l2), .val (.int l3), .val (.int l4), .val (.int l5), .unset, .unset, .unset, .unset] []) _
              refine stp (fun _ => XS.aload X39.here hx rfl (hb hby at_297) rfl rfl) ?_
              refine stp (fun _ => XS.iconst X39.here hx rfl (hb hby at_299)) ?_
              show Go p e below T39 (mkF m 300 #[.val (.int le), .val (.long wa), .second, .val (.long wb), .second, .val (.long wc), .second, .val (.int se), .val (.int n), .val (.ref b1), .val (.ref r39), .val (.int l0), .val (.int l1), .val (.int l2), .val (.int l3), .val (.int l4), .val (.int l5), .unset, .unset, .unset, .unset] [(.int (5 : Int32)), (.ref b1)]) _
              obtain ⟨cl65, Ar65, q65, S65, M65, H65, G65⟩ := (id f42)
              have in65 : ¬ ((5 : Int32) < 0 ∨ cl65.slots.size ≤ ((5 : Int32)).toNatClampNeg) := inb_of S65 ⟨by decide, by decide⟩
              have at65 : cl65.slots[((5 : Int32)).toNatClampNeg]? = some (.int s5) := H65.at in65 rfl
              refine stp (fun _ => X39.caload hx (j := (5 : Int32)) (v := (.int s5)) Ar65.1 (State.isArrayOf_alike hZ.alike Ar65.2.1) Ar65.2.2 in65 at65 (g := (mkF m 300 #[.val (.int le), .val (.long wa), .second, .val (.long wb), .second, .val (.long wc), .second, .val (.int se), .val (.int n), .val (.ref b1), .val (.ref r39), .val (.int l0), .val (.int l1), .val (.int l2), .val (.int l3), .val (.int l4), .val (.int l5), .unset, .unset, .unset, .unset] [(.int (5 : Int32)), (.ref b1)])) rfl rfl (hb hby at_300) _) ?_
              show Go p e below T39 (mkF m 301 #[.val (.int le), .val (.long wa), .second, .val (.long wb), .second, .val (.long wc), .second, .val (.int se), .val (.int n), .val (.ref b1), .val (.ref r39), .val (.int l0), .val (.int l1), .val (.int l2), .val (.int l3), .val (.int l4), .val (.int l5), .unset, .unset, .unset, .unset] [(.int s5)]) _
              refine stp (fun _ => XS.bipush X39.here hx rfl (hb hby at_301)) ?_
              show Go p e below T39 (mkF m 303 #[.val (.int le), .val (.long wa), .second, .val (.long wb), .second, .val (.long wc), .second, .val (.int se), .val (.int n), .val (.ref b1), .val (.ref r39), .val (.int l0), .val (.int l1), .val (.int l2), .val (.int l3), .val (.int l4), .val (.int l5), .unset, .unset, .unset, .unset] [(.int (127 : Int32)), (.int s5)]) _
              by_cases q303_66 : (127 : Int32) < s5
              · refine stp (fun _ => XS.icmpYes X39.here hx rfl (pc0 := 303) (pc' := 317) rfl (hb hby at_303) rfl (XT.ii_gt_t q303_66) (by decide) (by decide)) ?_
                show Go p e below T39 (mkF m 317 #[.val (.int le), .val (.long wa), .second, .val (.long wb), .second, .val (.long wc), .second, .val (.int se), .val (.int n), .val (.ref b1), .val (.ref r39), .val (.int l0), .val (.int l1), .val (.int l2), .val (.int l3), .val (.int l4), .val (.int l5), .unset, .unset, .unset, .unset] []) _
                refine stp (fun _ => XS.iconst X39.here hx rfl (hb hby at_317)) ?_
                show Go p e below T39 (mkF m 318 #[.val (.int le), .val (.long wa), .second, .val (.long wb), .second, .val (.long wc), .second, .val (.int se), .val (.int n), .val (.ref b1), .val (.ref r39), .val (.int l0), .val (.int l1), .val (.int l2), .val (.int l3), .val (.int l4), .val (.int l5), .unset, .unset, .unset, .unset] [(.int (0 : Int32))]) _
                exact J6 _ (by simp only [if_neg q294_64, if_pos q303_66])
              refine stp (fun _ => XS.icmpNo X39.here hx rfl (hb hby at_303) rfl (XT.ii_gt_f q303_66)) ?_
              show Go p e below T39 (mkF m 306 #[.val (.int le), .val (.long wa), .second, .val (.long wb), .second, .val (.long wc), .second, .val (.int se), .val (.int n), .val (.ref b1), .val (.ref r39), .val (.int l0), .val (.int l1), .val (.int l2), .val (.int l3), .val (.int l4), .val (.int l5), .unset, .unset, .unset, .unset] []) _
              refine stp (fun _ => XS.iload X39.here hx rfl (hb hby at_306) rfl) ?_
              refine stp (fun _ => XS.bipush X39.here hx rfl (hb hby at_308)) ?_
              show Go p e below T39 (mkF m 310 #[.val (.int le), .val (.long wa), .second, .val (.long wb), .second, .val (.long wc), .second, .val (.int se), .val (.int n), .val (.ref b1), .val (.ref r39), .val (.int l0), .val (.int l1), .val (.int l2), .val (.int l3), .val (.int l4), .val (.int l5), .unset, .unset, .unset, .unset] [(.int (6 : Int32)), (.int n)]) _
              by_cases q310_67 : (6 : Int32) < n
              rotate_left
              · refine stp (fun _ => XS.icmpYes X39.here hx rfl (pc0 := 310) (pc' := 317) rfl (hb hby at_310) rfl (XT.ii_le_t q310_67) (by decide) (by decide)) ?_
                show Go p e below T39 (mkF m 317 #[.val (.int le), .val (.long wa), .second, .val (.long wb), .second, .val (.long wc), .second, .val (.int se), .val (.int n), .val (.ref b1), .val (.ref r39), .val (.int l0), .val (.int l1), .val (.int l2), .val (.int l3), .val (.int l4), .val (.int l5), .unset, .unset, .unset, .unset] []) _
                refine stp (fun _ => XS.iconst X39.here hx rfl (hb hby at_317)) ?_
                show Go p e below T39 (mkF m 318 #[.val (.int le), .val (.long wa), .second, .val (.long wb), .second, .val (.long wc), .second, .val (.int se), .val (.int n), .val (.ref b1), .val (.ref r39), .val (.int l0), .val (.int l1), .val (.int l2), .val (.int l3), .val (.int l4), .val (.int l5), .unset, .unset, .unset, .unset] [(.int (0 : Int32))]) _
                exact J6 _ (by simp only [if_neg q294_64, if_neg q303_66, if_neg q310_67])
              refine stp (fun _ => XS.icmpNo X39.here hx rfl (hb hby at_310) rfl (XT.ii_le_f q310_67)) ?_
              show Go p e below T39 (mkF m 313 #[.val (.int le), .val (.long wa), .second, .val (.long wb), .second, .val (.long wc), .second, .val (.int se), .val (.int n), .val (.ref b1), .val (.ref r39), .val (.int l0), .val (.int l1), .val (.int l2), .val (.int l3), .val (.int l4), .val (.int l5), .unset, .unset, .unset, .unset] []) _
              refine stp (fun _ => XS.iconst X39.here hx rfl (hb hby at_313)) ?_
              show Go p e below T39 (mkF m 314 #[.val (.int le), .val (.long wa), .second, .val (.long wb), .second, .val (.long wc), .second, .val (.int se), .val (.int n), .val (.ref b1), .val (.ref r39), .val (.int l0), .val (.int l1), .val (.int l2), .val (.int l3), .val (.int l4), .val (.int l5), .unset, .unset, .unset, .unset] [(.int (1 : Int32))]) _
              refine stp (fun _ => XS.goto X39.here hx rfl (pc0 := 314) (pc' := 318) rfl (hb hby at_314) (by decide) (by decide)) ?_
              show Go p e below T39 (mkF m 318 #[.val (.int le), .val (.long wa), .second, .val (.long wb), .second, .val (.long wc), .second, .val (.int se), .val (.int n), .val (.ref b1), .val (.ref r39), .val (.int l0), .val (.int l1), .val (.int l2), .val (.int l3), .val (.int l4), .val (.int l5), .unset, .unset, .unset, .unset] [(.int (1 : Int32))]) _
              exact J6 _ (by simp only [if_neg q294_64, if_neg q303_66, if_pos q310_67])
            refine stp (fun _ => XS.iload X39.here hx rfl (hb hby at_265) rfl) ?_
            show Go p e below T39 (mkF m 267 #[.val (.int le), .val (.long wa), .second, .val (.long wb), .second, .val (.long wc), .second, .val (.int se), .val (.int n), .val (.ref b1), .val (.ref r39), .val (.int l0), .val (.int l1), .val (.int l2), .val (.int l3), .val (.int l4), .unset, .unset, .unset, .unset, .unset] [(.int l4)]) _
            by_cases q267_68 : l4 = 0
            · refine stp (fun _ => XS.ifYes X39.here hx rfl (pc0 := 267) (pc' := 289) rfl (hb hby at_267) rfl (XT.i0_eq_t q267_68) (by decide) (by decide)) ?_
              show Go p e below T39 (mkF m 289 #[.val (.int le), .val (.long wa), .second, .val (.long wb), .second, .val (.long wc), .second, .val (.int se), .val (.int n), .val (.ref b1), .val (.ref r39), .val (.int l0), .val (.int l1), .val (.int l2), .val (.int l3), .val (.int l4), .unset, .unset, .unset, .unset, .unset] []) _
              refine stp (fun _ => XS.iconst X39.here hx rfl (hb hby at_289)) ?_
              show Go p e below T39 (mkF m 290 #[.val (.int le), .val (.long wa), .second, .val (.long wb), .second, .val (.long wc), .second, .val (.int se), .val (.int n), .val (.ref b1), .val (.ref r39), .val (.int l0), .val (.int l1), .val (.int l2), .val (.int l3), .val (.int l4), .unset, .unset, .unset, .unset, .unset] [(.int (0 : Int32))]) _
              exact J5 _ (by simp only [if_pos q267_68])
            refine stp (fun _ => XS.ifNo X39.here hx rfl (hb hby at_267) rfl (XT.i0_eq_f q267_68)) ?_
            show Go p e below T39 (mkF m 270 #[.val (.int le), .val (.long wa), .second, .val (.long wb), .second, .val (.long wc), .second, .val (.int se), .val (.int n), .val (.ref b1), .val (.ref r39), .val (.int l0), .val (.int l1), .val (.int l2), .val (.int l3), .val (.int l4), .unset, .unset, .unset, .unset, .unset] []) _
            refine stp (fun _ => XS.aload X39.here hx rfl (hb hby at_270) rfl rfl) ?_
            refine stp (fun _ => XS.iconst X39.here hx rfl (hb hby at_272)) ?_
            show Go p e below T39 (mkF m 273 #[.val (.int le), .val (.long wa), .second, .val (.long wb), .second, .val (.long wc), .second, .val (.int se), .val (.int n), .val (.ref b1), .val (.ref r39), .val (.int l0), .val (.int l1), .val (.int l2), .val (.int l3), .val (.int l4), .unset, .unset, .unset, .unset, .unset] [(.int (4 : Int32)), (.ref b1)]) _
            obtain ⟨cl69, Ar69, q69, S69, M69, H69, G69⟩ := (id f42)
            have in69 : ¬ ((4 : Int32) < 0 ∨ cl69.slots.size ≤ ((4 : Int32)).toNatClampNeg) := inb_of S69 ⟨by decide, by decide⟩
            have at69 : cl69.slots[((4 : Int32)).toNatClampNeg]? = some (.int s4) := H69.at in69 rfl
            refine stp (fun _ => X39.caload hx (j := (4 : Int32)) (v := (.int s4)) Ar69.1 (State.isArrayOf_alike hZ.alike Ar69.2.1) Ar69.2.2 in69 at69 (g := (mkF m 273 #[.val (.int le), .val (.long wa), .second, .val (.long wb), .second, .val (.long wc), .second, .val (.int se), .val (.int n), .val (.ref b1), .val (.ref r39), .val (.int l0), .val (.int l1), .val (.int l2), .val (.int l3), .val (.int l4), .unset, .unset, .unset, .unset, .unset] [(.int (4 : Int32)), (.ref b1)])) rfl rfl (hb hby at_273) _) ?_
            show Go p e below T39 (mkF m 274 #[.val (.int le), .val (.long wa), .second, .val (.long wb), .second, .val (.long wc), .second, .val (.int se), .val (.int n), .val (.ref b1), .val (.ref r39), .val (.int l0), .val (.int l1), .val (.int l2), .val (.int l3), .val (.int l4), .unset, .unset, .unset, .unset, .unset] [(.int s4)]) _
            refine stp (fun _ => XS.bipush X39.here hx rfl (hb hby at_274)) ?_
            show Go p e below T39 (mkF m 276 #[.val (.int le), .val (.long wa), .second, .val (.long wb), .second, .val (.long wc), .second, .val (.int se), .val (.int n), .val (.ref b1), .val (.ref r39), .val (.int l0), .val (.int l1), .val (.int l2), .val (.int l3), .val (.int l4), .unset, .unset, .unset, .unset, .unset] [(.int (127 : Int32)), (.int s4)]) _
            by_cases q276_70 : (127 : Int32) < s4
            · refine stp (fun _ => XS.icmpYes X39.here hx rfl (pc0 := 276) (pc' := 289) rfl (hb hby at_276) rfl (XT.ii_gt_t q276_70) (by decide) (by decide)) ?_
              show Go p e below T39 (mkF m 289 #[.val (.int le), .val (.long wa), .second, .val (.long wb), .second, .val (.long wc), .second, .val (.int se), .val (.int n), .val (.ref b1), .val (.ref r39), .val (.int l0), .val (.int l1), .val (.int l2), .val (.int l3), .val (.int l4), .unset, .unset, .unset, .unset, .unset] []) _
              refine stp (fun _ => XS.iconst X39.here hx rfl (hb hby at_289)) ?_
              show Go p e below T39 (mkF m 290 #[.val (.int le), .val (.long wa), .second, .val (.long wb), .second, .val (.long wc), .second, .val (.int se), .val (.int n), .val (.ref b1), .val (.ref r39), .val (.int l0), .val (.int l1), .val (.int l2), .val (.int l3), .val (.int l4), .unset, .unset, .unset, .unset, .unset] [(.int (0 : Int32))]) _
              exact J5 _ (by simp only [if_neg q267_68, if_pos q276_70])
            refine stp (fun _ => XS.icmpNo X39.here hx rfl (hb hby at_276) rfl (XT.ii_gt_f q276_70)) ?_
            show Go p e below T39 (mkF m 279 #[.val (.int le), .val (.long wa), .second, .val (.long wb), .second, .val (.long wc), .second, .val (.int se), .val (.int n), .val (.ref b1), .val (.ref r39), .val (.int l0), .val (.int l1), .val (.int l2), .val (.int l3), .val (.int l4), .unset, .unset, .unset, .unset, .unset] []) _
            refine stp (fun _ => XS.iload X39.here hx rfl (hb hby at_279) rfl) ?_
            refine stp (fun _ => XS.iconst X39.here hx rfl (hb hby at_281)) ?_
            show Go p e below T39 (mkF m 282 #[.val (.int le), .val (.long wa), .second, .val (.long wb), .second, .val (.long wc), .second, .val (.int se), .val (.int n), .val (.ref b1), .val (.ref r39), .val (.int l0), .val (.int l1), .val (.int l2), .val (.int l3), .val (.int l4), .unset, .unset, .unset, .unset, .unset] [(.int (5 : Int32)), (.int n)]) _
            by_cases q282_71 : (5 : Int32) < n
            rotate_left
            · refine stp (fun _ => XS.icmpYes X39.here hx rfl (pc0 := 282) (pc' := 289) rfl (hb hby at_282) rfl (XT.ii_le_t q282_71) (by decide) (by decide)) ?_
              show Go p e below T39 (mkF m 289 #[.val (.int le), .val (.long wa), .second, .val (.long wb), .second, .val (.long wc), .second, .val (.int se), .val (.int n), .val (.ref b1), .val (.ref r39), .val (.int l0), .val (.int l1), .val (.int l2), .val (.int l3), .val (.int l4), .unset, .unset, .unset, .unset, .unset] []) _
              refine stp (fun _ => XS.iconst X39.here hx rfl (hb hby at_289)) ?_
              show Go p e below T39 (mkF m 290 #[.val (.int le), .val (.long wa), .second, .val (.long wb), .second, .val (.long wc), .second, .val (.int se), .val (.int n), .val (.ref b1), .val (.ref r39), .val (.int l0), .val (.int l1), .val (.int l2), .val (.int l3), .val (.int l4), .unset, .unset, .unset, .unset, .unset] [(.int (0 : Int32))]) _
              exact J5 _ (by simp only [if_neg q267_68, if_neg q276_70, if_neg q282_71])
            refine stp (fun _ => XS.icmpNo X39.here hx rfl (hb hby at_282) rfl (XT.ii_le_f q282_71)) ?_
            show Go p e below T39 (mkF m 285 #[.val (.int le), .val (.long wa), .second, .val (.long wb), .second, .val (.long wc), .second, .val (.int se), .val (.int n), .val (.ref b1), .val (.ref r39), .val (.int l0), .val (.int l1), .val (.int l2), .val (.int l3), .val (.int l4), .unset, .unset, .unset, .unset, .unset] []) _
            refine stp (fun _ => XS.iconst X39.here hx rfl (hb hby at_285)) ?_
            show Go p e below T39 (mkF m 286 #[.val (.int le), .val (.long wa), .second, .val (.long wb), .second, .val (.long wc), .second, .val (.int se), .val (.int n), .val (.ref b1), .val (.ref r39), .val (.int l0), .val (.int l1), .val (.int l2), .val (.int l3), .val (.int l4), .unset, .unset, .unset, .unset, .unset] [(.int (1 : Int32))]) _
            refine stp (fun _ => XS.goto X39.here hx rfl (pc0 := 286) (pc' := 290) rfl (hb hby at_286) (by decide) (by decide)) ?_
            show Go p e below T39 (mkF m 290 #[.val (.int le), .val (.long wa), .second, .val (.long wb), .second, .val (.long wc), .second, .val (.int se), .val (.int n), .val (.ref b1), .val (.ref r39), .val (.int l0), .val (.int l1), .val (.int l2), .val (.int l3), .val (.int l4), .unset, .unset, .unset, .unset, .unset] [(.int (1 : Int32))]) _
            exact J5 _ (by simp only [if_neg q267_68, if_neg q276_70, if_pos q282_71])
          refine stp (fun _ => XS.iload X39.here hx rfl (hb hby at_238) rfl) ?_
          show Go p e below T39 (mkF m 240 #[.val (.int le), .val (.long wa), .second, .val (.long wb), .second, .val (.long wc), .second, .val (.int se), .val (.int n), .val (.ref b1), .val (.ref r39), .val (.int l0), .val (.int l1), .val (.int l2), .val (.int l3), .unset, .unset, .unset, .unset, .unset, .unset] [(.int l3)]) _
          by_cases q240_72 : l3 = 0
          · refine stp (fun _ => XS.ifYes X39.here hx rfl (pc0 := 240) (pc' := 262) rfl (hb hby at_240) rfl (XT.i0_eq_t q240_72) (by decide) (by decide)) ?_
            show Go p e below T39 (mkF m 262 #[.val (.int le), .val (.long wa), .second, .val (.long wb), .second, .val (.long wc), .second, .val (.int se), .val (.int n), .val (.ref b1), .val (.ref r39), .val (.int l0), .val (.int l1), .val (.int l2), .val (.int l3), .unset, .unset, .unset, .unset, .unset, .unset] []) _
            refine stp (fun _ => XS.iconst X39.here hx rfl (hb hby at_262)) ?_
            show Go p e below T39 (mkF m 263 #[.val (.int le), .val (.long wa), .second, .val (.long wb), .second, .val (.long wc), .second, .val (.int se), .val (.int n), .val (.ref b1), .val (.ref r39), .val (.int l0), .val (.int l1), .val (.int l2), .val (.int l3), .unset, .unset, .unset, .unset, .unset, .unset] [(.int (0 : Int32))]) _
            exact J4 _ (by simp only [if_pos q240_72])
          refine stp (fun _ => XS.ifNo X39.here hx rfl (hb hby at_240) rfl (XT.i0_eq_f q240_72)) ?_
          show Go p e below T39 (mkF m 243 #[.val (.int le), .val (.long wa), .second, .val (.long wb), .second, .val (.long wc), .second, .val (.int se), .val (.int n), .val (.ref b1), .val (.ref r39), .val (.int l0), .val (.int l1), .val (.int l2), .val (.int l3), .unset, .unset, .unset, .unset, .unset, .unset] []) _
          refine stp (fun _ => XS.aload X39.here hx rfl (hb hby at_243) rfl rfl) ?_
          refine stp (fun _ => XS.iconst X39.here hx rfl (hb hby at_245)) ?_
          show Go p e below T39 (mkF m 246 #[.val (.int le), .val (.long wa), .second, .val (.long wb), .second, .val (.long wc), .second, .val (.int se), .val (.int n), .val (.ref b1), .val (.ref r39), .val (.int l0), .val (.int l1), .val (.int l2), .val (.int l3), .unset, .unset, .unset, .unset, .unset, .unset] [(.int (3 : Int32)), (.ref b1)]) _
          obtain ⟨cl73, Ar73, q73, S73, M73, H73, G73⟩ := (id f42)
          have in73 : ¬ ((3 : Int32) < 0 ∨ cl73.slots.size ≤ ((3 : Int32)).toNatClampNeg) := inb_of S73 ⟨by decide, by decide⟩
          have at73 : cl73.slots[((3 : Int32)).toNatClampNeg]? = some (.int s3) := H73.at in73 rfl
          refine stp (fun _ => X39.caload hx (j := (3 : Int32)) (v := (.int s3)) Ar73.1 (State.isArrayOf_alike hZ.alike Ar73.2.1) Ar73.2.2 in73 at73 (g := (mkF m 246 #[.val (.int le), .val (.long wa), .second, .val (.long wb), .second, .val (.long wc), .second, .val (.int se), .val (.int n), .val (.ref b1), .val (.ref r39), .val (.int l0), .val (.int l1), .val (.int l2), .val (.int l3), .unset, .unset, .unset, .unset, .unset, .unset] [(.int (3 : Int32)), (.ref b1)])) rfl rfl (hb hby at_246) _) ?_
          show Go p e below T39 (mkF m 247 #[.val (.int le), .val (.long wa), .second, .val (.long wb), .second, .val (.long wc), .second, .val (.int se), .val (.int n), .val (.ref b1), .val (.ref r39), .val (.int l0), .val (.int l1), .val (.int l2), .val (.int l3), .unset, .unset, .unset, .unset, .unset, .unset] [(.int s3)]) _
          refine stp (fun _ => XS.bipush X39.here hx rfl (hb hby at_247)) ?_
          show Go p e below T39 (mkF m 249 #[.val (.int le), .val (.long wa), .second, .val (.long wb), .second, .val (.long wc), .second, .val (.int se), .val (.int n), .val (.ref b1), .val (.ref r39), .val (.int l0), .val (.int l1), .val (.int l2), .val (.int l3), .unset, .unset, .unset, .unset, .unset, .unset] [(.int (127 : Int32)), (.int s3)]) _
          by_cases q249_74 : (127 : Int32) < s3
          · refine stp (fun _ => XS.icmpYes X39.here hx rfl (pc0 := 249) (pc' := 262) rfl (hb hby at_249) rfl (XT.ii_gt_t q249_74) (by decide) (by decide)) ?_
            show Go p e below T39 (mkF m 262 #[.val (.int le), .val (.long wa), .second, .val (.long wb), .second, .val (.long wc), .second, .val (.int se), .val (.int n), .val (.ref b1), .val (.ref r39), .val (.int l0), .val (.int l1), .val (.int l2), .val (.int l3), .unset, .unset, .unset, .unset, .unset, .unset] []) _
            refine stp (fun _ => XS.iconst X39.here hx rfl (hb hby at_262)) ?_
            show Go p e below T39 (mkF m 263 #[.val (.int le), .val (.long wa), .second, .val (.long wb), .second, .val (.long wc), .second, .val (.int se), .val (.int n), .val (.ref b1), .val (.ref r39), .val (.int l0), .val (.int l1), .val (.int l2), .val (.int l3), .unset, .unset, .unset, .unset, .unset, .unset] [(.int (0 : Int32))]) _
            exact J4 _ (by simp only [if_neg q240_72, if_pos q249_74])
          refine stp (fun _ => XS.icmpNo X39.here hx rfl (hb hby at_249) rfl (XT.ii_gt_f q249_74)) ?_
          show Go p e below T39 (mkF m 252 #[.val (.int le), .val (.long wa), .second, .val (.long wb), .second, .val (.long wc), .second, .val (.int se), .val (.int n), .val (.ref b1), .val (.ref r39), .val (.int l0), .val (.int l1), .val (.int l2), .val (.int l3), .unset, .unset, .unset, .unset, .unset, .unset] []) _
          refine stp (fun _ => XS.iload X39.here hx rfl (hb hby at_252) rfl) ?_
          refine stp (fun _ => XS.iconst X39.here hx rfl (hb hby at_254)) ?_
          show Go p e below T39 (mkF m 255 #[.val (.int le), .val (.long wa), .second, .val (.long wb), .second, .val (.long wc), .second, .val (.int se), .val (.int n), .val (.ref b1), .val (.ref r39), .val (.int l0), .val (.int l1), .val (.int l2), .val (.int l3), .unset, .unset, .unset, .unset, .unset, .unset] [(.int (4 : Int32)), (.int n)]) _
          by_cases q255_75 : (4 : Int32) < n
          rotate_left
          · refine stp (fun _ => XS.icmpYes X39.here hx rfl (pc0 := 255) (pc' := 262) rfl (hb hby at_255) rfl (XT.ii_le_t q255_75) (by decide) (by decide)) ?_
            show Go p e below T39 (mkF m 262 #[.val (.int le), .val (.long wa), .second, .val (.long wb), .second, .val (.long wc), .second, .val (.int se), .val (.int n), .val (.ref b1), .val (.ref r39), .val (.int l0), .val (.int l1), .val (.int l2), .val (.int l3), .unset, .unset, .unset, .unset, .unset, .unset] []) _
            refine stp (fun _ => XS.iconst X39.here hx rfl (hb hby at_262)) ?_
            show Go p e below T39 (mkF m 263 #[.val (.int le), .val (.long wa), .second, .val (.long wb), .second, .val (.long wc), .second, .val (.int se), .val (.int n), .val (.ref b1), .val (.ref r39), .val (.int l0), .val (.int l1), .val (.int l2), .val (.int l3), .unset, .unset, .unset, .unset, .unset, .unset] [(.int (0 : Int32))]) _
            exact J4 _ (by simp only [if_neg q240_72, if_neg q249_74, if_neg q255_75])
          refine stp (fun _ => XS.icmpNo X39.here hx rfl (hb hby at_255) rfl (XT.ii_le_f q255_75)) ?_
          show Go p e below T39 (mkF m 258 #[.val (.int le), .val (.long wa), .second, .val (.long wb), .second, .val (.long wc), .second, .val (.int se), .val (.int n), .val (.ref b1), .val (.ref r39), .val (.int l0), .val (.int l1), .val (.int l2), .val (.int l3), .unset, .unset, .unset, .unset, .unset, .unset] []) _
          refine stp (fun _ => XS.iconst X39.here hx rfl (hb hby at_258)) ?_
          show Go p e below T39 (mkF m 259 #[.val (.int le), .val (.long wa), .second, .val (.long wb), .second, .val (.long wc), .second, .val (.int se), .val (.int n), .val (.ref b1), .val (.ref r39), .val (.int l0), .val (.int l1), .val (.int l2), .val (.int l3), .unset, .unset, .unset, .unset, .unset, .unset] [(.int (1 : Int32))]) _
          refine stp (fun _ => XS.goto X39.here hx rfl (pc0 := 259) (pc' := 263) rfl (hb hby at_259) (by decide) (by decide)) ?_
          show Go p e below T39 (mkF m 263 #[.val (.int le), .val (.long wa), .second, .val (.long wb), .second, .val (.long wc), .second, .val (.int se), .val (.int n), .val (.ref b1), .val (.ref r39), .val (.int l0), .val (.int l1), .val (.int l2), .val (.int l3), .unset, .unset, .unset, .unset, .unset, .unset] [(.int (1 : Int32))]) _
          exact J4 _ (by simp only [if_neg q240_72, if_neg q249_74, if_pos q255_75])
        refine stp (fun _ => XS.iload X39.here hx rfl (hb hby at_211) rfl) ?_
        show Go p e below T39 (mkF m 213 #[.val (.int le), .val (.long wa), .second, .val (.long wb), .second, .val (.long wc), .second, .val (.int se), .val (.int n), .val (.ref b1), .val (.ref r39), .val (.int l0), .val (.int l1), .val (.int l2), .unset, .unset, .unset, .unset, .unset, .unset, .unset] [(.int l2)]) _
        by_cases q213_76 : l2 = 0
        · refine stp (fun _ => XS.ifYes X39.here hx rfl (pc0 := 213) (pc' := 235) rfl (hb hby at_213) rfl (XT.i0_eq_t q213_76) (by decide) (by decide)) ?_
          show Go p e below T39 (mkF m 235 #[.val (.int le), .val (.long wa), .second, .val (.long wb), .second, .val (.long wc), .second, .val (.int se), .val (.int n), .val (.ref b1), .val (.ref r39), .val (.int l0), .val (.int l1), .val (.int l2), .unset, .unset, .unset, .unset, .unset, .unset, .unset] []) _
          refine stp (fun _ => XS.iconst X39.here hx rfl (hb hby at_235)) ?_
          show Go p e below T39 (mkF m 236 #[.val (.int le), .val (.long wa), .second, .val (.long wb), .second, .val (.long wc), .second, .val (.int se), .val (.int n), .val (.ref b1), .val (.ref r39), .val (.int l0), .val (.int l1), .val (.int l2), .unset, .unset, .unset, .unset, .unset, .unset, .unset] [(.int (0 : Int32))]) _
          exact J3 _ (by simp only [if_pos q213_76])
        refine stp (fun _ => XS.ifNo X39.here hx rfl (hb hby at_213) rfl (XT.i0_eq_f q213_76)) ?_
        show Go p e below T39 (mkF m 216 #[.val (.int le), .val (.long wa), .second, .val (.long wb), .second, .val (.long wc), .second, .val (.int se), .val (.int n), .val (.ref b1), .val (.ref r39), .val (.int l0), .val (.int l1), .val (.int l2), .unset, .unset, .unset, .unset, .unset, .unset, .unset] []) _
        refine stp (fun _ => XS.aload X39.here hx rfl (hb hby at_216) rfl rfl) ?_
        refine stp (fun _ => XS.iconst X39.here hx rfl (hb hby at_218)) ?_
        show Go p e below T39 (mkF m 219 #[.val (.int le), .val (.long wa), .second, .val (.long wb), .second, .val (.long wc), .second, .val (.int se), .val (.int n), .val (.ref b1), .val (.ref r39), .val (.int l0), .val (.int l1), .val (.int l2), .unset, .unset, .unset, .unset, .unset, .unset, .unset] [(.int (2 : Int32)), (.ref b1)]) _
        obtain ⟨cl77, Ar77, q77, S77, M77, H77, G77⟩ := (id f42)
        have in77 : ¬ ((2 : Int32) < 0 ∨ cl77.slots.size ≤ ((2 : Int32)).toNatClampNeg) := inb_of S77 ⟨by decide, by decide⟩
        have at77 : cl77.slots[((2 : Int32)).toNatClampNeg]? = some (.int s2) := H77.at in77 rfl
        refine stp (fun _ => X39.caload hx (j := (2 : Int32)) (v := (.int s2)) Ar77.1 (State.isArrayOf_alike hZ.alike Ar77.2.1) Ar77.2.2 in77 at77 (g := (mkF m 219 #[.val (.int le), .val (.long wa), .second, .val (.long wb), .second, .val (.long wc), .second, .val (.int se), .val (.int n), .val (.ref b1), .val (.ref r39), .val (.int l0), .val (.int l1), .val (.int l2), .unset, .unset, .unset, .unset, .unset, .unset, .unset] [(.int (2 : Int32)), (.ref b1)])) rfl rfl (hb hby at_219) _) ?_
        show Go p e below T39 (mkF m 220 #[.val (.int le), .val (.long wa), .second, .val (.long wb), .second, .val (.long wc), .second, .val (.int se), .val (.int n), .val (.ref b1), .val (.ref r39), .val (.int l0), .val (.int l1), .val (.int l2), .unset, .unset, .unset, .unset, .unset, .unset, .unset] [(.int s2)]) _
        refine stp (fun _ => XS.bipush X39.here hx rfl (hb hby at_220)) ?_
        show Go p e below T39 (mkF m 222 #[.val (.int le), .val (.long wa), .second, .val (.long wb), .second, .val (.long wc), .second, .val (.int se), .val (.int n), .val (.ref b1), .val (.ref r39), .val (.int l0), .val (.int l1), .val (.int l2), .unset, .unset, .unset, .unset, .unset, .unset, .unset] [(.int (127 : Int32)), (.int s2)]) _
        by_cases q222_78 : (127 : Int32) < s2
        · refine stp (fun _ => XS.icmpYes X39.here hx rfl (pc0 := 222) (pc' := 235) rfl (hb hby at_222) rfl (XT.ii_gt_t q222_78) (by decide) (by decide)) ?_
          show Go p e below T39 (mkF m 235 #[.val (.int le), .val (.long wa), .second, .val (.long wb), .second, .val (.long wc), .second, .val (.int se), .val (.int n), .val (.ref b1), .val (.ref r39), .val (.int l0), .val (.int l1), .val (.int l2), .unset, .unset, .unset, .unset, .unset, .unset, .unset] []) _
          refine stp (fun _ => XS.iconst X39.here hx rfl (hb hby at_235)) ?_
          show Go p e below T39 (mkF m 236 #[.val (.int le), .val (.long wa), .second, .val (.long wb), .second, .val (.long wc), .second, .val (.int se), .val (.int n), .val (.ref b1), .val (.ref r39), .val (.int l0), .val (.int l1), .val (.int l2), .unset, .unset, .unset, .unset, .unset, .unset, .unset] [(.int (0 : Int32))]) _
          exact J3 _ (by simp only [if_neg q213_76, if_pos q222_78])
        refine stp (fun _ => XS.icmpNo X39.here hx rfl (hb hby at_222) rfl (XT.ii_gt_f q222_78)) ?_
        show Go p e below T39 (mkF m 225 #[.val (.int le), .val (.long wa), .second, .val (.long wb), .second, .val (.long wc), .second, .val (.int se), .val (.int n), .val (.ref b1), .val (.ref r39), .val (.int l0), .val (.int l1), .val (.int l2), .unset, .unset, .unset, .unset, .unset, .unset, .unset] []) _
        refine stp (fun _ => XS.iload X39.here hx rfl (hb hby at_225) rfl) ?_
        refine stp (fun _ => XS.iconst X39.here hx rfl (hb hby at_227)) ?_
        show Go p e below T39 (mkF m 228 #[.val (.int le), .val (.long wa), .second, .val (.long wb), .second, .val (.long wc), .second, .val (.int se), .val (.int n), .val (.ref b1), .val (.ref r39), .val (.int l0), .val (.int l1), .val (.int l2), .unset, .unset, .unset, .unset, .unset, .unset, .unset] [(.int (3 : Int32)), (.int n)]) _
        by_cases q228_79 : (3 : Int32) < n
        rotate_left
        · refine stp (fun _ => XS.icmpYes X39.here hx rfl (pc0 := 228) (pc' := 235) rfl (hb hby at_228) rfl (XT.ii_le_t q228_79) (by decide) (by decide)) ?_
          show Go p e below T39 (mkF m 235 #[.val (.int le), .val (.long wa), .second, .val (.long wb), .second, .val (.long wc), .second, .val (.int se), .val (.int n), .val (.ref b1), .val (.ref r39), .val (.int l0), .val (.int l1), .val (.int l2), .unset, .unset, .unset, .unset, .unset, .unset, .unset] []) _
          refine stp (fun _ => XS.iconst X39.here hx rfl (hb hby at_235)) ?_
          show Go p e below T39 (mkF m 236 #[.val (.int le), .val (.long wa), .second, .val (.long wb), .second, .val (.long wc), .second, .val (.int se), .val (.int n), .val (.ref b1), .val (.ref r39), .val (.int l0), .val (.int l1), .val (.int l2), .unset, .unset, .unset, .unset, .unset, .unset, .unset] [(.int (0 : Int32))]) _
          exact J3 _ (by simp only [if_neg q213_76, if_neg q222_78, if_neg q228_79])
        refine stp (fun _ => XS.icmpNo X39.here hx rfl (hb hby at_228) rfl (XT.ii_le_f q228_79)) ?_
        show Go p e below T39 (mkF m 231 #[.val (.int le), .val (.long wa), .second, .val (.long wb), .second, .val (.long wc), .second, .val (.int se), .val (.int n), .val (.ref b1), .val (.ref r39), .val (.int l0), .val (.int l1), .val (.int l2), .unset, .unset, .unset, .unset, .unset, .unset, .unset] []) _
        refine stp (fun _ => XS.iconst X39.here hx rfl (hb hby at_231)) ?_
        show Go p e below T39 (mkF m 232 #[.val (.int le), .val (.long wa), .second, .val (.long wb), .second, .val (.long wc), .second, .val (.int se), .val (.int n), .val (.ref b1), .val (.ref r39), .val (.int l0), .val (.int l1), .val (.int l2), .unset, .unset, .unset, .unset, .unset, .unset, .unset] [(.int (1 : Int32))]) _
        refine stp (fun _ => XS.goto X39.here hx rfl (pc0 := 232) (pc' := 236) rfl (hb hby at_232) (by decide) (by decide)) ?_
        show Go p e below T39 (mkF m 236 #[.val (.int le), .val (.long wa), .second, .val (.long wb), .second, .val (.long wc), .second, .val (.int se), .val (.int n), .val (.ref b1), .val (.ref r39), .val (.int l0), .val (.int l1), .val (.int l2), .unset, .unset, .unset, .unset, .unset, .unset, .unset] [(.int (1 : Int32))]) _
        exact J3 _ (by simp only [if_neg q213_76, if_neg q222_78, if_pos q228_79])
      refine stp (fun _ => XS.iload X39.here hx rfl (hb hby at_184) rfl) ?_
      show Go p e below T39 (mkF m 186 #[.val (.int le), .val (.long wa), .second, .val (.long wb), .second, .val (.long wc), .second, .val (.int se), .val (.int n), .val (.ref b1), .val (.ref r39), .val (.int l0), .val (.int l1), .unset, .unset, .unset, .unset, .unset, .unset, .unset, .unset] [(.int l1)]) _
      by_cases q186_80 : l1 = 0
      · refine stp (fun _ => XS.ifYes X39.here hx rfl (pc0 := 186) (pc' := 208) rfl (hb hby at_186) rfl (XT.i0_eq_t q186_80) (by decide) (by decide)) ?_
        show Go p e below T39 (mkF m 208 #[.val (.int le), .val (.long wa), .second, .val (.long wb), .second, .val (.long wc), .second, .val (.int se), .val (.int n), .val (.ref b1), .val (.ref r39), .val (.int l0), .val (.int l1), .unset, .unset, .unset, .unset, .unset, .unset, .unset, .unset] []) _
        refine stp (fun _ => XS.iconst X39.here hx rfl (hb hby at_208)) ?_
        show Go p e below T39 (mkF m 209 #[.val (.int le), .val (.long wa), .second, .val (.long wb), .second, .val (.long wc), .second, .val (.int se), .val (.int n), .val (.ref b1), .val (.ref r39), .val (.int l0), .val (.int l1), .unset, .unset, .unset, .unset, .unset, .unset, .unset, .unset] [(.int (0 : Int32))]) _
        exact J2 _ (by simp only [if_pos q186_80])
      refine stp (fun _ => XS.ifNo X39.here hx rfl (hb hby at_186) rfl (XT.i0_eq_f q186_80)) ?_
      show Go p e below T39 (mkF m 189 #[.val (.int le), .val (.long wa), .second, .val (.long wb), .second, .val (.long wc), .second, .val (.int se), .val (.int n), .val (.ref b1), .val (.ref r39), .val (.int l0), .val (.int l1), .unset, .unset, .unset, .unset, .unset, .unset, .unset, .unset] []) _
      refine stp (fun _ => XS.aload X39.here hx rfl (hb hby at_189) rfl rfl) ?_
      refine stp (fun _ => XS.iconst X39.here hx rfl (hb hby at_191)) ?_
      show Go p e below T39 (mkF m 192 #[.val (.int le), .val (.long wa), .second, .val (.long wb), .second, .val (.long wc), .second, .val (.int se), .val (.int n), .val (.ref b1), .val (.ref r39), .val (.int l0), .val (.int l1), .unset, .unset, .unset, .unset, .unset, .unset, .unset, .unset] [(.int (1 : Int32)), (.ref b1)]) _
      obtain ⟨cl81, Ar81, q81, S81, M81, H81, G81⟩ := (id f42)
      have in81 : ¬ ((1 : Int32) < 0 ∨ cl81.slots.size ≤ ((1 : Int32)).toNatClampNeg) := inb_of S81 ⟨by decide, by decide⟩
      have at81 : cl81.slots[((1 : Int32)).toNatClampNeg]? = some (.int s1) := H81.at in81 rfl
      refine stp (fun _ => X39.caload hx (j := (1 : Int32)) (v := (.int s1)) Ar81.1 (State.isArrayOf_alike hZ.alike Ar81.2.1) Ar81.2.2 in81 at81 (g := (mkF m 192 #[.val (.int le), .val (.long wa), .second, .val (.long wb), .second, .val (.long wc), .second, .val (.int se), .val (.int n), .val (.ref b1), .val (.ref r39), .val (.int l0), .val (.int l1), .unset, .unset, .unset, .unset, .unset, .unset, .unset, .unset] [(.int (1 : Int32)), (.ref b1)])) rfl rfl (hb hby at_192) _) ?_
      show Go p e below T39 (mkF m 193 #[.val (.int le), .val (.long wa), .second, .val (.long wb), .second, .val (.long wc), .second, .val (.int se), .val (.int n), .val (.ref b1), .val (.ref r39), .val (.int l0), .val (.int l1), .unset, .unset, .unset, .unset, .unset, .unset, .unset, .unset] [(.int s1)]) _
      refine stp (fun _ => XS.bipush X39.here hx rfl (hb hby at_193)) ?_
      show Go p e below T39 (mkF m 195 #[.val (.int le), .val (.long wa), .second, .val (.long wb), .second, .val (.long wc), .second, .val (.int se), .val (.int n), .val (.ref b1), .val (.ref r39), .val (.int l0), .val (.int l1), .unset, .unset, .unset, .unset, .unset, .unset, .unset, .unset] [(.int (127 : Int32)), (.int s1)]) _
      by_cases q195_82 : (127 : Int32) < s1
      · refine stp (fun _ => XS.icmpYes X39.here hx rfl (pc0 := 195) (pc' := 208) rfl (hb hby at_195) rfl (XT.ii_gt_t q195_82) (by decide) (by decide)) ?_
        show Go p e below T39 (mkF m 208 #[.val (.int le), .val (.long wa), .second, .val (.long wb), .second, .val (.long wc), .second, .val (.int se), .val (.int n), .val (.ref b1), .val (.ref r39), .val (.int l0), .val (.int l1), .unset, .unset, .unset, .unset, .unset, .unset, .unset, .unset] []) _
        refine stp (fun _ => XS.iconst X39.here hx rfl (hb hby at_208)) ?_
        show Go p e below T39 (mkF m 209 #[.val (.int le), .val (.long wa), .second, .val (.long wb), .second, .val (.long wc), .second, .val (.int se), .val (.int n), .val (.ref b1), .val (.ref r39), .val (.int l0), .val (.int l1), .unset, .unset, .unset, .unset, .unset, .unset, .unset, .unset] [(.int (0 : Int32))]) _
        exact J2 _ (by simp only [if_neg q186_80, if_pos q195_82])
      refine stp (fun _ => XS.icmpNo X39.here hx rfl (hb hby at_195) rfl (XT.ii_gt_f q195_82)) ?_
      show Go p e below T39 (mkF m 198 #[.val (.int le), .val (.long wa), .second, .val (.long wb), .second, .val (.long wc), .second, .val (.int se), .val (.int n), .val (.ref b1), .val (.ref r39), .val (.int l0), .val (.int l1), .unset, .unset, .unset, .unset, .unset, .unset, .unset, .unset] []) _
      refine stp (fun _ => XS.iload X39.here hx rfl (hb hby at_198) rfl) ?_
      refine stp (fun _ => XS.iconst X39.here hx rfl (hb hby at_200)) ?_
      show Go p e below T39 (mkF m 201 #[.val (.int le), .val (.long wa), .second, .val (.long wb), .second, .val (.long wc), .second, .val (.int se), .val (.int n), .val (.ref b1), .val (.ref r39), .val (.int l0), .val (.int l1), .unset, .unset, .unset, .unset, .unset, .unset, .unset, .unset] [(.int (2 : Int32)), (.int n)]) _
      by_cases q201_83 : (2 : Int32) < n
      rotate_left
      · refine stp (fun _ => XS.icmpYes X39.here hx rfl (pc0 := 201) (pc' := 208) rfl (hb hby at_201) rfl (XT.ii_le_t q201_83) (by decide) (by decide)) ?_
        show Go p e below T39 (mkF m 208 #[.val (.int le), .val (.long wa), .second, .val (.long wb), .second, .val (.long wc), .second, .val (.int se), .val (.int n), .val (.ref b1), .val (.ref r39), .val (.int l0), .val (.int l1), .unset, .unset, .unset, .unset, .unset, .unset, .unset, .unset] []) _
        refine stp (fun _ => XS.iconst X39.here hx rfl (hb hby at_208)) ?_
        show Go p e below T39 (mkF m 209 #[.val (.int le), .val (.long wa), .second, .val (.long wb), .second, .val (.long wc), .second, .val (.int se), .val (.int n), .val (.ref b1), .val (.ref r39), .val (.int l0), .val (.int l1), .unset, .unset, .unset, .unset, .unset, .unset, .unset, .unset] [(.int (0 : Int32))]) _
        exact J2 _ (by simp only [if_neg q186_80, if_neg q195_82, if_neg q201_83])
      refine stp (fun _ => XS.icmpNo X39.here hx rfl (hb hby at_201) rfl (XT.ii_le_f q201_83)) ?_
      show Go p e below T39 (mkF m 204 #[.val (.int le), .val (.long wa), .second, .val (.long wb), .second, .val (.long wc), .second, .val (.int se), .val (.int n), .val (.ref b1), .val (.ref r39), .val (.int l0), .val (.int l1), .unset, .unset, .unset, .unset, .unset, .unset, .unset, .unset] []) _
      refine stp (fun _ => XS.iconst X39.here hx rfl (hb hby at_204)) ?_
      show Go p e below T39 (mkF m 205 #[.val (.int le), .val (.long wa), .second, .val (.long wb), .second, .val (.long wc), .second, .val (.int se), .val (.int n), .val (.ref b1), .val (.ref r39), .val (.int l0), .val (.int l1), .unset, .unset, .unset, .unset, .unset, .unset, .unset, .unset] [(.int (1 : Int32))]) _
      refine stp (fun _ => XS.goto X39.here hx rfl (pc0 := 205) (pc' := 209) rfl (hb hby at_205) (by decide) (by decide)) ?_
      show Go p e below T39 (mkF m 209 #[.val (.int le), .val (.long wa), .second, .val (.long wb), .second, .val (.long wc), .second, .val (.int se), .val (.int n), .val (.ref b1), .val (.ref r39), .val (.int l0), .val (.int l1), .unset, .unset, .unset, .unset, .unset, .unset, .unset, .unset] [(.int (1 : Int32))]) _
      exact J2 _ (by simp only [if_neg q186_80, if_neg q195_82, if_pos q201_83])
    refine stp (fun _ => XS.iload X39.here hx rfl (hb hby at_157) rfl) ?_
    show Go p e below T39 (mkF m 159 #[.val (.int le), .val (.long wa), .second, .val (.long wb), .second, .val (.long wc), .second, .val (.int se), .val (.int n), .val (.ref b1), .val (.ref r39), .val (.int l0), .unset, .unset, .unset, .unset, .unset, .unset, .unset, .unset, .unset] [(.int l0)]) _
    by_cases q159_84 : l0 = 0
    · refine stp (fun _ => XS.ifYes X39.here hx rfl (pc0 := 159) (pc' := 181) rfl (hb hby at_159) rfl (XT.i0_eq_t q159_84) (by decide) (by decide)) ?_
      show Go p e below T39 (mkF m 181 #[.val (.int le), .val (.long wa), .second, .val (.long wb), .second, .val (.long wc), .second, .val (.int se), .val (.int n), .val (.ref b1), .val (.ref r39), .val (.int l0), .unset, .unset, .unset, .unset, .unset, .unset, .unset, .unset, .unset] []) _
      refine stp (fun _ => XS.iconst X39.here hx rfl (hb hby at_181)) ?_
      show Go p e below T39 (mkF m 182 #[.val (.int le), .val (.long wa), .second, .val (.long wb), .second, .val (.long wc), .second, .val (.int se), .val (.int n), .val (.ref b1), .val (.ref r39), .val (.int l0), .unset, .unset, .unset, .unset, .unset, .unset, .unset, .unset, .unset] [(.int (0 : Int32))]) _
      exact J1 _ (by simp only [if_pos q159_84])
    refine stp (fun _ => XS.ifNo X39.here hx rfl (hb hby at_159) rfl (XT.i0_eq_f q159_84)) ?_
    show Go p e below T39 (mkF m 162 #[.val (.int le), .val (.long wa), .second, .val (.long wb), .second, .val (.long wc), .second, .val (.int se), .val (.int n), .val (.ref b1), .val (.ref r39), .val (.int l0), .unset, .unset, .unset, .unset, .unset, .unset, .unset, .unset, .unset] []) _
    refine stp (fun _ => XS.aload X39.here hx rfl (hb hby at_162) rfl rfl) ?_
    refine stp (fun _ => XS.iconst X39.here hx rfl (hb hby at_164)) ?_
    show Go p e below T39 (mkF m 165 #[.val (.int le), .val (.long wa), .second, .val (.long wb), .second, .val (.long wc), .second, .val (.int se), .val (.int n), .val (.ref b1), .val (.ref r39), .val (.int l0), .unset, .unset, .unset, .unset, .unset, .unset, .unset, .unset, .unset] [(.int (0 : Int32)), (.ref b1)]) _
    obtain ⟨cl85, Ar85, q85, S85, M85, H85, G85⟩ := (id f42)
    have in85 : ¬ ((0 : Int32) < 0 ∨ cl85.slots.size ≤ ((0 : Int32)).toNatClampNeg) := inb_of S85 ⟨by decide, by decide⟩
    have at85 : cl85.slots[((0 : Int32)).toNatClampNeg]? = some (.int s0) := H85.at in85 rfl
    refine stp (fun _ => X39.caload hx (j := (0 : Int32)) (v := (.int s0)) Ar85.1 (State.isArrayOf_alike hZ.alike Ar85.2.1) Ar85.2.2 in85 at85 (g := (mkF m 165 #[.val (.int le), .val (.long wa), .second, .val (.long wb), .second, .val (.long wc), .second, .val (.int se), .val (.int n), .val (.ref b1), .val (.ref r39), .val (.int l0), .unset, .unset, .unset, .unset, .unset, .unset, .unset, .unset, .unset] [(.int (0 : Int32)), (.ref b1)])) rfl rfl (hb hby at_165) _) ?_
    show Go p e below T39 (mkF m 166 #[.val (.int le), .val (.long wa), .second, .val (.long wb), .second, .val (.long wc), .second, .val (.int se), .val (.int n), .val (.ref b1), .val (.ref r39), .val (.int l0), .unset, .unset, .unset, .unset, .unset, .unset, .unset, .unset, .unset] [(.int s0)]) _
    refine stp (fun _ => XS.bipush X39.here hx rfl (hb hby at_166)) ?_
    show Go p e below T39 (mkF m 168 #[.val (.int le), .val (.long wa), .second, .val (.long wb), .second, .val (.long wc), .second, .val (.int se), .val (.int n), .val (.ref b1), .val (.ref r39), .val (.int l0), .unset, .unset, .unset, .unset, .unset, .unset, .unset, .unset, .unset] [(.int (127 : Int32)), (.int s0)]) _
    by_cases q168_86 : (127 : Int32) < s0
    · refine stp (fun _ => XS.icmpYes X39.here hx rfl (pc0 := 168) (pc' := 181) rfl (hb hby at_168) rfl (XT.ii_gt_t q168_86) (by decide) (by decide)) ?_
      show Go p e below T39 (mkF m 181 #[.val (.int le), .val (.long wa), .second, .val (.long wb), .second, .val (.long wc), .second, .val (.int se), .val (.int n), .val (.ref b1), .val (.ref r39), .val (.int l0), .unset, .unset, .unset, .unset, .unset, .unset, .unset, .unset, .unset] []) _
      refine stp (fun _ => XS.iconst X39.here hx rfl (hb hby at_181)) ?_
      show Go p e below T39 (mkF m 182 #[.val (.int le), .val (.long wa), .second, .val (.long wb), .second, .val (.long wc), .second, .val (.int se), .val (.int n), .val (.ref b1), .val (.ref r39), .val (.int l0), .unset, .unset, .unset, .unset, .unset, .unset, .unset, .unset, .unset] [(.int (0 : Int32))]) _
      exact J1 _ (by simp only [if_neg q159_84, if_pos q168_86])
    refine stp (fun _ => XS.icmpNo X39.here hx rfl (hb hby at_168) rfl (XT.ii_gt_f q168_86)) ?_
    show Go p e below T39 (mkF m 171 #[.val (.int le), .val (.long wa), .second, .val (.long wb), .second, .val (.long wc), .second, .val (.int se), .val (.int n), .val (.ref b1), .val (.ref r39), .val (.int l0), .unset, .unset, .unset, .unset, .unset, .unset, .unset, .unset, .unset] []) _
    refine stp (fun _ => XS.iload X39.here hx rfl (hb hby at_171) rfl) ?_
    refine stp (fun _ => XS.iconst X39.here hx rfl (hb hby at_173)) ?_
    show Go p e below T39 (mkF m 174 #[.val (.int le), .val (.long wa), .second, .val (.long wb), .second, .val (.long wc), .second, .val (.int se), .val (.int n), .val (.ref b1), .val (.ref r39), .val (.int l0), .unset, .unset, .unset, .unset, .unset, .unset, .unset, .unset, .unset] [(.int (1 : Int32)), (.int n)]) _
    by_cases q174_87 : (1 : Int32) < n
    rotate_left
    · refine stp (fun _ => XS.icmpYes X39.here hx rfl (pc0 := 174) (pc' := 181) rfl (hb hby at_174) rfl (XT.ii_le_t q174_87) (by decide) (by decide)) ?_
      show Go p e below T39 (mkF m 181 #[.val (.int le), .val (.long wa), .second, .val (.long wb), .second, .val (.long wc), .second, .val (.int se), .val (.int n), .val (.ref b1), .val (.ref r39), .val (.int l0), .unset, .unset, .unset, .unset, .unset, .unset, .unset, .unset, .unset] []) _
      refine stp (fun _ => XS.iconst X39.here hx rfl (hb hby at_181)) ?_
      show Go p e below T39 (mkF m 182 #[.val (.int le), .val (.long wa), .second, .val (.long wb), .second, .val (.long wc), .second, .val (.int se), .val (.int n), .val (.ref b1), .val (.ref r39), .val (.int l0), .unset, .unset, .unset, .unset, .unset, .unset, .unset, .unset, .unset] [(.int (0 : Int32))]) _
      exact J1 _ (by simp only [if_neg q159_84, if_neg q168_86, if_neg q174_87])
    refine stp (fun _ => XS.icmpNo X39.here hx rfl (hb hby at_174) rfl (XT.ii_le_f q174_87)) ?_
    show Go p e below T39 (mkF m 177 #[.val (.int le), .val (.long wa), .second, .val (.long wb), .second, .val (.long wc), .second, .val (.int se), .val (.int n), .val (.ref b1), .val (.ref r39), .val (.int l0), .unset, .unset, .unset, .unset, .unset, .unset, .unset, .unset, .unset] []) _
    refine stp (fun _ => XS.iconst X39.here hx rfl (hb hby at_177)) ?_
    show Go p e below T39 (mkF m 178 #[.val (.int le), .val (.long wa), .second, .val (.long wb), .second, .val (.long wc), .second, .val (.int se), .val (.int n), .val (.ref b1), .val (.ref r39), .val (.int l0), .unset, .unset, .unset, .unset, .unset, .unset, .unset, .unset, .unset] [(.int (1 : Int32))]) _
    refine stp (fun _ => XS.goto X39.here hx rfl (pc0 := 178) (pc' := 182) rfl (hb hby at_178) (by decide) (by decide)) ?_
    show Go p e below T39 (mkF m 182 #[.val (.int le), .val (.long wa), .second, .val (.long wb), .second, .val (.long wc), .second, .val (.int se), .val (.int n), .val (.ref b1), .val (.ref r39), .val (.int l0), .unset, .unset, .unset, .unset, .unset, .unset, .unset, .unset, .unset] [(.int (1 : Int32))]) _
    exact J1 _ (by simp only [if_neg q159_84, if_neg q168_86, if_pos q174_87])
  refine stp (fun _ => XS.iload X39.here hx rfl (hb hby at_145) rfl) ?_
  show Go p e below T39 (mkF m 147 #[.val (.int le), .val (.long wa), .second, .val (.long wb), .second, .val (.long wc), .second, .val (.int se), .val (.int n), .val (.ref b1), .val (.ref r39), .unset, .unset, .unset, .unset, .unset, .unset, .unset, .unset, .unset, .unset] [(.int n)]) _
  by_cases q147_88 : 0 < n
  rotate_left
  · refine stp (fun _ => XS.ifYes X39.here hx rfl (pc0 := 147) (pc' := 154) rfl (hb hby at_147) rfl (XT.i0_le_t q147_88) (by decide) (by decide)) ?_
    show Go p e below T39 (mkF m 154 #[.val (.int le), .val (.long wa), .second, .val (.long wb), .second, .val (.long wc), .second, .val (.int se), .val (.int n), .val (.ref b1), .val (.ref r39), .unset, .unset, .unset, .unset, .unset, .unset, .unset, .unset, .unset, .unset] []) _
    refine stp (fun _ => XS.iconst X39.here hx rfl (hb hby at_154)) ?_
    show Go p e below T39 (mkF m 155 #[.val (.int le), .val (.long wa), .second, .val (.long wb), .second, .val (.long wc), .second, .val (.int se), .val (.int n), .val (.ref b1), .val (.ref r39), .unset, .unset, .unset, .unset, .unset, .unset, .unset, .unset, .unset, .unset] [(.int (0 : Int32))]) _
    exact J0 _ (by simp only [if_neg q147_88])
  refine stp (fun _ => XS.ifNo X39.here hx rfl (hb hby at_147) rfl (XT.i0_le_f q147_88)) ?_
  show Go p e below T39 (mkF m 150 #[.val (.int le), .val (.long wa), .second, .val (.long wb), .second, .val (.long wc), .second, .val (.int se), .val (.int n), .val (.ref b1), .val (.ref r39), .unset, .unset, .unset, .unset, .unset, .unset, .unset, .unset, .unset, .unset] []) _
  refine stp (fun _ => XS.iconst X39.here hx rfl (hb hby at_150)) ?_
  show Go p e below T39 (mkF m 151 #[.val (.int le), .val (.long wa), .second, .val (.long wb), .second, .val (.long wc), .second, .val (.int se), .val (.int n), .val (.ref b1), .val (.ref r39), .unset, .unset, .unset, .unset, .unset, .unset, .unset, .unset, .unset, .unset] [(.int (1 : Int32))]) _
  refine stp (fun _ => XS.goto X39.here hx rfl (pc0 := 151) (pc' := 155) rfl (hb hby at_151) (by decide) (by decide)) ?_
  show Go p e below T39 (mkF m 155 #[.val (.int le), .val (.long wa), .second, .val (.long wb), .second, .val (.long wc), .second, .val (.int se), .val (.int n), .val (.ref b1), .val (.ref r39), .unset, .unset, .unset, .unset, .unset, .unset, .unset, .unset, .unset, .unset] [(.int (1 : Int32))]) _
  exact J0 _ (by simp only [if_pos q147_88])
set_option maxRecDepth 65536 in
set_option maxHeartbeats 40000000 in
theorem comes_1 {Post : Tables → Env → Array Value → State → Outcome → State → Prop} (hpost : ∀ tb e args s v u, (limb_1_1.after args s (.returned v) u = true ∧ limb_1_2.after args s (.returned v) u = true ∧ True) → Jvm.D.FramedW s (.returned v) u (Jvm.fieldLocs frame_1_writes args s ++ Jvm.arrayLocs frame_1_arrays args s ++ Jvm.staticLocs frame_1_statics s) 24 1216 → Post tb e args s (.returned v) u) :
    ArmFor flags0 classFile x code maxLocals ret World_1 tables_1 room_1 Calls_1 rest_1 Pre_1 Post := by
  intro l hfl _ _ p e ha hc hk s m args below hf hA hF happ hP
  obtain ⟨hcalls, hrest, hpre⟩ := hP
  obtain ⟨-, -, -, hnamed, -, -, -, hat⟩ := (Spec.applies_iff hf).mp happ
  obtain ⟨hg, hn⟩ := and_e (Cond.before_iff.mp (show (Jvm.Cond.and given_1 narrow_1).before args s = true from hpre))
  obtain ⟨g1, g2⟩ := and_e hg
  obtain ⟨g3, g4⟩ := and_e g2
  obtain ⟨g5, g6⟩ := and_e g4
  obtain ⟨g7, g8⟩ := and_e g6
  obtain ⟨g9, g10⟩ := and_e g8
  obtain ⟨w0, w1, w2, w3, w4, rfl⟩ : ∃ w0 w1 w2 w3 w4 : Value, args = #[w0, w1, w2, w3, w4] := by
    have hs : args.size = 5 := by simpa [Cond.value, given_1] using g1
    obtain ⟨L⟩ := args
    match L, hs with
    | [w0, w1, w2, w3, w4], _ => exact ⟨w0, w1, w2, w3, w4, rfl⟩
  have hw := fun d (hd : d ∈ tables_1) => atoms_spec (ws := Jvm.Cond.code x code maxLocals ret :: tables_1) hat d (List.mem_cons_of_mem _ hd)
  have hfit : Fit s := fun {y c} hc i hi => by
    obtain ⟨ha, rfl⟩ := Array.getElem?_eq_some_iff.mp hc
    have q := List.all_eq_true.mp ((Array.all_eq_true_iff_forall_mem.mp hF) _ (Array.getElem_mem ha)) i (List.mem_range.mpr hi)
    simpa [Array.getElem?_eq_getElem hi] using q
  obtain ⟨i0, ei0⟩ := is_v g3
  obtain rfl : w0 = (.int i0) := Option.some.inj ei0
  obtain ⟨i1, ei1⟩ := isL_v g5
  obtain rfl : w1 = (.long i1) := Option.some.inj ei1
  obtain ⟨i2, ei2⟩ := isL_v g7
  obtain rfl : w2 = (.long i2) := Option.some.inj ei2
  obtain ⟨i3, ei3⟩ := isL_v g9
  obtain rfl : w3 = (.long i3) := Option.some.inj ei3
  obtain ⟨i4, ei4⟩ := is_v g10
  obtain rfl : w4 = (.int i4) := Option.some.inj ei4
  obtain ⟨hsets, hown0⟩ := atoms_of _ (rest_1_c_eq ▸ (show rest_1_c.before _ s = true from hrest))
  have hr0 := Cond.before_iff.mp hown0
  obtain ⟨z_COMPACT_STRINGS, ez_COMPACT_STRINGS⟩ := is_v (Cond.before_iff.mp (hsets _ (List.mem_of_getElem? (i := 1) rfl)))
  have S_z_COMPACT_STRINGS := Sta.start ez_COMPACT_STRINGS (Or.inl (hsets _ (List.mem_of_getElem? (i := 0) rfl)))
  have c_COMPACT_STRINGS : ¬ (z_COMPACT_STRINGS = (0 : Int32)) := gotF (Cond.eq_ints ez_COMPACT_STRINGS (Term.int_eval (0))) (not_v (Cond.before_iff.mp (hsets _ (List.mem_of_getElem? (i := 2) rfl))))
  obtain ⟨v_SIOOBE_FORMATTER, ez_SIOOBE_FORMATTER, r_SIOOBE_FORMATTER⟩ := isR_v (Cond.before_iff.mp (hsets _ (List.mem_of_getElem? (i := 8) rfl)))
  have S_v_SIOOBE_FORMATTER := Sta.start ez_SIOOBE_FORMATTER (Or.inl (hsets _ (List.mem_of_getElem? (i := 7) rfl)))
  have S_j__assertionsDisabled := Sta.start (eqint_v (Cond.before_iff.mp (hsets _ (List.mem_of_getElem? (i := 12) rfl)))) (Or.inl (hsets _ (List.mem_of_getElem? (i := 11) rfl)))
  have S_j_HI_BYTE_SHIFT := Sta.start (eqint_v (Cond.before_iff.mp (hsets _ (List.mem_of_getElem? (i := 15) rfl)))) (Or.inl (hsets _ (List.mem_of_getElem? (i := 14) rfl)))
  have S_j_LO_BYTE_SHIFT := Sta.start (eqint_v (Cond.before_iff.mp (hsets _ (List.mem_of_getElem? (i := 18) rfl)))) (Or.inl (hsets _ (List.mem_of_getElem? (i := 17) rfl)))
  have hEL : EW s _ consts_1 := own_EW hw
  have hCH : CHv s consts_1 s.vm s.heap := CHv.start hEL (fun p hp => hcalls.1 p hp) (hsets _ (List.mem_of_getElem? (i := 2) rfl)) (hw _ (List.mem_of_getElem? (i := 23) rfl)) (hw _ (List.mem_of_getElem? (i := 10) rfl))
  obtain ⟨n, o, h1, h2, h3, _, L, rfl, ⟨rfl, N⟩, -, hq⟩ := rm0 l s _ hw tables_1 i0 i1 i2 i3 i4 z_COMPACT_STRINGS v_SIOOBE_FORMATTER s.heap s.heap.size (Old.start s) hEL S_z_COMPACT_STRINGS c_COMPACT_STRINGS S_v_SIOOBE_FORMATTER r_SIOOBE_FORMATTER S_j__assertionsDisabled S_j_HI_BYTE_SHIFT S_j_LO_BYTE_SHIFT p e ha hc hk s m _ below hf ((Spec.applies_iff_loose hf).mp happ).1 ⟨rfl, State.Warmed39.refl s, rfl, hCH⟩ trivial
  refine ⟨n, _, h1, h2, h3, hpost _ _ _ _ _ _ ⟨Cond.after_iff.mpr rfl, Cond.after_iff.mpr (eq_i res_at (Term.int_eval (1)) rfl), trivial⟩ ⟨hq.1, hq.2.1, hq.2.2.1, (hq.2.2.2.sift fun y hy => Or.inr (N y hy)).mono (by decide) (by decide)⟩⟩
theorem main_1_1 : Claimed_1_1 := comes_1 fun _ _ _ _ _ _ h hF => ⟨h.1, hF⟩
theorem main_1_2 : Claimed_1_2 := comes_1 fun _ _ _ _ _ _ h hF => ⟨h.2.1, hF⟩
end Jvm.Pilot.@@N@@
namespace Jvm.Pilot.@@N@@
open Jvm Jvm.ClassFile Sem Op Lib Jvm.Free Jvm.Stand Jvm.Pilot.@@N@@.Jvm.D
/-! MADE BY PROGRAM (witnessworld.py) out of the Statement's table words and the real class files: 21 classes; the members and pool entries that the words name. The judged class is class 1, her method 4. -/
namespace start1
open Jvm.ClassFile
def u (s : String) : CpInfo := .utf8 (stringToUtf16 s)
/-- a pool by its gaps: so many unusable entries, then the entry; so many at the end -/
def gap : Nat → List CpInfo → List CpInfo
  | 0, r => r
  | n + 1, r => .unusable :: gap n r
def poolList (es : List (Nat × CpInfo)) (last : Nat) : List CpInfo := es.foldr (fun e r => gap e.1 (e.2 :: r)) (gap last [])
def pool (es : List (Nat × CpInfo)) (last : Nat) : Array CpInfo := ⟨poolList es last⟩
def fileOf (pool : Array CpInfo) (this : Nat) (attrs : Array Attribute := #[]) (ms : Array MethodInfo := #[]) (fl : Nat := 33) (sup : Nat := 0) (ifs : Array Nat := #[]) (fds : Array FieldInfo := #[]) : ClassFile where
  minorVersion := 0
  majorVersion := 65
  constantPool := pool
  accessFlags := fl
  thisClass := this
  superClass := sup
  interfaces := ifs
  fields := fds
  methods := ms
  attributes := attrs
def plain (name : String) (sup : Option ClassId) : Class where
  name := name
  kind := .ordinary
  loader := none
  accessFlags := 33
  super := sup
  interfaces := #[]
  cf := none
  fields := #[]
  methods := #[]
  instanceTypes := #[]
  staticTypes := #[]
  resolved := #[]
  callSites := []
  init := .initialized
  statics := none
  mirror := none

def pool0 : Array CpInfo := pool [(5, u "<init>"), (0, u "()V"), (1, .class_ 10), (1, u "java/lang/Object")] 113

def k0c0 : Code := { maxStack := 0, maxLocals := 1, code := object_method_1_code, exceptionTable := #[], attributes := #[] }
def k0m0 : Method := { name := "<init>", desc := "()V", sig := { parameters := [], returnType := none }, accessFlags := 1, code := some k0c0 }
/-- java/lang/Object -/
def k0 : Class := { plain "java/lang/Object" none with
  accessFlags := 33
  interfaces := #[]
  cf := some (fileOf pool0 8 #[] #[{ accessFlags := 1, nameIndex := 5, descriptorIndex := 6, attributes := #[] }] 33 0 #[] #[])
  fields := #[]
  methods := #[k0m0]
  instanceTypes := #[]
  staticTypes := #[]
  resolved := Array.replicate 124 none
  statics := none }

def pool1 : Array CpInfo := pool [(2, .class_ 4), (1, u "java/lang/Object"), (0, u "<init>"), (0, u "()V"), (0, .long 255), (1, .class_ 10), (0, u "java/lang/String"), (0, .methodref 9 12), (0, .nameAndType 5 13), (0, u "([C)V"), (0, .integer 2147483647), (0, .methodref 16 17), (0, .class_ 18), (0, .nameAndType 19 20), (0, u "com/example/heedful_rank/heedfulrank/history/ByteOrderPrefixKeyPinLaw"), (0, u "ch"), (0, u "(JIII)C"), (0, .methodref 16 22), (0, .nameAndType 23 24), (0, u "make"), (0, u "([CI)Ljava/lang/String;"), (0, .methodref 16 26), (0, .nameAndType 27 28), (0, u "b"), (0, u "(ZC)J"), (2, .long 9223372036854775808), (1, .methodref 34 35), (0, .class_ 36), (0, .nameAndType 37 38), (0, u "com/example/heedful_rank/heedfulrank/history/ByteOrder"), (0, u "prefixKey"), (0, u "(Ljava/lang/String;)J"), (3, u "law"), (0, u "(IJJJI)Z")] 4

def k1m0 : Method := { name := "<init>", desc := "()V", sig := { parameters := [], returnType := none }, accessFlags := 1, code := none }
def k1c1 : Code := { maxStack := 3, maxLocals := 6, code := method_2_code, exceptionTable := #[], attributes := #[] }
def k1m1 : Method := { name := "ch", desc := "(JIII)C", sig := { parameters := [.long, .int, .int, .int], returnType := some .char }, accessFlags := 10, code := some k1c1 }
def k1c2 : Code := { maxStack := 2, maxLocals := 2, code := method_3_code, exceptionTable := #[], attributes := #[] }
def k1m2 : Method := { name := "b", desc := "(ZC)J", sig := { parameters := [.boolean, .char], returnType := some .long }, accessFlags := 10, code := some k1c2 }
def k1c3 : Code := { maxStack := 7, maxLocals := 2, code := method_4_code, exceptionTable := #[], attributes := #[] }
def k1m3 : Method := { name := "make", desc := "([CI)Ljava/lang/String;", sig := { parameters := [(.array .char), .int], returnType := some (.object "java/lang/String") }, accessFlags := 10, code := some k1c3 }
def k1c4 : Code := { maxStack := 7, maxLocals := 21, code := code, exceptionTable := #[], attributes := #[] }
def k1m4 : Method := { name := "law", desc := "(IJJJI)Z", sig := { parameters := [.int, .long, .long, .long, .int], returnType := some .boolean }, accessFlags := 9, code := some k1c4 }
/-- com/example/heedful_rank/heedfulrank/history/ByteOrderPrefixKeyPinLaw -/
def k1 : Class := { plain "com/example/heedful_rank/heedfulrank/history/ByteOrderPrefixKeyPinLaw" (some 0) with
  accessFlags := 49
  interfaces := #[]
  cf := some (fileOf pool1 16 #[] #[{ accessFlags := 1, nameIndex := 5, descriptorIndex := 6, attributes := #[] }, { accessFlags := 10, nameIndex := 19, descriptorIndex := 20, attributes := #[] }, { accessFlags := 10, nameIndex := 27, descriptorIndex := 28, attributes := #[] }, { accessFlags := 10, nameIndex := 23, descriptorIndex := 24, attributes := #[] }, { accessFlags := 9, nameIndex := 42, descriptorIndex := 43, attributes := #[] }] 49 2 #[] #[])
  fields := #[]
  methods := #[k1m0, k1m1, k1m2, k1m3, k1m4]
  instanceTypes := #[]
  staticTypes := #[]
  resolved := Array.replicate 48 none
  statics := none }

def pool2 : Array CpInfo := pool [(1, .class_ 2), (0, u "java/io/Serializable"), (0, .class_ 4), (0, u "java/lang/Object")] 2

/-- java/io/Serializable -/
def k2 : Class := { plain "java/io/Serializable" (some 0) with
  accessFlags := 1537
  interfaces := #[]
  cf := some (fileOf pool2 1 #[] #[] 1537 3 #[] #[])
  fields := #[]
  methods := #[]
  instanceTypes := #[]
  staticTypes := #[]
  resolved := Array.replicate 7 none
  statics := none }

def pool3 : Array CpInfo := pool [(1, .class_ 2), (0, u "java/lang/Comparable"), (0, .class_ 4), (0, u "java/lang/Object")] 7

/-- java/lang/Comparable -/
def k3 : Class := { plain "java/lang/Comparable" (some 0) with
  accessFlags := 1537
  interfaces := #[]
  cf := some (fileOf pool3 1 #[] #[] 1537 3 #[] #[])
  fields := #[]
  methods := #[]
  instanceTypes := #[]
  staticTypes := #[]
  resolved := Array.replicate 12 none
  statics := none }

def pool4 : Array CpInfo := pool [(2, .class_ 4), (1, u "java/lang/CharSequence"), (42, .class_ 48), (0, u "java/lang/CharSequence$1CodePointIterator"), (10, .class_ 60), (0, u "java/lang/CharSequence$1CharIterator"), (5, .class_ 67), (0, u "java/lang/Object")] 63

/-- java/lang/CharSequence -/
def k4 : Class := { plain "java/lang/CharSequence" (some 0) with
  accessFlags := 1537
  interfaces := #[]
  cf := some (fileOf pool4 2 #[.nestMembers #[47, 59]] #[] 1537 66 #[] #[])
  fields := #[]
  methods := #[]
  instanceTypes := #[]
  staticTypes := #[]
  resolved := Array.replicate 131 none
  statics := none }

def pool5 : Array CpInfo := pool [(1, .class_ 2), (0, u "java/lang/constant/Constable"), (0, .class_ 4), (0, u "java/lang/Object")] 6

/-- java/lang/constant/Constable -/
def k5 : Class := { plain "java/lang/constant/Constable" (some 0) with
  accessFlags := 1537
  interfaces := #[]
  cf := some (fileOf pool5 1 #[] #[] 1537 3 #[] #[])
  fields := #[]
  methods := #[]
  instanceTypes := #[]
  staticTypes := #[]
  resolved := Array.replicate 11 none
  statics := none }

def pool6 : Array CpInfo := pool [(1, .class_ 2), (0, u "java/lang/constant/ConstantDesc"), (0, .class_ 4), (0, u "java/lang/Object")] 32

/-- java/lang/constant/ConstantDesc -/
def k6 : Class := { plain "java/lang/constant/ConstantDesc" (some 0) with
  accessFlags := 1537
  interfaces := #[]
  cf := some (fileOf pool6 1 #[] #[] 1537 3 #[] #[])
  fields := #[]
  methods := #[]
  instanceTypes := #[]
  staticTypes := #[]
  resolved := Array.replicate 37 none
  statics := none }

def pool7 : Array CpInfo := pool [(1, .methodref 2 3), (0, .class_ 4), (0, .nameAndType 5 6), (0, u "java/lang/Object"), (0, u "<init>"), (0, u "()V"), (0, .string 8), (0, u ""), (0, .fieldref 10 11), (0, .class_ 12), (0, .nameAndType 13 14), (0, u "java/lang/String"), (0, u "value"), (0, u "[B"), (0, .fieldref 10 16), (0, .nameAndType 17 18), (0, u "coder"), (0, u "B"), (2, u "hash"), (0, u "I"), (2, u "hashIsZero"), (0, u "Z"), (0, .methodref 10 28), (0, .nameAndType 5 29), (0, u "([CIILjava/lang/Void;)V"), (8, .fieldref 10 39), (0, .nameAndType 40 26), (0, u "COMPACT_STRINGS"), (1, .class_ 44), (1, u "java/lang/StringUTF16"), (0, u "compress"), (1, .methodref 42 48), (0, .nameAndType 49 50), (0, u "coderFromArrayLen"), (0, u "([BI)B"), (56, .class_ 109), (1, u "java/lang/StringLatin1"), (32, u "()Z"), (34, .methodref 42 178), (0, .nameAndType 45 179), (0, u "([CII)[B"), (154, u "()I"), (0, .methodref 10 336), (0, .nameAndType 17 337), (0, u "()B"), (25, u "([BI)C"), (27, u "(II)V"), (35, u "(I)C"), (64, .methodref 10 493), (0, .nameAndType 494 142), (0, u "isLatin1"), (0, .methodref 107 496), (0, .nameAndType 497 363), (0, u "charAt"), (0, .methodref 42 496), (2, u "checkIndex"), (5, u "length"), (67, .class_ 576), (0, u "java/lang/CharSequence"), (22, u "CASE_INSENSITIVE_ORDER"), (0, u "Ljava/util/Comparator;"), (409, u "([C)V"), (42, .fieldref 1054 1055), (0, .class_ 1056), (0, .nameAndType 1057 1058), (0, u "jdk/internal/util/Preconditions"), (0, u "SIOOBE_FORMATTER"), (0, u "Ljava/util/function/BiFunction;"), (0, .methodref 1054 1060), (0, .nameAndType 501 1061), (0, u "(IILjava/util/function/BiFunction;)I"), (39, u "serialPersistentFields"), (0, u "[Ljava/io/ObjectStreamField;"), (0, .class_ 1104), (0, u "java/lang/String$CaseInsensitiveComparator"), (1, .class_ 1107), (0, u "java/io/Serializable"), (0, .class_ 1109), (0, u "java/lang/Comparable"), (0, .class_ 1111), (0, u "java/lang/constant/Constable"), (0, .class_ 1113), (0, u "java/lang/constant/ConstantDesc"), (2, u "serialVersionUID"), (0, u "J"), (3, u "REPL"), (0, u "C"), (2, u "LATIN1"), (1, u "UTF16")] 323

def k7m0 : Method := { name := "<init>", desc := "()V", sig := { parameters := [], returnType := none }, accessFlags := 1, code := none }
def k7c1 : Code := { maxStack := 5, maxLocals := 2, code := jdk_42_method_3_code, exceptionTable := #[], attributes := #[] }
def k7m1 : Method := { name := "<init>", desc := "([C)V", sig := { parameters := [(.array .char)], returnType := none }, accessFlags := 1, code := some k7c1 }
def k7c2 : Code := { maxStack := 2, maxLocals := 1, code := jdk_42_method_54_code, exceptionTable := #[], attributes := #[] }
def k7m2 : Method := { name := "length", desc := "()I", sig := { parameters := [], returnType := some .int }, accessFlags := 1, code := some k7c2 }
def k7c3 : Code := { maxStack := 2, maxLocals := 2, code := jdk_42_method_56_code, exceptionTable := #[], attributes := #[] }
def k7m3 : Method := { name := "charAt", desc := "(I)C", sig := { parameters := [.int], returnType := some .char }, accessFlags := 1, code := some k7c3 }
def k7c4 : Code := { maxStack := 4, maxLocals := 6, code := jdk_42_method_149_code, exceptionTable := #[], attributes := #[] }
def k7m4 : Method := { name := "<init>", desc := "([CIILjava/lang/Void;)V", sig := { parameters := [(.array .char), .int, .int, (.object "java/lang/Void")], returnType := none }, accessFlags := 2, code := some k7c4 }
def k7c5 : Code := { maxStack := 1, maxLocals := 1, code := jdk_42_method_152_code, exceptionTable := #[], attributes := #[] }
def k7m5 : Method := { name := "coder", desc := "()B", sig := { parameters := [], returnType := some .byte }, accessFlags := 0, code := some k7c5 }
def k7c6 : Code := { maxStack := 1, maxLocals := 1, code := jdk_42_method_154_code, exceptionTable := #[], attributes := #[] }
def k7m6 : Method := { name := "isLatin1", desc := "()Z", sig := { parameters := [], returnType := some .boolean }, accessFlags := 0, code := some k7c6 }
def k7c7 : Code := { maxStack := 3, maxLocals := 2, code := jdk_42_method_155_code, exceptionTable := #[], attributes := #[] }
def k7m7 : Method := { name := "checkIndex", desc := "(II)V", sig := { parameters := [.int, .int], returnType := none }, accessFlags := 8, code := some k7c7 }
/-- java/lang/String -/
def k7 : Class := { plain "java/lang/String" (some 0) with
  accessFlags := 49
  interfaces := #[2, 3, 4, 5, 6]
  cf := some (fileOf pool7 10 #[.nestMembers #[1103]] #[{ accessFlags := 1, nameIndex := 5, descriptorIndex := 6, attributes := #[] }, { accessFlags := 1, nameIndex := 5, descriptorIndex := 1010, attributes := #[] }, { accessFlags := 1, nameIndex := 507, descriptorIndex := 334, attributes := #[] }, { accessFlags := 1, nameIndex := 497, descriptorIndex := 427, attributes := #[] }, { accessFlags := 2, nameIndex := 5, descriptorIndex := 29, attributes := #[] }, { accessFlags := 0, nameIndex := 17, descriptorIndex := 337, attributes := #[] }, { accessFlags := 0, nameIndex := 494, descriptorIndex := 142, attributes := #[] }, { accessFlags := 8, nameIndex := 501, descriptorIndex := 391, attributes := #[] }] 49 2 #[1106, 1108, 575, 1110, 1112] #[{ accessFlags := 18, nameIndex := 13, descriptorIndex := 14, attributes := #[] }, { accessFlags := 18, nameIndex := 17, descriptorIndex := 18, attributes := #[] }, { accessFlags := 2, nameIndex := 21, descriptorIndex := 22, attributes := #[] }, { accessFlags := 2, nameIndex := 25, descriptorIndex := 26, attributes := #[] }, { accessFlags := 26, nameIndex := 1116, descriptorIndex := 1117, attributes := #[] }, { accessFlags := 24, nameIndex := 40, descriptorIndex := 26, attributes := #[] }, { accessFlags := 26, nameIndex := 1101, descriptorIndex := 1102, attributes := #[] }, { accessFlags := 26, nameIndex := 1121, descriptorIndex := 1122, attributes := #[] }, { accessFlags := 25, nameIndex := 599, descriptorIndex := 600, attributes := #[] }, { accessFlags := 24, nameIndex := 1125, descriptorIndex := 18, attributes := #[] }, { accessFlags := 24, nameIndex := 1127, descriptorIndex := 18, attributes := #[] }])
  fields := #[{ name := "value", type := (.array .byte), accessFlags := 18, slot := 0, constantValue := 0 }, { name := "coder", type := .byte, accessFlags := 18, slot := 1, constantValue := 0 }, { name := "hash", type := .int, accessFlags := 2, slot := 2, constantValue := 0 }, { name := "hashIsZero", type := .boolean, accessFlags := 2, slot := 3, constantValue := 0 }, { name := "serialVersionUID", type := .long, accessFlags := 26, slot := 0, constantValue := 0 }, { name := "COMPACT_STRINGS", type := .boolean, accessFlags := 24, slot := 1, constantValue := 0 }, { name := "serialPersistentFields", type := (.array (.object "java/io/ObjectStreamField")), accessFlags := 26, slot := 2, constantValue := 0 }, { name := "REPL", type := .char, accessFlags := 26, slot := 3, constantValue := 0 }, { name := "CASE_INSENSITIVE_ORDER", type := (.object "java/util/Comparator"), accessFlags := 25, slot := 4, constantValue := 0 }, { name := "LATIN1", type := .byte, accessFlags := 24, slot := 5, constantValue := 0 }, { name := "UTF16", type := .byte, accessFlags := 24, slot := 6, constantValue := 0 }]
  methods := #[k7m0, k7m1, k7m2, k7m3, k7m4, k7m5, k7m6, k7m7]
  instanceTypes := #[(.array .byte), .byte, .int, .boolean]
  staticTypes := #[.long, .boolean, (.array (.object "java/io/ObjectStreamField")), .char, (.object "java/util/Comparator"), .byte, .byte]
  resolved := Array.replicate 1451 none
  statics := some 0 }

def pool8 : Array CpInfo := pool [(19, .class_ 20), (0, u "java/util/Comparator"), (84, .class_ 106), (0, u "java/lang/Object")] 181

/-- java/util/Comparator -/
def k8 : Class := { plain "java/util/Comparator" (some 0) with
  accessFlags := 1537
  interfaces := #[]
  cf := some (fileOf pool8 19 #[] #[] 1537 105 #[] #[])
  fields := #[]
  methods := #[]
  instanceTypes := #[]
  staticTypes := #[]
  resolved := Array.replicate 288 none
  statics := none }

def pool9 : Array CpInfo := pool [(1, .class_ 2), (0, u "com/example/heedful_rank/heedfulrank/history/ByteOrder"), (1, .class_ 6), (1, u "java/lang/Object"), (0, u "<init>"), (0, u "()V"), (0, .methodref 10 11), (0, .class_ 12), (0, .nameAndType 13 14), (0, u "java/lang/String"), (0, u "length"), (0, u "()I"), (6, .methodref 10 22), (0, .nameAndType 23 24), (0, u "charAt"), (0, u "(I)C"), (13, .long 9223372036854775808), (9, u "INSTANCE"), (0, u "Lcom/example/heedful_rank/heedfulrank/history/ByteOrder;"), (0, .class_ 51), (0, u "java/util/Comparator"), (0, u "FIRST_SURROGATE"), (0, u "C"), (1, u "PAST_SURROGATES"), (0, u "SURROGATE_SPAN"), (0, u "I"), (1, u "SURROGATE_LIFT"), (1, u "ASCII_END"), (1, u "BEYOND_ASCII"), (4, u "prefixKey"), (0, u "(Ljava/lang/String;)J")] 7

def k9m0 : Method := { name := "<init>", desc := "()V", sig := { parameters := [], returnType := none }, accessFlags := 2, code := none }
def k9c1 : Code := { maxStack := 5, maxLocals := 6, code := prog_9_method_3_code, exceptionTable := #[], attributes := #[] }
def k9m1 : Method := { name := "prefixKey", desc := "(Ljava/lang/String;)J", sig := { parameters := [(.object "java/lang/String")], returnType := some .long }, accessFlags := 9, code := some k9c1 }
/-- com/example/heedful_rank/heedfulrank/history/ByteOrder -/
def k9 : Class := { plain "com/example/heedful_rank/heedfulrank/history/ByteOrder" (some 0) with
  accessFlags := 49
  interfaces := #[8]
  cf := some (fileOf pool9 1 #[] #[{ accessFlags := 2, nameIndex := 7, descriptorIndex := 8, attributes := #[] }, { accessFlags := 9, nameIndex := 68, descriptorIndex := 69, attributes := #[] }] 49 4 #[50] #[{ accessFlags := 25, nameIndex := 48, descriptorIndex := 49, attributes := #[] }, { accessFlags := 26, nameIndex := 52, descriptorIndex := 53, attributes := #[] }, { accessFlags := 26, nameIndex := 55, descriptorIndex := 53, attributes := #[] }, { accessFlags := 26, nameIndex := 56, descriptorIndex := 57, attributes := #[] }, { accessFlags := 26, nameIndex := 59, descriptorIndex := 57, attributes := #[] }, { accessFlags := 26, nameIndex := 61, descriptorIndex := 53, attributes := #[] }, { accessFlags := 26, nameIndex := 63, descriptorIndex := 57, attributes := #[] }])
  fields := #[{ name := "INSTANCE", type := (.object "com/example/heedful_rank/heedfulrank/history/ByteOrder"), accessFlags := 25, slot := 0, constantValue := 0 }, { name := "FIRST_SURROGATE", type := .char, accessFlags := 26, slot := 1, constantValue := 0 }, { name := "PAST_SURROGATES", type := .char, accessFlags := 26, slot := 2, constantValue := 0 }, { name := "SURROGATE_SPAN", type := .int, accessFlags := 26, slot := 3, constantValue := 0 }, { name := "SURROGATE_LIFT", type := .int, accessFlags := 26, slot := 4, constantValue := 0 }, { name := "ASCII_END", type := .char, accessFlags := 26, slot := 5, constantValue := 0 }, { name := "BEYOND_ASCII", type := .int, accessFlags := 26, slot := 6, constantValue := 0 }]
  methods := #[k9m0, k9m1]
  instanceTypes := #[]
  staticTypes := #[(.object "com/example/heedful_rank/heedfulrank/history/ByteOrder"), .char, .char, .int, .int, .char, .int]
  resolved := Array.replicate 77 none
  statics := none }

def pool10 : Array CpInfo := pool [(3, .class_ 4), (0, u "java/lang/String"), (1, .class_ 8), (1, u "java/lang/Object"), (0, u "<init>"), (0, u "()V"), (0, .methodref 12 13), (0, .class_ 14), (0, .nameAndType 15 16), (0, u "java/lang/StringUTF16"), (0, u "newBytesLength"), (0, u "(I)I"), (3, .integer 1073741823), (23, .fieldref 12 45), (0, .nameAndType 46 47), (0, u "$assertionsDisabled"), (0, u "Z"), (0, .methodref 12 49), (0, .nameAndType 50 51), (0, u "length"), (0, u "([B)I"), (7, .fieldref 12 60), (0, .nameAndType 61 62), (0, u "HI_BYTE_SHIFT"), (0, u "I"), (0, .fieldref 12 64), (0, .nameAndType 65 62), (0, u "LO_BYTE_SHIFT"), (1, .methodref 12 68), (0, .nameAndType 69 70), (0, u "checkIndex"), (0, u "(I[B)V"), (0, .methodref 12 72), (0, .nameAndType 73 74), (0, u "getChar"), (0, u "([BI)C"), (32, .methodref 12 108), (0, .nameAndType 109 110), (0, u "newBytesFor"), (0, u "(I)[B"), (0, .methodref 12 112), (0, .nameAndType 113 114), (0, u "putChar"), (0, u "([BII)V"), (0, .methodref 12 116), (0, .nameAndType 117 118), (0, u "compress"), (0, u "([CI[BII)I"), (0, .methodref 12 120), (0, .nameAndType 121 122), (0, u "toBytes"), (0, u "([CII)[B"), (138, u "coderFromArrayLen"), (0, u "([BI)B"), (106, .class_ 371), (1, u "java/lang/StringUTF16$LinesSpliterator"), (20, u "charAt"), (21, .methodref 3 415), (0, .nameAndType 69 416), (0, u "(II)V"), (13, u "MAX_LENGTH"), (196, .class_ 628), (0, u "java/lang/StringUTF16$CodePointsSpliterator"), (0, .class_ 630), (0, u "java/lang/StringUTF16$CharsSpliterator")] 4

def k10m0 : Method := { name := "<init>", desc := "()V", sig := { parameters := [], returnType := none }, accessFlags := 0, code := none }
def k10c1 : Code := { maxStack := 1, maxLocals := 1, code := jdk_52_method_2_code, exceptionTable := #[], attributes := #[] }
def k10m1 : Method := { name := "newBytesFor", desc := "(I)[B", sig := { parameters := [.int], returnType := some (.array .byte) }, accessFlags := 9, code := some k10c1 }
def k10c2 : Code := { maxStack := 4, maxLocals := 1, code := jdk_52_method_3_code, exceptionTable := #[], attributes := #[] }
def k10m2 : Method := { name := "newBytesLength", desc := "(I)I", sig := { parameters := [.int], returnType := some .int }, accessFlags := 9, code := some k10c2 }
def k10c3 : Code := { maxStack := 4, maxLocals := 3, code := jdk_52_method_4_code, exceptionTable := #[], attributes := #[] }
def k10m3 : Method := { name := "putChar", desc := "([BII)V", sig := { parameters := [(.array .byte), .int, .int], returnType := none }, accessFlags := 8, code := some k10c3 }
def k10c4 : Code := { maxStack := 3, maxLocals := 2, code := jdk_52_method_5_code, exceptionTable := #[], attributes := #[] }
def k10m4 : Method := { name := "getChar", desc := "([BI)C", sig := { parameters := [(.array .byte), .int], returnType := some .char }, accessFlags := 8, code := some k10c4 }
def k10c5 : Code := { maxStack := 2, maxLocals := 1, code := jdk_52_method_6_code, exceptionTable := #[], attributes := #[] }
def k10m5 : Method := { name := "length", desc := "([B)I", sig := { parameters := [(.array .byte)], returnType := some .int }, accessFlags := 9, code := some k10c5 }
def k10c6 : Code := { maxStack := 4, maxLocals := 5, code := jdk_52_method_14_code, exceptionTable := #[], attributes := #[] }
def k10m6 : Method := { name := "toBytes", desc := "([CII)[B", sig := { parameters := [(.array .char), .int, .int], returnType := some (.array .byte) }, accessFlags := 9, code := some k10c6 }
def k10c7 : Code := { maxStack := 2, maxLocals := 2, code := jdk_52_method_15_code, exceptionTable := #[], attributes := #[] }
def k10m7 : Method := { name := "coderFromArrayLen", desc := "([BI)B", sig := { parameters := [(.array .byte), .int], returnType := some .byte }, accessFlags := 8, code := some k10c7 }
def k10c8 : Code := { maxStack := 5, maxLocals := 6, code := jdk_52_method_16_code, exceptionTable := #[], attributes := #[] }
def k10m8 : Method := { name := "compress", desc := "([CII)[B", sig := { parameters := [(.array .char), .int, .int], returnType := some (.array .byte) }, accessFlags := 9, code := some k10c8 }
def k10c9 : Code := { maxStack := 3, maxLocals := 7, code := jdk_52_method_21_code, exceptionTable := #[], attributes := #[] }
def k10m9 : Method := { name := "compress", desc := "([CI[BII)I", sig := { parameters := [(.array .char), .int, (.array .byte), .int, .int], returnType := some .int }, accessFlags := 9, code := some k10c9 }
def k10c10 : Code := { maxStack := 2, maxLocals := 2, code := jdk_52_method_83_code, exceptionTable := #[], attributes := #[] }
def k10m10 : Method := { name := "charAt", desc := "([BI)C", sig := { parameters := [(.array .byte), .int], returnType := some .char }, accessFlags := 9, code := some k10c10 }
def k10c11 : Code := { maxStack := 2, maxLocals := 2, code := jdk_52_method_91_code, exceptionTable := #[], attributes := #[] }
def k10m11 : Method := { name := "checkIndex", desc := "(I[B)V", sig := { parameters := [.int, (.array .byte)], returnType := none }, accessFlags := 9, code := some k10c11 }
/-- java/lang/StringUTF16 -/
def k10 : Class := { plain "java/lang/StringUTF16" (some 0) with
  accessFlags := 48
  interfaces := #[]
  cf := some (fileOf pool10 12 #[.nestMembers #[627, 629, 369]] #[{ accessFlags := 0, nameIndex := 9, descriptorIndex := 10, attributes := #[] }, { accessFlags := 9, nameIndex := 109, descriptorIndex := 110, attributes := #[] }, { accessFlags := 9, nameIndex := 15, descriptorIndex := 16, attributes := #[] }, { accessFlags := 8, nameIndex := 113, descriptorIndex := 114, attributes := #[] }, { accessFlags := 8, nameIndex := 73, descriptorIndex := 74, attributes := #[] }, { accessFlags := 9, nameIndex := 50, descriptorIndex := 51, attributes := #[] }, { accessFlags := 9, nameIndex := 121, descriptorIndex := 122, attributes := #[] }, { accessFlags := 8, nameIndex := 261, descriptorIndex := 262, attributes := #[] }, { accessFlags := 9, nameIndex := 117, descriptorIndex := 122, attributes := #[] }, { accessFlags := 9, nameIndex := 117, descriptorIndex := 118, attributes := #[] }, { accessFlags := 9, nameIndex := 392, descriptorIndex := 74, attributes := #[] }, { accessFlags := 9, nameIndex := 69, descriptorIndex := 70, attributes := #[] }] 48 6 #[] #[{ accessFlags := 26, nameIndex := 61, descriptorIndex := 62, attributes := #[] }, { accessFlags := 26, nameIndex := 65, descriptorIndex := 62, attributes := #[] }, { accessFlags := 24, nameIndex := 430, descriptorIndex := 62, attributes := #[] }, { accessFlags := 4120, nameIndex := 46, descriptorIndex := 47, attributes := #[] }])
  fields := #[{ name := "HI_BYTE_SHIFT", type := .int, accessFlags := 26, slot := 0, constantValue := 0 }, { name := "LO_BYTE_SHIFT", type := .int, accessFlags := 26, slot := 1, constantValue := 0 }, { name := "MAX_LENGTH", type := .int, accessFlags := 24, slot := 2, constantValue := 0 }, { name := "$assertionsDisabled", type := .boolean, accessFlags := 4120, slot := 3, constantValue := 0 }]
  methods := #[k10m0, k10m1, k10m2, k10m3, k10m4, k10m5, k10m6, k10m7, k10m8, k10m9, k10m10, k10m11]
  instanceTypes := #[]
  staticTypes := #[.int, .int, .int, .boolean]
  resolved := Array.replicate 635 none
  statics := some 1 }

def pool11 : Array CpInfo := pool [(2, .class_ 4), (1, u "java/lang/Object"), (0, u "<init>"), (0, u "()V"), (17, .class_ 26), (1, u "jdk/internal/util/Preconditions"), (6, u "checkIndex"), (21, .class_ 56), (0, u "jdk/internal/util/Preconditions$4"), (57, .class_ 115), (0, u "jdk/internal/util/Preconditions$1"), (7, u "SIOOBE_FORMATTER"), (0, u "Ljava/util/function/BiFunction;"), (0, .class_ 126), (0, u "jdk/internal/util/Preconditions$2"), (3, u "AIOOBE_FORMATTER"), (0, .class_ 132), (0, u "jdk/internal/util/Preconditions$3"), (3, u "IOOBE_FORMATTER"), (41, u "(IILjava/util/function/BiFunction;)I")] 15

def k11m0 : Method := { name := "<init>", desc := "()V", sig := { parameters := [], returnType := none }, accessFlags := 1, code := none }
def k11c1 : Code := { maxStack := 3, maxLocals := 3, code := jdk_41_method_11_code, exceptionTable := #[], attributes := #[] }
def k11m1 : Method := { name := "checkIndex", desc := "(IILjava/util/function/BiFunction;)I", sig := { parameters := [.int, .int, (.object "java/util/function/BiFunction")], returnType := some .int }, accessFlags := 9, code := some k11c1 }
/-- jdk/internal/util/Preconditions -/
def k11 : Class := { plain "jdk/internal/util/Preconditions" (some 0) with
  accessFlags := 33
  interfaces := #[]
  cf := some (fileOf pool11 24 #[.nestMembers #[55, 131, 125, 114]] #[{ accessFlags := 1, nameIndex := 5, descriptorIndex := 6, attributes := #[] }, { accessFlags := 9, nameIndex := 33, descriptorIndex := 178, attributes := #[] }] 33 2 #[] #[{ accessFlags := 25, nameIndex := 123, descriptorIndex := 124, attributes := #[] }, { accessFlags := 25, nameIndex := 130, descriptorIndex := 124, attributes := #[] }, { accessFlags := 25, nameIndex := 136, descriptorIndex := 124, attributes := #[] }])
  fields := #[{ name := "SIOOBE_FORMATTER", type := (.object "java/util/function/BiFunction"), accessFlags := 25, slot := 0, constantValue := 0 }, { name := "AIOOBE_FORMATTER", type := (.object "java/util/function/BiFunction"), accessFlags := 25, slot := 1, constantValue := 0 }, { name := "IOOBE_FORMATTER", type := (.object "java/util/function/BiFunction"), accessFlags := 25, slot := 2, constantValue := 0 }]
  methods := #[k11m0, k11m1]
  instanceTypes := #[]
  staticTypes := #[(.object "java/util/function/BiFunction"), (.object "java/util/function/BiFunction"), (.object "java/util/function/BiFunction")]
  resolved := Array.replicate 194 none
  statics := some 2 }

def pool12 : Array CpInfo := pool [(1, .class_ 2), (0, u "java/lang/String"), (1, .class_ 6), (1, u "java/lang/Object"), (0, u "<init>"), (0, u "()V"), (0, .methodref 1 10), (0, .nameAndType 11 12), (0, u "checkIndex"), (0, u "(II)V"), (1, .class_ 16), (1, u "java/lang/StringLatin1"), (36, u "([BI)C"), (67, u "$assertionsDisabled"), (0, u "Z"), (98, .class_ 223), (1, u "java/lang/StringLatin1$LinesSpliterator"), (28, u "charAt"), (137, .class_ 391), (0, u "java/lang/StringLatin1$CharsSpliterator")] 3

def k12m0 : Method := { name := "<init>", desc := "()V", sig := { parameters := [], returnType := none }, accessFlags := 0, code := none }
def k12c1 : Code := { maxStack := 2, maxLocals := 2, code := jdk_43_method_2_code, exceptionTable := #[], attributes := #[] }
def k12m1 : Method := { name := "charAt", desc := "([BI)C", sig := { parameters := [(.array .byte), .int], returnType := some .char }, accessFlags := 9, code := some k12c1 }
/-- java/lang/StringLatin1 -/
def k12 : Class := { plain "java/lang/StringLatin1" (some 0) with
  accessFlags := 48
  interfaces := #[]
  cf := some (fileOf pool12 14 #[.nestMembers #[390, 221]] #[{ accessFlags := 0, nameIndex := 7, descriptorIndex := 8, attributes := #[] }, { accessFlags := 9, nameIndex := 252, descriptorIndex := 53, attributes := #[] }] 48 4 #[] #[{ accessFlags := 4120, nameIndex := 121, descriptorIndex := 122, attributes := #[] }])
  fields := #[{ name := "$assertionsDisabled", type := .boolean, accessFlags := 4120, slot := 0, constantValue := 0 }]
  methods := #[k12m0, k12m1]
  instanceTypes := #[]
  staticTypes := #[.boolean]
  resolved := Array.replicate 395 none
  statics := none }

def pool13 : Array CpInfo := pool [(9, u "<init>"), (6, .class_ 18), (1, u "java/lang/Object"), (0, u "()V"), (1, .class_ 23), (1, u "jdk/internal/util/ArraysSupport"), (0, u "LOG2_ARRAY_LONG_INDEX_SCALE"), (0, u "I"), (2, u "U"), (0, u "Ljdk/internal/misc/Unsafe;"), (8, u "BIG_ENDIAN"), (0, u "Z"), (8, u "LOG2_BYTE_BIT_SIZE"), (4, u "LOG2_ARRAY_INT_INDEX_SCALE"), (54, u "JLA"), (0, u "Ljdk/internal/access/JavaLangAccess;"), (11, u "LOG2_ARRAY_BOOLEAN_INDEX_SCALE"), (9, u "LOG2_ARRAY_BYTE_INDEX_SCALE"), (5, u "LOG2_ARRAY_CHAR_INDEX_SCALE"), (5, u "LOG2_ARRAY_SHORT_INDEX_SCALE"), (18, u "LOG2_ARRAY_FLOAT_INDEX_SCALE"), (24, u "LOG2_ARRAY_DOUBLE_INDEX_SCALE"), (89, u "T_BOOLEAN"), (2, u "T_CHAR"), (1, u "T_FLOAT"), (1, u "T_DOUBLE"), (1, u "T_BYTE"), (1, u "T_SHORT"), (1, u "T_INT"), (1, u "T_LONG"), (1, u "SOFT_MAX_ARRAY_LENGTH")] 83

def k13m0 : Method := { name := "<init>", desc := "()V", sig := { parameters := [], returnType := none }, accessFlags := 2, code := none }
/-- jdk/internal/util/ArraysSupport -/
def k13 : Class := { plain "jdk/internal/util/ArraysSupport" (some 0) with
  accessFlags := 33
  interfaces := #[]
  cf := some (fileOf pool13 21 #[] #[{ accessFlags := 2, nameIndex := 9, descriptorIndex := 19, attributes := #[] }] 33 16 #[] #[{ accessFlags := 24, nameIndex := 28, descriptorIndex := 29, attributes := #[] }, { accessFlags := 26, nameIndex := 38, descriptorIndex := 39, attributes := #[] }, { accessFlags := 25, nameIndex := 121, descriptorIndex := 25, attributes := #[] }, { accessFlags := 25, nameIndex := 131, descriptorIndex := 25, attributes := #[] }, { accessFlags := 25, nameIndex := 137, descriptorIndex := 25, attributes := #[] }, { accessFlags := 25, nameIndex := 143, descriptorIndex := 25, attributes := #[] }, { accessFlags := 25, nameIndex := 53, descriptorIndex := 25, attributes := #[] }, { accessFlags := 25, nameIndex := 24, descriptorIndex := 25, attributes := #[] }, { accessFlags := 25, nameIndex := 162, descriptorIndex := 25, attributes := #[] }, { accessFlags := 25, nameIndex := 187, descriptorIndex := 25, attributes := #[] }, { accessFlags := 26, nameIndex := 48, descriptorIndex := 25, attributes := #[] }, { accessFlags := 25, nameIndex := 277, descriptorIndex := 25, attributes := #[] }, { accessFlags := 25, nameIndex := 280, descriptorIndex := 25, attributes := #[] }, { accessFlags := 25, nameIndex := 282, descriptorIndex := 25, attributes := #[] }, { accessFlags := 25, nameIndex := 284, descriptorIndex := 25, attributes := #[] }, { accessFlags := 25, nameIndex := 286, descriptorIndex := 25, attributes := #[] }, { accessFlags := 25, nameIndex := 288, descriptorIndex := 25, attributes := #[] }, { accessFlags := 25, nameIndex := 290, descriptorIndex := 25, attributes := #[] }, { accessFlags := 25, nameIndex := 292, descriptorIndex := 25, attributes := #[] }, { accessFlags := 26, nameIndex := 108, descriptorIndex := 109, attributes := #[] }, { accessFlags := 25, nameIndex := 294, descriptorIndex := 25, attributes := #[] }])
  fields := #[{ name := "U", type := (.object "jdk/internal/misc/Unsafe"), accessFlags := 24, slot := 0, constantValue := 0 }, { name := "BIG_ENDIAN", type := .boolean, accessFlags := 26, slot := 1, constantValue := 0 }, { name := "LOG2_ARRAY_BOOLEAN_INDEX_SCALE", type := .int, accessFlags := 25, slot := 2, constantValue := 0 }, { name := "LOG2_ARRAY_BYTE_INDEX_SCALE", type := .int, accessFlags := 25, slot := 3, constantValue := 0 }, { name := "LOG2_ARRAY_CHAR_INDEX_SCALE", type := .int, accessFlags := 25, slot := 4, constantValue := 0 }, { name := "LOG2_ARRAY_SHORT_INDEX_SCALE", type := .int, accessFlags := 25, slot := 5, constantValue := 0 }, { name := "LOG2_ARRAY_INT_INDEX_SCALE", type := .int, accessFlags := 25, slot := 6, constantValue := 0 }, { name := "LOG2_ARRAY_LONG_INDEX_SCALE", type := .int, accessFlags := 25, slot := 7, constantValue := 0 }, { name := "LOG2_ARRAY_FLOAT_INDEX_SCALE", type := .int, accessFlags := 25, slot := 8, constantValue := 0 }, { name := "LOG2_ARRAY_DOUBLE_INDEX_SCALE", type := .int, accessFlags := 25, slot := 9, constantValue := 0 }, { name := "LOG2_BYTE_BIT_SIZE", type := .int, accessFlags := 26, slot := 10, constantValue := 0 }, { name := "T_BOOLEAN", type := .int, accessFlags := 25, slot := 11, constantValue := 0 }, { name := "T_CHAR", type := .int, accessFlags := 25, slot := 12, constantValue := 0 }, { name := "T_FLOAT", type := .int, accessFlags := 25, slot := 13, constantValue := 0 }, { name := "T_DOUBLE", type := .int, accessFlags := 25, slot := 14, constantValue := 0 }, { name := "T_BYTE", type := .int, accessFlags := 25, slot := 15, constantValue := 0 }, { name := "T_SHORT", type := .int, accessFlags := 25, slot := 16, constantValue := 0 }, { name := "T_INT", type := .int, accessFlags := 25, slot := 17, constantValue := 0 }, { name := "T_LONG", type := .int, accessFlags := 25, slot := 18, constantValue := 0 }, { name := "JLA", type := (.object "jdk/internal/access/JavaLangAccess"), accessFlags := 26, slot := 19, constantValue := 0 }, { name := "SOFT_MAX_ARRAY_LENGTH", type := .int, accessFlags := 25, slot := 20, constantValue := 0 }]
  methods := #[k13m0]
  instanceTypes := #[]
  staticTypes := #[(.object "jdk/internal/misc/Unsafe"), .boolean, .int, .int, .int, .int, .int, .int, .int, .int, .int, .int, .int, .int, .int, .int, .int, .int, .int, (.object "jdk/internal/access/JavaLangAccess"), .int]
  resolved := Array.replicate 378 none
  statics := none }

def pool14 : Array CpInfo := pool [(1, u "java/lang/Cloneable"), (0, .class_ 1), (0, u "java/lang/Object"), (0, .class_ 3)] 3

/-- java/lang/Cloneable -/
def k14 : Class := { plain "java/lang/Cloneable" (some 0) with
  accessFlags := 1537
  interfaces := #[]
  cf := some (fileOf pool14 2 #[] #[] 1537 4 #[] #[])
  fields := #[]
  methods := #[]
  instanceTypes := #[]
  staticTypes := #[]
  resolved := Array.replicate 8 none
  statics := none }

/-- the primitive byte -/
def k15 : Class := { plain "byte" none with kind := .primitive 'B', accessFlags := 0x411 }
/-- [B -/
def k16 : Class := { plain "[B" (some 0) with kind := .array 15 .byte, interfaces := #[14, 2], accessFlags := 1041 }

/-- the primitive char -/
def k17 : Class := { plain "char" none with kind := .primitive 'C', accessFlags := 0x411 }
/-- [C -/
def k18 : Class := { plain "[C" (some 0) with kind := .array 17 .char, interfaces := #[14, 2], accessFlags := 1041 }

/-- the primitive int -/
def k19 : Class := { plain "int" none with kind := .primitive 'I', accessFlags := 0x411 }
/-- [I -/
def k20 : Class := { plain "[I" (some 0) with kind := .array 19 .int, interfaces := #[14, 2], accessFlags := 1041 }

def heap : Heap := #[{ cls := 7, slots := #[.long 0, .int 1, .null, .int 0, .null, .int 0, .int 0], vm := .statics 7 },
  { cls := 10, slots := #[.int 0, .int 8, .int 0, .int 1], vm := .statics 10 },
  { cls := 11, slots := #[.null, .null, .null], vm := .statics 11 }]
def classes : Array Class := #[k0, k1, k2, k3, k4, k5, k6, k7, k8, k9, k10, k11, k12, k13, k14, k15, k16, k17, k18, k19, k20]
def interned : List (Array UInt16 × Addr) := []
def slotsUsed : Nat := 14
def theMethod : MethodId := ⟨1, 4⟩
def args0 : Array Value := #[.int 3, .long 5, .long 6, .long 7, .int 1]
def aboutOver (below : List Frame) : State where
  vm := { classes := classes, interned := interned.toArray }
  heap := heap
  slotsUsed := slotsUsed
  threads := #[{ frames := .invoking theMethod args0 :: below }]
def below0 : List Frame := [.native { method := ⟨0, 0⟩, args := #[] }]
def about1 : State := aboutOver below0
def p0 : Program := .bare "" "" ""
def e0 : Env := launch0.env 0 0 0
theorem w_frames : about1.frames = Frame.invoking theMethod args0 :: below0 := rfl
set_option maxRecDepth 65536 in
theorem w_args : argsFit about1.vm theMethod args0 = true := by decide +kernel
set_option maxRecDepth 65536 in
theorem w_heap : heapFits about1 = true := by decide +kernel
set_option maxRecDepth 65536 in
theorem w_runnable : about1.curStatus? = some .runnable := by decide +kernel
set_option maxRecDepth 65536 in
theorem w_alone : about1.alone = true := by decide +kernel
set_option maxRecDepth 65536 in
theorem w_named : about1.methodNamed? x = some theMethod := by decide +kernel
set_option maxRecDepth 65536 in
theorem w_hears : about1.hears theMethod below0 = true := by decide +kernel
set_option maxRecDepth 65536 in
theorem w_ripe : about1.ripe theMethod args0 below0 = true := by decide +kernel
theorem w_running : about1.status = .running := rfl
set_option maxRecDepth 65536 in
theorem w_room : about1.hasRoom e0.platform room_1 = true :=
  launch0.hasRoom_least _ room_1 (by decide +kernel) (by decide +kernel) (by decide +kernel) (by decide +kernel) (by decide +kernel) (by decide +kernel)
theorem allAtoms_all (ts : List Jvm.Cond) (a : Array Jvm.Value) (st : Jvm.State) : (allAtoms ts).before a st = ts.all (fun c => c.before a st) := by
  induction ts with
  | nil => rfl
  | cons c t ih =>
    show (Jvm.Cond.and c (allAtoms t)).before a st = _
    rw [Jvm.Cond.before_and, ih, List.all_cons]
def words1 : List Jvm.Cond := Jvm.Cond.code x code maxLocals ret :: tables_1
/-- a 'code' word, met by the world's own term for the bytes: nothing is compared byte by byte -/
theorem code_word {y : MethodName} {bytes : ByteArray} {mx : Nat} {rt : Option FieldType} {a : Array Value} {s : State} {m : MethodId} {meth : Method} {c : Code} (h1 : s.methodNamed? y = some m) (h2 : s.vm.method? m = some meth) (h3 : meth.code = some c) (h4 : c.code = bytes)
    (h5 : (c.maxLocals == mx && c.exceptionTable.isEmpty && decide (c.maxStack ≤ mostOperands) && decide (meth.sig.returnType = rt) && !meth.locks && decide (parseMethodDescriptor y.desc = some meth.sig)) = true) : (Jvm.Cond.code y bytes mx rt).before a s = true := by
  simp only [Bool.and_eq_true, beq_iff_eq, Bool.not_eq_true', decide_eq_true_eq] at h5
  obtain ⟨⟨⟨⟨⟨g1, g2⟩, g3⟩, g4⟩, g5⟩, g6⟩ := h5
  simp [Cond.before, Cond.holds, Cond.value, h1, h2, h3, h4, g1, g2, g3, g4, g5, g6]
def isCode : Jvm.Cond → Bool
  | .code _ _ _ _ => true
  | _ => false
theorem all_split {L : List Jvm.Cond} {P : Jvm.Cond → Bool} (h1 : L.all (fun c => isCode c || P c) = true) (h2 : ∀ c ∈ L.filter isCode, P c = true) : L.all P = true := by
  refine List.all_eq_true.mpr fun c hc => ?_
  have h := List.all_eq_true.mp h1 c hc
  rcases Bool.eq_false_or_eq_true (isCode c) with hi | hi
  · exact h2 c (List.mem_filter.mpr ⟨hc, hi⟩)
  · simpa [hi] using h
set_option maxRecDepth 65536 in
theorem w_c0 : (Jvm.Cond.code x code maxLocals ret).before args0 about1 = true := code_word (m := ⟨1, 4⟩) (meth := k1m4) (c := k1c4) (by decide +kernel) rfl rfl rfl (by decide +kernel)
set_option maxRecDepth 65536 in
theorem w_c1 : (Jvm.Cond.code ({ cls := "com/example/heedful_rank/heedfulrank/history/ByteOrderPrefixKeyPinLaw", name := "ch", desc := "(JIII)C" } : Jvm.MethodName) method_2_code (6 : Nat) (Option.some Jvm.ClassFile.FieldType.char)).before args0 about1 = true := code_word (m := ⟨1, 1⟩) (meth := k1m1) (c := k1c1) (by decide +kernel) rfl rfl rfl (by decide +kernel)
set_option maxRecDepth 65536 in
theorem w_c2 : (Jvm.Cond.code ({ cls := "com/example/heedful_rank/heedfulrank/history/ByteOrderPrefixKeyPinLaw", name := "make", desc := "([CI)Ljava/lang/String;" } : Jvm.MethodName) method_4_code (2 : Nat) (Option.some (Jvm.ClassFile.FieldType.object "java/lang/String"))).before args0 about1 = true := code_word (m := ⟨1, 3⟩) (meth := k1m3) (c := k1c3) (by decide +kernel) rfl rfl rfl (by decide +kernel)
set_option maxRecDepth 65536 in
theorem w_c3 : (Jvm.Cond.code ({ cls := "java/lang/String", name := "<init>", desc := "([C)V" } : Jvm.MethodName) jdk_42_method_3_code (2 : Nat) (Option.none : Option Jvm.ClassFile.FieldType)).before args0 about1 = true := code_word (m := ⟨7, 1⟩) (meth := k7m1) (c := k7c1) (by decide +kernel) rfl rfl rfl (by decide +kernel)
set_option maxRecDepth 65536 in
theorem w_c4 : (Jvm.Cond.code ({ cls := "java/lang/String", name := "<init>", desc := "([CIILjava/lang/Void;)V" } : Jvm.MethodName) jdk_42_method_149_code (6 : Nat) (Option.none : Option Jvm.ClassFile.FieldType)).before args0 about1 = true := code_word (m := ⟨7, 4⟩) (meth := k7m4) (c := k7c4) (by decide +kernel) rfl rfl rfl (by decide +kernel)
set_option maxRecDepth 65536 in
theorem w_c5 : (Jvm.Cond.code ({ cls := "java/lang/Object", name := "<init>", desc := "()V" } : Jvm.MethodName) object_method_1_code (1 : Nat) (Option.none : Option Jvm.ClassFile.FieldType)).before args0 about1 = true := code_word (m := ⟨0, 0⟩) (meth := k0m0) (c := k0c0) (by decide +kernel) rfl rfl rfl (by decide +kernel)
set_option maxRecDepth 65536 in
theorem w_c6 : (Jvm.Cond.code ({ cls := "com/example/heedful_rank/heedfulrank/history/ByteOrderPrefixKeyPinLaw", name := "b", desc := "(ZC)J" } : Jvm.MethodName) method_3_code (2 : Nat) (Option.some Jvm.ClassFile.FieldType.long)).before args0 about1 = true := code_word (m := ⟨1, 2⟩) (meth := k1m2) (c := k1c2) (by decide +kernel) rfl rfl rfl (by decide +kernel)
set_option maxRecDepth 65536 in
theorem w_c7 : (Jvm.Cond.code ({ cls := "com/example/heedful_rank/heedfulrank/history/ByteOrder", name := "prefixKey", desc := "(Ljava/lang/String;)J" } : Jvm.MethodName) prog_9_method_3_code (6 : Nat) (Option.some Jvm.ClassFile.FieldType.long)).before args0 about1 = true := code_word (m := ⟨9, 1⟩) (meth := k9m1) (c := k9c1) (by decide +kernel) rfl rfl rfl (by decide +kernel)
set_option maxRecDepth 65536 in
theorem w_c8 : (Jvm.Cond.code ({ cls := "java/lang/String", name := "length", desc := "()I" } : Jvm.MethodName) jdk_42_method_54_code (1 : Nat) (Option.some Jvm.ClassFile.FieldType.int)).before args0 about1 = true := code_word (m := ⟨7, 2⟩) (meth := k7m2) (c := k7c2) (by decide +kernel) rfl rfl rfl (by decide +kernel)
set_option maxRecDepth 65536 in
theorem w_c9 : (Jvm.Cond.code ({ cls := "java/lang/String", name := "coder", desc := "()B" } : Jvm.MethodName) jdk_42_method_152_code (1 : Nat) (Option.some Jvm.ClassFile.FieldType.byte)).before args0 about1 = true := code_word (m := ⟨7, 5⟩) (meth := k7m5) (c := k7c5) (by decide +kernel) rfl rfl rfl (by decide +kernel)
set_option maxRecDepth 65536 in
theorem w_c10 : (Jvm.Cond.code ({ cls := "java/lang/StringUTF16", name := "compress", desc := "([CII)[B" } : Jvm.MethodName) jdk_52_method_16_code (6 : Nat) (Option.some (Jvm.ClassFile.FieldType.array Jvm.ClassFile.FieldType.byte))).before args0 about1 = true := code_word (m := ⟨10, 8⟩) (meth := k10m8) (c := k10c8) (by decide +kernel) rfl rfl rfl (by decide +kernel)
set_option maxRecDepth 65536 in
theorem w_c11 : (Jvm.Cond.code ({ cls := "java/lang/StringUTF16", name := "compress", desc := "([CI[BII)I" } : Jvm.MethodName) jdk_52_method_21_code (7 : Nat) (Option.some Jvm.ClassFile.FieldType.int)).before args0 about1 = true := code_word (m := ⟨10, 9⟩) (meth := k10m9) (c := k10c9) (by decide +kernel) rfl rfl rfl (by decide +kernel)
set_option maxRecDepth 65536 in
theorem w_c12 : (Jvm.Cond.code ({ cls := "java/lang/StringUTF16", name := "toBytes", desc := "([CII)[B" } : Jvm.MethodName) jdk_52_method_14_code (5 : Nat) (Option.some (Jvm.ClassFile.FieldType.array Jvm.ClassFile.FieldType.byte))).before args0 about1 = true := code_word (m := ⟨10, 6⟩) (meth := k10m6) (c := k10c6) (by decide +kernel) rfl rfl rfl (by decide +kernel)
set_option maxRecDepth 65536 in
theorem w_c13 : (Jvm.Cond.code ({ cls := "java/lang/StringUTF16", name := "newBytesFor", desc := "(I)[B" } : Jvm.MethodName) jdk_52_method_2_code (1 : Nat) (Option.some (Jvm.ClassFile.FieldType.array Jvm.ClassFile.FieldType.byte))).before args0 about1 = true := code_word (m := ⟨10, 1⟩) (meth := k10m1) (c := k10c1) (by decide +kernel) rfl rfl rfl (by decide +kernel)
set_option maxRecDepth 65536 in
theorem w_c14 : (Jvm.Cond.code ({ cls := "java/lang/StringUTF16", name := "newBytesLength", desc := "(I)I" } : Jvm.MethodName) jdk_52_method_3_code (1 : Nat) (Option.some Jvm.ClassFile.FieldType.int)).before args0 about1 = true := code_word (m := ⟨10, 2⟩) (meth := k10m2) (c := k10c2) (by decide +kernel) rfl rfl rfl (by decide +kernel)
set_option maxRecDepth 65536 in
theorem w_c15 : (Jvm.Cond.code ({ cls := "java/lang/StringUTF16", name := "putChar", desc := "([BII)V" } : Jvm.MethodName) jdk_52_method_4_code (3 : Nat) (Option.none : Option Jvm.ClassFile.FieldType)).before args0 about1 = true := code_word (m := ⟨10, 3⟩) (meth := k10m3) (c := k10c3) (by decide +kernel) rfl rfl rfl (by decide +kernel)
set_option maxRecDepth 65536 in
theorem w_c16 : (Jvm.Cond.code ({ cls := "java/lang/StringUTF16", name := "getChar", desc := "([BI)C" } : Jvm.MethodName) jdk_52_method_5_code (2 : Nat) (Option.some Jvm.ClassFile.FieldType.char)).before args0 about1 = true := code_word (m := ⟨10, 4⟩) (meth := k10m4) (c := k10c4) (by decide +kernel) rfl rfl rfl (by decide +kernel)
set_option maxRecDepth 65536 in
theorem w_c17 : (Jvm.Cond.code ({ cls := "java/lang/StringUTF16", name := "coderFromArrayLen", desc := "([BI)B" } : Jvm.MethodName) jdk_52_method_15_code (2 : Nat) (Option.some Jvm.ClassFile.FieldType.byte)).before args0 about1 = true := code_word (m := ⟨10, 7⟩) (meth := k10m7) (c := k10c7) (by decide +kernel) rfl rfl rfl (by decide +kernel)
set_option maxRecDepth 65536 in
theorem w_c18 : (Jvm.Cond.code ({ cls := "java/lang/String", name := "charAt", desc := "(I)C" } : Jvm.MethodName) jdk_42_method_56_code (2 : Nat) (Option.some Jvm.ClassFile.FieldType.char)).before args0 about1 = true := code_word (m := ⟨7, 3⟩) (meth := k7m3) (c := k7c3) (by decide +kernel) rfl rfl rfl (by decide +kernel)
set_option maxRecDepth 65536 in
theorem w_c19 : (Jvm.Cond.code ({ cls := "java/lang/String", name := "isLatin1", desc := "()Z" } : Jvm.MethodName) jdk_42_method_154_code (1 : Nat) (Option.some Jvm.ClassFile.FieldType.boolean)).before args0 about1 = true := code_word (m := ⟨7, 6⟩) (meth := k7m6) (c := k7c6) (by decide +kernel) rfl rfl rfl (by decide +kernel)
set_option maxRecDepth 65536 in
theorem w_c20 : (Jvm.Cond.code ({ cls := "java/lang/StringUTF16", name := "charAt", desc := "([BI)C" } : Jvm.MethodName) jdk_52_method_83_code (2 : Nat) (Option.some Jvm.ClassFile.FieldType.char)).before args0 about1 = true := code_word (m := ⟨10, 10⟩) (meth := k10m10) (c := k10c10) (by decide +kernel) rfl rfl rfl (by decide +kernel)
set_option maxRecDepth 65536 in
theorem w_c21 : (Jvm.Cond.code ({ cls := "java/lang/StringUTF16", name := "checkIndex", desc := "(I[B)V" } : Jvm.MethodName) jdk_52_method_91_code (2 : Nat) (Option.none : Option Jvm.ClassFile.FieldType)).before args0 about1 = true := code_word (m := ⟨10, 11⟩) (meth := k10m11) (c := k10c11) (by decide +kernel) rfl rfl rfl (by decide +kernel)
set_option maxRecDepth 65536 in
theorem w_c22 : (Jvm.Cond.code ({ cls := "java/lang/StringUTF16", name := "length", desc := "([B)I" } : Jvm.MethodName) jdk_52_method_6_code (1 : Nat) (Option.some Jvm.ClassFile.FieldType.int)).before args0 about1 = true := code_word (m := ⟨10, 5⟩) (meth := k10m5) (c := k10c5) (by decide +kernel) rfl rfl rfl (by decide +kernel)
set_option maxRecDepth 65536 in
theorem w_c23 : (Jvm.Cond.code ({ cls := "java/lang/String", name := "checkIndex", desc := "(II)V" } : Jvm.MethodName) jdk_42_method_155_code (2 : Nat) (Option.none : Option Jvm.ClassFile.FieldType)).before args0 about1 = true := code_word (m := ⟨7, 7⟩) (meth := k7m7) (c := k7c7) (by decide +kernel) rfl rfl rfl (by decide +kernel)
set_option maxRecDepth 65536 in
theorem w_c24 : (Jvm.Cond.code ({ cls := "jdk/internal/util/Preconditions", name := "checkIndex", desc := "(IILjava/util/function/BiFunction;)I" } : Jvm.MethodName) jdk_41_method_11_code (3 : Nat) (Option.some Jvm.ClassFile.FieldType.int)).before args0 about1 = true := code_word (m := ⟨11, 1⟩) (meth := k11m1) (c := k11c1) (by decide +kernel) rfl rfl rfl (by decide +kernel)
set_option maxRecDepth 65536 in
theorem w_c25 : (Jvm.Cond.code ({ cls := "java/lang/StringLatin1", name := "charAt", desc := "([BI)C" } : Jvm.MethodName) jdk_43_method_2_code (2 : Nat) (Option.some Jvm.ClassFile.FieldType.char)).before args0 about1 = true := code_word (m := ⟨12, 1⟩) (meth := k12m1) (c := k12c1) (by decide +kernel) rfl rfl rfl (by decide +kernel)
def codes1 : List Jvm.Cond := [Jvm.Cond.code x code maxLocals ret, Jvm.Cond.code ({ cls := "com/example/heedful_rank/heedfulrank/history/ByteOrderPrefixKeyPinLaw", name := "ch", desc := "(JIII)C" } : Jvm.MethodName) method_2_code (6 : Nat) (Option.some Jvm.ClassFile.FieldType.char), Jvm.Cond.code ({ cls := "com/example/heedful_rank/heedfulrank/history/ByteOrderPrefixKeyPinLaw", name := "make", desc := "([CI)Ljava/lang/String;" } : Jvm.MethodName) method_4_code (2 : Nat) (Option.some (Jvm.ClassFile.FieldType.object "java/lang/String")), Jvm.Cond.code ({ cls := "java/lang/String", name := "<init>", desc := "([C)V" } : Jvm.MethodName) jdk_42_method_3_code (2 : Nat) (Option.none : Option Jvm.ClassFile.FieldType), Jvm.Cond.code ({ cls := "java/lang/String", name := "<init>", desc := "([CIILjava/lang/Void;)V" } : Jvm.MethodName) jdk_42_method_149_code (6 : Nat) (Option.none : Option Jvm.ClassFile.FieldType), Jvm.Cond.code ({ cls := "java/lang/Object", name := "<init>", desc := "()V" } : Jvm.MethodName) object_method_1_code (1 : Nat) (Option.none : Option Jvm.ClassFile.FieldType), Jvm.Cond.code ({ cls := "com/example/heedful_rank/heedfulrank/history/ByteOrderPrefixKeyPinLaw", name := "b", desc := "(ZC)J" } : Jvm.MethodName) method_3_code (2 : Nat) (Option.some Jvm.ClassFile.FieldType.long), Jvm.Cond.code ({ cls := "com/example/heedful_rank/heedfulrank/history/ByteOrder", name := "prefixKey", desc := "(Ljava/lang/String;)J" } : Jvm.MethodName) prog_9_method_3_code (6 : Nat) (Option.some Jvm.ClassFile.FieldType.long), Jvm.Cond.code ({ cls := "java/lang/String", name := "length", desc := "()I" } : Jvm.MethodName) jdk_42_method_54_code (1 : Nat) (Option.some Jvm.ClassFile.FieldType.int), Jvm.Cond.code ({ cls := "java/lang/String", name := "coder", desc := "()B" } : Jvm.MethodName) jdk_42_method_152_code (1 : Nat) (Option.some Jvm.ClassFile.FieldType.byte), Jvm.Cond.code ({ cls := "java/lang/StringUTF16", name := "compress", desc := "([CII)[B" } : Jvm.MethodName) jdk_52_method_16_code (6 : Nat) (Option.some (Jvm.ClassFile.FieldType.array Jvm.ClassFile.FieldType.byte)), Jvm.Cond.code ({ cls := "java/lang/StringUTF16", name := "compress", desc := "([CI[BII)I" } : Jvm.MethodName) jdk_52_method_21_code (7 : Nat) (Option.some Jvm.ClassFile.FieldType.int), Jvm.Cond.code ({ cls := "java/lang/StringUTF16", name := "toBytes", desc := "([CII)[B" } : Jvm.MethodName) jdk_52_method_14_code (5 : Nat) (Option.some (Jvm.ClassFile.FieldType.array Jvm.ClassFile.FieldType.byte)), Jvm.Cond.code ({ cls := "java/lang/StringUTF16", name := "newBytesFor", desc := "(I)[B" } : Jvm.MethodName) jdk_52_method_2_code (1 : Nat) (Option.some (Jvm.ClassFile.FieldType.array Jvm.ClassFile.FieldType.byte)), Jvm.Cond.code ({ cls := "java/lang/StringUTF16", name := "newBytesLength", desc := "(I)I" } : Jvm.MethodName) jdk_52_method_3_code (1 : Nat) (Option.some Jvm.ClassFile.FieldType.int), Jvm.Cond.code ({ cls := "java/lang/StringUTF16", name := "putChar", desc := "([BII)V" } : Jvm.MethodName) jdk_52_method_4_code (3 : Nat) (Option.none : Option Jvm.ClassFile.FieldType), Jvm.Cond.code ({ cls := "java/lang/StringUTF16", name := "getChar", desc := "([BI)C" } : Jvm.MethodName) jdk_52_method_5_code (2 : Nat) (Option.some Jvm.ClassFile.FieldType.char), Jvm.Cond.code ({ cls := "java/lang/StringUTF16", name := "coderFromArrayLen", desc := "([BI)B" } : Jvm.MethodName) jdk_52_method_15_code (2 : Nat) (Option.some Jvm.ClassFile.FieldType.byte), Jvm.Cond.code ({ cls := "java/lang/String", name := "charAt", desc := "(I)C" } : Jvm.MethodName) jdk_42_method_56_code (2 : Nat) (Option.some Jvm.ClassFile.FieldType.char), Jvm.Cond.code ({ cls := "java/lang/String", name := "isLatin1", desc := "()Z" } : Jvm.MethodName) jdk_42_method_154_code (1 : Nat) (Option.some Jvm.ClassFile.FieldType.boolean), Jvm.Cond.code ({ cls := "java/lang/StringUTF16", name := "charAt", desc := "([BI)C" } : Jvm.MethodName) jdk_52_method_83_code (2 : Nat) (Option.some Jvm.ClassFile.FieldType.char), Jvm.Cond.code ({ cls := "java/lang/StringUTF16", name := "checkIndex", desc := "(I[B)V" } : Jvm.MethodName) jdk_52_method_91_code (2 : Nat) (Option.none : Option Jvm.ClassFile.FieldType), Jvm.Cond.code ({ cls := "java/lang/StringUTF16", name := "length", desc := "([B)I" } : Jvm.MethodName) jdk_52_method_6_code (1 : Nat) (Option.some Jvm.ClassFile.FieldType.int), Jvm.Cond.code ({ cls := "java/lang/String", name := "checkIndex", desc := "(II)V" } : Jvm.MethodName) jdk_42_method_155_code (2 : Nat) (Option.none : Option Jvm.ClassFile.FieldType), Jvm.Cond.code ({ cls := "jdk/internal/util/Preconditions", name := "checkIndex", desc := "(IILjava/util/function/BiFunction;)I" } : Jvm.MethodName) jdk_41_method_11_code (3 : Nat) (Option.some Jvm.ClassFile.FieldType.int), Jvm.Cond.code ({ cls := "java/lang/StringLatin1", name := "charAt", desc := "([BI)C" } : Jvm.MethodName) jdk_43_method_2_code (2 : Nat) (Option.some Jvm.ClassFile.FieldType.char)]
set_option maxRecDepth 65536 in
theorem codes_eq : words1.filter isCode = codes1 := rfl
theorem w_codes : ∀ c ∈ words1.filter isCode, c.before args0 about1 = true := by
  rw [codes_eq]
  intro c hc
  simp only [codes1, List.mem_cons, List.not_mem_nil, or_false] at hc
  rcases hc with rfl | rfl | rfl | rfl | rfl | rfl | rfl | rfl | rfl | rfl | rfl | rfl | rfl | rfl | rfl | rfl | rfl | rfl | rfl | rfl | rfl | rfl | rfl | rfl | rfl | rfl
  · exact w_c0
  · exact w_c1
  · exact w_c2
  · exact w_c3
  · exact w_c4
  · exact w_c5
  · exact w_c6
  · exact w_c7
  · exact w_c8
  · exact w_c9
  · exact w_c10
  · exact w_c11
  · exact w_c12
  · exact w_c13
  · exact w_c14
  · exact w_c15
  · exact w_c16
  · exact w_c17
  · exact w_c18
  · exact w_c19
  · exact w_c20
  · exact w_c21
  · exact w_c22
  · exact w_c23
  · exact w_c24
  · exact w_c25
set_option maxRecDepth 65536 in
theorem w_t1 : (words1.take 24).all (fun c => isCode c || c.before args0 about1) = true := by decide +kernel
set_option maxRecDepth 65536 in
theorem w_t2 : ((words1.drop 24).take 24).all (fun c => isCode c || c.before args0 about1) = true := by decide +kernel
set_option maxRecDepth 65536 in
theorem w_t3 : (((words1.drop 24).drop 24).take 24).all (fun c => isCode c || c.before args0 about1) = true := by decide +kernel
set_option maxRecDepth 65536 in
theorem w_t4 : ((((words1.drop 24).drop 24).drop 24).take 24).all (fun c => isCode c || c.before args0 about1) = true := by decide +kernel
set_option maxRecDepth 65536 in
theorem w_t5 : ((((words1.drop 24).drop 24).drop 24).drop 24).all (fun c => isCode c || c.before args0 about1) = true := by decide +kernel
theorem w_tables : (allAtoms (Jvm.Cond.code x code maxLocals ret :: tables_1)).before args0 about1 = true := by
  rw [allAtoms_all]
  show words1.all (fun c => c.before args0 about1) = true
  refine all_split ?_ w_codes
  rw [← List.take_append_drop 24 words1, List.all_append, w_t1, ← List.take_append_drop 24 (words1.drop 24), List.all_append, w_t2, ← List.take_append_drop 24 ((words1.drop 24).drop 24), List.all_append, w_t3, ← List.take_append_drop 24 (((words1.drop 24).drop 24).drop 24), List.all_append, w_t4, w_t5]
  rfl
set_option maxRecDepth 65536 in
theorem w_rest : rest_1_c.before args0 about1 = true := by decide +kernel
set_option maxRecDepth 65536 in
theorem w_case : (Jvm.Cond.and given_1 narrow_1).before args0 about1 = true := by decide +kernel
set_option maxRecDepth 65536 in
theorem w_consts : constsHeld consts_1 about1 := Jvm.Lit.constsHeldB_iff.mp (by decide +kernel)
theorem w_applies : (headSpec (Jvm.Cond.code x code maxLocals ret :: tables_1) room_1).applies x e0.platform about1 = true :=
  (Spec.applies_iff w_frames).mpr ⟨w_running, w_runnable, w_alone, w_named, w_hears, w_ripe, w_room, w_tables⟩
theorem atStart : AtStart classFile x code maxLocals ret World_1 tables_1 room_1 Calls_1 rest_1 Pre_1 launch0 p0 e0 about1 theMethod args0 below0 :=
  ⟨lists_1, trivial, launch0.admits_env _ _ _, launch0.least_env, fairChoices_fair.cas, fairChoices_fair.clock, w_frames, w_args, w_heap, w_applies, ⟨w_consts, trivial⟩, w_rest, w_case⟩
end start1
theorem witness_1 : WitnessClaimed_1 := ⟨start1.p0, start1.e0, start1.about1, start1.theMethod, start1.args0, start1.below0, start1.atStart⟩
end Jvm.Pilot.@@N@@
