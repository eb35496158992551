import JvmDerived
import JvmDerived.Pilot.@@N@@Statement
import JvmDerived.Pilot.@@N@@Code
set_option linter.unusedVariables false
set_option linter.unusedSimpArgs false
namespace Jvm.RoadKit
open Sem ClassFile Op Lib Jvm.Stand Jvm.Free Jvm.LawKit
section Own
variable {p : Program} {l : Launch} {e : Env} {R : Room} {s : State} {m : MethodId} {args : Array Value} {below : List Frame} {meth : Method} {c : Code} {T : State} {locs : List Loc} {cells slots : Nat} {Z : State} {h h' : Heap} {a b : Addr}
/-- from the state U the method runs to its end, and what it leaves is as G says -/
def own_Go (p : Program) (e : Env) (below : List Frame) (G : Outcome → State → Prop) (U : State) : Prop := ∃ s₂ o, Steps p.tables e below U s₂ ∧ s₂.status = .running ∧ Ended s₂ below o ∧ G o s₂
def own_G (s : State) (Q : Option Value → Heap → List Loc → Prop) (C N : Nat) : Outcome → State → Prop := fun o U' => ∃ v L, o = .returned v ∧ Q v U'.heap L ∧ FrameEnd s o U' L C N
theorem own_st {G : Outcome → State → Prop} {U V : State} (hs : ∀ t, Steps p.tables e below V t → Steps p.tables e below U t) (k : own_Go p e below G V) : own_Go p e below G U := by
  obtain ⟨s₂, o, h1, h2⟩ := k
  exact ⟨s₂, o, hs _ h1, h2⟩
theorem own_retI (X : Stand p l e R s m args below meth c T locs cells slots) (hx : p.tables.exec = Jvm.exec) (hlocks : meth.locks = false) {pc : Nat} {Ls : Array Slot} {z : Int32} {rest : List Value} (hret : meth.sig.returnType = some .int) (hd : decode c.code pc = .ok (.ireturn, 1)) {Q : Option Value → Heap → List Loc → Prop} {C N : Nat}
    (hQ : Q (some (.int z)) T.heap locs) (hC : cells ≤ C) (hN : slots ≤ N) : own_Go p e below (own_G s Q C N) (T.setTop (mkF m pc Ls (.int z :: rest))) := by
  obtain ⟨fs, hr, hrun, hended, hW, hsame⟩ := X.leave (v := some (.int z)) (fun h => by rw [hret] at h; cases h)
  refine ⟨_, _, ?_, hrun, hended, _, _, rfl, hQ, ⟨_, rfl⟩, hW, hsame.mono hC hN⟩
  have hm' : T.vm.method? m = some meth := X.method'
  have hn : narrow .int (.int z) = .int z := rfl
  show Steps p.tables e below (T.setTop { method := m, pc := pc, locals := Ls, stack := _ :: rest, locked := none }) _
  jvm_step X.here [X.here.top, hx, hd, hm', hret, hn]
  first | (intro acts; rw [hr _ acts rfl rfl rfl]) | rw [hr _ _ rfl rfl rfl]
  exact Steps.refl _
theorem own_retN (X : Stand p l e R s m args below meth c T locs cells slots) (hx : p.tables.exec = Jvm.exec) (hlocks : meth.locks = false) {pc : Nat} {Ls : Array Slot} {z z' : Int32} {t : FieldType} {rest : List Value} (hret : meth.sig.returnType = some t) (ht : t = .boolean ∨ t = .byte ∨ t = .char ∨ t = .short) (hz : nar t z = z') (hd : decode c.code pc = .ok (.ireturn, 1)) {Q : Option Value → Heap → List Loc → Prop} {C N : Nat}
    (hQ : Q (some (.int z')) T.heap locs) (hC : cells ≤ C) (hN : slots ≤ N) : own_Go p e below (own_G s Q C N) (T.setTop (mkF m pc Ls (.int z :: rest))) := by
  subst hz
  obtain ⟨fs, hr, hrun, hended, hW, hsame⟩ := X.leave (v := some (.int (nar t z))) (fun h => by rw [hret] at h; cases h)
  exact ⟨_, _, retN X hx hret ht hd hr, hrun, hended, _, _, rfl, hQ, ⟨_, rfl⟩, hW, hsame.mono hC hN⟩
theorem own_retJ (X : Stand p l e R s m args below meth c T locs cells slots) (hx : p.tables.exec = Jvm.exec) (hlocks : meth.locks = false) {pc : Nat} {Ls : Array Slot} {z : Int64} (hret : meth.sig.returnType = some .long) (hd : decode c.code pc = .ok (.lreturn, 1)) {Q : Option Value → Heap → List Loc → Prop} {C N : Nat}
    (hQ : Q (some (.long z)) T.heap locs) (hC : cells ≤ C) (hN : slots ≤ N) : own_Go p e below (own_G s Q C N) (T.setTop (mkF m pc Ls [.long z])) := by
  obtain ⟨fs, hr, hrun, hended, hW, hsame⟩ := X.leave (v := some (.long z)) (fun h => by rw [hret] at h; cases h)
  exact ⟨_, _, X.lreturnOut hx hret hd hr, hrun, hended, _, _, rfl, hQ, ⟨_, rfl⟩, hW, hsame.mono hC hN⟩
theorem own_ret0 (X : Stand p l e R s m args below meth c T locs cells slots) (hx : p.tables.exec = Jvm.exec) (hlocks : meth.locks = false) {pc : Nat} {Ls : Array Slot} (hret : meth.sig.returnType = none) (hd : decode c.code pc = .ok (.return_, 1)) {Q : Option Value → Heap → List Loc → Prop} {C N : Nat}
    (hQ : Q none T.heap locs) (hC : cells ≤ C) (hN : slots ≤ N) : own_Go p e below (own_G s Q C N) (T.setTop (mkF m pc Ls [])) := by
  obtain ⟨fs, hr, hrun, hended, hW, hsame⟩ := X.leave (v := none) (fun _ => rfl)
  exact ⟨_, _, X.returnOut hx hret hd hr, hrun, hended, _, _, rfl, hQ, ⟨_, rfl⟩, hW, hsame.mono hC hN⟩
theorem own_z0 {i j : Nat} (q : i = 0) : i ≤ j := q ▸ Nat.zero_le j
/-! arrays of ints (or bytes), of longs: their length and their elements by a plain function -/
def own_Ai (Z : State) (h : Heap) (a : Addr) (ty : FieldType) (n : Nat) (f : Nat → Int32) : Prop := ∃ c : Cell, Arr Z h a c ty ∧ c.slots.size = n ∧ ∀ i, i < n → c.slots[i]? = some (.int (f i))
def own_Aj (Z : State) (h : Heap) (a : Addr) (ty : FieldType) (n : Nat) (f : Nat → Int64) : Prop := ∃ c : Cell, Arr Z h a c ty ∧ c.slots.size = n ∧ ∀ i, i < n → c.slots[i]? = some (.long (f i))
def own_up (f : Nat → Int32) (k : Nat) (x : Int32) : Nat → Int32 := fun i => if i = k then x else f i
def own_upJ (f : Nat → Int64) (k : Nat) (x : Int64) : Nat → Int64 := fun i => if i = k then x else f i
theorem own_up_at (f : Nat → Int32) (k : Nat) (x : Int32) (i : Nat) : own_up f k x i = if i = k then x else f i := rfl
theorem own_upJ_at (f : Nat → Int64) (k : Nat) (x : Int64) (i : Nat) : own_upJ f k x i = if i = k then x else f i := rfl
variable {ty : FieldType} {n : Nat} {f : Nat → Int32} {fj : Nat → Int64} {ws : List Addr} {sl : Nat} {v : Value}
theorem own_Ai.lt (F : own_Ai Z h a ty n f) : a < h.size := by obtain ⟨c, A, -⟩ := F; exact A.lt
theorem own_Aj.lt (F : own_Aj Z h a ty n fj) : a < h.size := by obtain ⟨c, A, -⟩ := F; exact A.lt
theorem own_Ai.ext (F : own_Ai Z h a ty n f) (E : Ext h h') : own_Ai Z h' a ty n f := by obtain ⟨c, A, r⟩ := F; exact ⟨c, A.ext E, r⟩
theorem own_Aj.ext (F : own_Aj Z h a ty n fj) (E : Ext h h') : own_Aj Z h' a ty n fj := by obtain ⟨c, A, r⟩ := F; exact ⟨c, A.ext E, r⟩
theorem own_Ai.other (F : own_Ai Z h b ty n f) (W : Wr h h' a sl v) (q : b ≠ a) : own_Ai Z h' b ty n f := by obtain ⟨c, A, r⟩ := F; exact ⟨c, A.other W q, r⟩
theorem own_Aj.other (F : own_Aj Z h b ty n fj) (W : Wr h h' a sl v) (q : b ≠ a) : own_Aj Z h' b ty n fj := by obtain ⟨c, A, r⟩ := F; exact ⟨c, A.other W q, r⟩
theorem own_Ai.keep (F : own_Ai Z h a ty n f) (K : Keep h h' ws) (q : a ∉ ws) : own_Ai Z h' a ty n f := by obtain ⟨c, A, r⟩ := F; exact ⟨c, ⟨K.2.1 a c A.1 q, A.2⟩, r⟩
theorem own_Aj.keep (F : own_Aj Z h a ty n fj) (K : Keep h h' ws) (q : a ∉ ws) : own_Aj Z h' a ty n fj := by obtain ⟨c, A, r⟩ := F; exact ⟨c, ⟨K.2.1 a c A.1 q, A.2⟩, r⟩
theorem own_Ai.neq {a0 : Array Value} {k : Nat} {C : String} (F : own_Ai Z h b ty n f) (E : Exa Z h a C) (wi : (Cond.instantiable C k).before a0 Z = true) : a ≠ b := by obtain ⟨c, A, -⟩ := F; exact ne_arr E wi A
theorem own_Aj.neq {a0 : Array Value} {k : Nat} {C : String} (F : own_Aj Z h b ty n fj) (E : Exa Z h a C) (wi : (Cond.instantiable C k).before a0 Z = true) : a ≠ b := by obtain ⟨c, A, -⟩ := F; exact ne_arr E wi A
theorem own_nat {j : Int32} {k : Nat} (hj : j.toInt = k) : j.toNatClampNeg = k := by simp only [Int32.toNatClampNeg, hj]; rfl
theorem own_in {j : Int32} {k n : Nat} (hj : j.toInt = k) (hk : k < n) : ¬ (j < 0 ∨ n ≤ j.toNatClampNeg) := by
  rw [own_nat hj, Int32.lt_iff_toInt_lt, hj, show (0 : Int32).toInt = 0 from rfl]; omega
theorem own_len {z : Int32} (hz : z.toInt = n) : n.toInt32 = z := by
  have := Int32.toInt_lt z
  exact Int32.toInt_inj.mp (by rw [Int32.toInt_ofNat_small (by omega), hz])
theorem own_iaload (X : Stand p l e R s m args below meth c T locs cells slots) (hx : p.tables.exec = Jvm.exec) (hZ : Z.Warmed39 s.vm) (eT : T.heap = h) (A : own_Ai Z h a .int n f) {j : Int32} {k : Nat} (hj : j.toInt = k) (hk : k < n) {g : JFrame} (hg : g.method = m) {rest : List Value} (hs : g.stack = .int j :: .ref a :: rest) (hd : decode c.code g.pc = .ok (.iaload, 1)) {target : State}
    (hr : Steps p.tables e below (T.setTop { g with pc := g.pc + 1, stack := .int (f k) :: rest }) target) : Steps p.tables e below (T.setTop g) target := by
  obtain ⟨cl, A, S, H⟩ := A
  exact X.iaload hx (j := j) (v := .int (f k)) (by rw [eT]; exact A.1) (State.isArrayOf_alike hZ.alike A.2.1) A.2.2 (by rw [S]; exact own_in hj hk) (by rw [own_nat hj]; exact H k hk) hg hs hd _ hr
theorem own_baload (X : Stand p l e R s m args below meth c T locs cells slots) (hx : p.tables.exec = Jvm.exec) (hZ : Z.Warmed39 s.vm) (eT : T.heap = h) (A : own_Ai Z h a .byte n f) {j : Int32} {k : Nat} (hj : j.toInt = k) (hk : k < n) {g : JFrame} (hg : g.method = m) {rest : List Value} (hs : g.stack = .int j :: .ref a :: rest) (hd : decode c.code g.pc = .ok (.baload, 1)) {target : State}
    (hr : Steps p.tables e below (T.setTop { g with pc := g.pc + 1, stack := .int (f k) :: rest }) target) : Steps p.tables e below (T.setTop g) target := by
  obtain ⟨cl, A, S, H⟩ := A
  exact X.baloadBytes hx (j := j) (v := .int (f k)) (by rw [eT]; exact A.1) (State.isArrayOf_alike hZ.alike A.2.1) A.2.2 (by rw [S]; exact own_in hj hk) (by rw [own_nat hj]; exact H k hk) hg hs hd _ hr
theorem own_laload (X : Stand p l e R s m args below meth c T locs cells slots) (hx : p.tables.exec = Jvm.exec) (hZ : Z.Warmed39 s.vm) (eT : T.heap = h) (A : own_Aj Z h a .long n fj) {j : Int32} {k : Nat} (hj : j.toInt = k) (hk : k < n) {g : JFrame} (hg : g.method = m) {rest : List Value} (hs : g.stack = .int j :: .ref a :: rest) (hd : decode c.code g.pc = .ok (.laload, 1)) {target : State}
    (hr : Steps p.tables e below (T.setTop { g with pc := g.pc + 1, stack := .long (fj k) :: rest }) target) : Steps p.tables e below (T.setTop g) target := by
  obtain ⟨cl, A, S, H⟩ := A
  exact X.laload hx (j := j) (v := .long (fj k)) (by rw [eT]; exact A.1) (State.isArrayOf_alike hZ.alike A.2.1) A.2.2 (by rw [S]; exact own_in hj hk) (by rw [own_nat hj]; exact H k hk) hg hs hd _ hr
theorem own_alen (X : Stand p l e R s m args below meth c T locs cells slots) (hx : p.tables.exec = Jvm.exec) (hZ : Z.Warmed39 s.vm) (eT : T.heap = h) (A : own_Ai Z h a ty n f) {z : Int32} (hz : z.toInt = n) {g : JFrame} (hg : g.method = m) {rest : List Value} (hs : g.stack = .ref a :: rest) (hd : decode c.code g.pc = .ok (.arraylength, 1)) {target : State}
    (hr : Steps p.tables e below (T.setTop { g with pc := g.pc + 1, stack := .int z :: rest }) target) : Steps p.tables e below (T.setTop g) target := by
  obtain ⟨cl, A, S, H⟩ := A
  refine X.arraylength hx (by rw [eT]; exact A.1) (State.isArrayOf_alike hZ.alike A.2.1) hg hs hd _ ?_
  rw [S, own_len hz]; exact hr
theorem own_Ai.set (F : own_Ai Z h a ty n f) {j : Nat} {x : Int32} (W : Wr h h' a j (.int x)) : own_Ai Z h' a ty n (own_up f j x) := by
  obtain ⟨cl, A, S, H⟩ := F
  refine ⟨_, A.same W, by rw [sz_set]; exact S, fun i hi => ?_⟩
  rw [own_up_at]
  by_cases q : i = j
  · subst q
    rw [if_pos rfl]
    simp [Cell.setSlot, S, hi]
  · rw [if_neg q, show (cl.setSlot j (.int x)).slots[i]? = cl.slots[i]? from Array.getElem?_setIfInBounds_ne (Ne.symm q)]
    exact H i hi
theorem own_Aj.set (F : own_Aj Z h a ty n fj) {j : Nat} {x : Int64} (W : Wr h h' a j (.long x)) : own_Aj Z h' a ty n (own_upJ fj j x) := by
  obtain ⟨cl, A, S, H⟩ := F
  refine ⟨_, A.same W, by rw [sz_set]; exact S, fun i hi => ?_⟩
  rw [own_upJ_at]
  by_cases q : i = j
  · subst q
    rw [if_pos rfl]
    simp [Cell.setSlot, S, hi]
  · rw [if_neg q, show (cl.setSlot j (.long x)).slots[i]? = cl.slots[i]? from Array.getElem?_setIfInBounds_ne (Ne.symm q)]
    exact H i hi
theorem own_iastore (X : Stand p l e R s m args below meth c T locs cells slots) (hx : p.tables.exec = Jvm.exec) (hZ : Z.Warmed39 s.vm) (eT : T.heap = h) (A : own_Ai Z h a .int n f) {j x : Int32} {k : Nat} (hj : j.toInt = k) (hk : k < n) {g : JFrame} (hg : g.method = m) {rest : List Value} (hs : g.stack = .int x :: .int j :: .ref a :: rest) (hd : decode c.code g.pc = .ok (.iastore, 1)) :
    ∃ T' h', Stand p l e R s m args below meth c T' (locs ++ [⟨a, k⟩]) cells slots ∧ T'.heap = h' ∧ Wr h h' a k (.int x) ∧ own_Ai Z h' a .int n (own_up f k x) ∧ ∀ target, Steps p.tables e below (T'.setTop { g with pc := g.pc + 1, stack := rest }) target → Steps p.tables e below (T.setTop g) target := by
  obtain ⟨cl, B, S, H⟩ := id A
  obtain ⟨T', h', X', e', W, st⟩ := stI X hx hZ eT B (j := j) (x := x) (by rw [S]; exact own_in hj hk) hg hs hd
  rw [own_nat hj] at X' W
  exact ⟨T', h', X', e', W, A.set W, st⟩
theorem own_bastore (X : Stand p l e R s m args below meth c T locs cells slots) (hx : p.tables.exec = Jvm.exec) (hZ : Z.Warmed39 s.vm) (eT : T.heap = h) (A : own_Ai Z h a .byte n f) {j x : Int32} {k : Nat} (hj : j.toInt = k) (hk : k < n) {g : JFrame} (hg : g.method = m) {rest : List Value} (hs : g.stack = .int x :: .int j :: .ref a :: rest) (hd : decode c.code g.pc = .ok (.bastore, 1)) :
    ∃ T' h', Stand p l e R s m args below meth c T' (locs ++ [⟨a, k⟩]) cells slots ∧ T'.heap = h' ∧ Wr h h' a k (.int x.toInt8.toInt32) ∧ own_Ai Z h' a .byte n (own_up f k x.toInt8.toInt32) ∧ ∀ target, Steps p.tables e below (T'.setTop { g with pc := g.pc + 1, stack := rest }) target → Steps p.tables e below (T.setTop g) target := by
  obtain ⟨cl, B, S, H⟩ := id A
  obtain ⟨T', h', X', e', W, st⟩ := stB X hx hZ eT B (j := j) (x := x) (by rw [S]; exact own_in hj hk) hg hs hd
  rw [own_nat hj] at X' W
  exact ⟨T', h', X', e', W, A.set W, st⟩
theorem own_lastore (X : Stand p l e R s m args below meth c T locs cells slots) (hx : p.tables.exec = Jvm.exec) (hZ : Z.Warmed39 s.vm) (eT : T.heap = h) (A : own_Aj Z h a .long n fj) {j : Int32} {x : Int64} {k : Nat} (hj : j.toInt = k) (hk : k < n) {g : JFrame} (hg : g.method = m) {rest : List Value} (hs : g.stack = .long x :: .int j :: .ref a :: rest) (hd : decode c.code g.pc = .ok (.lastore, 1)) :
    ∃ T' h', Stand p l e R s m args below meth c T' (locs ++ [⟨a, k⟩]) cells slots ∧ T'.heap = h' ∧ Wr h h' a k (.long x) ∧ own_Aj Z h' a .long n (own_upJ fj k x) ∧ ∀ target, Steps p.tables e below (T'.setTop { g with pc := g.pc + 1, stack := rest }) target → Steps p.tables e below (T.setTop g) target := by
  obtain ⟨cl, B, S, H⟩ := id A
  obtain ⟨T', h', X', e', W, st⟩ := stJ X hx hZ eT B (j := j) (x := x) (by rw [S]; exact own_in hj hk) hg hs hd
  rw [own_nat hj] at X' W
  exact ⟨T', h', X', e', W, A.set W, st⟩
theorem own_newarr (X : Stand p l e R s m args below meth c T locs cells slots) (hx : p.tables.exec = Jvm.exec) (hZ : Z.Warmed39 s.vm) {a0 : Array Value} {aty : ArrayType} (w : (Cond.arrayClass (newarray.typeOf aty)).before a0 Z = true) (eT : T.heap = h) {g : JFrame} (hg : g.method = m) (hd : decode c.code g.pc = .ok (.newarray aty, 2)) {z : Int32} {rest : List Value} (hs : g.stack = .int z :: rest) {k : Nat}
    (hz : z.toInt = k) {cap : Nat} (hcap : k ≤ cap) (hb : cap * 8 ≤ 536870912) (hc : cells + 1 ≤ R.cells) (hl : slots + cap ≤ R.slots) :
    ∃ T' h' cl, Stand p l e R s m args below meth c T' locs (cells + 1) (slots + cap) ∧ T'.heap = h' ∧ Ext h h' ∧ (Arr Z h' h.size cl (newarray.typeOf aty) ∧ cl.slots = Array.replicate k (defaultValue (newarray.typeOf aty))) ∧
      ∀ target, Steps p.tables e below (T'.setTop { g with pc := g.pc + 2, stack := .ref h.size :: rest }) target → Steps p.tables e below (T.setTop g) target := by
  have hn : ¬ z < 0 := by rw [Int32.lt_iff_toInt_lt, hz, show (0 : Int32).toInt = 0 from rfl]; omega
  obtain ⟨T', h', cA, X', e', E, A, st⟩ := newP X hx hZ w eT hg hd hs hn (by rw [own_nat hz]; exact hcap) hb hc hl
  exact ⟨T', h', _, X', e', E, ⟨A, by simp [newA, own_nat hz]⟩, st⟩
theorem own_Ai.new {cl : Cell} {k : Nat} (A : Arr Z h a cl ty ∧ cl.slots = Array.replicate k (.int 0)) : own_Ai Z h a ty k (fun _ => 0) :=
  ⟨cl, A.1, by rw [A.2]; simp, fun i hi => by rw [A.2]; simp [hi]⟩
theorem own_Aj.new {cl : Cell} {k : Nat} (A : Arr Z h a cl ty ∧ cl.slots = Array.replicate k (.long 0)) : own_Aj Z h a ty k (fun _ => 0) :=
  ⟨cl, A.1, by rw [A.2]; simp, fun i hi => by rw [A.2]; simp [hi]⟩
theorem own_l_lt (x y : Int64) {b : Bool} (h : if_icmp.holds .lt (lcmpW x y) 0 = b) : ifCond.holds .lt (lcmpW x y) = b := (if0 _ _).trans h
end Own
end Jvm.RoadKit
namespace Jvm.Pilot.@@N@@
open Jvm Jvm.ClassFile Sem Op Lib Jvm.Free Jvm.Stand Jvm.LawKit Jvm.RoadKit Bundle Jvm.Pilot.@@N@@.Jvm.D
theorem d2_0 : decode prog_126_method_2_code 0 = .ok (.aload_n 0, 1) := by decide +kernel
theorem d2_1 : decode prog_126_method_2_code 1 = .ok (.invokespecial 9, 3) := by decide +kernel
theorem d2_4 : decode prog_126_method_2_code 4 = .ok (.aload_n 0, 1) := by decide +kernel
theorem d2_5 : decode prog_126_method_2_code 5 = .ok (.iload_n 1, 1) := by decide +kernel
theorem d2_6 : decode prog_126_method_2_code 6 = .ok (.putfield 14, 3) := by decide +kernel
theorem d2_9 : decode prog_126_method_2_code 9 = .ok (.aload_n 0, 1) := by decide +kernel
theorem d2_10 : decode prog_126_method_2_code 10 = .ok (.iload_n 2, 1) := by decide +kernel
theorem d2_11 : decode prog_126_method_2_code 11 = .ok (.putfield 18, 3) := by decide +kernel
theorem d2_14 : decode prog_126_method_2_code 14 = .ok (.aload_n 0, 1) := by decide +kernel
theorem d2_15 : decode prog_126_method_2_code 15 = .ok (.iload_n 3, 1) := by decide +kernel
theorem d2_16 : decode prog_126_method_2_code 16 = .ok (.putfield 21, 3) := by decide +kernel
theorem d2_19 : decode prog_126_method_2_code 19 = .ok (.aload_n 0, 1) := by decide +kernel
theorem d2_20 : decode prog_126_method_2_code 20 = .ok (.iload 4, 2) := by decide +kernel
theorem d2_22 : decode prog_126_method_2_code 22 = .ok (.putfield 25, 3) := by decide +kernel
theorem d2_25 : decode prog_126_method_2_code 25 = .ok (.return_, 1) := by decide +kernel
theorem pn_2 : plainName "com/example/tidewatch/tidewatch/service/fit/BurstCycle" = true := by first | (simp [plainName, overriddenIn]; done) | decide +kernel
theorem ef_2 (m : MethodId) (x0 : Addr) (x1 : Int32) (x2 : Int32) (x3 : Int32) (x4 : Int32) : entryFrame m #[(.ref x0), (.int x1), (.int x2), (.int x3), (.int x4)] 5 = mkF m 0 #[.val (.ref x0), .val (.int x1), .val (.int x2), .val (.int x3), .val (.int x4)] [] := by first | (simp [entryFrame, mkF, argsToLocals, Value.category]; done) | rfl
def Q2 (Z : State) (ob : Addr) (qq : Int32) (bb : Int32) (cc : Int32) (dd : Int32) (h0 : Heap) (n0 : Nat) (v : Option Value) (h : Heap) (L : List Loc) : Prop := v = none ∧ Fr n0 L ∧ Keep h0 h [ob] ∧ (Exa Z h ob "com/example/tidewatch/tidewatch/service/fit/BurstCycle") ∧ (Fld Z h ob "com/example/tidewatch/tidewatch/service/fit/BurstCycle" "quietPhases" "I" (.int qq)) ∧ (Fld Z h ob "com/example/tidewatch/tidewatch/service/fit/BurstCycle" "burstPhases" "I" (.int bb)) ∧ (Fld Z h ob "com/example/tidewatch/tidewatch/service/fit/BurstCycle" "clusters" "Z" (.int (nar .boolean cc)))
set_option maxRecDepth 65536 in
set_option maxHeartbeats 40000000 in
theorem rm2 (l : Launch) (Z : State) (a0 : Array Value) (hw : ∀ d ∈ tables_1, d.before a0 Z = true) (ws : List Jvm.Cond) (ob : Addr) (qq : Int32) (bb : Int32) (cc : Int32) (dd : Int32) (h0 : Heap) (n0 : Nat) (Z0 : n0 ≤ h0.size) (F1 : Fld Z h0 ob "com/example/tidewatch/tidewatch/service/fit/BurstCycle" "quietPhases" "I" (.int (0 : Int32))) (F2 : Fld Z h0 ob "com/example/tidewatch/tidewatch/service/fit/BurstCycle" "burstPhases" "I" (.int (0 : Int32))) (F3 : Fld Z h0 ob "com/example/tidewatch/tidewatch/service/fit/BurstCycle" "clusters" "Z" (.int (0 : Int32))) (F4 : Fld Z h0 ob "com/example/tidewatch/tidewatch/service/fit/BurstCycle" "freshClusters" "Z" (.int (0 : Int32))) (E1 : Exa Z h0 ob "com/example/tidewatch/tidewatch/service/fit/BurstCycle") (G1 : n0 ≤ ob) :
    MetFree l (⟨"com/example/tidewatch/tidewatch/service/fit/BurstCycle", "<init>", "(IIZZ)V"⟩ : MethodName) (head1 (Jvm.Cond.code (⟨"com/example/tidewatch/tidewatch/service/fit/BurstCycle", "<init>", "(IIZZ)V"⟩ : MethodName) prog_126_method_2_code 5 none :: ws) ({ frames := 1, cells := 0, slots := 0, locals := 12 } : Room)) (fun a U => a = #[(.ref ob), (.int qq), (.int bb), (.int cc), (.int dd)] ∧ Z.Warmed39 U.vm ∧ U.heap = h0) (fun _ _ _ _ _ => True) (fun _ U o U' => ∃ v L, o = .returned v ∧ Q2 Z ob qq bb cc dd h0 n0 v U'.heap L ∧ FrameEnd U o U' L ({ frames := 1, cells := 0, slots := 0, locals := 12 } : Room).cells ({ frames := 1, cells := 0, slots := 0, locals := 12 } : Room).slots) := by
  refine MetFree.of_bodySF (plainFor_of_name pn_2) hisR ?_
  intro p e s m args below meth c s₁ Bd hml0 hP hK
  obtain ⟨rfl, hZ, hh⟩ := hP
  have hx := Bd.exec
  have hby := Bd.bytes
  have hlk : meth.locks = false := BodyLoose.notSynchronized Bd
  have hml : c.maxLocals = 5 := hml0
  have hown : s.vm.findClass "com/example/tidewatch/tidewatch/service/fit/BurstCycle" = some m.cls := findClass_of_methodNamed Bd.named
  have hnm := (name_of_methodNamed Bd.named Bd.method).1
  have X0 : Stand p l e ({ frames := 1, cells := 0, slots := 0, locals := 12 } : Room) s m #[(.ref ob), (.int qq), (.int bb), (.int cc), (.int dd)] below meth c s₁ [] 0 0 := Stand.of_body Bd
  have e0 : s₁.heap = h0 := by rw [← hh, Bd.state]; rfl
  have N0 := Fr.nil n0
  have K0 : Keep h0 h0 [ob] := Keep.refl _ _
  show own_Go p e below (own_G s (Q2 Z ob qq bb cc dd h0 n0) ({ frames := 1, cells := 0, slots := 0, locals := 12 } : Room).cells ({ frames := 1, cells := 0, slots := 0, locals := 12 } : Room).slots) (s₁.setTop (entryFrame m #[(.ref ob), (.int qq), (.int bb), (.int cc), (.int dd)] 5))
  refine own_st (fun tgt k => castTop (ef_2 m ob qq bb cc dd) k) ?_
  show own_Go p e below _ (s₁.setTop (mkF m 0 #[.val (.ref ob), .val (.int qq), .val (.int bb), .val (.int cc), .val (.int dd)] []))
  refine own_st (V := s₁.setTop (mkF m 1 #[.val (.ref ob), .val (.int qq), .val (.int bb), .val (.int cc), .val (.int dd)] [(.ref ob)])) (fun tgt k => ?_) ?_
  · show Steps p.tables e below (s₁.setTop (mkF m 0 #[.val (.ref ob), .val (.int qq), .val (.int bb), .val (.int cc), .val (.int dd)] [])) tgt
    refine XS.aloadN X0.here hx rfl (hb hby d2_0) rfl rfl ?_
    exact k
  obtain ⟨T1, X1, e1, st1⟩ := initO X0 hx hZ hown (hw _ (List.mem_of_getElem? (i := 10) rfl)) (hw _ (List.mem_of_getElem? (i := 11) rfl)) (hw _ (List.mem_of_getElem? (i := 12) rfl)) e0 (g := (mkF m 1 #[.val (.ref ob), .val (.int qq), .val (.int bb), .val (.int cc), .val (.int dd)] [(.ref ob)])) rfl (by rw [hml]; rfl) rfl (hb hby d2_1) (by decide) (W := 0) (by show 2 * 0 + _ ≤ _; exact Nat.le_of_eq rfl) (by decide)
  refine own_st st1 ?_
  show own_Go p e below _ (T1.setTop (mkF m 4 #[.val (.ref ob), .val (.int qq), .val (.int bb), .val (.int cc), .val (.int dd)] []))
  refine own_st (V := T1.setTop (mkF m 6 #[.val (.ref ob), .val (.int qq), .val (.int bb), .val (.int cc), .val (.int dd)] [(.int qq), (.ref ob)])) (fun tgt k => ?_) ?_
  · show Steps p.tables e below (T1.setTop (mkF m 4 #[.val (.ref ob), .val (.int qq), .val (.int bb), .val (.int cc), .val (.int dd)] [])) tgt
    refine XS.aloadN X1.here hx rfl (hb hby d2_4) rfl rfl ?_
    show Steps p.tables e below (T1.setTop (mkF m 5 #[.val (.ref ob), .val (.int qq), .val (.int bb), .val (.int cc), .val (.int dd)] [(.ref ob)])) tgt
    refine XS.iloadN X1.here hx rfl (hb hby d2_5) rfl ?_
    exact k
  obtain ⟨T2, h2, X2, e2, W2, st2⟩ := putF X1 hx hZ hown (host := "") (Or.inl (hw _ (List.mem_of_getElem? (i := 13) rfl))) Via.refl e1 F1 E1 (Or.inr ⟨(hw _ (List.mem_of_getElem? (i := 14) rfl)), rfl, hnm⟩) (hw _ (List.mem_of_getElem? (i := 2) rfl)) (ty := .int) (by decide) rfl rfl (g := (mkF m 6 #[.val (.ref ob), .val (.int qq), .val (.int bb), .val (.int cc), .val (.int dd)] [(.int qq), (.ref ob)])) rfl rfl (hb hby d2_6)
  have F_ob_burstPhases_2 := Fld.other W2 F2 (Or.inr (slot_ne (Or.inr (hw _ (List.mem_of_getElem? (i := 16) rfl))) (Or.inr (hw _ (List.mem_of_getElem? (i := 14) rfl))) (by decide) (t := .int) (t' := .int) (by decide) (by decide)))
  have F_ob_clusters_2 := Fld.other W2 F3 (Or.inr (slot_ne (Or.inr (hw _ (List.mem_of_getElem? (i := 18) rfl))) (Or.inr (hw _ (List.mem_of_getElem? (i := 14) rfl))) (by decide) (t := .boolean) (t' := .int) (by decide) (by decide)))
  have F_ob_freshClusters_2 := Fld.other W2 F4 (Or.inr (slot_ne (Or.inr (hw _ (List.mem_of_getElem? (i := 20) rfl))) (Or.inr (hw _ (List.mem_of_getElem? (i := 14) rfl))) (by decide) (t := .boolean) (t' := .int) (by decide) (by decide)))
  have E_ob_2 := E1.wr W2
  have F_ob_quietPhases_2 := Fld.same W2 F1
  have N2 := Fr.snoc X2 N0 G1
  have Zs2 : n0 ≤ h2.size := Nat.le_trans Z0 (Keep.of_wr W2).1
  have Kp2 := K0.wr W2 (Or.inl (List.mem_of_getElem? (i := 0) rfl))
  refine own_st st2 ?_
  show own_Go p e below _ (T2.setTop (mkF m 9 #[.val (.ref ob), .val (.int qq), .val (.int bb), .val (.int cc), .val (.int dd)] []))
  refine own_st (V := T2.setTop (mkF m 11 #[.val (.ref ob), .val (.int qq), .val (.int bb), .val (.int cc), .val (.int dd)] [(.int bb), (.ref ob)])) (fun tgt k => ?_) ?_
  · show Steps p.tables e below (T2.setTop (mkF m 9 #[.val (.ref ob), .val (.int qq), .val (.int bb), .val (.int cc), .val (.int dd)] [])) tgt
    refine XS.aloadN X2.here hx rfl (hb hby d2_9) rfl rfl ?_
    show Steps p.tables e below (T2.setTop (mkF m 10 #[.val (.ref ob), .val (.int qq), .val (.int bb), .val (.int cc), .val (.int dd)] [(.ref ob)])) tgt
    refine XS.iloadN X2.here hx rfl (hb hby d2_10) rfl ?_
    exact k
  obtain ⟨T3, h3, X3, e3, W3, st3⟩ := putF X2 hx hZ hown (host := "") (Or.inl (hw _ (List.mem_of_getElem? (i := 15) rfl))) Via.refl e2 F_ob_burstPhases_2 E_ob_2 (Or.inr ⟨(hw _ (List.mem_of_getElem? (i := 16) rfl)), rfl, hnm⟩) (hw _ (List.mem_of_getElem? (i := 2) rfl)) (ty := .int) (by decide) rfl rfl (g := (mkF m 11 #[.val (.ref ob), .val (.int qq), .val (.int bb), .val (.int cc), .val (.int dd)] [(.int bb), (.ref ob)])) rfl rfl (hb hby d2_11)
  have F_ob_quietPhases_3 := Fld.other W3 F_ob_quietPhases_2 (Or.inr (slot_ne (Or.inr (hw _ (List.mem_of_getElem? (i := 14) rfl))) (Or.inr (hw _ (List.mem_of_getElem? (i := 16) rfl))) (by decide) (t := .int) (t' := .int) (by decide) (by decide)))
  have F_ob_clusters_3 := Fld.other W3 F_ob_clusters_2 (Or.inr (slot_ne (Or.inr (hw _ (List.mem_of_getElem? (i := 18) rfl))) (Or.inr (hw _ (List.mem_of_getElem? (i := 16) rfl))) (by decide) (t := .boolean) (t' := .int) (by decide) (by decide)))
  have F_ob_freshClusters_3 := Fld.other W3 F_ob_freshClusters_2 (Or.inr (slot_ne (Or.inr (hw _ (List.mem_of_getElem? (i := 20) rfl))) (Or.inr (hw _ (List.mem_of_getElem? (i := 16) rfl))) (by decide) (t := .boolean) (t' := .int) (by decide) (by decide)))
  have E_ob_3 := E_ob_2.wr W3
  have F_ob_burstPhases_3 := Fld.same W3 F_ob_burstPhases_2
  have N3 := Fr.snoc X3 N2 G1
  have Zs3 : n0 ≤ h3.size := Nat.le_trans Zs2 (Keep.of_wr W3).1
  have Kp3 := Kp2.wr W3 (Or.inl (List.mem_of_getElem? (i := 0) rfl))
  refine own_st st3 ?_
  show own_Go p e below _ (T3.setTop (mkF m 14 #[.val (.ref ob), .val (.int qq), .val (.int bb), .val (.int cc), .val (.int dd)] []))
  refine own_st (V := T3.setTop (mkF m 16 #[.val (.ref ob), .val (.int qq), .val (.int bb), .val (.int cc), .val (.int dd)] [(.int cc), (.ref ob)])) (fun tgt k => ?_) ?_
  · show Steps p.tables e below (T3.setTop (mkF m 14 #[.val (.ref ob), .val (.int qq), .val (.int bb), .val (.int cc), .val (.int dd)] [])) tgt
    refine XS.aloadN X3.here hx rfl (hb hby d2_14) rfl rfl ?_
    show Steps p.tables e below (T3.setTop (mkF m 15 #[.val (.ref ob), .val (.int qq), .val (.int bb), .val (.int cc), .val (.int dd)] [(.ref ob)])) tgt
    refine XS.iloadN X3.here hx rfl (hb hby d2_15) rfl ?_
    exact k
  obtain ⟨T4, h4, X4, e4, W4, st4⟩ := putFN X3 hx hZ hown (hw _ (List.mem_of_getElem? (i := 17) rfl)) Via.refl e3 F_ob_clusters_3 E_ob_3 (Or.inr ⟨(hw _ (List.mem_of_getElem? (i := 18) rfl)), rfl, hnm⟩) (hw _ (List.mem_of_getElem? (i := 2) rfl)) (ty := .boolean) (v' := .int (nar .boolean cc)) (by decide) rfl (fits_nar_bool _) (g := (mkF m 16 #[.val (.ref ob), .val (.int qq), .val (.int bb), .val (.int cc), .val (.int dd)] [(.int cc), (.ref ob)])) rfl rfl (hb hby d2_16)
  have F_ob_quietPhases_4 := Fld.other W4 F_ob_quietPhases_3 (Or.inr (slot_ne (Or.inr (hw _ (List.mem_of_getElem? (i := 14) rfl))) (Or.inr (hw _ (List.mem_of_getElem? (i := 18) rfl))) (by decide) (t := .int) (t' := .boolean) (by decide) (by decide)))
  have F_ob_burstPhases_4 := Fld.other W4 F_ob_burstPhases_3 (Or.inr (slot_ne (Or.inr (hw _ (List.mem_of_getElem? (i := 16) rfl))) (Or.inr (hw _ (List.mem_of_getElem? (i := 18) rfl))) (by decide) (t := .int) (t' := .boolean) (by decide) (by decide)))
  have F_ob_freshClusters_4 := Fld.other W4 F_ob_freshClusters_3 (Or.inr (slot_ne (Or.inr (hw _ (List.mem_of_getElem? (i := 20) rfl))) (Or.inr (hw _ (List.mem_of_getElem? (i := 18) rfl))) (by decide) (t := .boolean) (t' := .boolean) (by decide) (by decide)))
  have E_ob_4 := E_ob_3.wr W4
  have F_ob_clusters_4 := Fld.same W4 F_ob_clusters_3
  have N4 := Fr.snoc X4 N3 G1
  have Zs4 : n0 ≤ h4.size := Nat.le_trans Zs3 (Keep.of_wr W4).1
  have Kp4 := Kp3.wr W4 (Or.inl (List.mem_of_getElem? (i := 0) rfl))
  refine own_st st4 ?_
  show own_Go p e below _ (T4.setTop (mkF m 19 #[.val (.ref ob), .val (.int qq), .val (.int bb), .val (.int cc), .val (.int dd)] []))
  refine own_st (V := T4.setTop (mkF m 22 #[.val (.ref ob), .val (.int qq), .val (.int bb), .val (.int cc), .val (.int dd)] [(.int dd), (.ref ob)])) (fun tgt k => ?_) ?_
  · show Steps p.tables e below (T4.setTop (mkF m 19 #[.val (.ref ob), .val (.int qq), .val (.int bb), .val (.int cc), .val (.int dd)] [])) tgt
    refine XS.aloadN X4.here hx rfl (hb hby d2_19) rfl rfl ?_
    show Steps p.tables e below (T4.setTop (mkF m 20 #[.val (.ref ob), .val (.int qq), .val (.int bb), .val (.int cc), .val (.int dd)] [(.ref ob)])) tgt
    refine XS.iload X4.here hx rfl (hb hby d2_20) rfl ?_
    exact k
  obtain ⟨T5, h5, X5, e5, W5, st5⟩ := putFN X4 hx hZ hown (hw _ (List.mem_of_getElem? (i := 19) rfl)) Via.refl e4 F_ob_freshClusters_4 E_ob_4 (Or.inr ⟨(hw _ (List.mem_of_getElem? (i := 20) rfl)), rfl, hnm⟩) (hw _ (List.mem_of_getElem? (i := 2) rfl)) (ty := .boolean) (v' := .int (nar .boolean dd)) (by decide) rfl (fits_nar_bool _) (g := (mkF m 22 #[.val (.ref ob), .val (.int qq), .val (.int bb), .val (.int cc), .val (.int dd)] [(.int dd), (.ref ob)])) rfl rfl (hb hby d2_22)
  have F_ob_quietPhases_5 := Fld.other W5 F_ob_quietPhases_4 (Or.inr (slot_ne (Or.inr (hw _ (List.mem_of_getElem? (i := 14) rfl))) (Or.inr (hw _ (List.mem_of_getElem? (i := 20) rfl))) (by decide) (t := .int) (t' := .boolean) (by decide) (by decide)))
  have F_ob_burstPhases_5 := Fld.other W5 F_ob_burstPhases_4 (Or.inr (slot_ne (Or.inr (hw _ (List.mem_of_getElem? (i := 16) rfl))) (Or.inr (hw _ (List.mem_of_getElem? (i := 20) rfl))) (by decide) (t := .int) (t' := .boolean) (by decide) (by decide)))
  have F_ob_clusters_5 := Fld.other W5 F_ob_clusters_4 (Or.inr (slot_ne (Or.inr (hw _ (List.mem_of_getElem? (i := 18) rfl))) (Or.inr (hw _ (List.mem_of_getElem? (i := 20) rfl))) (by decide) (t := .boolean) (t' := .boolean) (by decide) (by decide)))
  have E_ob_5 := E_ob_4.wr W5
  have F_ob_freshClusters_5 := Fld.same W5 F_ob_freshClusters_4
  have N5 := Fr.snoc X5 N4 G1
  have Zs5 : n0 ≤ h5.size := Nat.le_trans Zs4 (Keep.of_wr W5).1
  have Kp5 := Kp4.wr W5 (Or.inl (List.mem_of_getElem? (i := 0) rfl))
  refine own_st st5 ?_
  show own_Go p e below _ (T5.setTop (mkF m 25 #[.val (.ref ob), .val (.int qq), .val (.int bb), .val (.int cc), .val (.int dd)] []))
  refine own_ret0 X5 hx hlk Bd.returns (hb hby d2_25) ?_ (by decide) (by decide)
  show Q2 Z ob qq bb cc dd h0 n0 none T5.heap _
  rw [e5]
  exact ⟨rfl, N5, Kp5, E_ob_5, F_ob_quietPhases_5, F_ob_burstPhases_5, F_ob_clusters_5⟩
theorem d1_0 : decode prog_126_method_1_code 0 = .ok (.aload_n 0, 1) := by decide +kernel
theorem d1_1 : decode prog_126_method_1_code 1 = .ok (.iload_n 1, 1) := by decide +kernel
theorem d1_2 : decode prog_126_method_1_code 2 = .ok (.iload_n 2, 1) := by decide +kernel
theorem d1_3 : decode prog_126_method_1_code 3 = .ok (.iload_n 3, 1) := by decide +kernel
theorem d1_4 : decode prog_126_method_1_code 4 = .ok (.iconst 0, 1) := by decide +kernel
theorem d1_5 : decode prog_126_method_1_code 5 = .ok (.invokespecial 3, 3) := by decide +kernel
theorem d1_8 : decode prog_126_method_1_code 8 = .ok (.return_, 1) := by decide +kernel
theorem pn_1 : plainName "com/example/tidewatch/tidewatch/service/fit/BurstCycle" = true := by first | (simp [plainName, overriddenIn]; done) | decide +kernel
theorem pd_1_0 : parseMethodDescriptor "(IIZZ)V" = some ⟨[.int, .int, .boolean, .boolean], none⟩ := by decide +kernel
theorem ef_1 (m : MethodId) (x0 : Addr) (x1 : Int32) (x2 : Int32) (x3 : Int32) : entryFrame m #[(.ref x0), (.int x1), (.int x2), (.int x3)] 4 = mkF m 0 #[.val (.ref x0), .val (.int x1), .val (.int x2), .val (.int x3)] [] := by first | (simp [entryFrame, mkF, argsToLocals, Value.category]; done) | rfl
def Q1 (Z : State) (ob : Addr) (qq : Int32) (bb : Int32) (cc : Int32) (h0 : Heap) (n0 : Nat) (v : Option Value) (h : Heap) (L : List Loc) : Prop := v = none ∧ Fr n0 L ∧ Keep h0 h [ob] ∧ (Exa Z h ob "com/example/tidewatch/tidewatch/service/fit/BurstCycle") ∧ (Fld Z h ob "com/example/tidewatch/tidewatch/service/fit/BurstCycle" "quietPhases" "I" (.int qq)) ∧ (Fld Z h ob "com/example/tidewatch/tidewatch/service/fit/BurstCycle" "burstPhases" "I" (.int bb)) ∧ (Fld Z h ob "com/example/tidewatch/tidewatch/service/fit/BurstCycle" "clusters" "Z" (.int (nar .boolean cc)))
set_option maxRecDepth 65536 in
set_option maxHeartbeats 40000000 in
theorem rm1 (l : Launch) (Z : State) (a0 : Array Value) (hw : ∀ d ∈ tables_1, d.before a0 Z = true) (ws : List Jvm.Cond) (ob : Addr) (qq : Int32) (bb : Int32) (cc : Int32) (h0 : Heap) (n0 : Nat) (Z0 : n0 ≤ h0.size) (F1 : Fld Z h0 ob "com/example/tidewatch/tidewatch/service/fit/BurstCycle" "quietPhases" "I" (.int (0 : Int32))) (F2 : Fld Z h0 ob "com/example/tidewatch/tidewatch/service/fit/BurstCycle" "burstPhases" "I" (.int (0 : Int32))) (F3 : Fld Z h0 ob "com/example/tidewatch/tidewatch/service/fit/BurstCycle" "clusters" "Z" (.int (0 : Int32))) (F4 : Fld Z h0 ob "com/example/tidewatch/tidewatch/service/fit/BurstCycle" "freshClusters" "Z" (.int (0 : Int32))) (E1 : Exa Z h0 ob "com/example/tidewatch/tidewatch/service/fit/BurstCycle") (G1 : n0 ≤ ob) :
    MetFree l (⟨"com/example/tidewatch/tidewatch/service/fit/BurstCycle", "<init>", "(IIZ)V"⟩ : MethodName) (head1 (Jvm.Cond.code (⟨"com/example/tidewatch/tidewatch/service/fit/BurstCycle", "<init>", "(IIZ)V"⟩ : MethodName) prog_126_method_1_code 4 none :: ws) ({ frames := 2, cells := 0, slots := 0, locals := 28 } : Room)) (fun a U => a = #[(.ref ob), (.int qq), (.int bb), (.int cc)] ∧ Z.Warmed39 U.vm ∧ U.heap = h0) (fun _ _ _ _ _ => True) (fun _ U o U' => ∃ v L, o = .returned v ∧ Q1 Z ob qq bb cc h0 n0 v U'.heap L ∧ FrameEnd U o U' L ({ frames := 2, cells := 0, slots := 0, locals := 28 } : Room).cells ({ frames := 2, cells := 0, slots := 0, locals := 28 } : Room).slots) := by
  refine MetFree.of_bodySF (plainFor_of_name pn_1) hisR ?_
  intro p e s m args below meth c s₁ Bd hml0 hP hK
  obtain ⟨rfl, hZ, hh⟩ := hP
  have hx := Bd.exec
  have hby := Bd.bytes
  have hlk : meth.locks = false := BodyLoose.notSynchronized Bd
  have hml : c.maxLocals = 4 := hml0
  have hown : s.vm.findClass "com/example/tidewatch/tidewatch/service/fit/BurstCycle" = some m.cls := findClass_of_methodNamed Bd.named
  have hnm := (name_of_methodNamed Bd.named Bd.method).1
  have X0 : Stand p l e ({ frames := 2, cells := 0, slots := 0, locals := 28 } : Room) s m #[(.ref ob), (.int qq), (.int bb), (.int cc)] below meth c s₁ [] 0 0 := Stand.of_body Bd
  have e0 : s₁.heap = h0 := by rw [← hh, Bd.state]; rfl
  have N0 := Fr.nil n0
  have K0 : Keep h0 h0 [ob] := Keep.refl _ _
  show own_Go p e below (own_G s (Q1 Z ob qq bb cc h0 n0) ({ frames := 2, cells := 0, slots := 0, locals := 28 } : Room).cells ({ frames := 2, cells := 0, slots := 0, locals := 28 } : Room).slots) (s₁.setTop (entryFrame m #[(.ref ob), (.int qq), (.int bb), (.int cc)] 4))
  refine own_st (fun tgt k => castTop (ef_1 m ob qq bb cc) k) ?_
  show own_Go p e below _ (s₁.setTop (mkF m 0 #[.val (.ref ob), .val (.int qq), .val (.int bb), .val (.int cc)] []))
  refine own_st (V := s₁.setTop (mkF m 5 #[.val (.ref ob), .val (.int qq), .val (.int bb), .val (.int cc)] [(.int (0 : Int32)), (.int cc), (.int bb), (.int qq), (.ref ob)])) (fun tgt k => ?_) ?_
  · show Steps p.tables e below (s₁.setTop (mkF m 0 #[.val (.ref ob), .val (.int qq), .val (.int bb), .val (.int cc)] [])) tgt
    refine XS.aloadN X0.here hx rfl (hb hby d1_0) rfl rfl ?_
    show Steps p.tables e below (s₁.setTop (mkF m 1 #[.val (.ref ob), .val (.int qq), .val (.int bb), .val (.int cc)] [(.ref ob)])) tgt
    refine XS.iloadN X0.here hx rfl (hb hby d1_1) rfl ?_
    show Steps p.tables e below (s₁.setTop (mkF m 2 #[.val (.ref ob), .val (.int qq), .val (.int bb), .val (.int cc)] [(.int qq), (.ref ob)])) tgt
    refine XS.iloadN X0.here hx rfl (hb hby d1_2) rfl ?_
    show Steps p.tables e below (s₁.setTop (mkF m 3 #[.val (.ref ob), .val (.int qq), .val (.int bb), .val (.int cc)] [(.int bb), (.int qq), (.ref ob)])) tgt
    refine XS.iloadN X0.here hx rfl (hb hby d1_3) rfl ?_
    show Steps p.tables e below (s₁.setTop (mkF m 4 #[.val (.ref ob), .val (.int qq), .val (.int bb), .val (.int cc)] [(.int cc), (.int bb), (.int qq), (.ref ob)])) tgt
    refine XS.iconst X0.here hx rfl (hb hby d1_4) ?_
    exact k
  obtain ⟨_, _, ⟨T1, L1, k1, n1⟩, -, X1, ⟨Lc1, hQ1, l1, y1, z1⟩, st1⟩ := X0.specialBack hx (y := (⟨"com/example/tidewatch/tidewatch/service/fit/BurstCycle", "<init>", "(IIZZ)V"⟩ : MethodName)) rfl hown (mvT hZ (hw _ (List.mem_of_getElem? (i := 7) rfl))) (mvT hZ (hw _ (List.mem_of_getElem? (i := 8) rfl))) (mvT hZ (hw _ (List.mem_of_getElem? (i := 9) rfl))) (by decide) (backOf (W := 0) (rm2 l Z a0 hw [] ob qq bb cc (0 : Int32) h0 n0 Z0 F1 F2 F3 F4 E1 G1) hZ (hw _ (List.mem_of_getElem? (i := 9) rfl)) (hw _ (List.mem_of_getElem? (i := 3) rfl)) (by decide) (by decide)) (g := (mkF m 5 #[.val (.ref ob), .val (.int qq), .val (.int bb), .val (.int cc)] [(.int (0 : Int32)), (.int cc), (.int bb), (.int qq), (.ref ob)])) rfl (by rw [hml]; rfl) (Steps.refl _) (a := ob) (argsL := [(.int qq), (.int bb), (.int cc), (.int (0 : Int32))]) (rest := []) (lenOf pd_1_0 rfl) rfl (by show 2 * 0 + _ ≤ _; exact Nat.le_of_eq rfl) (hb hby d1_5) (fun _ _ => ⟨rfl, e0, (by decide : 0 + 0 ≤ _), (by decide : 0 + 0 ≤ _)⟩)
  dsimp only [Pt.U, Pt.locs, Pt.cells, Pt.slots] at X1 l1 y1 z1 st1 hQ1
  subst l1 y1 z1
  obtain ⟨rfl, N1q, K1, g1_0, g1_1, g1_2, g1_3⟩ := hQ1
  have N1 := Fr.app N0 N1q
  have E_ob_1 := E1.keep K1
  have Zs1 : n0 ≤ T1.heap.size := Nat.le_trans Z0 K1.1
  have Kp1 := K0.trans K1 (allS (Or.inl (by simp)) all0)
  refine own_st (fun tgt k => st1.trans k) ?_
  show own_Go p e below _ (T1.setTop (mkF m 8 #[.val (.ref ob), .val (.int qq), .val (.int bb), .val (.int cc)] []))
  refine own_ret0 X1 hx hlk Bd.returns (hb hby d1_8) ?_ (by decide) (by decide)
  show Q1 Z ob qq bb cc h0 n0 none T1.heap _
  exact ⟨rfl, N1, Kp1, g1_0, g1_1, g1_2, g1_3⟩
theorem d4_0 : decode prog_126_method_4_code 0 = .ok (.aload_n 0, 1) := by decide +kernel
theorem d4_1 : decode prog_126_method_4_code 1 = .ok (.getfield 14, 3) := by decide +kernel
theorem d4_4 : decode prog_126_method_4_code 4 = .ok (.aload_n 0, 1) := by decide +kernel
theorem d4_5 : decode prog_126_method_4_code 5 = .ok (.getfield 18, 3) := by decide +kernel
theorem d4_8 : decode prog_126_method_4_code 8 = .ok (.iadd, 1) := by decide +kernel
theorem d4_9 : decode prog_126_method_4_code 9 = .ok (.aload_n 0, 1) := by decide +kernel
theorem d4_10 : decode prog_126_method_4_code 10 = .ok (.getfield 21, 3) := by decide +kernel
theorem d4_13 : decode prog_126_method_4_code 13 = .ok (.ifCond .eq 7, 3) := by decide +kernel
theorem d4_16 : decode prog_126_method_4_code 16 = .ok (.iconst 2, 1) := by decide +kernel
theorem d4_17 : decode prog_126_method_4_code 17 = .ok (.goto 4, 3) := by decide +kernel
theorem d4_20 : decode prog_126_method_4_code 20 = .ok (.iconst 1, 1) := by decide +kernel
theorem d4_21 : decode prog_126_method_4_code 21 = .ok (.imul, 1) := by decide +kernel
theorem d4_22 : decode prog_126_method_4_code 22 = .ok (.ireturn, 1) := by decide +kernel
theorem pn_4 : plainName "com/example/tidewatch/tidewatch/service/fit/BurstCycle" = true := by first | (simp [plainName, overriddenIn]; done) | decide +kernel
theorem ef_4 (m : MethodId) (x0 : Addr) : entryFrame m #[(.ref x0)] 1 = mkF m 0 #[.val (.ref x0)] [] := by first | (simp [entryFrame, mkF, argsToLocals, Value.category]; done) | rfl
def Q4 (Z : State) (ob : Addr) (qq : Int32) (bb : Int32) (cc : Int32) (h0 : Heap) (n0 : Nat) (v : Option Value) (h : Heap) (L : List Loc) : Prop := v = some (.int ((qq + bb) * (if cc = 0 then 1 else 2))) ∧ Fr n0 L ∧ h = h0
set_option maxRecDepth 65536 in
set_option maxHeartbeats 40000000 in
theorem rm4 (l : Launch) (Z : State) (a0 : Array Value) (hw : ∀ d ∈ tables_1, d.before a0 Z = true) (ws : List Jvm.Cond) (ob : Addr) (qq : Int32) (bb : Int32) (cc : Int32) (h0 : Heap) (n0 : Nat) (Z0 : n0 ≤ h0.size) (F1 : Fld Z h0 ob "com/example/tidewatch/tidewatch/service/fit/BurstCycle" "quietPhases" "I" (.int qq)) (F2 : Fld Z h0 ob "com/example/tidewatch/tidewatch/service/fit/BurstCycle" "burstPhases" "I" (.int bb)) (F3 : Fld Z h0 ob "com/example/tidewatch/tidewatch/service/fit/BurstCycle" "clusters" "Z" (.int cc)) :
    MetFree l (⟨"com/example/tidewatch/tidewatch/service/fit/BurstCycle", "states", "()I"⟩ : MethodName) (head1 (Jvm.Cond.code (⟨"com/example/tidewatch/tidewatch/service/fit/BurstCycle", "states", "()I"⟩ : MethodName) prog_126_method_4_code 1 (some .int) :: ws) ({ frames := 0, cells := 0, slots := 0, locals := 0 } : Room)) (fun a U => a = #[(.ref ob)] ∧ Z.Warmed39 U.vm ∧ U.heap = h0) (fun _ _ _ _ _ => True) (fun _ U o U' => ∃ v L, o = .returned v ∧ Q4 Z ob qq bb cc h0 n0 v U'.heap L ∧ FrameEnd U o U' L ({ frames := 0, cells := 0, slots := 0, locals := 0 } : Room).cells ({ frames := 0, cells := 0, slots := 0, locals := 0 } : Room).slots) := by
  refine MetFree.of_bodySF (plainFor_of_name pn_4) hisR ?_
  intro p e s m args below meth c s₁ Bd hml0 hP hK
  obtain ⟨rfl, hZ, hh⟩ := hP
  have hx := Bd.exec
  have hby := Bd.bytes
  have hlk : meth.locks = false := BodyLoose.notSynchronized Bd
  have hml : c.maxLocals = 1 := hml0
  have hown : s.vm.findClass "com/example/tidewatch/tidewatch/service/fit/BurstCycle" = some m.cls := findClass_of_methodNamed Bd.named
  have hnm := (name_of_methodNamed Bd.named Bd.method).1
  have X0 : Stand p l e ({ frames := 0, cells := 0, slots := 0, locals := 0 } : Room) s m #[(.ref ob)] below meth c s₁ [] 0 0 := Stand.of_body Bd
  have e0 : s₁.heap = h0 := by rw [← hh, Bd.state]; rfl
  have N0 := Fr.nil n0
  show own_Go p e below (own_G s (Q4 Z ob qq bb cc h0 n0) ({ frames := 0, cells := 0, slots := 0, locals := 0 } : Room).cells ({ frames := 0, cells := 0, slots := 0, locals := 0 } : Room).slots) (s₁.setTop (entryFrame m #[(.ref ob)] 1))
  refine own_st (fun tgt k => castTop (ef_4 m ob) k) ?_
  show own_Go p e below _ (s₁.setTop (mkF m 0 #[.val (.ref ob)] []))
  refine own_st (V := s₁.setTop (mkF m 1 #[.val (.ref ob)] [(.ref ob)])) (fun tgt k => ?_) ?_
  · show Steps p.tables e below (s₁.setTop (mkF m 0 #[.val (.ref ob)] [])) tgt
    refine XS.aloadN X0.here hx rfl (hb hby d4_0) rfl rfl ?_
    exact k
  obtain ⟨T1, X1, e1, st1⟩ := getF X0 hx hZ hown (host := "") (Or.inl (hw _ (List.mem_of_getElem? (i := 13) rfl))) Via.refl e0 F1 (g := (mkF m 1 #[.val (.ref ob)] [(.ref ob)])) rfl rfl (hb hby d4_1)
  refine own_st st1 ?_
  show own_Go p e below _ (T1.setTop (mkF m 4 #[.val (.ref ob)] [(.int qq)]))
  refine own_st (V := T1.setTop (mkF m 5 #[.val (.ref ob)] [(.ref ob), (.int qq)])) (fun tgt k => ?_) ?_
  · show Steps p.tables e below (T1.setTop (mkF m 4 #[.val (.ref ob)] [(.int qq)])) tgt
    refine XS.aloadN X1.here hx rfl (hb hby d4_4) rfl rfl ?_
    exact k
  obtain ⟨T2, X2, e2, st2⟩ := getF X1 hx hZ hown (host := "") (Or.inl (hw _ (List.mem_of_getElem? (i := 15) rfl))) Via.refl e1 F2 (g := (mkF m 5 #[.val (.ref ob)] [(.ref ob), (.int qq)])) rfl rfl (hb hby d4_5)
  refine own_st st2 ?_
  show own_Go p e below _ (T2.setTop (mkF m 8 #[.val (.ref ob)] [(.int bb), (.int qq)]))
  refine own_st (V := T2.setTop (mkF m 10 #[.val (.ref ob)] [(.ref ob), (.int (qq + bb))])) (fun tgt k => ?_) ?_
  · show Steps p.tables e below (T2.setTop (mkF m 8 #[.val (.ref ob)] [(.int bb), (.int qq)])) tgt
    refine XS.iadd X2.here hx rfl (hb hby d4_8) rfl ?_
    show Steps p.tables e below (T2.setTop (mkF m 9 #[.val (.ref ob)] [(.int (qq + bb))])) tgt
    refine XS.aloadN X2.here hx rfl (hb hby d4_9) rfl rfl ?_
    exact k
  obtain ⟨T3, X3, e3, st3⟩ := getF X2 hx hZ hown (host := "") (Or.inl (hw _ (List.mem_of_getElem? (i := 17) rfl))) Via.refl e2 F3 (g := (mkF m 10 #[.val (.ref ob)] [(.ref ob), (.int (qq + bb))])) rfl rfl (hb hby d4_10)
  refine own_st st3 ?_
  show own_Go p e below _ (T3.setTop (mkF m 13 #[.val (.ref ob)] [(.int cc), (.int (qq + bb))]))
  by_cases hc13 : cc = (0 : Int32)
  · skip
    refine own_st (V := T3.setTop (mkF m 22 #[.val (.ref ob)] [(.int ((qq + bb) * (1 : Int32)))])) (fun tgt k => ?_) ?_
    · show Steps p.tables e below (T3.setTop (mkF m 13 #[.val (.ref ob)] [(.int cc), (.int (qq + bb))])) tgt
      refine XS.ifYes X3.here hx rfl (pc0 := 13) (pc' := 20) rfl (hb hby d4_13) rfl ((if0 _ _).trans (teq hc13).1) (by decide) (by decide) ?_
      show Steps p.tables e below (T3.setTop (mkF m 20 #[.val (.ref ob)] [(.int (qq + bb))])) tgt
      refine XS.iconst X3.here hx rfl (hb hby d4_20) ?_
      show Steps p.tables e below (T3.setTop (mkF m 21 #[.val (.ref ob)] [(.int (1 : Int32)), (.int (qq + bb))])) tgt
      refine XS.imul X3.here hx rfl (hb hby d4_21) rfl ?_
      exact k
    refine own_retI X3 hx hlk Bd.returns (hb hby d4_22) ?_ (by decide) (by decide)
    show Q4 Z ob qq bb cc h0 n0 (some (.int ((qq + bb) * (1 : Int32)))) T3.heap _
    rw [e3]
    refine ⟨?_, N0, rfl⟩
    exact congrArg (fun q => some (Value.int q)) (by rw [if_pos hc13])
  · skip
    refine own_st (V := T3.setTop (mkF m 22 #[.val (.ref ob)] [(.int ((qq + bb) * (2 : Int32)))])) (fun tgt k => ?_) ?_
    · show Steps p.tables e below (T3.setTop (mkF m 13 #[.val (.ref ob)] [(.int cc), (.int (qq + bb))])) tgt
      refine XS.ifNo X3.here hx rfl (hb hby d4_13) rfl ((if0 _ _).trans (feq hc13).1) ?_
      show Steps p.tables e below (T3.setTop (mkF m 16 #[.val (.ref ob)] [(.int (qq + bb))])) tgt
      refine XS.iconst X3.here hx rfl (hb hby d4_16) ?_
      show Steps p.tables e below (T3.setTop (mkF m 17 #[.val (.ref ob)] [(.int (2 : Int32)), (.int (qq + bb))])) tgt
      refine XS.goto X3.here hx rfl (pc0 := 17) (pc' := 21) rfl (hb hby d4_17) (by decide) (by decide) ?_
      show Steps p.tables e below (T3.setTop (mkF m 21 #[.val (.ref ob)] [(.int (2 : Int32)), (.int (qq + bb))])) tgt
      refine XS.imul X3.here hx rfl (hb hby d4_21) rfl ?_
      exact k
    refine own_retI X3 hx hlk Bd.returns (hb hby d4_22) ?_ (by decide) (by decide)
    show Q4 Z ob qq bb cc h0 n0 (some (.int ((qq + bb) * (2 : Int32)))) T3.heap _
    rw [e3]
    refine ⟨?_, N0, rfl⟩
    exact congrArg (fun q => some (Value.int q)) (by rw [if_neg hc13])
theorem pn_0 : plainName "com/example/tidewatch/tidewatch/service/fit/BurstCycleStatesPinLaw" = true := by first | (simp [plainName, overriddenIn]; done) | decide +kernel
theorem pd_0_0 : parseMethodDescriptor "(IIZ)V" = some ⟨[.int, .int, .boolean], none⟩ := by decide +kernel
theorem pd_0_1 : parseMethodDescriptor "()I" = some ⟨[], some .int⟩ := by decide +kernel
theorem ef_0 (m : MethodId) (x0 : Int32) (x1 : Int32) : entryFrame m #[(.int x0), (.int x1)] maxLocals = mkF m 0 #[.val (.int x0), .val (.int x1), .unset, .unset, .unset, .unset, .unset, .unset, .unset, .unset] [] := by first | (simp [entryFrame, mkF, argsToLocals, Value.category, maxLocals]; done) | rfl
def Q0 (Z : State) (aa : Int32) (bb : Int32) (h0 : Heap) (n0 : Nat) (v : Option Value) (h : Heap) (L : List Loc) : Prop := v = some (.int (1 : Int32)) ∧ Fr n0 L
set_option maxRecDepth 65536 in
set_option maxHeartbeats 40000000 in
theorem rm0 (l : Launch) (Z : State) (a0 : Array Value) (hw : ∀ d ∈ tables_1, d.before a0 Z = true) (ws : List Jvm.Cond) (aa : Int32) (bb : Int32) (h0 : Heap) (n0 : Nat) (Z0 : n0 ≤ h0.size) :
    MetFree l x (head1 (Jvm.Cond.code x code maxLocals ret :: ws) room_1) (fun a U => a = #[(.int aa), (.int bb)] ∧ Z.Warmed39 U.vm ∧ U.heap = h0) (fun _ _ _ _ _ => True) (fun _ U o U' => ∃ v L, o = .returned v ∧ Q0 Z aa bb h0 n0 v U'.heap L ∧ FrameEnd U o U' L 16 128) := by
  refine MetFree.of_bodySF (plainFor_of_name pn_0) hisR ?_
  intro p e s m args below meth c s₁ Bd hml0 hP hK
  obtain ⟨rfl, hZ, hh⟩ := hP
  have hx := Bd.exec
  have hby := Bd.bytes
  have hlk : meth.locks = false := BodyLoose.notSynchronized Bd
  have hml : c.maxLocals = 10 := hml0
  have hown : s.vm.findClass "com/example/tidewatch/tidewatch/service/fit/BurstCycleStatesPinLaw" = some m.cls := findClass_of_methodNamed Bd.named
  have hnm := (name_of_methodNamed Bd.named Bd.method).1
  have X0 : Stand p l e room_1 s m #[(.int aa), (.int bb)] below meth c s₁ [] 0 0 := Stand.of_body Bd
  have e0 : s₁.heap = h0 := by rw [← hh, Bd.state]; rfl
  have N0 := Fr.nil n0
  show own_Go p e below (own_G s (Q0 Z aa bb h0 n0) 16 128) (s₁.setTop (entryFrame m #[(.int aa), (.int bb)] maxLocals))
  refine own_st (fun tgt k => castTop (ef_0 m aa bb) k) ?_
  show own_Go p e below _ (s₁.setTop (mkF m 0 #[.val (.int aa), .val (.int bb), .unset, .unset, .unset, .unset, .unset, .unset, .unset, .unset] []))
  refine own_st (V := s₁.setTop (mkF m 7 #[.val (.int aa), .val (.int bb), .val (.int ((aa &&& (268435455 : Int32)) + (1 : Int32))), .unset, .unset, .unset, .unset, .unset, .unset, .unset] [])) (fun tgt k => ?_) ?_
  · show Steps p.tables e below (s₁.setTop (mkF m 0 #[.val (.int aa), .val (.int bb), .unset, .unset, .unset, .unset, .unset, .unset, .unset, .unset] [])) tgt
    refine XS.iloadN X0.here hx rfl (hb hby at_0) rfl ?_
    show Steps p.tables e below (s₁.setTop (mkF m 1 #[.val (.int aa), .val (.int bb), .unset, .unset, .unset, .unset, .unset, .unset, .unset, .unset] [(.int aa)])) tgt
    refine X0.ldcInt hx hown (mvT hZ (hw _ (List.mem_of_getElem? (i := 0) rfl))) (g := (mkF m 1 #[.val (.int aa), .val (.int bb), .unset, .unset, .unset, .unset, .unset, .unset, .unset, .unset] [(.int aa)])) rfl (hb hby at_1) _ ?_
    show Steps p.tables e below (s₁.setTop (mkF m 3 #[.val (.int aa), .val (.int bb), .unset, .unset, .unset, .unset, .unset, .unset, .unset, .unset] [(.int (268435455 : Int32)), (.int aa)])) tgt
    refine XS.iand X0.here hx rfl (hb hby at_3) rfl ?_
    show Steps p.tables e below (s₁.setTop (mkF m 4 #[.val (.int aa), .val (.int bb), .unset, .unset, .unset, .unset, .unset, .unset, .unset, .unset] [(.int (aa &&& (268435455 : Int32)))])) tgt
    refine XS.iconst X0.here hx rfl (hb hby at_4) ?_
    show Steps p.tables e below (s₁.setTop (mkF m 5 #[.val (.int aa), .val (.int bb), .unset, .unset, .unset, .unset, .unset, .unset, .unset, .unset] [(.int (1 : Int32)), (.int (aa &&& (268435455 : Int32)))])) tgt
    refine XS.iadd X0.here hx rfl (hb hby at_5) rfl ?_
    show Steps p.tables e below (s₁.setTop (mkF m 6 #[.val (.int aa), .val (.int bb), .unset, .unset, .unset, .unset, .unset, .unset, .unset, .unset] [(.int ((aa &&& (268435455 : Int32)) + (1 : Int32)))])) tgt
    refine XS.istoreN X0.here hx rfl (hb hby at_6) rfl (l' := #[.val (.int aa), .val (.int bb), .val (.int ((aa &&& (268435455 : Int32)) + (1 : Int32))), .unset, .unset, .unset, .unset, .unset, .unset, .unset]) rfl ?_
    exact k
  obtain ⟨qv, hqv⟩ : ∃ z : Int32, z = ((aa &&& (268435455 : Int32)) + (1 : Int32)) := ⟨_, rfl⟩
  rw [← hqv]
  refine own_st (V := s₁.setTop (mkF m 14 #[.val (.int aa), .val (.int bb), .val (.int qv), .val (.int ((bb &&& (268435455 : Int32)) + (1 : Int32))), .unset, .unset, .unset, .unset, .unset, .unset] [])) (fun tgt k => ?_) ?_
  · show Steps p.tables e below (s₁.setTop (mkF m 7 #[.val (.int aa), .val (.int bb), .val (.int qv), .unset, .unset, .unset, .unset, .unset, .unset, .unset] [])) tgt
    refine XS.iloadN X0.here hx rfl (hb hby at_7) rfl ?_
    show Steps p.tables e below (s₁.setTop (mkF m 8 #[.val (.int aa), .val (.int bb), .val (.int qv), .unset, .unset, .unset, .unset, .unset, .unset, .unset] [(.int bb)])) tgt
    refine X0.ldcInt hx hown (mvT hZ (hw _ (List.mem_of_getElem? (i := 0) rfl))) (g := (mkF m 8 #[.val (.int aa), .val (.int bb), .val (.int qv), .unset, .unset, .unset, .unset, .unset, .unset, .unset] [(.int bb)])) rfl (hb hby at_8) _ ?_
    show Steps p.tables e below (s₁.setTop (mkF m 10 #[.val (.int aa), .val (.int bb), .val (.int qv), .unset, .unset, .unset, .unset, .unset, .unset, .unset] [(.int (268435455 : Int32)), (.int bb)])) tgt
    refine XS.iand X0.here hx rfl (hb hby at_10) rfl ?_
    show Steps p.tables e below (s₁.setTop (mkF m 11 #[.val (.int aa), .val (.int bb), .val (.int qv), .unset, .unset, .unset, .unset, .unset, .unset, .unset] [(.int (bb &&& (268435455 : Int32)))])) tgt
    refine XS.iconst X0.here hx rfl (hb hby at_11) ?_
    show Steps p.tables e below (s₁.setTop (mkF m 12 #[.val (.int aa), .val (.int bb), .val (.int qv), .unset, .unset, .unset, .unset, .unset, .unset, .unset] [(.int (1 : Int32)), (.int (bb &&& (268435455 : Int32)))])) tgt
    refine XS.iadd X0.here hx rfl (hb hby at_12) rfl ?_
    show Steps p.tables e below (s₁.setTop (mkF m 13 #[.val (.int aa), .val (.int bb), .val (.int qv), .unset, .unset, .unset, .unset, .unset, .unset, .unset] [(.int ((bb &&& (268435455 : Int32)) + (1 : Int32)))])) tgt
    refine XS.istoreN X0.here hx rfl (hb hby at_13) rfl (l' := #[.val (.int aa), .val (.int bb), .val (.int qv), .val (.int ((bb &&& (268435455 : Int32)) + (1 : Int32))), .unset, .unset, .unset, .unset, .unset, .unset]) rfl ?_
    exact k
  obtain ⟨bv, hbv⟩ : ∃ z : Int32, z = ((bb &&& (268435455 : Int32)) + (1 : Int32)) := ⟨_, rfl⟩
  rw [← hbv]
  obtain ⟨T1, h1, X1, e1, E1, A1, D1, -, st1⟩ := newO X0 hx hZ hown (hw _ (List.mem_of_getElem? (i := 1) rfl)) (hw _ (List.mem_of_getElem? (i := 2) rfl)) (hw _ (List.mem_of_getElem? (i := 3) rfl)) e0 (g := (mkF m 14 #[.val (.int aa), .val (.int bb), .val (.int qv), .val (.int bv), .unset, .unset, .unset, .unset, .unset, .unset] [])) rfl (hb hby at_14) (by decide) (by decide)
  obtain ⟨b1, g1⟩ : ∃ z, z = h0.size := ⟨_, rfl⟩
  rw [← g1] at A1 D1 st1
  have g_b1 : n0 ≤ b1 := Nat.le_trans Z0 (Nat.le_of_eq g1.symm)
  have Zs1 : n0 ≤ h1.size := Nat.le_trans Z0 E1.1
  have F_b1_quietPhases_1 : Fld Z h1 b1 "com/example/tidewatch/tidewatch/service/fit/BurstCycle" "quietPhases" "I" (.int (0 : Int32)) := D1 (Or.inr (hw _ (List.mem_of_getElem? (i := 14) rfl))) (ty := .int) (by decide)
  have F_b1_burstPhases_1 : Fld Z h1 b1 "com/example/tidewatch/tidewatch/service/fit/BurstCycle" "burstPhases" "I" (.int (0 : Int32)) := D1 (Or.inr (hw _ (List.mem_of_getElem? (i := 16) rfl))) (ty := .int) (by decide)
  have F_b1_clusters_1 : Fld Z h1 b1 "com/example/tidewatch/tidewatch/service/fit/BurstCycle" "clusters" "Z" (.int (0 : Int32)) := D1 (Or.inr (hw _ (List.mem_of_getElem? (i := 18) rfl))) (ty := .boolean) (by decide)
  have F_b1_freshClusters_1 : Fld Z h1 b1 "com/example/tidewatch/tidewatch/service/fit/BurstCycle" "freshClusters" "Z" (.int (0 : Int32)) := D1 (Or.inr (hw _ (List.mem_of_getElem? (i := 20) rfl))) (ty := .boolean) (by decide)
  refine own_st st1 ?_
  show own_Go p e below _ (T1.setTop (mkF m 17 #[.val (.int aa), .val (.int bb), .val (.int qv), .val (.int bv), .unset, .unset, .unset, .unset, .unset, .unset] [(.ref b1)]))
  refine own_st (V := T1.setTop (mkF m 21 #[.val (.int aa), .val (.int bb), .val (.int qv), .val (.int bv), .unset, .unset, .unset, .unset, .unset, .unset] [(.int (0 : Int32)), (.int bv), (.int qv), (.ref b1), (.ref b1)])) (fun tgt k => ?_) ?_
  · show Steps p.tables e below (T1.setTop (mkF m 17 #[.val (.int aa), .val (.int bb), .val (.int qv), .val (.int bv), .unset, .unset, .unset, .unset, .unset, .unset] [(.ref b1)])) tgt
    refine XS.dup X1.here hx rfl (hb hby at_17) rfl rfl ?_
    show Steps p.tables e below (T1.setTop (mkF m 18 #[.val (.int aa), .val (.int bb), .val (.int qv), .val (.int bv), .unset, .unset, .unset, .unset, .unset, .unset] [(.ref b1), (.ref b1)])) tgt
    refine XS.iloadN X1.here hx rfl (hb hby at_18) rfl ?_
    show Steps p.tables e below (T1.setTop (mkF m 19 #[.val (.int aa), .val (.int bb), .val (.int qv), .val (.int bv), .unset, .unset, .unset, .unset, .unset, .unset] [(.int qv), (.ref b1), (.ref b1)])) tgt
    refine XS.iloadN X1.here hx rfl (hb hby at_19) rfl ?_
    show Steps p.tables e below (T1.setTop (mkF m 20 #[.val (.int aa), .val (.int bb), .val (.int qv), .val (.int bv), .unset, .unset, .unset, .unset, .unset, .unset] [(.int bv), (.int qv), (.ref b1), (.ref b1)])) tgt
    refine XS.iconst X1.here hx rfl (hb hby at_20) ?_
    exact k
  obtain ⟨_, _, ⟨T2, L2, k2, n2⟩, -, X2, ⟨Lc2, hQ2, l2, y2, z2⟩, st2⟩ := X1.specialBack hx (y := (⟨"com/example/tidewatch/tidewatch/service/fit/BurstCycle", "<init>", "(IIZ)V"⟩ : MethodName)) rfl hown (mvT hZ (hw _ (List.mem_of_getElem? (i := 4) rfl))) (mvT hZ (hw _ (List.mem_of_getElem? (i := 5) rfl))) (mvT hZ (hw _ (List.mem_of_getElem? (i := 6) rfl))) (by decide) (backOf (W := 1) (rm1 l Z a0 hw [] b1 qv bv (0 : Int32) h1 n0 Zs1 F_b1_quietPhases_1 F_b1_burstPhases_1 F_b1_clusters_1 F_b1_freshClusters_1 A1 g_b1) hZ (hw _ (List.mem_of_getElem? (i := 6) rfl)) (hw _ (List.mem_of_getElem? (i := 3) rfl)) (by decide) (by decide)) (g := (mkF m 21 #[.val (.int aa), .val (.int bb), .val (.int qv), .val (.int bv), .unset, .unset, .unset, .unset, .unset, .unset] [(.int (0 : Int32)), (.int bv), (.int qv), (.ref b1), (.ref b1)])) rfl (by rw [hml]; rfl) (Steps.refl _) (a := b1) (argsL := [(.int qv), (.int bv), (.int (0 : Int32))]) (rest := [(.ref b1)]) (lenOf pd_0_0 rfl) rfl (by show 2 * 0 + _ ≤ _; exact Nat.le_of_eq rfl) (hb hby at_21) (fun _ _ => ⟨rfl, e1, (by decide : 1 + 0 ≤ _), (by decide : 4 + 0 ≤ _)⟩)
  dsimp only [Pt.U, Pt.locs, Pt.cells, Pt.slots] at X2 l2 y2 z2 st2 hQ2
  subst l2 y2 z2
  obtain ⟨rfl, N2q, K2, g2_0, g2_1, g2_2, g2_3⟩ := hQ2
  have N2 := Fr.app N0 N2q
  have E_b1_2 := A1.keep K2
  have Zs2 : n0 ≤ T2.heap.size := Nat.le_trans Zs1 K2.1
  refine own_st (fun tgt k => st2.trans k) ?_
  show own_Go p e below _ (T2.setTop (mkF m 24 #[.val (.int aa), .val (.int bb), .val (.int qv), .val (.int bv), .unset, .unset, .unset, .unset, .unset, .unset] [(.ref b1)]))
  refine own_st (V := T2.setTop (mkF m 26 #[.val (.int aa), .val (.int bb), .val (.int qv), .val (.int bv), .val (.ref b1), .unset, .unset, .unset, .unset, .unset] [])) (fun tgt k => ?_) ?_
  · show Steps p.tables e below (T2.setTop (mkF m 24 #[.val (.int aa), .val (.int bb), .val (.int qv), .val (.int bv), .unset, .unset, .unset, .unset, .unset, .unset] [(.ref b1)])) tgt
    refine XS.astore X2.here hx rfl (hb hby at_24) rfl rfl (l' := #[.val (.int aa), .val (.int bb), .val (.int qv), .val (.int bv), .val (.ref b1), .unset, .unset, .unset, .unset, .unset]) rfl ?_
    exact k
  obtain ⟨T3, h3, X3, e3, E3, A3, D3, -, st3⟩ := newO X2 hx hZ hown (hw _ (List.mem_of_getElem? (i := 1) rfl)) (hw _ (List.mem_of_getElem? (i := 2) rfl)) (hw _ (List.mem_of_getElem? (i := 3) rfl)) rfl (g := (mkF m 26 #[.val (.int aa), .val (.int bb), .val (.int qv), .val (.int bv), .val (.ref b1), .unset, .unset, .unset, .unset, .unset] [])) rfl (hb hby at_26) (by decide) (by decide)
  obtain ⟨b3, g3⟩ : ∃ z, z = T2.heap.size := ⟨_, rfl⟩
  rw [← g3] at A3 D3 st3
  have ne_b1_b3 : b1 ≠ b3 := Nat.ne_of_lt (Nat.lt_of_lt_of_le g2_0.lt (Nat.le_of_eq g3.symm))
  have E_b1_3 := g2_0.ext E3
  have F_b1_quietPhases_3 := g2_1.ext E3
  have F_b1_burstPhases_3 := g2_2.ext E3
  have F_b1_clusters_3 := g2_3.ext E3
  have g_b3 : n0 ≤ b3 := Nat.le_trans Zs2 (Nat.le_of_eq g3.symm)
  have Zs3 : n0 ≤ h3.size := Nat.le_trans Zs2 E3.1
  have F_b3_quietPhases_3 : Fld Z h3 b3 "com/example/tidewatch/tidewatch/service/fit/BurstCycle" "quietPhases" "I" (.int (0 : Int32)) := D3 (Or.inr (hw _ (List.mem_of_getElem? (i := 14) rfl))) (ty := .int) (by decide)
  have F_b3_burstPhases_3 : Fld Z h3 b3 "com/example/tidewatch/tidewatch/service/fit/BurstCycle" "burstPhases" "I" (.int (0 : Int32)) := D3 (Or.inr (hw _ (List.mem_of_getElem? (i := 16) rfl))) (ty := .int) (by decide)
  have F_b3_clusters_3 : Fld Z h3 b3 "com/example/tidewatch/tidewatch/service/fit/BurstCycle" "clusters" "Z" (.int (0 : Int32)) := D3 (Or.inr (hw _ (List.mem_of_getElem? (i := 18) rfl))) (ty := .boolean) (by decide)
  have F_b3_freshClusters_3 : Fld Z h3 b3 "com/example/tidewatch/tidewatch/service/fit/BurstCycle" "freshClusters" "Z" (.int (0 : Int32)) := D3 (Or.inr (hw _ (List.mem_of_getElem? (i := 20) rfl))) (ty := .boolean) (by decide)
  refine own_st st3 ?_
  show own_Go p e below _ (T3.setTop (mkF m 29 #[.val (.int aa), .val (.int bb), .val (.int qv), .val (.int bv), .val (.ref b1), .unset, .unset, .unset, .unset, .unset] [(.ref b3)]))
  refine own_st (V := T3.setTop (mkF m 33 #[.val (.int aa), .val (.int bb), .val (.int qv), .val (.int bv), .val (.ref b1), .unset, .unset, .unset, .unset, .unset] [(.int (1 : Int32)), (.int bv), (.int qv), (.ref b3), (.ref b3)])) (fun tgt k => ?_) ?_
  · show Steps p.tables e below (T3.setTop (mkF m 29 #[.val (.int aa), .val (.int bb), .val (.int qv), .val (.int bv), .val (.ref b1), .unset, .unset, .unset, .unset, .unset] [(.ref b3)])) tgt
    refine XS.dup X3.here hx rfl (hb hby at_29) rfl rfl ?_
    show Steps p.tables e below (T3.setTop (mkF m 30 #[.val (.int aa), .val (.int bb), .val (.int qv), .val (.int bv), .val (.ref b1), .unset, .unset, .unset, .unset, .unset] [(.ref b3), (.ref b3)])) tgt
    refine XS.iloadN X3.here hx rfl (hb hby at_30) rfl ?_
    show Steps p.tables e below (T3.setTop (mkF m 31 #[.val (.int aa), .val (.int bb), .val (.int qv), .val (.int bv), .val (.ref b1), .unset, .unset, .unset, .unset, .unset] [(.int qv), (.ref b3), (.ref b3)])) tgt
    refine XS.iloadN X3.here hx rfl (hb hby at_31) rfl ?_
    show Steps p.tables e below (T3.setTop (mkF m 32 #[.val (.int aa), .val (.int bb), .val (.int qv), .val (.int bv), .val (.ref b1), .unset, .unset, .unset, .unset, .unset] [(.int bv), (.int qv), (.ref b3), (.ref b3)])) tgt
    refine XS.iconst X3.here hx rfl (hb hby at_32) ?_
    exact k
  obtain ⟨_, _, ⟨T4, L4, k4, n4⟩, -, X4, ⟨Lc4, hQ4, l4, y4, z4⟩, st4⟩ := X3.specialBack hx (y := (⟨"com/example/tidewatch/tidewatch/service/fit/BurstCycle", "<init>", "(IIZ)V"⟩ : MethodName)) rfl hown (mvT hZ (hw _ (List.mem_of_getElem? (i := 4) rfl))) (mvT hZ (hw _ (List.mem_of_getElem? (i := 5) rfl))) (mvT hZ (hw _ (List.mem_of_getElem? (i := 6) rfl))) (by decide) (backOf (W := 1) (rm1 l Z a0 hw [] b3 qv bv (1 : Int32) h3 n0 Zs3 F_b3_quietPhases_3 F_b3_burstPhases_3 F_b3_clusters_3 F_b3_freshClusters_3 A3 g_b3) hZ (hw _ (List.mem_of_getElem? (i := 6) rfl)) (hw _ (List.mem_of_getElem? (i := 3) rfl)) (by decide) (by decide)) (g := (mkF m 33 #[.val (.int aa), .val (.int bb), .val (.int qv), .val (.int bv), .val (.ref b1), .unset, .unset, .unset, .unset, .unset] [(.int (1 : Int32)), (.int bv), (.int qv), (.ref b3), (.ref b3)])) rfl (by rw [hml]; rfl) (Steps.refl _) (a := b3) (argsL := [(.int qv), (.int bv), (.int (1 : Int32))]) (rest := [(.ref b3)]) (lenOf pd_0_0 rfl) rfl (by show 2 * 0 + _ ≤ _; exact Nat.le_of_eq rfl) (hb hby at_33) (fun _ _ => ⟨rfl, e3, (by decide : 2 + 0 ≤ _), (by decide : 8 + 0 ≤ _)⟩)
  dsimp only [Pt.U, Pt.locs, Pt.cells, Pt.slots] at X4 l4 y4 z4 st4 hQ4
  subst l4 y4 z4
  obtain ⟨rfl, N4q, K4, g4_0, g4_1, g4_2, g4_3⟩ := hQ4
  have N4 := Fr.app N2 N4q
  have E_b1_4 := E_b1_3.keep K4
  have F_b1_quietPhases_4 := F_b1_quietPhases_3.keep K4 (ninS ne_b1_b3 nin0)
  have F_b1_burstPhases_4 := F_b1_burstPhases_3.keep K4 (ninS ne_b1_b3 nin0)
  have F_b1_clusters_4 := F_b1_clusters_3.keep K4 (ninS ne_b1_b3 nin0)
  have E_b3_4 := A3.keep K4
  have Zs4 : n0 ≤ T4.heap.size := Nat.le_trans Zs3 K4.1
  refine own_st (fun tgt k => st4.trans k) ?_
  show own_Go p e below _ (T4.setTop (mkF m 36 #[.val (.int aa), .val (.int bb), .val (.int qv), .val (.int bv), .val (.ref b1), .unset, .unset, .unset, .unset, .unset] [(.ref b3)]))
  refine own_st (V := T4.setTop (mkF m 40 #[.val (.int aa), .val (.int bb), .val (.int qv), .val (.int bv), .val (.ref b1), .val (.ref b3), .unset, .unset, .unset, .unset] [(.ref b1)])) (fun tgt k => ?_) ?_
  · show Steps p.tables e below (T4.setTop (mkF m 36 #[.val (.int aa), .val (.int bb), .val (.int qv), .val (.int bv), .val (.ref b1), .unset, .unset, .unset, .unset, .unset] [(.ref b3)])) tgt
    refine XS.astore X4.here hx rfl (hb hby at_36) rfl rfl (l' := #[.val (.int aa), .val (.int bb), .val (.int qv), .val (.int bv), .val (.ref b1), .val (.ref b3), .unset, .unset, .unset, .unset]) rfl ?_
    show Steps p.tables e below (T4.setTop (mkF m 38 #[.val (.int aa), .val (.int bb), .val (.int qv), .val (.int bv), .val (.ref b1), .val (.ref b3), .unset, .unset, .unset, .unset] [])) tgt
    refine XS.aload X4.here hx rfl (hb hby at_38) rfl rfl ?_
    exact k
  obtain ⟨cq5, kq5, q5a, q5b, q5c⟩ := isOf hZ rfl E_b1_4
  obtain ⟨_, _, ⟨T5, L5, k5, n5⟩, -, X5, ⟨Lc5, hQ5, l5, y5, z5⟩, st5⟩ := X4.virtualBack hx (y := (⟨"com/example/tidewatch/tidewatch/service/fit/BurstCycle", "states", "()I"⟩ : MethodName)) (z := (⟨"com/example/tidewatch/tidewatch/service/fit/BurstCycle", "states", "()I"⟩ : MethodName)) hown (mvT hZ (hw _ (List.mem_of_getElem? (i := 21) rfl))) (mvT hZ (hw _ (List.mem_of_getElem? (i := 22) rfl))) (notFace_of_selects (args := #[]) (mvT hZ (hw _ (List.mem_of_getElem? (i := 24) rfl)))) (mvT hZ (hw _ (List.mem_of_getElem? (i := 24) rfl))) (mvT hZ (hw _ (List.mem_of_getElem? (i := 23) rfl))) (by decide) (backOf (W := 0) (rm4 l Z a0 hw [] b1 qv bv (nar .boolean (0 : Int32)) T4.heap n0 Zs4 F_b1_quietPhases_4 F_b1_burstPhases_4 F_b1_clusters_4) hZ (hw _ (List.mem_of_getElem? (i := 25) rfl)) (hw _ (List.mem_of_getElem? (i := 3) rfl)) (by decide) (by decide)) q5a q5c (g := (mkF m 40 #[.val (.int aa), .val (.int bb), .val (.int qv), .val (.int bv), .val (.ref b1), .val (.ref b3), .unset, .unset, .unset, .unset] [(.ref b1)])) rfl (by rw [hml]; rfl) (Steps.refl _) (argsL := []) (rest := []) (lenOf pd_0_1 rfl) rfl (by show 2 * 0 + _ ≤ _; exact Nat.le_of_eq rfl) (hb hby at_40) (fun _ _ => ⟨rfl, rfl, (by decide : 2 + 0 ≤ _), (by decide : 8 + 0 ≤ _)⟩)
  dsimp only [Pt.U, Pt.locs, Pt.cells, Pt.slots] at X5 l5 y5 z5 st5 hQ5
  subst l5 y5 z5
  obtain ⟨rfl, N5q, K5⟩ := hQ5
  have N5 := Fr.app N4 N5q
  refine own_st (fun tgt k => st5.trans k) ?_
  show own_Go p e below _ (T5.setTop (mkF m 43 #[.val (.int aa), .val (.int bb), .val (.int qv), .val (.int bv), .val (.ref b1), .val (.ref b3), .unset, .unset, .unset, .unset] [(.int ((qv + bv) * (if (nar .boolean (0 : Int32)) = 0 then 1 else 2)))]))
  refine own_st (V := T5.setTop (mkF m 47 #[.val (.int aa), .val (.int bb), .val (.int qv), .val (.int bv), .val (.ref b1), .val (.ref b3), .val (.int ((qv + bv) * (if (nar .boolean (0 : Int32)) = 0 then 1 else 2))), .unset, .unset, .unset] [(.ref b3)])) (fun tgt k => ?_) ?_
  · show Steps p.tables e below (T5.setTop (mkF m 43 #[.val (.int aa), .val (.int bb), .val (.int qv), .val (.int bv), .val (.ref b1), .val (.ref b3), .unset, .unset, .unset, .unset] [(.int ((qv + bv) * (if (nar .boolean (0 : Int32)) = 0 then 1 else 2)))])) tgt
    refine XS.istore X5.here hx rfl (hb hby at_43) rfl (l' := #[.val (.int aa), .val (.int bb), .val (.int qv), .val (.int bv), .val (.ref b1), .val (.ref b3), .val (.int ((qv + bv) * (if (nar .boolean (0 : Int32)) = 0 then 1 else 2))), .unset, .unset, .unset]) rfl ?_
    show Steps p.tables e below (T5.setTop (mkF m 45 #[.val (.int aa), .val (.int bb), .val (.int qv), .val (.int bv), .val (.ref b1), .val (.ref b3), .val (.int ((qv + bv) * (if (nar .boolean (0 : Int32)) = 0 then 1 else 2))), .unset, .unset, .unset] [])) tgt
    refine XS.aload X5.here hx rfl (hb hby at_45) rfl rfl ?_
    exact k
  obtain ⟨cq6, kq6, q6a, q6b, q6c⟩ := isOf hZ K5 g4_0
  obtain ⟨_, _, ⟨T6, L6, k6, n6⟩, -, X6, ⟨Lc6, hQ6, l6, y6, z6⟩, st6⟩ := X5.virtualBack hx (y := (⟨"com/example/tidewatch/tidewatch/service/fit/BurstCycle", "states", "()I"⟩ : MethodName)) (z := (⟨"com/example/tidewatch/tidewatch/service/fit/BurstCycle", "states", "()I"⟩ : MethodName)) hown (mvT hZ (hw _ (List.mem_of_getElem? (i := 21) rfl))) (mvT hZ (hw _ (List.mem_of_getElem? (i := 22) rfl))) (notFace_of_selects (args := #[]) (mvT hZ (hw _ (List.mem_of_getElem? (i := 24) rfl)))) (mvT hZ (hw _ (List.mem_of_getElem? (i := 24) rfl))) (mvT hZ (hw _ (List.mem_of_getElem? (i := 23) rfl))) (by decide) (backOf (W := 0) (rm4 l Z a0 hw [] b3 qv bv (nar .boolean (1 : Int32)) T4.heap n0 Zs4 g4_1 g4_2 g4_3) hZ (hw _ (List.mem_of_getElem? (i := 25) rfl)) (hw _ (List.mem_of_getElem? (i := 3) rfl)) (by decide) (by decide)) q6a q6c (g := (mkF m 47 #[.val (.int aa), .val (.int bb), .val (.int qv), .val (.int bv), .val (.ref b1), .val (.ref b3), .val (.int ((qv + bv) * (if (nar .boolean (0 : Int32)) = 0 then 1 else 2))), .unset, .unset, .unset] [(.ref b3)])) rfl (by rw [hml]; rfl) (Steps.refl _) (argsL := []) (rest := []) (lenOf pd_0_1 rfl) rfl (by show 2 * 0 + _ ≤ _; exact Nat.le_of_eq rfl) (hb hby at_47) (fun _ _ => ⟨rfl, K5, (by decide : 2 + 0 ≤ _), (by decide : 8 + 0 ≤ _)⟩)
  dsimp only [Pt.U, Pt.locs, Pt.cells, Pt.slots] at X6 l6 y6 z6 st6 hQ6
  subst l6 y6 z6
  obtain ⟨rfl, N6q, K6⟩ := hQ6
  have N6 := Fr.app N5 N6q
  refine own_st (fun tgt k => st6.trans k) ?_
  show own_Go p e below _ (T6.setTop (mkF m 50 #[.val (.int aa), .val (.int bb), .val (.int qv), .val (.int bv), .val (.ref b1), .val (.ref b3), .val (.int ((qv + bv) * (if (nar .boolean (0 : Int32)) = 0 then 1 else 2))), .unset, .unset, .unset] [(.int ((qv + bv) * (if (nar .boolean (1 : Int32)) = 0 then 1 else 2)))]))
  refine own_st (V := T6.setTop (mkF m 98 #[.val (.int aa), .val (.int bb), .val (.int qv), .val (.int bv), .val (.ref b1), .val (.ref b3), .val (.int ((qv + bv) * (if (nar .boolean (0 : Int32)) = 0 then 1 else 2))), .val (.int ((qv + bv) * (if (nar .boolean (1 : Int32)) = 0 then 1 else 2))), .val (.int (1 : Int32)), .val (.int (1 : Int32))] [(.int (1 : Int32))])) (fun tgt k => ?_) ?_
  · show Steps p.tables e below (T6.setTop (mkF m 50 #[.val (.int aa), .val (.int bb), .val (.int qv), .val (.int bv), .val (.ref b1), .val (.ref b3), .val (.int ((qv + bv) * (if (nar .boolean (0 : Int32)) = 0 then 1 else 2))), .unset, .unset, .unset] [(.int ((qv + bv) * (if (nar .boolean (1 : Int32)) = 0 then 1 else 2)))])) tgt
    refine XS.istore X6.here hx rfl (hb hby at_50) rfl (l' := #[.val (.int aa), .val (.int bb), .val (.int qv), .val (.int bv), .val (.ref b1), .val (.ref b3), .val (.int ((qv + bv) * (if (nar .boolean (0 : Int32)) = 0 then 1 else 2))), .val (.int ((qv + bv) * (if (nar .boolean (1 : Int32)) = 0 then 1 else 2))), .unset, .unset]) rfl ?_
    show Steps p.tables e below (T6.setTop (mkF m 52 #[.val (.int aa), .val (.int bb), .val (.int qv), .val (.int bv), .val (.ref b1), .val (.ref b3), .val (.int ((qv + bv) * (if (nar .boolean (0 : Int32)) = 0 then 1 else 2))), .val (.int ((qv + bv) * (if (nar .boolean (1 : Int32)) = 0 then 1 else 2))), .unset, .unset] [])) tgt
    refine XS.iload X6.here hx rfl (hb hby at_52) rfl ?_
    show Steps p.tables e below (T6.setTop (mkF m 54 #[.val (.int aa), .val (.int bb), .val (.int qv), .val (.int bv), .val (.ref b1), .val (.ref b3), .val (.int ((qv + bv) * (if (nar .boolean (0 : Int32)) = 0 then 1 else 2))), .val (.int ((qv + bv) * (if (nar .boolean (1 : Int32)) = 0 then 1 else 2))), .unset, .unset] [(.int ((qv + bv) * (if (nar .boolean (0 : Int32)) = 0 then 1 else 2)))])) tgt
    refine XS.iloadN X6.here hx rfl (hb hby at_54) rfl ?_
    show Steps p.tables e below (T6.setTop (mkF m 55 #[.val (.int aa), .val (.int bb), .val (.int qv), .val (.int bv), .val (.ref b1), .val (.ref b3), .val (.int ((qv + bv) * (if (nar .boolean (0 : Int32)) = 0 then 1 else 2))), .val (.int ((qv + bv) * (if (nar .boolean (1 : Int32)) = 0 then 1 else 2))), .unset, .unset] [(.int qv), (.int ((qv + bv) * (if (nar .boolean (0 : Int32)) = 0 then 1 else 2)))])) tgt
    refine XS.iloadN X6.here hx rfl (hb hby at_55) rfl ?_
    show Steps p.tables e below (T6.setTop (mkF m 56 #[.val (.int aa), .val (.int bb), .val (.int qv), .val (.int bv), .val (.ref b1), .val (.ref b3), .val (.int ((qv + bv) * (if (nar .boolean (0 : Int32)) = 0 then 1 else 2))), .val (.int ((qv + bv) * (if (nar .boolean (1 : Int32)) = 0 then 1 else 2))), .unset, .unset] [(.int bv), (.int qv), (.int ((qv + bv) * (if (nar .boolean (0 : Int32)) = 0 then 1 else 2)))])) tgt
    refine XS.iadd X6.here hx rfl (hb hby at_56) rfl ?_
    show Steps p.tables e below (T6.setTop (mkF m 57 #[.val (.int aa), .val (.int bb), .val (.int qv), .val (.int bv), .val (.ref b1), .val (.ref b3), .val (.int ((qv + bv) * (if (nar .boolean (0 : Int32)) = 0 then 1 else 2))), .val (.int ((qv + bv) * (if (nar .boolean (1 : Int32)) = 0 then 1 else 2))), .unset, .unset] [(.int (qv + bv)), (.int ((qv + bv) * (if (nar .boolean (0 : Int32)) = 0 then 1 else 2)))])) tgt
    refine XS.icmpNo X6.here hx rfl (hb hby at_57) rfl (teq (by simp [nar])).2 ?_
    show Steps p.tables e below (T6.setTop (mkF m 60 #[.val (.int aa), .val (.int bb), .val (.int qv), .val (.int bv), .val (.ref b1), .val (.ref b3), .val (.int ((qv + bv) * (if (nar .boolean (0 : Int32)) = 0 then 1 else 2))), .val (.int ((qv + bv) * (if (nar .boolean (1 : Int32)) = 0 then 1 else 2))), .unset, .unset] [])) tgt
    refine XS.iconst X6.here hx rfl (hb hby at_60) ?_
    show Steps p.tables e below (T6.setTop (mkF m 61 #[.val (.int aa), .val (.int bb), .val (.int qv), .val (.int bv), .val (.ref b1), .val (.ref b3), .val (.int ((qv + bv) * (if (nar .boolean (0 : Int32)) = 0 then 1 else 2))), .val (.int ((qv + bv) * (if (nar .boolean (1 : Int32)) = 0 then 1 else 2))), .unset, .unset] [(.int (1 : Int32))])) tgt
    refine XS.goto X6.here hx rfl (pc0 := 61) (pc' := 65) rfl (hb hby at_61) (by decide) (by decide) ?_
    show Steps p.tables e below (T6.setTop (mkF m 65 #[.val (.int aa), .val (.int bb), .val (.int qv), .val (.int bv), .val (.ref b1), .val (.ref b3), .val (.int ((qv + bv) * (if (nar .boolean (0 : Int32)) = 0 then 1 else 2))), .val (.int ((qv + bv) * (if (nar .boolean (1 : Int32)) = 0 then 1 else 2))), .unset, .unset] [(.int (1 : Int32))])) tgt
    refine XS.istore X6.here hx rfl (hb hby at_65) rfl (l' := #[.val (.int aa), .val (.int bb), .val (.int qv), .val (.int bv), .val (.ref b1), .val (.ref b3), .val (.int ((qv + bv) * (if (nar .boolean (0 : Int32)) = 0 then 1 else 2))), .val (.int ((qv + bv) * (if (nar .boolean (1 : Int32)) = 0 then 1 else 2))), .val (.int (1 : Int32)), .unset]) rfl ?_
    show Steps p.tables e below (T6.setTop (mkF m 67 #[.val (.int aa), .val (.int bb), .val (.int qv), .val (.int bv), .val (.ref b1), .val (.ref b3), .val (.int ((qv + bv) * (if (nar .boolean (0 : Int32)) = 0 then 1 else 2))), .val (.int ((qv + bv) * (if (nar .boolean (1 : Int32)) = 0 then 1 else 2))), .val (.int (1 : Int32)), .unset] [])) tgt
    refine XS.iload X6.here hx rfl (hb hby at_67) rfl ?_
    show Steps p.tables e below (T6.setTop (mkF m 69 #[.val (.int aa), .val (.int bb), .val (.int qv), .val (.int bv), .val (.ref b1), .val (.ref b3), .val (.int ((qv + bv) * (if (nar .boolean (0 : Int32)) = 0 then 1 else 2))), .val (.int ((qv + bv) * (if (nar .boolean (1 : Int32)) = 0 then 1 else 2))), .val (.int (1 : Int32)), .unset] [(.int ((qv + bv) * (if (nar .boolean (1 : Int32)) = 0 then 1 else 2)))])) tgt
    refine XS.iconst X6.here hx rfl (hb hby at_69) ?_
    show Steps p.tables e below (T6.setTop (mkF m 70 #[.val (.int aa), .val (.int bb), .val (.int qv), .val (.int bv), .val (.ref b1), .val (.ref b3), .val (.int ((qv + bv) * (if (nar .boolean (0 : Int32)) = 0 then 1 else 2))), .val (.int ((qv + bv) * (if (nar .boolean (1 : Int32)) = 0 then 1 else 2))), .val (.int (1 : Int32)), .unset] [(.int (2 : Int32)), (.int ((qv + bv) * (if (nar .boolean (1 : Int32)) = 0 then 1 else 2)))])) tgt
    refine XS.iload X6.here hx rfl (hb hby at_70) rfl ?_
    show Steps p.tables e below (T6.setTop (mkF m 72 #[.val (.int aa), .val (.int bb), .val (.int qv), .val (.int bv), .val (.ref b1), .val (.ref b3), .val (.int ((qv + bv) * (if (nar .boolean (0 : Int32)) = 0 then 1 else 2))), .val (.int ((qv + bv) * (if (nar .boolean (1 : Int32)) = 0 then 1 else 2))), .val (.int (1 : Int32)), .unset] [(.int ((qv + bv) * (if (nar .boolean (0 : Int32)) = 0 then 1 else 2))), (.int (2 : Int32)), (.int ((qv + bv) * (if (nar .boolean (1 : Int32)) = 0 then 1 else 2)))])) tgt
    refine XS.imul X6.here hx rfl (hb hby at_72) rfl ?_
    show Steps p.tables e below (T6.setTop (mkF m 73 #[.val (.int aa), .val (.int bb), .val (.int qv), .val (.int bv), .val (.ref b1), .val (.ref b3), .val (.int ((qv + bv) * (if (nar .boolean (0 : Int32)) = 0 then 1 else 2))), .val (.int ((qv + bv) * (if (nar .boolean (1 : Int32)) = 0 then 1 else 2))), .val (.int (1 : Int32)), .unset] [(.int ((2 : Int32) * ((qv + bv) * (if (nar .boolean (0 : Int32)) = 0 then 1 else 2)))), (.int ((qv + bv) * (if (nar .boolean (1 : Int32)) = 0 then 1 else 2)))])) tgt
    refine XS.icmpNo X6.here hx rfl (hb hby at_73) rfl (teq (by simp [nar, Int32.mul_comm])).2 ?_
    show Steps p.tables e below (T6.setTop (mkF m 76 #[.val (.int aa), .val (.int bb), .val (.int qv), .val (.int bv), .val (.ref b1), .val (.ref b3), .val (.int ((qv + bv) * (if (nar .boolean (0 : Int32)) = 0 then 1 else 2))), .val (.int ((qv + bv) * (if (nar .boolean (1 : Int32)) = 0 then 1 else 2))), .val (.int (1 : Int32)), .unset] [])) tgt
    refine XS.iconst X6.here hx rfl (hb hby at_76) ?_
    show Steps p.tables e below (T6.setTop (mkF m 77 #[.val (.int aa), .val (.int bb), .val (.int qv), .val (.int bv), .val (.ref b1), .val (.ref b3), .val (.int ((qv + bv) * (if (nar .boolean (0 : Int32)) = 0 then 1 else 2))), .val (.int ((qv + bv) * (if (nar .boolean (1 : Int32)) = 0 then 1 else 2))), .val (.int (1 : Int32)), .unset] [(.int (1 : Int32))])) tgt
    refine XS.goto X6.here hx rfl (pc0 := 77) (pc' := 81) rfl (hb hby at_77) (by decide) (by decide) ?_
    show Steps p.tables e below (T6.setTop (mkF m 81 #[.val (.int aa), .val (.int bb), .val (.int qv), .val (.int bv), .val (.ref b1), .val (.ref b3), .val (.int ((qv + bv) * (if (nar .boolean (0 : Int32)) = 0 then 1 else 2))), .val (.int ((qv + bv) * (if (nar .boolean (1 : Int32)) = 0 then 1 else 2))), .val (.int (1 : Int32)), .unset] [(.int (1 : Int32))])) tgt
    refine XS.istore X6.here hx rfl (hb hby at_81) rfl (l' := #[.val (.int aa), .val (.int bb), .val (.int qv), .val (.int bv), .val (.ref b1), .val (.ref b3), .val (.int ((qv + bv) * (if (nar .boolean (0 : Int32)) = 0 then 1 else 2))), .val (.int ((qv + bv) * (if (nar .boolean (1 : Int32)) = 0 then 1 else 2))), .val (.int (1 : Int32)), .val (.int (1 : Int32))]) rfl ?_
    show Steps p.tables e below (T6.setTop (mkF m 83 #[.val (.int aa), .val (.int bb), .val (.int qv), .val (.int bv), .val (.ref b1), .val (.ref b3), .val (.int ((qv + bv) * (if (nar .boolean (0 : Int32)) = 0 then 1 else 2))), .val (.int ((qv + bv) * (if (nar .boolean (1 : Int32)) = 0 then 1 else 2))), .val (.int (1 : Int32)), .val (.int (1 : Int32))] [])) tgt
    refine XS.iload X6.here hx rfl (hb hby at_83) rfl ?_
    show Steps p.tables e below (T6.setTop (mkF m 85 #[.val (.int aa), .val (.int bb), .val (.int qv), .val (.int bv), .val (.ref b1), .val (.ref b3), .val (.int ((qv + bv) * (if (nar .boolean (0 : Int32)) = 0 then 1 else 2))), .val (.int ((qv + bv) * (if (nar .boolean (1 : Int32)) = 0 then 1 else 2))), .val (.int (1 : Int32)), .val (.int (1 : Int32))] [(.int (1 : Int32))])) tgt
    refine XS.ifNo X6.here hx rfl (hb hby at_85) rfl ((if0 _ _).trans (feq (by decide : ¬ ((1 : Int32) = (0 : Int32)))).1) ?_
    show Steps p.tables e below (T6.setTop (mkF m 88 #[.val (.int aa), .val (.int bb), .val (.int qv), .val (.int bv), .val (.ref b1), .val (.ref b3), .val (.int ((qv + bv) * (if (nar .boolean (0 : Int32)) = 0 then 1 else 2))), .val (.int ((qv + bv) * (if (nar .boolean (1 : Int32)) = 0 then 1 else 2))), .val (.int (1 : Int32)), .val (.int (1 : Int32))] [])) tgt
    refine XS.iload X6.here hx rfl (hb hby at_88) rfl ?_
    show Steps p.tables e below (T6.setTop (mkF m 90 #[.val (.int aa), .val (.int bb), .val (.int qv), .val (.int bv), .val (.ref b1), .val (.ref b3), .val (.int ((qv + bv) * (if (nar .boolean (0 : Int32)) = 0 then 1 else 2))), .val (.int ((qv + bv) * (if (nar .boolean (1 : Int32)) = 0 then 1 else 2))), .val (.int (1 : Int32)), .val (.int (1 : Int32))] [(.int (1 : Int32))])) tgt
    refine XS.ifNo X6.here hx rfl (hb hby at_90) rfl ((if0 _ _).trans (feq (by decide : ¬ ((1 : Int32) = (0 : Int32)))).1) ?_
    show Steps p.tables e below (T6.setTop (mkF m 93 #[.val (.int aa), .val (.int bb), .val (.int qv), .val (.int bv), .val (.ref b1), .val (.ref b3), .val (.int ((qv + bv) * (if (nar .boolean (0 : Int32)) = 0 then 1 else 2))), .val (.int ((qv + bv) * (if (nar .boolean (1 : Int32)) = 0 then 1 else 2))), .val (.int (1 : Int32)), .val (.int (1 : Int32))] [])) tgt
    refine XS.iconst X6.here hx rfl (hb hby at_93) ?_
    show Steps p.tables e below (T6.setTop (mkF m 94 #[.val (.int aa), .val (.int bb), .val (.int qv), .val (.int bv), .val (.ref b1), .val (.ref b3), .val (.int ((qv + bv) * (if (nar .boolean (0 : Int32)) = 0 then 1 else 2))), .val (.int ((qv + bv) * (if (nar .boolean (1 : Int32)) = 0 then 1 else 2))), .val (.int (1 : Int32)), .val (.int (1 : Int32))] [(.int (1 : Int32))])) tgt
    refine XS.goto X6.here hx rfl (pc0 := 94) (pc' := 98) rfl (hb hby at_94) (by decide) (by decide) ?_
    exact k
  refine own_retN X6 hx hlk (t := .boolean) (z' := (1 : Int32)) Bd.returns (by simp) rfl (hb hby at_98) ?_ (by decide) (by decide)
  show Q0 Z aa bb h0 n0 (some (.int (1 : Int32))) T6.heap _
  rw [K6]
  exact ⟨rfl, N6⟩
set_option maxRecDepth 65536 in
set_option maxHeartbeats 40000000 in
theorem comes_1 {Post : Tables → Env → Array Value → State → Outcome → State → Prop} (hpost : ∀ tb e args s v u, (limb_1_1.after args s (.returned v) u = true ∧ limb_1_2.after args s (.returned v) u = true ∧ True) → FrameEnd s (.returned v) u (Jvm.fieldLocs frame_1_writes args s ++ Jvm.arrayLocs frame_1_arrays args s ++ Jvm.staticLocs frame_1_statics s) 16 128 → Post tb e args s (.returned v) u) :
    ArmFor flags0 classFile x code maxLocals ret World_1 tables_1 room_1 Calls_1 rest_1 Pre_1 Post := by
  intro l hfl _ _ p e ha hc hk s m args below hf hA hF happ hP
  obtain ⟨hcalls, hrest, hpre⟩ := hP
  obtain ⟨-, -, -, hnamed, -, -, -, hat⟩ := (Spec.applies_iff hf).mp happ
  obtain ⟨hg, hn⟩ := and_e (Cond.before_iff.mp (show (Jvm.Cond.and given_1 narrow_1).before args s = true from hpre))
  obtain ⟨hcount, g0⟩ := and_e hg
  obtain ⟨a0, g1⟩ := and_e g0
  have a1 := g1
  obtain ⟨w0, w1, rfl⟩ : ∃ w0 w1 : Value, args = #[w0, w1] := by
    have hs : args.size = 2 := by simpa [Cond.value, given_1] using hcount
    obtain ⟨L⟩ := args
    match L, hs with
    | [w0, w1], _ => exact ⟨w0, w1, rfl⟩
  have hw := fun d (hd : d ∈ tables_1) => atoms_spec (ws := Jvm.Cond.code x code maxLocals ret :: tables_1) hat d (List.mem_cons_of_mem _ hd)
  obtain ⟨i0, ei0⟩ := is_v a0
  obtain rfl : w0 = (.int i0) := Option.some.inj ei0
  obtain ⟨i1, ei1⟩ := is_v a1
  obtain rfl : w1 = (.int i1) := Option.some.inj ei1
  obtain ⟨n, o, h1, h2, h3, _, L, rfl, ⟨rfl, N⟩, hq⟩ := rm0 l s _ hw tables_1 i0 i1 s.heap s.heap.size (Nat.le_refl _) p e ha hc hk s m _ below hf ((Spec.applies_iff_loose hf).mp happ).1 ⟨rfl, State.Warmed39.refl s, rfl⟩ trivial
  refine ⟨n, _, h1, h2, h3, hpost _ _ _ _ _ _ ⟨Cond.after_iff.mpr rfl, Cond.after_iff.mpr (eq_i res_at (Term.int_eval (1)) rfl), trivial⟩ ⟨hq.1, hq.2.1, (hq.2.2.sift fun y hy => Or.inr (N y hy)).mono (by decide) (by decide)⟩⟩
theorem main_1_1 : Claimed_1_1 := comes_1 fun _ _ _ _ _ _ h hF => ⟨h.1, hF⟩
theorem main_1_2 : Claimed_1_2 := comes_1 fun _ _ _ _ _ _ h hF => ⟨h.2.1, hF⟩
end Jvm.Pilot.@@N@@
namespace Jvm.Pilot.@@N@@
open Jvm Jvm.ClassFile Sem Op Lib Jvm.Free Jvm.Stand Jvm.Pilot.@@N@@.Jvm.D
/-! MADE BY PROGRAM (witnessworld.py) out of the Statement's table words and the real class files: 10 classes; the members and pool entries that the words name. The judged class is class 1, her method 1. -/
namespace start1
open Jvm.ClassFile
def u (s : String) : CpInfo := .utf8 (stringToUtf16 s)
/-- a pool by its gaps: so many unusable entries, then the entry; so many at the end -/
def gap : Nat → List CpInfo → List CpInfo
  | 0, r => r
  | n + 1, r => .unusable :: gap n r
def poolList (es : List (Nat × CpInfo)) (last : Nat) : List CpInfo := es.foldr (fun e r => gap e.1 (e.2 :: r)) (gap last [])
def pool (es : List (Nat × CpInfo)) (last : Nat) : Array CpInfo := ⟨poolList es last⟩
def fileOf (pool : Array CpInfo) (this : Nat) (attrs : Array Attribute := #[]) (ms : Array MethodInfo := #[]) (fl : Nat := 33) (sup : Nat := 0) (ifs : Array Nat := #[]) (fds : Array FieldInfo := #[]) : ClassFile where
  minorVersion := 0
  majorVersion := 65
  constantPool := pool
  accessFlags := fl
  thisClass := this
  superClass := sup
  interfaces := ifs
  fields := fds
  methods := ms
  attributes := attrs
def plain (name : String) (sup : Option ClassId) : Class where
  name := name
  kind := .ordinary
  loader := none
  accessFlags := 33
  super := sup
  interfaces := #[]
  cf := none
  fields := #[]
  methods := #[]
  instanceTypes := #[]
  staticTypes := #[]
  resolved := #[]
  callSites := []
  init := .initialized
  statics := none
  mirror := none

def pool0 : Array CpInfo := pool [(5, u "<init>"), (0, u "()V"), (1, .class_ 10), (1, u "java/lang/Object")] 113

def k0c0 : Code := { maxStack := 0, maxLocals := 1, code := object_method_1_code, exceptionTable := #[], attributes := #[] }
def k0m0 : Method := { name := "<init>", desc := "()V", sig := { parameters := [], returnType := none }, accessFlags := 1, code := some k0c0 }
/-- java/lang/Object -/
def k0 : Class := { plain "java/lang/Object" none with
  accessFlags := 33
  interfaces := #[]
  cf := some (fileOf pool0 8 #[] #[{ accessFlags := 1, nameIndex := 5, descriptorIndex := 6, attributes := #[] }] 33 0 #[] #[])
  fields := #[]
  methods := #[k0m0]
  instanceTypes := #[]
  staticTypes := #[]
  resolved := Array.replicate 124 none
  statics := none }

def pool1 : Array CpInfo := pool [(2, .class_ 4), (1, u "java/lang/Object"), (0, u "<init>"), (0, u "()V"), (0, .integer 268435455), (0, .class_ 9), (0, u "com/example/tidewatch/tidewatch/service/fit/BurstCycle"), (0, .methodref 8 11), (0, .nameAndType 5 12), (0, u "(IIZ)V"), (0, .methodref 8 14), (0, .nameAndType 15 16), (0, u "states"), (0, u "()I"), (0, .class_ 18), (0, u "com/example/tidewatch/tidewatch/service/fit/BurstCycleStatesPinLaw"), (2, u "law"), (0, u "(II)Z")] 3

def k1m0 : Method := { name := "<init>", desc := "()V", sig := { parameters := [], returnType := none }, accessFlags := 2, code := none }
def k1c1 : Code := { maxStack := 5, maxLocals := 10, code := code, exceptionTable := #[], attributes := #[] }
def k1m1 : Method := { name := "law", desc := "(II)Z", sig := { parameters := [.int, .int], returnType := some .boolean }, accessFlags := 9, code := some k1c1 }
/-- com/example/tidewatch/tidewatch/service/fit/BurstCycleStatesPinLaw -/
def k1 : Class := { plain "com/example/tidewatch/tidewatch/service/fit/BurstCycleStatesPinLaw" (some 0) with
  accessFlags := 49
  interfaces := #[]
  cf := some (fileOf pool1 17 #[] #[{ accessFlags := 2, nameIndex := 5, descriptorIndex := 6, attributes := #[] }, { accessFlags := 9, nameIndex := 21, descriptorIndex := 22, attributes := #[] }] 49 2 #[] #[])
  fields := #[]
  methods := #[k1m0, k1m1]
  instanceTypes := #[]
  staticTypes := #[]
  resolved := Array.replicate 26 none
  statics := none }

def pool2 : Array CpInfo := pool [(7, .class_ 8), (0, u "com/example/tidewatch/tidewatch/service/fit/MapShape"), (0, .class_ 10), (0, u "java/lang/Object")] 17

/-- com/example/tidewatch/tidewatch/service/fit/MapShape -/
def k2 : Class := { plain "com/example/tidewatch/tidewatch/service/fit/MapShape" (some 0) with
  accessFlags := 1536
  interfaces := #[]
  cf := some (fileOf pool2 7 #[] #[] 1536 9 #[] #[])
  fields := #[]
  methods := #[]
  instanceTypes := #[]
  staticTypes := #[]
  resolved := Array.replicate 28 none
  statics := none }

def pool3 : Array CpInfo := pool [(3, .methodref 4 5), (0, .class_ 6), (0, .nameAndType 7 8), (0, u "com/example/tidewatch/tidewatch/service/fit/BurstCycle"), (0, u "<init>"), (0, u "(IIZZ)V"), (0, .methodref 10 11), (0, .class_ 12), (0, .nameAndType 7 13), (0, u "java/lang/Object"), (0, u "()V"), (0, .fieldref 4 15), (0, .nameAndType 16 17), (0, u "quietPhases"), (0, u "I"), (0, .fieldref 4 19), (0, .nameAndType 20 17), (0, u "burstPhases"), (0, .fieldref 4 22), (0, .nameAndType 23 24), (0, u "clusters"), (0, u "Z"), (0, .fieldref 4 26), (0, .nameAndType 27 24), (0, u "freshClusters"), (5, u "()I"), (8, u "states"), (82, .class_ 126), (0, u "com/example/tidewatch/tidewatch/service/fit/MapShape"), (0, u "LOG_SPAN"), (0, u "D"), (1, u "SPELL_PARAMETERS"), (1, u "CLUSTER_PARAMETERS"), (1, u "SLOWER_ROUND"), (0, u "(IIZ)V")] 17

def k3c0 : Code := { maxStack := 5, maxLocals := 4, code := prog_126_method_1_code, exceptionTable := #[], attributes := #[] }
def k3m0 : Method := { name := "<init>", desc := "(IIZ)V", sig := { parameters := [.int, .int, .boolean], returnType := none }, accessFlags := 0, code := some k3c0 }
def k3c1 : Code := { maxStack := 2, maxLocals := 5, code := prog_126_method_2_code, exceptionTable := #[], attributes := #[] }
def k3m1 : Method := { name := "<init>", desc := "(IIZZ)V", sig := { parameters := [.int, .int, .boolean, .boolean], returnType := none }, accessFlags := 2, code := some k3c1 }
def k3c2 : Code := { maxStack := 2, maxLocals := 1, code := prog_126_method_4_code, exceptionTable := #[], attributes := #[] }
def k3m2 : Method := { name := "states", desc := "()I", sig := { parameters := [], returnType := some .int }, accessFlags := 1, code := some k3c2 }
/-- com/example/tidewatch/tidewatch/service/fit/BurstCycle -/
def k3 : Class := { plain "com/example/tidewatch/tidewatch/service/fit/BurstCycle" (some 0) with
  accessFlags := 48
  interfaces := #[2]
  cf := some (fileOf pool3 4 #[] #[{ accessFlags := 0, nameIndex := 7, descriptorIndex := 135, attributes := #[] }, { accessFlags := 2, nameIndex := 7, descriptorIndex := 8, attributes := #[] }, { accessFlags := 1, nameIndex := 42, descriptorIndex := 33, attributes := #[] }] 48 10 #[125] #[{ accessFlags := 26, nameIndex := 127, descriptorIndex := 128, attributes := #[] }, { accessFlags := 26, nameIndex := 130, descriptorIndex := 17, attributes := #[] }, { accessFlags := 26, nameIndex := 132, descriptorIndex := 17, attributes := #[] }, { accessFlags := 26, nameIndex := 134, descriptorIndex := 128, attributes := #[] }, { accessFlags := 18, nameIndex := 16, descriptorIndex := 17, attributes := #[] }, { accessFlags := 18, nameIndex := 20, descriptorIndex := 17, attributes := #[] }, { accessFlags := 18, nameIndex := 23, descriptorIndex := 24, attributes := #[] }, { accessFlags := 18, nameIndex := 27, descriptorIndex := 24, attributes := #[] }])
  fields := #[{ name := "LOG_SPAN", type := .double, accessFlags := 26, slot := 0, constantValue := 0 }, { name := "SPELL_PARAMETERS", type := .int, accessFlags := 26, slot := 1, constantValue := 0 }, { name := "CLUSTER_PARAMETERS", type := .int, accessFlags := 26, slot := 2, constantValue := 0 }, { name := "SLOWER_ROUND", type := .double, accessFlags := 26, slot := 3, constantValue := 0 }, { name := "quietPhases", type := .int, accessFlags := 18, slot := 0, constantValue := 0 }, { name := "burstPhases", type := .int, accessFlags := 18, slot := 1, constantValue := 0 }, { name := "clusters", type := .boolean, accessFlags := 18, slot := 2, constantValue := 0 }, { name := "freshClusters", type := .boolean, accessFlags := 18, slot := 3, constantValue := 0 }]
  methods := #[k3m0, k3m1, k3m2]
  instanceTypes := #[.int, .int, .boolean, .boolean]
  staticTypes := #[.double, .int, .int, .double]
  resolved := Array.replicate 153 none
  statics := none }

def pool4 : Array CpInfo := pool [(1, u "java/lang/Cloneable"), (0, .class_ 1), (0, u "java/lang/Object"), (0, .class_ 3)] 3

/-- java/lang/Cloneable -/
def k4 : Class := { plain "java/lang/Cloneable" (some 0) with
  accessFlags := 1537
  interfaces := #[]
  cf := some (fileOf pool4 2 #[] #[] 1537 4 #[] #[])
  fields := #[]
  methods := #[]
  instanceTypes := #[]
  staticTypes := #[]
  resolved := Array.replicate 8 none
  statics := none }

def pool5 : Array CpInfo := pool [(1, u "java/io/Serializable"), (0, .class_ 1), (0, u "java/lang/Object"), (0, .class_ 3)] 3

/-- java/io/Serializable -/
def k5 : Class := { plain "java/io/Serializable" (some 0) with
  accessFlags := 1537
  interfaces := #[]
  cf := some (fileOf pool5 2 #[] #[] 1537 4 #[] #[])
  fields := #[]
  methods := #[]
  instanceTypes := #[]
  staticTypes := #[]
  resolved := Array.replicate 8 none
  statics := none }

/-- the primitive byte -/
def k6 : Class := { plain "byte" none with kind := .primitive 'B', accessFlags := 0x411 }
/-- [B -/
def k7 : Class := { plain "[B" (some 0) with kind := .array 6 .byte, interfaces := #[4, 5], accessFlags := 1041 }

/-- the primitive int -/
def k8 : Class := { plain "int" none with kind := .primitive 'I', accessFlags := 0x411 }
/-- [I -/
def k9 : Class := { plain "[I" (some 0) with kind := .array 8 .int, interfaces := #[4, 5], accessFlags := 1041 }

def heap : Heap := #[]
def classes : Array Class := #[k0, k1, k2, k3, k4, k5, k6, k7, k8, k9]
def interned : List (Array UInt16 × Addr) := []
def slotsUsed : Nat := 0
def theMethod : MethodId := ⟨1, 1⟩
def args0 : Array Value := #[.int 5, .int 3]
def aboutOver (below : List Frame) : State where
  vm := { classes := classes, interned := interned.toArray }
  heap := heap
  slotsUsed := slotsUsed
  threads := #[{ frames := .invoking theMethod args0 :: below }]
def below0 : List Frame := [.native { method := ⟨0, 0⟩, args := #[] }]
def about1 : State := aboutOver below0
def p0 : Program := .bare "" "" ""
def e0 : Env := launch0.env 0 0 0
theorem w_frames : about1.frames = Frame.invoking theMethod args0 :: below0 := rfl
set_option maxRecDepth 65536 in
theorem w_args : argsFit about1.vm theMethod args0 = true := by decide +kernel
set_option maxRecDepth 65536 in
theorem w_heap : heapFits about1 = true := by decide +kernel
set_option maxRecDepth 65536 in
theorem w_runnable : about1.curStatus? = some .runnable := by decide +kernel
set_option maxRecDepth 65536 in
theorem w_alone : about1.alone = true := by decide +kernel
set_option maxRecDepth 65536 in
theorem w_named : about1.methodNamed? x = some theMethod := by decide +kernel
set_option maxRecDepth 65536 in
theorem w_hears : about1.hears theMethod below0 = true := by decide +kernel
set_option maxRecDepth 65536 in
theorem w_ripe : about1.ripe theMethod args0 below0 = true := by decide +kernel
theorem w_running : about1.status = .running := rfl
set_option maxRecDepth 65536 in
theorem w_room : about1.hasRoom e0.platform room_1 = true :=
  launch0.hasRoom_least _ room_1 (by decide +kernel) (by decide +kernel) (by decide +kernel) (by decide +kernel) (by decide +kernel) (by decide +kernel)
theorem allAtoms_all (ts : List Jvm.Cond) (a : Array Jvm.Value) (st : Jvm.State) : (allAtoms ts).before a st = ts.all (fun c => c.before a st) := by
  induction ts with
  | nil => rfl
  | cons c t ih =>
    show (Jvm.Cond.and c (allAtoms t)).before a st = _
    rw [Jvm.Cond.before_and, ih, List.all_cons]
def words1 : List Jvm.Cond := Jvm.Cond.code x code maxLocals ret :: tables_1
/-- a 'code' word, met by the world's own term for the bytes: nothing is compared byte by byte -/
theorem code_word {y : MethodName} {bytes : ByteArray} {mx : Nat} {rt : Option FieldType} {a : Array Value} {s : State} {m : MethodId} {meth : Method} {c : Code} (h1 : s.methodNamed? y = some m) (h2 : s.vm.method? m = some meth) (h3 : meth.code = some c) (h4 : c.code = bytes)
    (h5 : (c.maxLocals == mx && c.exceptionTable.isEmpty && decide (c.maxStack ≤ mostOperands) && decide (meth.sig.returnType = rt) && !meth.locks && decide (parseMethodDescriptor y.desc = some meth.sig)) = true) : (Jvm.Cond.code y bytes mx rt).before a s = true := by
  simp only [Bool.and_eq_true, beq_iff_eq, Bool.not_eq_true', decide_eq_true_eq] at h5
  obtain ⟨⟨⟨⟨⟨g1, g2⟩, g3⟩, g4⟩, g5⟩, g6⟩ := h5
  simp [Cond.before, Cond.holds, Cond.value, h1, h2, h3, h4, g1, g2, g3, g4, g5, g6]
def isCode : Jvm.Cond → Bool
  | .code _ _ _ _ => true
  | _ => false
theorem all_split {L : List Jvm.Cond} {P : Jvm.Cond → Bool} (h1 : L.all (fun c => isCode c || P c) = true) (h2 : ∀ c ∈ L.filter isCode, P c = true) : L.all P = true := by
  refine List.all_eq_true.mpr fun c hc => ?_
  have h := List.all_eq_true.mp h1 c hc
  rcases Bool.eq_false_or_eq_true (isCode c) with hi | hi
  · exact h2 c (List.mem_filter.mpr ⟨hc, hi⟩)
  · simpa [hi] using h
set_option maxRecDepth 65536 in
theorem w_c0 : (Jvm.Cond.code x code maxLocals ret).before args0 about1 = true := code_word (m := ⟨1, 1⟩) (meth := k1m1) (c := k1c1) (by decide +kernel) rfl rfl rfl (by decide +kernel)
set_option maxRecDepth 65536 in
theorem w_c1 : (Jvm.Cond.code ({ cls := "com/example/tidewatch/tidewatch/service/fit/BurstCycle", name := "<init>", desc := "(IIZ)V" } : Jvm.MethodName) prog_126_method_1_code (4 : Nat) (Option.none : Option Jvm.ClassFile.FieldType)).before args0 about1 = true := code_word (m := ⟨3, 0⟩) (meth := k3m0) (c := k3c0) (by decide +kernel) rfl rfl rfl (by decide +kernel)
set_option maxRecDepth 65536 in
theorem w_c2 : (Jvm.Cond.code ({ cls := "com/example/tidewatch/tidewatch/service/fit/BurstCycle", name := "<init>", desc := "(IIZZ)V" } : Jvm.MethodName) prog_126_method_2_code (5 : Nat) (Option.none : Option Jvm.ClassFile.FieldType)).before args0 about1 = true := code_word (m := ⟨3, 1⟩) (meth := k3m1) (c := k3c1) (by decide +kernel) rfl rfl rfl (by decide +kernel)
set_option maxRecDepth 65536 in
theorem w_c3 : (Jvm.Cond.code ({ cls := "java/lang/Object", name := "<init>", desc := "()V" } : Jvm.MethodName) object_method_1_code (1 : Nat) (Option.none : Option Jvm.ClassFile.FieldType)).before args0 about1 = true := code_word (m := ⟨0, 0⟩) (meth := k0m0) (c := k0c0) (by decide +kernel) rfl rfl rfl (by decide +kernel)
set_option maxRecDepth 65536 in
theorem w_c4 : (Jvm.Cond.code ({ cls := "com/example/tidewatch/tidewatch/service/fit/BurstCycle", name := "states", desc := "()I" } : Jvm.MethodName) prog_126_method_4_code (1 : Nat) (Option.some Jvm.ClassFile.FieldType.int)).before args0 about1 = true := code_word (m := ⟨3, 2⟩) (meth := k3m2) (c := k3c2) (by decide +kernel) rfl rfl rfl (by decide +kernel)
def codes1 : List Jvm.Cond := [Jvm.Cond.code x code maxLocals ret, Jvm.Cond.code ({ cls := "com/example/tidewatch/tidewatch/service/fit/BurstCycle", name := "<init>", desc := "(IIZ)V" } : Jvm.MethodName) prog_126_method_1_code (4 : Nat) (Option.none : Option Jvm.ClassFile.FieldType), Jvm.Cond.code ({ cls := "com/example/tidewatch/tidewatch/service/fit/BurstCycle", name := "<init>", desc := "(IIZZ)V" } : Jvm.MethodName) prog_126_method_2_code (5 : Nat) (Option.none : Option Jvm.ClassFile.FieldType), Jvm.Cond.code ({ cls := "java/lang/Object", name := "<init>", desc := "()V" } : Jvm.MethodName) object_method_1_code (1 : Nat) (Option.none : Option Jvm.ClassFile.FieldType), Jvm.Cond.code ({ cls := "com/example/tidewatch/tidewatch/service/fit/BurstCycle", name := "states", desc := "()I" } : Jvm.MethodName) prog_126_method_4_code (1 : Nat) (Option.some Jvm.ClassFile.FieldType.int)]
set_option maxRecDepth 65536 in
theorem codes_eq : words1.filter isCode = codes1 := rfl
theorem w_codes : ∀ c ∈ words1.filter isCode, c.before args0 about1 = true := by
  rw [codes_eq]
  intro c hc
  simp only [codes1, List.mem_cons, List.not_mem_nil, or_false] at hc
  rcases hc with rfl | rfl | rfl | rfl | rfl
  · exact w_c0
  · exact w_c1
  · exact w_c2
  · exact w_c3
  · exact w_c4
set_option maxRecDepth 65536 in
theorem w_t1 : (words1.take 24).all (fun c => isCode c || c.before args0 about1) = true := by decide +kernel
set_option maxRecDepth 65536 in
theorem w_t2 : (words1.drop 24).all (fun c => isCode c || c.before args0 about1) = true := by decide +kernel
theorem w_tables : (allAtoms (Jvm.Cond.code x code maxLocals ret :: tables_1)).before args0 about1 = true := by
  rw [allAtoms_all]
  show words1.all (fun c => c.before args0 about1) = true
  refine all_split ?_ w_codes
  rw [← List.take_append_drop 24 words1, List.all_append, w_t1, w_t2]
  rfl
set_option maxRecDepth 65536 in
theorem w_case : (Jvm.Cond.and given_1 narrow_1).before args0 about1 = true := by decide +kernel
theorem w_applies : (headSpec (Jvm.Cond.code x code maxLocals ret :: tables_1) room_1).applies x e0.platform about1 = true :=
  (Spec.applies_iff w_frames).mpr ⟨w_running, w_runnable, w_alone, w_named, w_hears, w_ripe, w_room, w_tables⟩
theorem atStart : AtStart classFile x code maxLocals ret World_1 tables_1 room_1 Calls_1 rest_1 Pre_1 launch0 p0 e0 about1 theMethod args0 below0 :=
  ⟨lists_1, trivial, launch0.admits_env _ _ _, launch0.least_env, fairChoices_fair.cas, fairChoices_fair.clock, w_frames, w_args, w_heap, w_applies, trivial, trivial, w_case⟩
end start1
theorem witness_1 : WitnessClaimed_1 := ⟨start1.p0, start1.e0, start1.about1, start1.theMethod, start1.args0, start1.below0, start1.atStart⟩
end Jvm.Pilot.@@N@@
