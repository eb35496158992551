import JvmDerived
import JvmDerived.Pilot.@@N@@Statement
import JvmDerived.Pilot.@@N@@Code
set_option linter.unusedVariables false
set_option linter.unusedSimpArgs false
namespace Jvm.RoadKit
open Sem ClassFile Op Lib Jvm.Stand Jvm.Free Jvm.LawKit
section Own
variable {p : Program} {l : Launch} {e : Env} {R : Room} {s : State} {m : MethodId} {args : Array Value} {below : List Frame} {meth : Method} {c : Code} {T : State} {locs : List Loc} {cells slots : Nat} {Z : State} {h h' : Heap} {a b : Addr}
/-- from the state U the method runs to its end, and what it leaves is as G says -/
def own_Go (p : Program) (e : Env) (below : List Frame) (G : Outcome → State → Prop) (U : State) : Prop := ∃ s₂ o, Steps p.tables e below U s₂ ∧ s₂.status = .running ∧ Ended s₂ below o ∧ G o s₂
def own_G (s : State) (Q : Option Value → Heap → List Loc → Prop) (C N : Nat) : Outcome → State → Prop := fun o U' => ∃ v L, o = .returned v ∧ Q v U'.heap L ∧ FrameEnd s o U' L C N
theorem own_st {G : Outcome → State → Prop} {U V : State} (hs : ∀ t, Steps p.tables e below V t → Steps p.tables e below U t) (k : own_Go p e below G V) : own_Go p e below G U := by
  obtain ⟨s₂, o, h1, h2⟩ := k
  exact ⟨s₂, o, hs _ h1, h2⟩
theorem own_retI (X : Stand p l e R s m args below meth c T locs cells slots) (hx : p.tables.exec = Jvm.exec) (hlocks : meth.locks = false) {pc : Nat} {Ls : Array Slot} {z : Int32} {rest : List Value} (hret : meth.sig.returnType = some .int) (hd : decode c.code pc = .ok (.ireturn, 1)) {Q : Option Value → Heap → List Loc → Prop} {C N : Nat}
    (hQ : Q (some (.int z)) T.heap locs) (hC : cells ≤ C) (hN : slots ≤ N) : own_Go p e below (own_G s Q C N) (T.setTop (mkF m pc Ls (.int z :: rest))) := by
  obtain ⟨fs, hr, hrun, hended, hW, hsame⟩ := X.leave (v := some (.int z)) (fun h => by rw [hret] at h; cases h)
  refine ⟨_, _, ?_, hrun, hended, _, _, rfl, hQ, ⟨_, rfl⟩, hW, hsame.mono hC hN⟩
  have hm' : T.vm.method? m = some meth := X.method'
  have hn : narrow .int (.int z) = .int z := rfl
  show Steps p.tables e below (T.setTop { method := m, pc := pc, locals := Ls, stack := _ :: rest, locked := none }) _
  jvm_step X.here [X.here.top, hx, hd, hm', hret, hn]
  first | (intro acts; rw [hr _ acts rfl rfl rfl]) | rw [hr _ _ rfl rfl rfl]
  exact Steps.refl _
theorem own_retN (X : Stand p l e R s m args below meth c T locs cells slots) (hx : p.tables.exec = Jvm.exec) (hlocks : meth.locks = false) {pc : Nat} {Ls : Array Slot} {z z' : Int32} {t : FieldType} {rest : List Value} (hret : meth.sig.returnType = some t) (ht : t = .boolean ∨ t = .byte ∨ t = .char ∨ t = .short) (hz : nar t z = z') (hd : decode c.code pc = .ok (.ireturn, 1)) {Q : Option Value → Heap → List Loc → Prop} {C N : Nat}
    (hQ : Q (some (.int z')) T.heap locs) (hC : cells ≤ C) (hN : slots ≤ N) : own_Go p e below (own_G s Q C N) (T.setTop (mkF m pc Ls (.int z :: rest))) := by
  subst hz
  obtain ⟨fs, hr, hrun, hended, hW, hsame⟩ := X.leave (v := some (.int (nar t z))) (fun h => by rw [hret] at h; cases h)
  exact ⟨_, _, retN X hx hret ht hd hr, hrun, hended, _, _, rfl, hQ, ⟨_, rfl⟩, hW, hsame.mono hC hN⟩
theorem own_retJ (X : Stand p l e R s m args below meth c T locs cells slots) (hx : p.tables.exec = Jvm.exec) (hlocks : meth.locks = false) {pc : Nat} {Ls : Array Slot} {z : Int64} (hret : meth.sig.returnType = some .long) (hd : decode c.code pc = .ok (.lreturn, 1)) {Q : Option Value → Heap → List Loc → Prop} {C N : Nat}
    (hQ : Q (some (.long z)) T.heap locs) (hC : cells ≤ C) (hN : slots ≤ N) : own_Go p e below (own_G s Q C N) (T.setTop (mkF m pc Ls [.long z])) := by
  obtain ⟨fs, hr, hrun, hended, hW, hsame⟩ := X.leave (v := some (.long z)) (fun h => by rw [hret] at h; cases h)
  exact ⟨_, _, X.lreturnOut hx hret hd hr, hrun, hended, _, _, rfl, hQ, ⟨_, rfl⟩, hW, hsame.mono hC hN⟩
theorem own_ret0 (X : Stand p l e R s m args below meth c T locs cells slots) (hx : p.tables.exec = Jvm.exec) (hlocks : meth.locks = false) {pc : Nat} {Ls : Array Slot} (hret : meth.sig.returnType = none) (hd : decode c.code pc = .ok (.return_, 1)) {Q : Option Value → Heap → List Loc → Prop} {C N : Nat}
    (hQ : Q none T.heap locs) (hC : cells ≤ C) (hN : slots ≤ N) : own_Go p e below (own_G s Q C N) (T.setTop (mkF m pc Ls [])) := by
  obtain ⟨fs, hr, hrun, hended, hW, hsame⟩ := X.leave (v := none) (fun _ => rfl)
  exact ⟨_, _, X.returnOut hx hret hd hr, hrun, hended, _, _, rfl, hQ, ⟨_, rfl⟩, hW, hsame.mono hC hN⟩
theorem own_z0 {i j : Nat} (q : i = 0) : i ≤ j := q ▸ Nat.zero_le j
/-! arrays of ints (or bytes), of longs: their length and their elements by a plain function -/
def own_Ai (Z : State) (h : Heap) (a : Addr) (ty : FieldType) (n : Nat) (f : Nat → Int32) : Prop := ∃ c : Cell, Arr Z h a c ty ∧ c.slots.size = n ∧ ∀ i, i < n → c.slots[i]? = some (.int (f i))
def own_Aj (Z : State) (h : Heap) (a : Addr) (ty : FieldType) (n : Nat) (f : Nat → Int64) : Prop := ∃ c : Cell, Arr Z h a c ty ∧ c.slots.size = n ∧ ∀ i, i < n → c.slots[i]? = some (.long (f i))
def own_up (f : Nat → Int32) (k : Nat) (x : Int32) : Nat → Int32 := fun i => if i = k then x else f i
def own_upJ (f : Nat → Int64) (k : Nat) (x : Int64) : Nat → Int64 := fun i => if i = k then x else f i
theorem own_up_at (f : Nat → Int32) (k : Nat) (x : Int32) (i : Nat) : own_up f k x i = if i = k then x else f i := rfl
theorem own_upJ_at (f : Nat → Int64) (k : Nat) (x : Int64) (i : Nat) : own_upJ f k x i = if i = k then x else f i := rfl
variable {ty : FieldType} {n : Nat} {f : Nat → Int32} {fj : Nat → Int64} {ws : List Addr} {sl : Nat} {v : Value}
theorem own_Ai.lt (F : own_Ai Z h a ty n f) : a < h.size := by obtain ⟨c, A, -⟩ := F; exact A.lt
theorem own_Aj.lt (F : own_Aj Z h a ty n fj) : a < h.size := by obtain ⟨c, A, -⟩ := F; exact A.lt
theorem own_Ai.ext (F : own_Ai Z h a ty n f) (E : Ext h h') : own_Ai Z h' a ty n f := by obtain ⟨c, A, r⟩ := F; exact ⟨c, A.ext E, r⟩
theorem own_Aj.ext (F : own_Aj Z h a ty n fj) (E : Ext h h') : own_Aj Z h' a ty n fj := by obtain ⟨c, A, r⟩ := F; exact ⟨c, A.ext E, r⟩
theorem own_Ai.other (F : own_Ai Z h b ty n f) (W : Wr h h' a sl v) (q : b ≠ a) : own_Ai Z h' b ty n f := by obtain ⟨c, A, r⟩ := F; exact ⟨c, A.other W q, r⟩
theorem own_Aj.other (F : own_Aj Z h b ty n fj) (W : Wr h h' a sl v) (q : b ≠ a) : own_Aj Z h' b ty n fj := by obtain ⟨c, A, r⟩ := F; exact ⟨c, A.other W q, r⟩
theorem own_Ai.keep (F : own_Ai Z h a ty n f) (K : Keep h h' ws) (q : a ∉ ws) : own_Ai Z h' a ty n f := by obtain ⟨c, A, r⟩ := F; exact ⟨c, ⟨K.2.1 a c A.1 q, A.2⟩, r⟩
theorem own_Aj.keep (F : own_Aj Z h a ty n fj) (K : Keep h h' ws) (q : a ∉ ws) : own_Aj Z h' a ty n fj := by obtain ⟨c, A, r⟩ := F; exact ⟨c, ⟨K.2.1 a c A.1 q, A.2⟩, r⟩
theorem own_Ai.neq {a0 : Array Value} {k : Nat} {C : String} (F : own_Ai Z h b ty n f) (E : Exa Z h a C) (wi : (Cond.instantiable C k).before a0 Z = true) : a ≠ b := by obtain ⟨c, A, -⟩ := F; exact ne_arr E wi A
theorem own_Aj.neq {a0 : Array Value} {k : Nat} {C : String} (F : own_Aj Z h b ty n fj) (E : Exa Z h a C) (wi : (Cond.instantiable C k).before a0 Z = true) : a ≠ b := by obtain ⟨c, A, -⟩ := F; exact ne_arr E wi A
theorem own_nat {j : Int32} {k : Nat} (hj : j.toInt = k) : j.toNatClampNeg = k := by simp only [Int32.toNatClampNeg, hj]; rfl
theorem own_in {j : Int32} {k n : Nat} (hj : j.toInt = k) (hk : k < n) : ¬ (j < 0 ∨ n ≤ j.toNatClampNeg) := by
  rw [own_nat hj, Int32.lt_iff_toInt_lt, hj, show (0 : Int32).toInt = 0 from rfl]; omega
theorem own_len {z : Int32} (hz : z.toInt = n) : n.toInt32 = z := by
  have := Int32.toInt_lt z
  exact Int32.toInt_inj.mp (by rw [Int32.toInt_ofNat_small (by omega), hz])
theorem own_iaload (X : Stand p l e R s m args below meth c T locs cells slots) (hx : p.tables.exec = Jvm.exec) (hZ : Z.Warmed39 s.vm) (eT : T.heap = h) (A : own_Ai Z h a .int n f) {j : Int32} {k : Nat} (hj : j.toInt = k) (hk : k < n) {g : JFrame} (hg : g.method = m) {rest : List Value} (hs : g.stack = .int j :: .ref a :: rest) (hd : decode c.code g.pc = .ok (.iaload, 1)) {target : State}
    (hr : Steps p.tables e below (T.setTop { g with pc := g.pc + 1, stack := .int (f k) :: rest }) target) : Steps p.tables e below (T.setTop g) target := by
  obtain ⟨cl, A, S, H⟩ := A
  exact X.iaload hx (j := j) (v := .int (f k)) (by rw [eT]; exact A.1) (State.isArrayOf_alike hZ.alike A.2.1) A.2.2 (by rw [S]; exact own_in hj hk) (by rw [own_nat hj]; exact H k hk) hg hs hd _ hr
theorem own_baload (X : Stand p l e R s m args below meth c T locs cells slots) (hx : p.tables.exec = Jvm.exec) (hZ : Z.Warmed39 s.vm) (eT : T.heap = h) (A : own_Ai Z h a .byte n f) {j : Int32} {k : Nat} (hj : j.toInt = k) (hk : k < n) {g : JFrame} (hg : g.method = m) {rest : List Value} (hs : g.stack = .int j :: .ref a :: rest) (hd : decode c.code g.pc = .ok (.baload, 1)) {target : State}
    (hr : Steps p.tables e below (T.setTop { g with pc := g.pc + 1, stack := .int (f k) :: rest }) target) : Steps p.tables e below (T.setTop g) target := by
  obtain ⟨cl, A, S, H⟩ := A
  exact X.baloadBytes hx (j := j) (v := .int (f k)) (by rw [eT]; exact A.1) (State.isArrayOf_alike hZ.alike A.2.1) A.2.2 (by rw [S]; exact own_in hj hk) (by rw [own_nat hj]; exact H k hk) hg hs hd _ hr
theorem own_laload (X : Stand p l e R s m args below meth c T locs cells slots) (hx : p.tables.exec = Jvm.exec) (hZ : Z.Warmed39 s.vm) (eT : T.heap = h) (A : own_Aj Z h a .long n fj) {j : Int32} {k : Nat} (hj : j.toInt = k) (hk : k < n) {g : JFrame} (hg : g.method = m) {rest : List Value} (hs : g.stack = .int j :: .ref a :: rest) (hd : decode c.code g.pc = .ok (.laload, 1)) {target : State}
    (hr : Steps p.tables e below (T.setTop { g with pc := g.pc + 1, stack := .long (fj k) :: rest }) target) : Steps p.tables e below (T.setTop g) target := by
  obtain ⟨cl, A, S, H⟩ := A
  exact X.laload hx (j := j) (v := .long (fj k)) (by rw [eT]; exact A.1) (State.isArrayOf_alike hZ.alike A.2.1) A.2.2 (by rw [S]; exact own_in hj hk) (by rw [own_nat hj]; exact H k hk) hg hs hd _ hr
theorem own_alen (X : Stand p l e R s m args below meth c T locs cells slots) (hx : p.tables.exec = Jvm.exec) (hZ : Z.Warmed39 s.vm) (eT : T.heap = h) (A : own_Ai Z h a ty n f) {z : Int32} (hz : z.toInt = n) {g : JFrame} (hg : g.method = m) {rest : List Value} (hs : g.stack = .ref a :: rest) (hd : decode c.code g.pc = .ok (.arraylength, 1)) {target : State}
    (hr : Steps p.tables e below (T.setTop { g with pc := g.pc + 1, stack := .int z :: rest }) target) : Steps p.tables e below (T.setTop g) target := by
  obtain ⟨cl, A, S, H⟩ := A
  refine X.arraylength hx (by rw [eT]; exact A.1) (State.isArrayOf_alike hZ.alike A.2.1) hg hs hd _ ?_
  rw [S, own_len hz]; exact hr
theorem own_Ai.set (F : own_Ai Z h a ty n f) {j : Nat} {x : Int32} (W : Wr h h' a j (.int x)) : own_Ai Z h' a ty n (own_up f j x) := by
  obtain ⟨cl, A, S, H⟩ := F
  refine ⟨_, A.same W, by rw [sz_set]; exact S, fun i hi => ?_⟩
  rw [own_up_at]
  by_cases q : i = j
  · subst q
    rw [if_pos rfl]
    simp [Cell.setSlot, S, hi]
  · rw [if_neg q, show (cl.setSlot j (.int x)).slots[i]? = cl.slots[i]? from Array.getElem?_setIfInBounds_ne (Ne.symm q)]
    exact H i hi
theorem own_Aj.set (F : own_Aj Z h a ty n fj) {j : Nat} {x : Int64} (W : Wr h h' a j (.long x)) : own_Aj Z h' a ty n (own_upJ fj j x) := by
  obtain ⟨cl, A, S, H⟩ := F
  refine ⟨_, A.same W, by rw [sz_set]; exact S, fun i hi => ?_⟩
  rw [own_upJ_at]
  by_cases q : i = j
  · subst q
    rw [if_pos rfl]
    simp [Cell.setSlot, S, hi]
  · rw [if_neg q, show (cl.setSlot j (.long x)).slots[i]? = cl.slots[i]? from Array.getElem?_setIfInBounds_ne (Ne.symm q)]
    exact H i hi
theorem own_iastore (X : Stand p l e R s m args below meth c T locs cells slots) (hx : p.tables.exec = Jvm.exec) (hZ : Z.Warmed39 s.vm) (eT : T.heap = h) (A : own_Ai Z h a .int n f) {j x : Int32} {k : Nat} (hj : j.toInt = k) (hk : k < n) {g : JFrame} (hg : g.method = m) {rest : List Value} (hs : g.stack = .int x :: .int j :: .ref a :: rest) (hd : decode c.code g.pc = .ok (.iastore, 1)) :
    ∃ T' h', Stand p l e R s m args below meth c T' (locs ++ [⟨a, k⟩]) cells slots ∧ T'.heap = h' ∧ Wr h h' a k (.int x) ∧ own_Ai Z h' a .int n (own_up f k x) ∧ ∀ target, Steps p.tables e below (T'.setTop { g with pc := g.pc + 1, stack := rest }) target → Steps p.tables e below (T.setTop g) target := by
  obtain ⟨cl, B, S, H⟩ := id A
  obtain ⟨T', h', X', e', W, st⟩ := stI X hx hZ eT B (j := j) (x := x) (by rw [S]; exact own_in hj hk) hg hs hd
  rw [own_nat hj] at X' W
  exact ⟨T', h', X', e', W, A.set W, st⟩
theorem own_bastore (X : Stand p l e R s m args below meth c T locs cells slots) (hx : p.tables.exec = Jvm.exec) (hZ : Z.Warmed39 s.vm) (eT : T.heap = h) (A : own_Ai Z h a .byte n f) {j x : Int32} {k : Nat} (hj : j.toInt = k) (hk : k < n) {g : JFrame} (hg : g.method = m) {rest : List Value} (hs : g.stack = .int x :: .int j :: .ref a :: rest) (hd : decode c.code g.pc = .ok (.bastore, 1)) :
    ∃ T' h', Stand p l e R s m args below meth c T' (locs ++ [⟨a, k⟩]) cells slots ∧ T'.heap = h' ∧ Wr h h' a k (.int x.toInt8.toInt32) ∧ own_Ai Z h' a .byte n (own_up f k x.toInt8.toInt32) ∧ ∀ target, Steps p.tables e below (T'.setTop { g with pc := g.pc + 1, stack := rest }) target → Steps p.tables e below (T.setTop g) target := by
  obtain ⟨cl, B, S, H⟩ := id A
  obtain ⟨T', h', X', e', W, st⟩ := stB X hx hZ eT B (j := j) (x := x) (by rw [S]; exact own_in hj hk) hg hs hd
  rw [own_nat hj] at X' W
  exact ⟨T', h', X', e', W, A.set W, st⟩
theorem own_lastore (X : Stand p l e R s m args below meth c T locs cells slots) (hx : p.tables.exec = Jvm.exec) (hZ : Z.Warmed39 s.vm) (eT : T.heap = h) (A : own_Aj Z h a .long n fj) {j : Int32} {x : Int64} {k : Nat} (hj : j.toInt = k) (hk : k < n) {g : JFrame} (hg : g.method = m) {rest : List Value} (hs : g.stack = .long x :: .int j :: .ref a :: rest) (hd : decode c.code g.pc = .ok (.lastore, 1)) :
    ∃ T' h', Stand p l e R s m args below meth c T' (locs ++ [⟨a, k⟩]) cells slots ∧ T'.heap = h' ∧ Wr h h' a k (.long x) ∧ own_Aj Z h' a .long n (own_upJ fj k x) ∧ ∀ target, Steps p.tables e below (T'.setTop { g with pc := g.pc + 1, stack := rest }) target → Steps p.tables e below (T.setTop g) target := by
  obtain ⟨cl, B, S, H⟩ := id A
  obtain ⟨T', h', X', e', W, st⟩ := stJ X hx hZ eT B (j := j) (x := x) (by rw [S]; exact own_in hj hk) hg hs hd
  rw [own_nat hj] at X' W
  exact ⟨T', h', X', e', W, A.set W, st⟩
theorem own_newarr (X : Stand p l e R s m args below meth c T locs cells slots) (hx : p.tables.exec = Jvm.exec) (hZ : Z.Warmed39 s.vm) {a0 : Array Value} {aty : ArrayType} (w : (Cond.arrayClass (newarray.typeOf aty)).before a0 Z = true) (eT : T.heap = h) {g : JFrame} (hg : g.method = m) (hd : decode c.code g.pc = .ok (.newarray aty, 2)) {z : Int32} {rest : List Value} (hs : g.stack = .int z :: rest) {k : Nat}
    (hz : z.toInt = k) {cap : Nat} (hcap : k ≤ cap) (hb : cap * 8 ≤ 536870912) (hc : cells + 1 ≤ R.cells) (hl : slots + cap ≤ R.slots) :
    ∃ T' h' cl, Stand p l e R s m args below meth c T' locs (cells + 1) (slots + cap) ∧ T'.heap = h' ∧ Ext h h' ∧ (Arr Z h' h.size cl (newarray.typeOf aty) ∧ cl.slots = Array.replicate k (defaultValue (newarray.typeOf aty))) ∧
      ∀ target, Steps p.tables e below (T'.setTop { g with pc := g.pc + 2, stack := .ref h.size :: rest }) target → Steps p.tables e below (T.setTop g) target := by
  have hn : ¬ z < 0 := by rw [Int32.lt_iff_toInt_lt, hz, show (0 : Int32).toInt = 0 from rfl]; omega
  obtain ⟨T', h', cA, X', e', E, A, st⟩ := newP X hx hZ w eT hg hd hs hn (by rw [own_nat hz]; exact hcap) hb hc hl
  exact ⟨T', h', _, X', e', E, ⟨A, by simp [newA, own_nat hz]⟩, st⟩
theorem own_Ai.new {cl : Cell} {k : Nat} (A : Arr Z h a cl ty ∧ cl.slots = Array.replicate k (.int 0)) : own_Ai Z h a ty k (fun _ => 0) :=
  ⟨cl, A.1, by rw [A.2]; simp, fun i hi => by rw [A.2]; simp [hi]⟩
theorem own_Aj.new {cl : Cell} {k : Nat} (A : Arr Z h a cl ty ∧ cl.slots = Array.replicate k (.long 0)) : own_Aj Z h a ty k (fun _ => 0) :=
  ⟨cl, A.1, by rw [A.2]; simp, fun i hi => by rw [A.2]; simp [hi]⟩
theorem own_l_lt (x y : Int64) {b : Bool} (h : if_icmp.holds .lt (lcmpW x y) 0 = b) : ifCond.holds .lt (lcmpW x y) = b := (if0 _ _).trans h
end Own
end Jvm.RoadKit
namespace Jvm.Pilot.@@N@@
open Jvm Jvm.ClassFile Sem Op Lib Jvm.Free Jvm.Stand Jvm.LawKit Jvm.RoadKit Bundle Jvm.Pilot.@@N@@.Jvm.D
def own_isd (v : Int32) : Int32 := if v < 48 then 0 else if 57 < v then 0 else 1
def own_doo (ff : Nat → Int32) (xw xr xk : Int32) (kk : Nat) : Int32 := if xk < xw then 1 else if xk < xr then (if own_isd (ff kk) = 0 then 0 else 1) else 1
theorem own_ilt {a b : Int32} : a < b ↔ a.toInt < b.toInt := Int32.lt_iff_toInt_lt
theorem own_isd1 (v : Int32) : (48 ≤ v.toInt ∧ v.toInt ≤ 57 → own_isd v = 1) ∧ (¬ (48 ≤ v.toInt ∧ v.toInt ≤ 57) → own_isd v = 0) := by
  have e1 : (48 : Int32).toInt = 48 := by decide
  have e2 : (57 : Int32).toInt = 57 := by decide
  unfold own_isd
  simp only [own_ilt, e1, e2]
  constructor
  · intro h; rw [if_neg (by omega), if_neg (by omega)]
  · intro h
    by_cases c : v.toInt < 48
    · rw [if_pos c]
    · rw [if_neg c, if_pos (by omega)]
theorem own_inc (w : Int32) (h1 : w.toInt < 1000000) (h0 : 0 ≤ w.toInt) : (w + 1).toInt = w.toInt + 1 := by
  have q := c_iadd w 1
  have r := rng32 (w + 1)
  have e1 : (1 : Int32).toInt = 1 := by decide
  rw [e1] at q
  omega
theorem own_ex (ff : Nat → Int32) (nn : Nat) (hn : nn < 1000) : ∀ (d : Nat) (xw : Int32), 0 ≤ xw.toInt → (nn : Int) - xw.toInt ≤ d → ∃ rr : Int32, xw.toInt ≤ rr.toInt ∧ (∀ k : Nat, xw.toInt ≤ k → (k : Int) < rr.toInt → k < nn ∧ 48 ≤ (ff k).toInt ∧ (ff k).toInt ≤ 57) ∧ (¬ (rr.toInt < nn ∧ 48 ≤ (ff rr.toInt.toNat).toInt ∧ (ff rr.toInt.toNat).toInt ≤ 57)) := by
  intro d
  induction d with
  | zero => intro xw h0 h1; exact ⟨xw, Int.le_refl _, fun k a b => absurd b (by omega), fun q => by omega⟩
  | succ d ih =>
    intro xw h0 h1
    by_cases c : xw.toInt < nn ∧ 48 ≤ (ff xw.toInt.toNat).toInt ∧ (ff xw.toInt.toNat).toInt ≤ 57
    · have e := own_inc xw (by omega) h0
      obtain ⟨rr, a1, a2, a3⟩ := ih (xw + 1) (by omega) (by omega)
      refine ⟨rr, by omega, fun k b1 b2 => ?_, a3⟩
      by_cases q : xw.toInt = k
      · have e2 : xw.toInt.toNat = k := by omega
        rw [e2] at c
        exact ⟨by omega, c.2⟩
      · exact a2 k (by omega) b2
    · exact ⟨xw, Int.le_refl _, fun k a b => absurd b (by omega), c⟩
theorem own_nlt {a b : Int32} (h : a.toInt ≤ b.toInt) : ¬ (b < a) := by rw [own_ilt]; omega
theorem own_le {ff : Nat → Int32} {nn : Nat} {xw rr z : Int32} (a2 : ∀ k : Nat, xw.toInt ≤ k → (k : Int) < rr.toInt → k < nn ∧ 48 ≤ (ff k).toInt ∧ (ff k).toInt ≤ 57) (h0 : 0 ≤ xw.toInt) (hz : z.toInt = (nn : Int)) (h : xw < z) : ¬ (z < rr) := by
  rw [own_ilt] at h ⊢
  intro q
  have := (a2 nn (by omega) (by omega)).1
  omega
theorem own_eq {ff : Nat → Int32} {nn : Nat} {xw rr z : Int32} (a1 : xw.toInt ≤ rr.toInt) (a2 : ∀ k : Nat, xw.toInt ≤ k → (k : Int) < rr.toInt → k < nn ∧ 48 ≤ (ff k).toInt ∧ (ff k).toInt ≤ 57) (h0 : 0 ≤ xw.toInt) (hz : z.toInt = (nn : Int)) (h : ¬ (xw < z)) : rr = xw := by
  rw [own_ilt] at h
  refine Int32.toInt_inj.mp ?_
  by_cases q : xw.toInt < rr.toInt
  · have := (a2 xw.toInt.toNat (by omega) (by omega)).1
    omega
  · omega
theorem own_i2 {ff : Nat → Int32} {nn : Nat} {xw rr xk : Int32} (a2 : ∀ k : Nat, xw.toInt ≤ k → (k : Int) < rr.toInt → k < nn ∧ 48 ≤ (ff k).toInt ∧ (ff k).toInt ≤ 57) {k : Nat} (e : xk.toInt = (k : Int)) : ¬ (xk < xw) → xk < rr → k < nn := fun h1 h2 => by
  rw [own_ilt] at h1 h2
  exact (a2 k (by omega) (by omega)).1
theorem own_doo1 {ff : Nat → Int32} {nn : Nat} {xw rr xk : Int32} (a2 : ∀ k : Nat, xw.toInt ≤ k → (k : Int) < rr.toInt → k < nn ∧ 48 ≤ (ff k).toInt ∧ (ff k).toInt ≤ 57) {k : Nat} (e : xk.toInt = (k : Int)) : ¬ (own_doo ff xw rr xk k = 0) := by
  unfold own_doo
  split
  · decide
  · split
    · rename_i h1 h2
      rw [own_ilt] at h1 h2
      rw [(own_isd1 (ff k)).1 (a2 k (by omega) (by omega)).2]
      decide
    · decide
theorem own_len5 (z : Int32) : (z &&& 7) % 5 = 0 ∨ (z &&& 7) % 5 = 1 ∨ (z &&& 7) % 5 = 2 ∨ (z &&& 7) % 5 = 3 ∨ (z &&& 7) % 5 = 4 := by
  have q := c_and z 7 (by decide)
  have q2 := (c_irem (z &&& 7) 5 5 (by decide)).1 q.1
  have h : ((z &&& 7) % 5).toInt = 0 ∨ ((z &&& 7) % 5).toInt = 1 ∨ ((z &&& 7) % 5).toInt = 2 ∨ ((z &&& 7) % 5).toInt = 3 ∨ ((z &&& 7) % 5).toInt = 4 := by omega
  rcases h with h | h | h | h | h
  · exact Or.inl (Int32.toInt_inj.mp h)
  · exact Or.inr (Or.inl (Int32.toInt_inj.mp h))
  · exact Or.inr (Or.inr (Or.inl (Int32.toInt_inj.mp h)))
  · exact Or.inr (Or.inr (Or.inr (Or.inl (Int32.toInt_inj.mp h))))
  · exact Or.inr (Or.inr (Or.inr (Or.inr (Int32.toInt_inj.mp h))))
theorem d3_0 : decode method_4_code 0 = .ok (.iload_n 0, 1) := by decide +kernel
theorem d3_1 : decode method_4_code 1 = .ok (.bipush 48, 2) := by decide +kernel
theorem d3_3 : decode method_4_code 3 = .ok (.if_icmp .lt 13, 3) := by decide +kernel
theorem d3_6 : decode method_4_code 6 = .ok (.iload_n 0, 1) := by decide +kernel
theorem d3_7 : decode method_4_code 7 = .ok (.bipush 57, 2) := by decide +kernel
theorem d3_9 : decode method_4_code 9 = .ok (.if_icmp .gt 7, 3) := by decide +kernel
theorem d3_12 : decode method_4_code 12 = .ok (.iconst 1, 1) := by decide +kernel
theorem d3_13 : decode method_4_code 13 = .ok (.goto 4, 3) := by decide +kernel
theorem d3_16 : decode method_4_code 16 = .ok (.iconst 0, 1) := by decide +kernel
theorem d3_17 : decode method_4_code 17 = .ok (.ireturn, 1) := by decide +kernel
theorem pn_3 : plainName "com/example/tidewatch/tidewatch/io/DecimalSkipDigitsPinLaw" = true := by first | (simp [plainName, overriddenIn]; done) | decide +kernel
theorem ef_3 (m : MethodId) (x0 : Int32) : entryFrame m #[(.int x0)] 1 = mkF m 0 #[.val (.int x0)] [] := by first | (simp [entryFrame, mkF, argsToLocals, Value.category]; done) | rfl
def Q3 (Z : State) (xv : Int32) (h0 : Heap) (n0 : Nat) (v : Option Value) (h : Heap) (L : List Loc) : Prop := v = some (.int (own_isd xv)) ∧ Fr n0 L ∧ h = h0
set_option maxRecDepth 65536 in
set_option maxHeartbeats 40000000 in
theorem rm3 (l : Launch) (Z : State) (a0 : Array Value) (hw : ∀ d ∈ tables_1, d.before a0 Z = true) (ws : List Jvm.Cond) (xv : Int32) (h0 : Heap) (n0 : Nat) (Z0 : n0 ≤ h0.size) :
    MetFree l (⟨"com/example/tidewatch/tidewatch/io/DecimalSkipDigitsPinLaw", "isDigit", "(B)Z"⟩ : MethodName) (head1 (Jvm.Cond.code (⟨"com/example/tidewatch/tidewatch/io/DecimalSkipDigitsPinLaw", "isDigit", "(B)Z"⟩ : MethodName) method_4_code 1 (some .boolean) :: ws) ({ frames := 0, cells := 0, slots := 0, locals := 0 } : Room)) (fun a U => a = #[(.int xv)] ∧ Z.Warmed39 U.vm ∧ U.heap = h0) (fun _ _ _ _ _ => True) (fun _ U o U' => ∃ v L, o = .returned v ∧ Q3 Z xv h0 n0 v U'.heap L ∧ FrameEnd U o U' L ({ frames := 0, cells := 0, slots := 0, locals := 0 } : Room).cells ({ frames := 0, cells := 0, slots := 0, locals := 0 } : Room).slots) := by
  refine MetFree.of_bodySF (plainFor_of_name pn_3) hisR ?_
  intro p e s m args below meth c s₁ Bd hml0 hP hK
  obtain ⟨rfl, hZ, hh⟩ := hP
  have hx := Bd.exec
  have hby := Bd.bytes
  have hlk : meth.locks = false := BodyLoose.notSynchronized Bd
  have hml : c.maxLocals = 1 := hml0
  have hown : s.vm.findClass "com/example/tidewatch/tidewatch/io/DecimalSkipDigitsPinLaw" = some m.cls := findClass_of_methodNamed Bd.named
  have hnm := (name_of_methodNamed Bd.named Bd.method).1
  have X0 : Stand p l e ({ frames := 0, cells := 0, slots := 0, locals := 0 } : Room) s m #[(.int xv)] below meth c s₁ [] 0 0 := Stand.of_body Bd
  have e0 : s₁.heap = h0 := by rw [← hh, Bd.state]; rfl
  have N0 := Fr.nil n0
  show own_Go p e below (own_G s (Q3 Z xv h0 n0) ({ frames := 0, cells := 0, slots := 0, locals := 0 } : Room).cells ({ frames := 0, cells := 0, slots := 0, locals := 0 } : Room).slots) (s₁.setTop (entryFrame m #[(.int xv)] 1))
  refine own_st (fun tgt k => castTop (ef_3 m xv) k) ?_
  show own_Go p e below _ (s₁.setTop (mkF m 0 #[.val (.int xv)] []))
  refine own_st (V := s₁.setTop (mkF m 3 #[.val (.int xv)] [(.int (48 : Int32)), (.int xv)])) (fun tgt k => ?_) ?_
  · show Steps p.tables e below (s₁.setTop (mkF m 0 #[.val (.int xv)] [])) tgt
    refine XS.iloadN X0.here hx rfl (hb hby d3_0) rfl ?_
    show Steps p.tables e below (s₁.setTop (mkF m 1 #[.val (.int xv)] [(.int xv)])) tgt
    refine XS.bipush X0.here hx rfl (hb hby d3_1) ?_
    exact k
  by_cases hc3 : xv < (48 : Int32)
  · skip
    refine own_st (V := s₁.setTop (mkF m 17 #[.val (.int xv)] [(.int (0 : Int32))])) (fun tgt k => ?_) ?_
    · show Steps p.tables e below (s₁.setTop (mkF m 3 #[.val (.int xv)] [(.int (48 : Int32)), (.int xv)])) tgt
      refine XS.icmpYes X0.here hx rfl (pc0 := 3) (pc' := 16) rfl (hb hby d3_3) rfl (tlt hc3).1 (by decide) (by decide) ?_
      show Steps p.tables e below (s₁.setTop (mkF m 16 #[.val (.int xv)] [])) tgt
      refine XS.iconst X0.here hx rfl (hb hby d3_16) ?_
      exact k
    refine own_retN X0 hx hlk (t := .boolean) (z' := (0 : Int32)) Bd.returns (by simp) rfl (hb hby d3_17) ?_ (by decide) (by decide)
    show Q3 Z xv h0 n0 (some (.int (0 : Int32))) s₁.heap _
    rw [e0]
    refine ⟨?_, N0, rfl⟩
    exact congrArg (fun q => some (Value.int q)) (by unfold own_isd; rw [if_pos hc3])
  · skip
    refine own_st (V := s₁.setTop (mkF m 9 #[.val (.int xv)] [(.int (57 : Int32)), (.int xv)])) (fun tgt k => ?_) ?_
    · show Steps p.tables e below (s₁.setTop (mkF m 3 #[.val (.int xv)] [(.int (48 : Int32)), (.int xv)])) tgt
      refine XS.icmpNo X0.here hx rfl (hb hby d3_3) rfl (flt hc3).1 ?_
      show Steps p.tables e below (s₁.setTop (mkF m 6 #[.val (.int xv)] [])) tgt
      refine XS.iloadN X0.here hx rfl (hb hby d3_6) rfl ?_
      show Steps p.tables e below (s₁.setTop (mkF m 7 #[.val (.int xv)] [(.int xv)])) tgt
      refine XS.bipush X0.here hx rfl (hb hby d3_7) ?_
      exact k
    by_cases hc9 : (57 : Int32) < xv
    · skip
      refine own_st (V := s₁.setTop (mkF m 17 #[.val (.int xv)] [(.int (0 : Int32))])) (fun tgt k => ?_) ?_
      · show Steps p.tables e below (s₁.setTop (mkF m 9 #[.val (.int xv)] [(.int (57 : Int32)), (.int xv)])) tgt
        refine XS.icmpYes X0.here hx rfl (pc0 := 9) (pc' := 16) rfl (hb hby d3_9) rfl (tlt hc9).2.2.1 (by decide) (by decide) ?_
        show Steps p.tables e below (s₁.setTop (mkF m 16 #[.val (.int xv)] [])) tgt
        refine XS.iconst X0.here hx rfl (hb hby d3_16) ?_
        exact k
      refine own_retN X0 hx hlk (t := .boolean) (z' := (0 : Int32)) Bd.returns (by simp) rfl (hb hby d3_17) ?_ (by decide) (by decide)
      show Q3 Z xv h0 n0 (some (.int (0 : Int32))) s₁.heap _
      rw [e0]
      refine ⟨?_, N0, rfl⟩
      exact congrArg (fun q => some (Value.int q)) (by unfold own_isd; rw [if_neg hc3, if_pos hc9])
    · skip
      refine own_st (V := s₁.setTop (mkF m 17 #[.val (.int xv)] [(.int (1 : Int32))])) (fun tgt k => ?_) ?_
      · show Steps p.tables e below (s₁.setTop (mkF m 9 #[.val (.int xv)] [(.int (57 : Int32)), (.int xv)])) tgt
        refine XS.icmpNo X0.here hx rfl (hb hby d3_9) rfl (flt hc9).2.2.1 ?_
        show Steps p.tables e below (s₁.setTop (mkF m 12 #[.val (.int xv)] [])) tgt
        refine XS.iconst X0.here hx rfl (hb hby d3_12) ?_
        show Steps p.tables e below (s₁.setTop (mkF m 13 #[.val (.int xv)] [(.int (1 : Int32))])) tgt
        refine XS.goto X0.here hx rfl (pc0 := 13) (pc' := 17) rfl (hb hby d3_13) (by decide) (by decide) ?_
        exact k
      refine own_retN X0 hx hlk (t := .boolean) (z' := (1 : Int32)) Bd.returns (by simp) rfl (hb hby d3_17) ?_ (by decide) (by decide)
      show Q3 Z xv h0 n0 (some (.int (1 : Int32))) s₁.heap _
      rw [e0]
      refine ⟨?_, N0, rfl⟩
      exact congrArg (fun q => some (Value.int q)) (by unfold own_isd; rw [if_neg hc3, if_neg hc9])
theorem d2_0 : decode method_3_code 0 = .ok (.iload_n 3, 1) := by decide +kernel
theorem d2_1 : decode method_3_code 1 = .ok (.iload_n 1, 1) := by decide +kernel
theorem d2_2 : decode method_3_code 2 = .ok (.if_icmp .lt 17, 3) := by decide +kernel
theorem d2_5 : decode method_3_code 5 = .ok (.iload_n 3, 1) := by decide +kernel
theorem d2_6 : decode method_3_code 6 = .ok (.iload_n 2, 1) := by decide +kernel
theorem d2_7 : decode method_3_code 7 = .ok (.if_icmp .ge 12, 3) := by decide +kernel
theorem d2_10 : decode method_3_code 10 = .ok (.aload_n 0, 1) := by decide +kernel
theorem d2_11 : decode method_3_code 11 = .ok (.iload_n 3, 1) := by decide +kernel
theorem d2_12 : decode method_3_code 12 = .ok (.baload, 1) := by decide +kernel
theorem d2_13 : decode method_3_code 13 = .ok (.invokestatic 19, 3) := by decide +kernel
theorem d2_16 : decode method_3_code 16 = .ok (.ifCond .eq 7, 3) := by decide +kernel
theorem d2_19 : decode method_3_code 19 = .ok (.iconst 1, 1) := by decide +kernel
theorem d2_20 : decode method_3_code 20 = .ok (.goto 4, 3) := by decide +kernel
theorem d2_23 : decode method_3_code 23 = .ok (.iconst 0, 1) := by decide +kernel
theorem d2_24 : decode method_3_code 24 = .ok (.ireturn, 1) := by decide +kernel
theorem pn_2 : plainName "com/example/tidewatch/tidewatch/io/DecimalSkipDigitsPinLaw" = true := by first | (simp [plainName, overriddenIn]; done) | decide +kernel
theorem pd_2_0 : parseMethodDescriptor "(B)Z" = some ⟨[.byte], some .boolean⟩ := by decide +kernel
theorem ef_2 (m : MethodId) (x0 : Addr) (x1 : Int32) (x2 : Int32) (x3 : Int32) : entryFrame m #[(.ref x0), (.int x1), (.int x2), (.int x3)] 4 = mkF m 0 #[.val (.ref x0), .val (.int x1), .val (.int x2), .val (.int x3)] [] := by first | (simp [entryFrame, mkF, argsToLocals, Value.category]; done) | rfl
def Q2 (Z : State) (ch : Addr) (xw : Int32) (xr : Int32) (xk : Int32) (nn : Nat) (ff : Nat → Int32) (kk : Nat) (h0 : Heap) (n0 : Nat) (v : Option Value) (h : Heap) (L : List Loc) : Prop := v = some (.int (own_doo ff xw xr xk kk)) ∧ Fr n0 L ∧ h = h0
set_option maxRecDepth 65536 in
set_option maxHeartbeats 40000000 in
theorem rm2 (l : Launch) (Z : State) (a0 : Array Value) (hw : ∀ d ∈ tables_1, d.before a0 Z = true) (ws : List Jvm.Cond) (ch : Addr) (xw : Int32) (xr : Int32) (xk : Int32) (nn : Nat) (ff : Nat → Int32) (kk : Nat) (h0 : Heap) (n0 : Nat) (Z0 : n0 ≤ h0.size) (A1 : own_Ai Z h0 ch .byte nn ff) (I1 : xk.toInt = (kk : Int)) (I2 : ¬ (xk < xw) → xk < xr → kk < nn) :
    MetFree l (⟨"com/example/tidewatch/tidewatch/io/DecimalSkipDigitsPinLaw", "digitOrOutside", "([BIII)Z"⟩ : MethodName) (head1 (Jvm.Cond.code (⟨"com/example/tidewatch/tidewatch/io/DecimalSkipDigitsPinLaw", "digitOrOutside", "([BIII)Z"⟩ : MethodName) method_3_code 4 (some .boolean) :: ws) ({ frames := 1, cells := 0, slots := 0, locals := 12 } : Room)) (fun a U => a = #[(.ref ch), (.int xw), (.int xr), (.int xk)] ∧ Z.Warmed39 U.vm ∧ U.heap = h0) (fun _ _ _ _ _ => True) (fun _ U o U' => ∃ v L, o = .returned v ∧ Q2 Z ch xw xr xk nn ff kk h0 n0 v U'.heap L ∧ FrameEnd U o U' L ({ frames := 1, cells := 0, slots := 0, locals := 12 } : Room).cells ({ frames := 1, cells := 0, slots := 0, locals := 12 } : Room).slots) := by
  refine MetFree.of_bodySF (plainFor_of_name pn_2) hisR ?_
  intro p e s m args below meth c s₁ Bd hml0 hP hK
  obtain ⟨rfl, hZ, hh⟩ := hP
  have hx := Bd.exec
  have hby := Bd.bytes
  have hlk : meth.locks = false := BodyLoose.notSynchronized Bd
  have hml : c.maxLocals = 4 := hml0
  have hown : s.vm.findClass "com/example/tidewatch/tidewatch/io/DecimalSkipDigitsPinLaw" = some m.cls := findClass_of_methodNamed Bd.named
  have hnm := (name_of_methodNamed Bd.named Bd.method).1
  have X0 : Stand p l e ({ frames := 1, cells := 0, slots := 0, locals := 12 } : Room) s m #[(.ref ch), (.int xw), (.int xr), (.int xk)] below meth c s₁ [] 0 0 := Stand.of_body Bd
  have e0 : s₁.heap = h0 := by rw [← hh, Bd.state]; rfl
  have N0 := Fr.nil n0
  show own_Go p e below (own_G s (Q2 Z ch xw xr xk nn ff kk h0 n0) ({ frames := 1, cells := 0, slots := 0, locals := 12 } : Room).cells ({ frames := 1, cells := 0, slots := 0, locals := 12 } : Room).slots) (s₁.setTop (entryFrame m #[(.ref ch), (.int xw), (.int xr), (.int xk)] 4))
  refine own_st (fun tgt k => castTop (ef_2 m ch xw xr xk) k) ?_
  show own_Go p e below _ (s₁.setTop (mkF m 0 #[.val (.ref ch), .val (.int xw), .val (.int xr), .val (.int xk)] []))
  refine own_st (V := s₁.setTop (mkF m 2 #[.val (.ref ch), .val (.int xw), .val (.int xr), .val (.int xk)] [(.int xw), (.int xk)])) (fun tgt k => ?_) ?_
  · show Steps p.tables e below (s₁.setTop (mkF m 0 #[.val (.ref ch), .val (.int xw), .val (.int xr), .val (.int xk)] [])) tgt
    refine XS.iloadN X0.here hx rfl (hb hby d2_0) rfl ?_
    show Steps p.tables e below (s₁.setTop (mkF m 1 #[.val (.ref ch), .val (.int xw), .val (.int xr), .val (.int xk)] [(.int xk)])) tgt
    refine XS.iloadN X0.here hx rfl (hb hby d2_1) rfl ?_
    exact k
  by_cases hc2 : xk < xw
  · skip
    refine own_st (V := s₁.setTop (mkF m 24 #[.val (.ref ch), .val (.int xw), .val (.int xr), .val (.int xk)] [(.int (1 : Int32))])) (fun tgt k => ?_) ?_
    · show Steps p.tables e below (s₁.setTop (mkF m 2 #[.val (.ref ch), .val (.int xw), .val (.int xr), .val (.int xk)] [(.int xw), (.int xk)])) tgt
      refine XS.icmpYes X0.here hx rfl (pc0 := 2) (pc' := 19) rfl (hb hby d2_2) rfl (tlt hc2).1 (by decide) (by decide) ?_
      show Steps p.tables e below (s₁.setTop (mkF m 19 #[.val (.ref ch), .val (.int xw), .val (.int xr), .val (.int xk)] [])) tgt
      refine XS.iconst X0.here hx rfl (hb hby d2_19) ?_
      show Steps p.tables e below (s₁.setTop (mkF m 20 #[.val (.ref ch), .val (.int xw), .val (.int xr), .val (.int xk)] [(.int (1 : Int32))])) tgt
      refine XS.goto X0.here hx rfl (pc0 := 20) (pc' := 24) rfl (hb hby d2_20) (by decide) (by decide) ?_
      exact k
    refine own_retN X0 hx hlk (t := .boolean) (z' := (1 : Int32)) Bd.returns (by simp) rfl (hb hby d2_24) ?_ (by decide) (by decide)
    show Q2 Z ch xw xr xk nn ff kk h0 n0 (some (.int (1 : Int32))) s₁.heap _
    rw [e0]
    refine ⟨?_, N0, rfl⟩
    exact congrArg (fun q => some (Value.int q)) (by unfold own_doo; rw [if_pos hc2])
  · skip
    refine own_st (V := s₁.setTop (mkF m 7 #[.val (.ref ch), .val (.int xw), .val (.int xr), .val (.int xk)] [(.int xr), (.int xk)])) (fun tgt k => ?_) ?_
    · show Steps p.tables e below (s₁.setTop (mkF m 2 #[.val (.ref ch), .val (.int xw), .val (.int xr), .val (.int xk)] [(.int xw), (.int xk)])) tgt
      refine XS.icmpNo X0.here hx rfl (hb hby d2_2) rfl (flt hc2).1 ?_
      show Steps p.tables e below (s₁.setTop (mkF m 5 #[.val (.ref ch), .val (.int xw), .val (.int xr), .val (.int xk)] [])) tgt
      refine XS.iloadN X0.here hx rfl (hb hby d2_5) rfl ?_
      show Steps p.tables e below (s₁.setTop (mkF m 6 #[.val (.ref ch), .val (.int xw), .val (.int xr), .val (.int xk)] [(.int xk)])) tgt
      refine XS.iloadN X0.here hx rfl (hb hby d2_6) rfl ?_
      exact k
    by_cases hc7 : xk < xr
    · skip
      refine own_st (V := s₁.setTop (mkF m 13 #[.val (.ref ch), .val (.int xw), .val (.int xr), .val (.int xk)] [(.int (ff kk))])) (fun tgt k => ?_) ?_
      · show Steps p.tables e below (s₁.setTop (mkF m 7 #[.val (.ref ch), .val (.int xw), .val (.int xr), .val (.int xk)] [(.int xr), (.int xk)])) tgt
        refine XS.icmpNo X0.here hx rfl (hb hby d2_7) rfl (tlt hc7).2.1 ?_
        show Steps p.tables e below (s₁.setTop (mkF m 10 #[.val (.ref ch), .val (.int xw), .val (.int xr), .val (.int xk)] [])) tgt
        refine XS.aloadN X0.here hx rfl (hb hby d2_10) rfl rfl ?_
        show Steps p.tables e below (s₁.setTop (mkF m 11 #[.val (.ref ch), .val (.int xw), .val (.int xr), .val (.int xk)] [(.ref ch)])) tgt
        refine XS.iloadN X0.here hx rfl (hb hby d2_11) rfl ?_
        show Steps p.tables e below (s₁.setTop (mkF m 12 #[.val (.ref ch), .val (.int xw), .val (.int xr), .val (.int xk)] [(.int xk), (.ref ch)])) tgt
        refine own_baload X0 hx hZ e0 A1 (j := xk) (k := kk) I1 (I2 hc2 hc7) (g := (mkF m 12 #[.val (.ref ch), .val (.int xw), .val (.int xr), .val (.int xk)] [(.int xk), (.ref ch)])) rfl rfl (hb hby d2_12) ?_
        exact k
      obtain ⟨_, _, ⟨T2, L2, k2, n2⟩, -, X2, ⟨Lc2, hQ2, l2, y2, z2⟩, st2⟩ := Jvm.LawKit.callS X0 hx (y := (⟨"com/example/tidewatch/tidewatch/io/DecimalSkipDigitsPinLaw", "isDigit", "(B)Z"⟩ : MethodName)) hown (mvT hZ (hw _ (List.mem_of_getElem? (i := 9) rfl))) (mvT hZ (hw _ (List.mem_of_getElem? (i := 10) rfl))) (mvT hZ (hw _ (List.mem_of_getElem? (i := 7) rfl))) (mvT hZ (hw _ (List.mem_of_getElem? (i := 11) rfl))) (by decide) (backOf (W := 0) (rm3 l Z a0 hw [] (ff kk) h0 n0 Z0 ) hZ (hw _ (List.mem_of_getElem? (i := 11) rfl)) (hw _ (List.mem_of_getElem? (i := 7) rfl)) (by decide) (by decide)) (g := (mkF m 13 #[.val (.ref ch), .val (.int xw), .val (.int xr), .val (.int xk)] [(.int (ff kk))])) rfl (by rw [hml]; rfl) (argsL := [(.int (ff kk))]) (rest := []) (lenOf pd_2_0 rfl) rfl (by show 2 * 0 + _ ≤ _; exact Nat.le_of_eq rfl) (hb hby d2_13) (fun _ _ => ⟨rfl, e0, (by decide : 0 + 0 ≤ _), (by decide : 0 + 0 ≤ _)⟩)
      dsimp only [Pt.U, Pt.locs, Pt.cells, Pt.slots] at X2 l2 y2 z2 st2 hQ2
      subst l2 y2 z2
      obtain ⟨rfl, N2q, K2⟩ := hQ2
      have N2 := Fr.app N0 N2q
      refine own_st st2 ?_
      show own_Go p e below _ (T2.setTop (mkF m 16 #[.val (.ref ch), .val (.int xw), .val (.int xr), .val (.int xk)] [(.int (own_isd (ff kk)))]))
      by_cases hc16 : (own_isd (ff kk)) = (0 : Int32)
      · skip
        refine own_st (V := T2.setTop (mkF m 24 #[.val (.ref ch), .val (.int xw), .val (.int xr), .val (.int xk)] [(.int (0 : Int32))])) (fun tgt k => ?_) ?_
        · show Steps p.tables e below (T2.setTop (mkF m 16 #[.val (.ref ch), .val (.int xw), .val (.int xr), .val (.int xk)] [(.int (own_isd (ff kk)))])) tgt
          refine XS.ifYes X2.here hx rfl (pc0 := 16) (pc' := 23) rfl (hb hby d2_16) rfl ((if0 _ _).trans (teq hc16).1) (by decide) (by decide) ?_
          show Steps p.tables e below (T2.setTop (mkF m 23 #[.val (.ref ch), .val (.int xw), .val (.int xr), .val (.int xk)] [])) tgt
          refine XS.iconst X2.here hx rfl (hb hby d2_23) ?_
          exact k
        refine own_retN X2 hx hlk (t := .boolean) (z' := (0 : Int32)) Bd.returns (by simp) rfl (hb hby d2_24) ?_ (by decide) (by decide)
        show Q2 Z ch xw xr xk nn ff kk h0 n0 (some (.int (0 : Int32))) T2.heap _
        rw [K2]
        refine ⟨?_, N2, rfl⟩
        exact congrArg (fun q => some (Value.int q)) (by unfold own_doo; rw [if_neg hc2, if_pos hc7, if_pos hc16])
      · skip
        refine own_st (V := T2.setTop (mkF m 24 #[.val (.ref ch), .val (.int xw), .val (.int xr), .val (.int xk)] [(.int (1 : Int32))])) (fun tgt k => ?_) ?_
        · show Steps p.tables e below (T2.setTop (mkF m 16 #[.val (.ref ch), .val (.int xw), .val (.int xr), .val (.int xk)] [(.int (own_isd (ff kk)))])) tgt
          refine XS.ifNo X2.here hx rfl (hb hby d2_16) rfl ((if0 _ _).trans (feq hc16).1) ?_
          show Steps p.tables e below (T2.setTop (mkF m 19 #[.val (.ref ch), .val (.int xw), .val (.int xr), .val (.int xk)] [])) tgt
          refine XS.iconst X2.here hx rfl (hb hby d2_19) ?_
          show Steps p.tables e below (T2.setTop (mkF m 20 #[.val (.ref ch), .val (.int xw), .val (.int xr), .val (.int xk)] [(.int (1 : Int32))])) tgt
          refine XS.goto X2.here hx rfl (pc0 := 20) (pc' := 24) rfl (hb hby d2_20) (by decide) (by decide) ?_
          exact k
        refine own_retN X2 hx hlk (t := .boolean) (z' := (1 : Int32)) Bd.returns (by simp) rfl (hb hby d2_24) ?_ (by decide) (by decide)
        show Q2 Z ch xw xr xk nn ff kk h0 n0 (some (.int (1 : Int32))) T2.heap _
        rw [K2]
        refine ⟨?_, N2, rfl⟩
        exact congrArg (fun q => some (Value.int q)) (by unfold own_doo; rw [if_neg hc2, if_pos hc7, if_neg hc16])
    · skip
      refine own_st (V := s₁.setTop (mkF m 24 #[.val (.ref ch), .val (.int xw), .val (.int xr), .val (.int xk)] [(.int (1 : Int32))])) (fun tgt k => ?_) ?_
      · show Steps p.tables e below (s₁.setTop (mkF m 7 #[.val (.ref ch), .val (.int xw), .val (.int xr), .val (.int xk)] [(.int xr), (.int xk)])) tgt
        refine XS.icmpYes X0.here hx rfl (pc0 := 7) (pc' := 19) rfl (hb hby d2_7) rfl (flt hc7).2.1 (by decide) (by decide) ?_
        show Steps p.tables e below (s₁.setTop (mkF m 19 #[.val (.ref ch), .val (.int xw), .val (.int xr), .val (.int xk)] [])) tgt
        refine XS.iconst X0.here hx rfl (hb hby d2_19) ?_
        show Steps p.tables e below (s₁.setTop (mkF m 20 #[.val (.ref ch), .val (.int xw), .val (.int xr), .val (.int xk)] [(.int (1 : Int32))])) tgt
        refine XS.goto X0.here hx rfl (pc0 := 20) (pc' := 24) rfl (hb hby d2_20) (by decide) (by decide) ?_
        exact k
      refine own_retN X0 hx hlk (t := .boolean) (z' := (1 : Int32)) Bd.returns (by simp) rfl (hb hby d2_24) ?_ (by decide) (by decide)
      show Q2 Z ch xw xr xk nn ff kk h0 n0 (some (.int (1 : Int32))) s₁.heap _
      rw [e0]
      refine ⟨?_, N0, rfl⟩
      exact congrArg (fun q => some (Value.int q)) (by unfold own_doo; rw [if_neg hc2, if_neg hc7])
theorem d1_0 : decode prog_30_method_4_code 0 = .ok (.iload_n 1, 1) := by decide +kernel
theorem d1_1 : decode prog_30_method_4_code 1 = .ok (.istore_n 2, 1) := by decide +kernel
theorem d1_2 : decode prog_30_method_4_code 2 = .ok (.iload_n 2, 1) := by decide +kernel
theorem d1_3 : decode prog_30_method_4_code 3 = .ok (.aload_n 0, 1) := by decide +kernel
theorem d1_4 : decode prog_30_method_4_code 4 = .ok (.arraylength, 1) := by decide +kernel
theorem d1_5 : decode prog_30_method_4_code 5 = .ok (.if_icmp .ge 25, 3) := by decide +kernel
theorem d1_8 : decode prog_30_method_4_code 8 = .ok (.aload_n 0, 1) := by decide +kernel
theorem d1_9 : decode prog_30_method_4_code 9 = .ok (.iload_n 2, 1) := by decide +kernel
theorem d1_10 : decode prog_30_method_4_code 10 = .ok (.baload, 1) := by decide +kernel
theorem d1_11 : decode prog_30_method_4_code 11 = .ok (.bipush 48, 2) := by decide +kernel
theorem d1_13 : decode prog_30_method_4_code 13 = .ok (.if_icmp .lt 17, 3) := by decide +kernel
theorem d1_16 : decode prog_30_method_4_code 16 = .ok (.aload_n 0, 1) := by decide +kernel
theorem d1_17 : decode prog_30_method_4_code 17 = .ok (.iload_n 2, 1) := by decide +kernel
theorem d1_18 : decode prog_30_method_4_code 18 = .ok (.baload, 1) := by decide +kernel
theorem d1_19 : decode prog_30_method_4_code 19 = .ok (.bipush 57, 2) := by decide +kernel
theorem d1_21 : decode prog_30_method_4_code 21 = .ok (.if_icmp .gt 9, 3) := by decide +kernel
theorem d1_24 : decode prog_30_method_4_code 24 = .ok (.iinc 2 1, 3) := by decide +kernel
theorem d1_27 : decode prog_30_method_4_code 27 = .ok (.goto (-25), 3) := by decide +kernel
theorem d1_30 : decode prog_30_method_4_code 30 = .ok (.iload_n 2, 1) := by decide +kernel
theorem d1_31 : decode prog_30_method_4_code 31 = .ok (.ireturn, 1) := by decide +kernel
theorem pn_1 : plainName "com/example/tidewatch/tidewatch/io/Decimal" = true := by first | (simp [plainName, overriddenIn]; done) | decide +kernel
theorem ef_1 (m : MethodId) (x0 : Addr) (x1 : Int32) : entryFrame m #[(.ref x0), (.int x1)] 3 = mkF m 0 #[.val (.ref x0), .val (.int x1), .unset] [] := by first | (simp [entryFrame, mkF, argsToLocals, Value.category]; done) | rfl
def Q1 (Z : State) (ch : Addr) (xw : Int32) (xz : Int32) (nn : Nat) (ff : Nat → Int32) (rr : Int32) (h0 : Heap) (n0 : Nat) (v : Option Value) (h : Heap) (L : List Loc) : Prop := v = some (.int rr) ∧ Fr n0 L ∧ h = h0
set_option maxRecDepth 65536 in
set_option maxHeartbeats 40000000 in
theorem rm1 (l : Launch) (Z : State) (a0 : Array Value) (hw : ∀ d ∈ tables_1, d.before a0 Z = true) (ws : List Jvm.Cond) (ch : Addr) (xw : Int32) (xz : Int32) (nn : Nat) (ff : Nat → Int32) (rr : Int32) (h0 : Heap) (n0 : Nat) (Z0 : n0 ≤ h0.size) (A1 : own_Ai Z h0 ch .byte nn ff) (HZ : xz.toInt = (nn : Int)) (HN : nn < 1000) (H0 : 0 ≤ xw.toInt) (R1 : xw.toInt ≤ rr.toInt) (R2 : ∀ k : Nat, xw.toInt ≤ k → (k : Int) < rr.toInt → k < nn ∧ 48 ≤ (ff k).toInt ∧ (ff k).toInt ≤ 57) (R3 : ¬ (rr.toInt < nn ∧ 48 ≤ (ff rr.toInt.toNat).toInt ∧ (ff rr.toInt.toNat).toInt ≤ 57)) :
    MetFree l (⟨"com/example/tidewatch/tidewatch/io/Decimal", "skipDigits", "([BI)I"⟩ : MethodName) (head1 (Jvm.Cond.code (⟨"com/example/tidewatch/tidewatch/io/Decimal", "skipDigits", "([BI)I"⟩ : MethodName) prog_30_method_4_code 3 (some .int) :: ws) ({ frames := 0, cells := 0, slots := 0, locals := 0 } : Room)) (fun a U => a = #[(.ref ch), (.int xw)] ∧ Z.Warmed39 U.vm ∧ U.heap = h0) (fun _ _ _ _ _ => True) (fun _ U o U' => ∃ v L, o = .returned v ∧ Q1 Z ch xw xz nn ff rr h0 n0 v U'.heap L ∧ FrameEnd U o U' L ({ frames := 0, cells := 0, slots := 0, locals := 0 } : Room).cells ({ frames := 0, cells := 0, slots := 0, locals := 0 } : Room).slots) := by
  refine MetFree.of_bodySF (plainFor_of_name pn_1) hisR ?_
  intro p e s m args below meth c s₁ Bd hml0 hP hK
  obtain ⟨rfl, hZ, hh⟩ := hP
  have hx := Bd.exec
  have hby := Bd.bytes
  have hlk : meth.locks = false := BodyLoose.notSynchronized Bd
  have hml : c.maxLocals = 3 := hml0
  have hown : s.vm.findClass "com/example/tidewatch/tidewatch/io/Decimal" = some m.cls := findClass_of_methodNamed Bd.named
  have hnm := (name_of_methodNamed Bd.named Bd.method).1
  have X0 : Stand p l e ({ frames := 0, cells := 0, slots := 0, locals := 0 } : Room) s m #[(.ref ch), (.int xw)] below meth c s₁ [] 0 0 := Stand.of_body Bd
  have e0 : s₁.heap = h0 := by rw [← hh, Bd.state]; rfl
  have N0 := Fr.nil n0
  show own_Go p e below (own_G s (Q1 Z ch xw xz nn ff rr h0 n0) ({ frames := 0, cells := 0, slots := 0, locals := 0 } : Room).cells ({ frames := 0, cells := 0, slots := 0, locals := 0 } : Room).slots) (s₁.setTop (entryFrame m #[(.ref ch), (.int xw)] 3))
  refine own_st (fun tgt k => castTop (ef_1 m ch xw) k) ?_
  show own_Go p e below _ (s₁.setTop (mkF m 0 #[.val (.ref ch), .val (.int xw), .unset] []))
  refine own_st (V := s₁.setTop (mkF m 2 #[.val (.ref ch), .val (.int xw), .val (.int xw)] [])) (fun tgt k => ?_) ?_
  · show Steps p.tables e below (s₁.setTop (mkF m 0 #[.val (.ref ch), .val (.int xw), .unset] [])) tgt
    refine XS.iloadN X0.here hx rfl (hb hby d1_0) rfl ?_
    show Steps p.tables e below (s₁.setTop (mkF m 1 #[.val (.ref ch), .val (.int xw), .unset] [(.int xw)])) tgt
    refine XS.istoreN X0.here hx rfl (hb hby d1_1) rfl (l' := #[.val (.ref ch), .val (.int xw), .val (.int xw)]) rfl ?_
    exact k
  have loop : ∀ (n : Nat) (iv : Int32), xw.toInt ≤ iv.toInt → iv.toInt ≤ rr.toInt → rr.toInt - iv.toInt = (n : Int) → own_Go p e below (own_G s (Q1 Z ch xw xz nn ff rr h0 n0) ({ frames := 0, cells := 0, slots := 0, locals := 0 } : Room).cells ({ frames := 0, cells := 0, slots := 0, locals := 0 } : Room).slots) (s₁.setTop (mkF m 2 #[.val (.ref ch), .val (.int xw), .val (.int iv)] [])) := by
    intro n
    induction n with
    | zero =>
      intro iv h1 h2 h3
      have hr : iv = rr := Int32.toInt_inj.mp (by omega)
      have R4 : ¬ (iv.toInt < nn ∧ 48 ≤ (ff iv.toInt.toNat).toInt ∧ (ff iv.toInt.toNat).toInt ≤ 57) := by rw [hr]; exact R3
      refine own_st (V := s₁.setTop (mkF m 5 #[.val (.ref ch), .val (.int xw), .val (.int iv)] [(.int xz), (.int iv)])) (fun tgt k => ?_) ?_
      · show Steps p.tables e below (s₁.setTop (mkF m 2 #[.val (.ref ch), .val (.int xw), .val (.int iv)] [])) tgt
        refine XS.iloadN X0.here hx rfl (hb hby d1_2) rfl ?_
        show Steps p.tables e below (s₁.setTop (mkF m 3 #[.val (.ref ch), .val (.int xw), .val (.int iv)] [(.int iv)])) tgt
        refine XS.aloadN X0.here hx rfl (hb hby d1_3) rfl rfl ?_
        show Steps p.tables e below (s₁.setTop (mkF m 4 #[.val (.ref ch), .val (.int xw), .val (.int iv)] [(.ref ch), (.int iv)])) tgt
        refine own_alen X0 hx hZ e0 A1 (z := xz) HZ (g := (mkF m 4 #[.val (.ref ch), .val (.int xw), .val (.int iv)] [(.ref ch), (.int iv)])) rfl rfl (hb hby d1_4) ?_
        exact k
      by_cases hc5 : iv < xz
      · skip
        refine own_st (V := s₁.setTop (mkF m 13 #[.val (.ref ch), .val (.int xw), .val (.int iv)] [(.int (48 : Int32)), (.int (ff iv.toInt.toNat))])) (fun tgt k => ?_) ?_
        · show Steps p.tables e below (s₁.setTop (mkF m 5 #[.val (.ref ch), .val (.int xw), .val (.int iv)] [(.int xz), (.int iv)])) tgt
          refine XS.icmpNo X0.here hx rfl (hb hby d1_5) rfl (tlt hc5).2.1 ?_
          show Steps p.tables e below (s₁.setTop (mkF m 8 #[.val (.ref ch), .val (.int xw), .val (.int iv)] [])) tgt
          refine XS.aloadN X0.here hx rfl (hb hby d1_8) rfl rfl ?_
          show Steps p.tables e below (s₁.setTop (mkF m 9 #[.val (.ref ch), .val (.int xw), .val (.int iv)] [(.ref ch)])) tgt
          refine XS.iloadN X0.here hx rfl (hb hby d1_9) rfl ?_
          show Steps p.tables e below (s₁.setTop (mkF m 10 #[.val (.ref ch), .val (.int xw), .val (.int iv)] [(.int iv), (.ref ch)])) tgt
          refine own_baload X0 hx hZ e0 A1 (j := iv) (k := iv.toInt.toNat) (by omega) (by have := own_ilt.mp hc5; omega) (g := (mkF m 10 #[.val (.ref ch), .val (.int xw), .val (.int iv)] [(.int iv), (.ref ch)])) rfl rfl (hb hby d1_10) ?_
          show Steps p.tables e below (s₁.setTop (mkF m 11 #[.val (.ref ch), .val (.int xw), .val (.int iv)] [(.int (ff iv.toInt.toNat))])) tgt
          refine XS.bipush X0.here hx rfl (hb hby d1_11) ?_
          exact k
        by_cases hc13 : (ff iv.toInt.toNat) < (48 : Int32)
        · skip
          refine own_st (V := s₁.setTop (mkF m 31 #[.val (.ref ch), .val (.int xw), .val (.int iv)] [(.int iv)])) (fun tgt k => ?_) ?_
          · show Steps p.tables e below (s₁.setTop (mkF m 13 #[.val (.ref ch), .val (.int xw), .val (.int iv)] [(.int (48 : Int32)), (.int (ff iv.toInt.toNat))])) tgt
            refine XS.icmpYes X0.here hx rfl (pc0 := 13) (pc' := 30) rfl (hb hby d1_13) rfl (tlt hc13).1 (by decide) (by decide) ?_
            show Steps p.tables e below (s₁.setTop (mkF m 30 #[.val (.ref ch), .val (.int xw), .val (.int iv)] [])) tgt
            refine XS.iloadN X0.here hx rfl (hb hby d1_30) rfl ?_
            exact k
          refine own_retI X0 hx hlk Bd.returns (hb hby d1_31) ?_ (by decide) (by decide)
          show Q1 Z ch xw xz nn ff rr h0 n0 (some (.int iv)) s₁.heap _
          rw [e0]
          refine ⟨?_, N0, rfl⟩
          exact congrArg (fun q => some (Value.int q)) (hr)
        · skip
          refine own_st (V := s₁.setTop (mkF m 31 #[.val (.ref ch), .val (.int xw), .val (.int iv)] [(.int iv)])) (fun tgt k => ?_) ?_
          · show Steps p.tables e below (s₁.setTop (mkF m 13 #[.val (.ref ch), .val (.int xw), .val (.int iv)] [(.int (48 : Int32)), (.int (ff iv.toInt.toNat))])) tgt
            refine XS.icmpNo X0.here hx rfl (hb hby d1_13) rfl (flt hc13).1 ?_
            show Steps p.tables e below (s₁.setTop (mkF m 16 #[.val (.ref ch), .val (.int xw), .val (.int iv)] [])) tgt
            refine XS.aloadN X0.here hx rfl (hb hby d1_16) rfl rfl ?_
            show Steps p.tables e below (s₁.setTop (mkF m 17 #[.val (.ref ch), .val (.int xw), .val (.int iv)] [(.ref ch)])) tgt
            refine XS.iloadN X0.here hx rfl (hb hby d1_17) rfl ?_
            show Steps p.tables e below (s₁.setTop (mkF m 18 #[.val (.ref ch), .val (.int xw), .val (.int iv)] [(.int iv), (.ref ch)])) tgt
            refine own_baload X0 hx hZ e0 A1 (j := iv) (k := iv.toInt.toNat) (by omega) (by have := own_ilt.mp hc5; omega) (g := (mkF m 18 #[.val (.ref ch), .val (.int xw), .val (.int iv)] [(.int iv), (.ref ch)])) rfl rfl (hb hby d1_18) ?_
            show Steps p.tables e below (s₁.setTop (mkF m 19 #[.val (.ref ch), .val (.int xw), .val (.int iv)] [(.int (ff iv.toInt.toNat))])) tgt
            refine XS.bipush X0.here hx rfl (hb hby d1_19) ?_
            show Steps p.tables e below (s₁.setTop (mkF m 21 #[.val (.ref ch), .val (.int xw), .val (.int iv)] [(.int (57 : Int32)), (.int (ff iv.toInt.toNat))])) tgt
            refine XS.icmpYes X0.here hx rfl (pc0 := 21) (pc' := 30) rfl (hb hby d1_21) rfl (tlt (by rw [own_ilt, show (48 : Int32).toInt = 48 from rfl] at hc13; have := own_ilt.mp hc5; rw [own_ilt, show (57 : Int32).toInt = 57 from rfl]; omega)).2.2.1 (by decide) (by decide) ?_
            show Steps p.tables e below (s₁.setTop (mkF m 30 #[.val (.ref ch), .val (.int xw), .val (.int iv)] [])) tgt
            refine XS.iloadN X0.here hx rfl (hb hby d1_30) rfl ?_
            exact k
          refine own_retI X0 hx hlk Bd.returns (hb hby d1_31) ?_ (by decide) (by decide)
          show Q1 Z ch xw xz nn ff rr h0 n0 (some (.int iv)) s₁.heap _
          rw [e0]
          refine ⟨?_, N0, rfl⟩
          exact congrArg (fun q => some (Value.int q)) (hr)
      · skip
        refine own_st (V := s₁.setTop (mkF m 31 #[.val (.ref ch), .val (.int xw), .val (.int iv)] [(.int iv)])) (fun tgt k => ?_) ?_
        · show Steps p.tables e below (s₁.setTop (mkF m 5 #[.val (.ref ch), .val (.int xw), .val (.int iv)] [(.int xz), (.int iv)])) tgt
          refine XS.icmpYes X0.here hx rfl (pc0 := 5) (pc' := 30) rfl (hb hby d1_5) rfl (flt hc5).2.1 (by decide) (by decide) ?_
          show Steps p.tables e below (s₁.setTop (mkF m 30 #[.val (.ref ch), .val (.int xw), .val (.int iv)] [])) tgt
          refine XS.iloadN X0.here hx rfl (hb hby d1_30) rfl ?_
          exact k
        refine own_retI X0 hx hlk Bd.returns (hb hby d1_31) ?_ (by decide) (by decide)
        show Q1 Z ch xw xz nn ff rr h0 n0 (some (.int iv)) s₁.heap _
        rw [e0]
        refine ⟨?_, N0, rfl⟩
        exact congrArg (fun q => some (Value.int q)) (hr)
    | succ n ih =>
      intro iv h1 h2 h3
      have q := R2 iv.toInt.toNat (by omega) (by omega)
      have q0 : iv < xz := by rw [own_ilt]; omega
      have e48 : (48 : Int32).toInt = 48 := by decide
      have e57 : (57 : Int32).toInt = 57 := by decide
      refine own_st (V := s₁.setTop (mkF m 2 #[.val (.ref ch), .val (.int xw), .val (.int (iv + (1 : Int32)))] [])) (fun tgt k => ?_) ?_
      · show Steps p.tables e below (s₁.setTop (mkF m 2 #[.val (.ref ch), .val (.int xw), .val (.int iv)] [])) tgt
        refine XS.iloadN X0.here hx rfl (hb hby d1_2) rfl ?_
        show Steps p.tables e below (s₁.setTop (mkF m 3 #[.val (.ref ch), .val (.int xw), .val (.int iv)] [(.int iv)])) tgt
        refine XS.aloadN X0.here hx rfl (hb hby d1_3) rfl rfl ?_
        show Steps p.tables e below (s₁.setTop (mkF m 4 #[.val (.ref ch), .val (.int xw), .val (.int iv)] [(.ref ch), (.int iv)])) tgt
        refine own_alen X0 hx hZ e0 A1 (z := xz) HZ (g := (mkF m 4 #[.val (.ref ch), .val (.int xw), .val (.int iv)] [(.ref ch), (.int iv)])) rfl rfl (hb hby d1_4) ?_
        show Steps p.tables e below (s₁.setTop (mkF m 5 #[.val (.ref ch), .val (.int xw), .val (.int iv)] [(.int xz), (.int iv)])) tgt
        refine XS.icmpNo X0.here hx rfl (hb hby d1_5) rfl (tlt q0).2.1 ?_
        show Steps p.tables e below (s₁.setTop (mkF m 8 #[.val (.ref ch), .val (.int xw), .val (.int iv)] [])) tgt
        refine XS.aloadN X0.here hx rfl (hb hby d1_8) rfl rfl ?_
        show Steps p.tables e below (s₁.setTop (mkF m 9 #[.val (.ref ch), .val (.int xw), .val (.int iv)] [(.ref ch)])) tgt
        refine XS.iloadN X0.here hx rfl (hb hby d1_9) rfl ?_
        show Steps p.tables e below (s₁.setTop (mkF m 10 #[.val (.ref ch), .val (.int xw), .val (.int iv)] [(.int iv), (.ref ch)])) tgt
        refine own_baload X0 hx hZ e0 A1 (j := iv) (k := iv.toInt.toNat) (by omega) (by omega) (g := (mkF m 10 #[.val (.ref ch), .val (.int xw), .val (.int iv)] [(.int iv), (.ref ch)])) rfl rfl (hb hby d1_10) ?_
        show Steps p.tables e below (s₁.setTop (mkF m 11 #[.val (.ref ch), .val (.int xw), .val (.int iv)] [(.int (ff iv.toInt.toNat))])) tgt
        refine XS.bipush X0.here hx rfl (hb hby d1_11) ?_
        show Steps p.tables e below (s₁.setTop (mkF m 13 #[.val (.ref ch), .val (.int xw), .val (.int iv)] [(.int (48 : Int32)), (.int (ff iv.toInt.toNat))])) tgt
        refine XS.icmpNo X0.here hx rfl (hb hby d1_13) rfl (flt (by rw [own_ilt, e48]; omega)).1 ?_
        show Steps p.tables e below (s₁.setTop (mkF m 16 #[.val (.ref ch), .val (.int xw), .val (.int iv)] [])) tgt
        refine XS.aloadN X0.here hx rfl (hb hby d1_16) rfl rfl ?_
        show Steps p.tables e below (s₁.setTop (mkF m 17 #[.val (.ref ch), .val (.int xw), .val (.int iv)] [(.ref ch)])) tgt
        refine XS.iloadN X0.here hx rfl (hb hby d1_17) rfl ?_
        show Steps p.tables e below (s₁.setTop (mkF m 18 #[.val (.ref ch), .val (.int xw), .val (.int iv)] [(.int iv), (.ref ch)])) tgt
        refine own_baload X0 hx hZ e0 A1 (j := iv) (k := iv.toInt.toNat) (by omega) (by omega) (g := (mkF m 18 #[.val (.ref ch), .val (.int xw), .val (.int iv)] [(.int iv), (.ref ch)])) rfl rfl (hb hby d1_18) ?_
        show Steps p.tables e below (s₁.setTop (mkF m 19 #[.val (.ref ch), .val (.int xw), .val (.int iv)] [(.int (ff iv.toInt.toNat))])) tgt
        refine XS.bipush X0.here hx rfl (hb hby d1_19) ?_
        show Steps p.tables e below (s₁.setTop (mkF m 21 #[.val (.ref ch), .val (.int xw), .val (.int iv)] [(.int (57 : Int32)), (.int (ff iv.toInt.toNat))])) tgt
        refine XS.icmpNo X0.here hx rfl (hb hby d1_21) rfl (flt (by rw [own_ilt, e57]; omega)).2.2.1 ?_
        show Steps p.tables e below (s₁.setTop (mkF m 24 #[.val (.ref ch), .val (.int xw), .val (.int iv)] [])) tgt
        refine XS.iinc X0.here hx rfl (hb hby d1_24) rfl (l' := #[.val (.ref ch), .val (.int xw), .val (.int (iv + (1 : Int32)))]) rfl ?_
        show Steps p.tables e below (s₁.setTop (mkF m 27 #[.val (.ref ch), .val (.int xw), .val (.int (iv + (1 : Int32)))] [])) tgt
        refine XS.goto X0.here hx rfl (pc0 := 27) (pc' := 2) rfl (hb hby d1_27) (by decide) (by decide) ?_
        exact k
      exact ih (iv + (1 : Int32)) (by rw [own_inc iv (by omega) (by omega)]; omega) (by rw [own_inc iv (by omega) (by omega)]; omega) (by rw [own_inc iv (by omega) (by omega)]; omega)
  exact loop (rr.toInt - xw.toInt).toNat xw (Int.le_refl _) R1 (by omega)
theorem pn_0 : plainName "com/example/tidewatch/tidewatch/io/DecimalSkipDigitsPinLaw" = true := by first | (simp [plainName, overriddenIn]; done) | decide +kernel
theorem pd_0_0 : parseMethodDescriptor "([BI)I" = some ⟨[(.array .byte), .int], some .int⟩ := by decide +kernel
theorem pd_0_1 : parseMethodDescriptor "([BIII)Z" = some ⟨[(.array .byte), .int, .int, .int], some .boolean⟩ := by decide +kernel
theorem pd_0_2 : parseMethodDescriptor "(B)Z" = some ⟨[.byte], some .boolean⟩ := by decide +kernel
theorem ef_0 (m : MethodId) (x0 : Int32) (x1 : Int32) (x2 : Int32) (x3 : Int32) (x4 : Int32) : entryFrame m #[(.int x0), (.int x1), (.int x2), (.int x3), (.int x4)] maxLocals = mkF m 0 #[.val (.int x0), .val (.int x1), .val (.int x2), .val (.int x3), .val (.int x4), .unset, .unset, .unset, .unset, .unset, .unset, .unset] [] := by first | (simp [entryFrame, mkF, argsToLocals, Value.category, maxLocals]; done) | rfl
def Q0 (Z : State) (b0 : Int32) (b1 : Int32) (b2 : Int32) (b3 : Int32) (sp : Int32) (h0 : Heap) (n0 : Nat) (v : Option Value) (h : Heap) (L : List Loc) : Prop := v = some (.int (1 : Int32)) ∧ Fr n0 L
set_option maxRecDepth 65536 in
set_option maxHeartbeats 40000000 in
theorem rm0 (l : Launch) (Z : State) (a0 : Array Value) (hw : ∀ d ∈ tables_1, d.before a0 Z = true) (ws : List Jvm.Cond) (b0 : Int32) (b1 : Int32) (b2 : Int32) (b3 : Int32) (sp : Int32) (h0 : Heap) (n0 : Nat) (Z0 : n0 ≤ h0.size) :
    MetFree l x (head1 (Jvm.Cond.code x code maxLocals ret :: ws) room_1) (fun a U => a = #[(.int b0), (.int b1), (.int b2), (.int b3), (.int sp)] ∧ Z.Warmed39 U.vm ∧ U.heap = h0) (fun _ _ _ _ _ => True) (fun _ U o U' => ∃ v L, o = .returned v ∧ Q0 Z b0 b1 b2 b3 sp h0 n0 v U'.heap L ∧ FrameEnd U o U' L 16 128) := by
  refine MetFree.of_bodySF (plainFor_of_name pn_0) hisR ?_
  intro p e s m args below meth c s₁ Bd hml0 hP hK
  obtain ⟨rfl, hZ, hh⟩ := hP
  have hx := Bd.exec
  have hby := Bd.bytes
  have hlk : meth.locks = false := BodyLoose.notSynchronized Bd
  have hml : c.maxLocals = 12 := hml0
  have hown : s.vm.findClass "com/example/tidewatch/tidewatch/io/DecimalSkipDigitsPinLaw" = some m.cls := findClass_of_methodNamed Bd.named
  have hnm := (name_of_methodNamed Bd.named Bd.method).1
  have X0 : Stand p l e room_1 s m #[(.int b0), (.int b1), (.int b2), (.int b3), (.int sp)] below meth c s₁ [] 0 0 := Stand.of_body Bd
  have e0 : s₁.heap = h0 := by rw [← hh, Bd.state]; rfl
  have N0 := Fr.nil n0
  show own_Go p e below (own_G s (Q0 Z b0 b1 b2 b3 sp h0 n0) 16 128) (s₁.setTop (entryFrame m #[(.int b0), (.int b1), (.int b2), (.int b3), (.int sp)] maxLocals))
  refine own_st (fun tgt k => castTop (ef_0 m b0 b1 b2 b3 sp) k) ?_
  show own_Go p e below _ (s₁.setTop (mkF m 0 #[.val (.int b0), .val (.int b1), .val (.int b2), .val (.int b3), .val (.int sp), .unset, .unset, .unset, .unset, .unset, .unset, .unset] []))
  refine own_st (V := s₁.setTop (mkF m 9 #[.val (.int b0), .val (.int b1), .val (.int b2), .val (.int b3), .val (.int sp), .val (.int ((sp &&& (7 : Int32)) % (5 : Int32))), .unset, .unset, .unset, .unset, .unset, .unset] [])) (fun tgt k => ?_) ?_
  · show Steps p.tables e below (s₁.setTop (mkF m 0 #[.val (.int b0), .val (.int b1), .val (.int b2), .val (.int b3), .val (.int sp), .unset, .unset, .unset, .unset, .unset, .unset, .unset] [])) tgt
    refine XS.iload X0.here hx rfl (hb hby at_0) rfl ?_
    show Steps p.tables e below (s₁.setTop (mkF m 2 #[.val (.int b0), .val (.int b1), .val (.int b2), .val (.int b3), .val (.int sp), .unset, .unset, .unset, .unset, .unset, .unset, .unset] [(.int sp)])) tgt
    refine XS.bipush X0.here hx rfl (hb hby at_2) ?_
    show Steps p.tables e below (s₁.setTop (mkF m 4 #[.val (.int b0), .val (.int b1), .val (.int b2), .val (.int b3), .val (.int sp), .unset, .unset, .unset, .unset, .unset, .unset, .unset] [(.int (7 : Int32)), (.int sp)])) tgt
    refine XS.iand X0.here hx rfl (hb hby at_4) rfl ?_
    show Steps p.tables e below (s₁.setTop (mkF m 5 #[.val (.int b0), .val (.int b1), .val (.int b2), .val (.int b3), .val (.int sp), .unset, .unset, .unset, .unset, .unset, .unset, .unset] [(.int (sp &&& (7 : Int32)))])) tgt
    refine XS.iconst X0.here hx rfl (hb hby at_5) ?_
    show Steps p.tables e below (s₁.setTop (mkF m 6 #[.val (.int b0), .val (.int b1), .val (.int b2), .val (.int b3), .val (.int sp), .unset, .unset, .unset, .unset, .unset, .unset, .unset] [(.int (5 : Int32)), (.int (sp &&& (7 : Int32)))])) tgt
    refine iremM X0 hx rfl (hb hby at_6) rfl (by decide) ?_
    show Steps p.tables e below (s₁.setTop (mkF m 7 #[.val (.int b0), .val (.int b1), .val (.int b2), .val (.int b3), .val (.int sp), .unset, .unset, .unset, .unset, .unset, .unset, .unset] [(.int ((sp &&& (7 : Int32)) % (5 : Int32)))])) tgt
    refine XS.istore X0.here hx rfl (hb hby at_7) rfl (l' := #[.val (.int b0), .val (.int b1), .val (.int b2), .val (.int b3), .val (.int sp), .val (.int ((sp &&& (7 : Int32)) % (5 : Int32))), .unset, .unset, .unset, .unset, .unset, .unset]) rfl ?_
    exact k
  rcases own_len5 sp with q | q | q | q | q
  · skip
    rw [show ((sp &&& (7 : Int32)) % (5 : Int32)) = (0 : Int32) from q]
    refine own_st (V := s₁.setTop (mkF m 18 #[.val (.int b0), .val (.int b1), .val (.int b2), .val (.int b3), .val (.int sp), .val (.int (0 : Int32)), .val (.int (((sp.toUInt32 >>> ((3 : Int32) &&& 31).toUInt32).toInt32) &&& (7 : Int32))), .unset, .unset, .unset, .unset, .unset] [])) (fun tgt k => ?_) ?_
    · show Steps p.tables e below (s₁.setTop (mkF m 9 #[.val (.int b0), .val (.int b1), .val (.int b2), .val (.int b3), .val (.int sp), .val (.int (0 : Int32)), .unset, .unset, .unset, .unset, .unset, .unset] [])) tgt
      refine XS.iload X0.here hx rfl (hb hby at_9) rfl ?_
      show Steps p.tables e below (s₁.setTop (mkF m 11 #[.val (.int b0), .val (.int b1), .val (.int b2), .val (.int b3), .val (.int sp), .val (.int (0 : Int32)), .unset, .unset, .unset, .unset, .unset, .unset] [(.int sp)])) tgt
      refine XS.iconst X0.here hx rfl (hb hby at_11) ?_
      show Steps p.tables e below (s₁.setTop (mkF m 12 #[.val (.int b0), .val (.int b1), .val (.int b2), .val (.int b3), .val (.int sp), .val (.int (0 : Int32)), .unset, .unset, .unset, .unset, .unset, .unset] [(.int (3 : Int32)), (.int sp)])) tgt
      refine XS.iushr X0.here hx rfl (hb hby at_12) rfl ?_
      show Steps p.tables e below (s₁.setTop (mkF m 13 #[.val (.int b0), .val (.int b1), .val (.int b2), .val (.int b3), .val (.int sp), .val (.int (0 : Int32)), .unset, .unset, .unset, .unset, .unset, .unset] [(.int ((sp.toUInt32 >>> ((3 : Int32) &&& 31).toUInt32).toInt32))])) tgt
      refine XS.bipush X0.here hx rfl (hb hby at_13) ?_
      show Steps p.tables e below (s₁.setTop (mkF m 15 #[.val (.int b0), .val (.int b1), .val (.int b2), .val (.int b3), .val (.int sp), .val (.int (0 : Int32)), .unset, .unset, .unset, .unset, .unset, .unset] [(.int (7 : Int32)), (.int ((sp.toUInt32 >>> ((3 : Int32) &&& 31).toUInt32).toInt32))])) tgt
      refine XS.iand X0.here hx rfl (hb hby at_15) rfl ?_
      show Steps p.tables e below (s₁.setTop (mkF m 16 #[.val (.int b0), .val (.int b1), .val (.int b2), .val (.int b3), .val (.int sp), .val (.int (0 : Int32)), .unset, .unset, .unset, .unset, .unset, .unset] [(.int (((sp.toUInt32 >>> ((3 : Int32) &&& 31).toUInt32).toInt32) &&& (7 : Int32)))])) tgt
      refine XS.istore X0.here hx rfl (hb hby at_16) rfl (l' := #[.val (.int b0), .val (.int b1), .val (.int b2), .val (.int b3), .val (.int sp), .val (.int (0 : Int32)), .val (.int (((sp.toUInt32 >>> ((3 : Int32) &&& 31).toUInt32).toInt32) &&& (7 : Int32))), .unset, .unset, .unset, .unset, .unset]) rfl ?_
      exact k
    obtain ⟨av, hav⟩ : ∃ z : Int32, z = (((sp.toUInt32 >>> ((3 : Int32) &&& 31).toUInt32).toInt32) &&& (7 : Int32)) := ⟨_, rfl⟩
    rw [← hav]
    have hav0 : 0 ≤ av.toInt := by rw [hav]; exact (c_and _ 7 (by decide)).1
    refine own_st (V := s₁.setTop (mkF m 20 #[.val (.int b0), .val (.int b1), .val (.int b2), .val (.int b3), .val (.int sp), .val (.int (0 : Int32)), .val (.int av), .unset, .unset, .unset, .unset, .unset] [(.int (0 : Int32))])) (fun tgt k => ?_) ?_
    · show Steps p.tables e below (s₁.setTop (mkF m 18 #[.val (.int b0), .val (.int b1), .val (.int b2), .val (.int b3), .val (.int sp), .val (.int (0 : Int32)), .val (.int av), .unset, .unset, .unset, .unset, .unset] [])) tgt
      refine XS.iload X0.here hx rfl (hb hby at_18) rfl ?_
      exact k
    obtain ⟨T1, h1, c1, X1, e1, E1, A1, st1⟩ := own_newarr X0 hx hZ (hw _ (List.mem_of_getElem? (i := 0) rfl)) e0 (g := (mkF m 20 #[.val (.int b0), .val (.int b1), .val (.int b2), .val (.int b3), .val (.int sp), .val (.int (0 : Int32)), .val (.int av), .unset, .unset, .unset, .unset, .unset] [(.int (0 : Int32))])) rfl (hb hby at_20) rfl (k := 0) rfl (cap := 0) (by decide) (by decide) (by decide) (by decide)
    obtain ⟨ca, g1⟩ : ∃ z, z = h0.size := ⟨_, rfl⟩
    rw [← g1] at A1 st1
    have g_ca : n0 ≤ ca := Nat.le_trans Z0 (Nat.le_of_eq g1.symm)
    have A_ca_1 : own_Ai Z h1 ca .byte 0 (fun _ => 0) := own_Ai.new A1
    have Zs1 : n0 ≤ h1.size := Nat.le_trans Z0 E1.1
    refine own_st st1 ?_
    show own_Go p e below _ (T1.setTop (mkF m 22 #[.val (.int b0), .val (.int b1), .val (.int b2), .val (.int b3), .val (.int sp), .val (.int (0 : Int32)), .val (.int av), .unset, .unset, .unset, .unset, .unset] [(.ref ca)]))
    refine own_st (V := T1.setTop (mkF m 87 #[.val (.int b0), .val (.int b1), .val (.int b2), .val (.int b3), .val (.int sp), .val (.int (0 : Int32)), .val (.int av), .val (.ref ca), .unset, .unset, .unset, .unset] [(.int av), (.ref ca)])) (fun tgt k => ?_) ?_
    · show Steps p.tables e below (T1.setTop (mkF m 22 #[.val (.int b0), .val (.int b1), .val (.int b2), .val (.int b3), .val (.int sp), .val (.int (0 : Int32)), .val (.int av), .unset, .unset, .unset, .unset, .unset] [(.ref ca)])) tgt
      refine XS.astore X1.here hx rfl (hb hby at_22) rfl rfl (l' := #[.val (.int b0), .val (.int b1), .val (.int b2), .val (.int b3), .val (.int sp), .val (.int (0 : Int32)), .val (.int av), .val (.ref ca), .unset, .unset, .unset, .unset]) rfl ?_
      show Steps p.tables e below (T1.setTop (mkF m 24 #[.val (.int b0), .val (.int b1), .val (.int b2), .val (.int b3), .val (.int sp), .val (.int (0 : Int32)), .val (.int av), .val (.ref ca), .unset, .unset, .unset, .unset] [])) tgt
      refine XS.iload X1.here hx rfl (hb hby at_24) rfl ?_
      show Steps p.tables e below (T1.setTop (mkF m 26 #[.val (.int b0), .val (.int b1), .val (.int b2), .val (.int b3), .val (.int sp), .val (.int (0 : Int32)), .val (.int av), .val (.ref ca), .unset, .unset, .unset, .unset] [(.int (0 : Int32))])) tgt
      refine XS.ifYes X1.here hx rfl (pc0 := 26) (pc' := 38) rfl (hb hby at_26) rfl ((if0 _ _).trans (flt (by decide : ¬ ((0 : Int32) < (0 : Int32)))).2.2.2) (by decide) (by decide) ?_
      show Steps p.tables e below (T1.setTop (mkF m 38 #[.val (.int b0), .val (.int b1), .val (.int b2), .val (.int b3), .val (.int sp), .val (.int (0 : Int32)), .val (.int av), .val (.ref ca), .unset, .unset, .unset, .unset] [])) tgt
      refine XS.iload X1.here hx rfl (hb hby at_38) rfl ?_
      show Steps p.tables e below (T1.setTop (mkF m 40 #[.val (.int b0), .val (.int b1), .val (.int b2), .val (.int b3), .val (.int sp), .val (.int (0 : Int32)), .val (.int av), .val (.ref ca), .unset, .unset, .unset, .unset] [(.int (0 : Int32))])) tgt
      refine XS.iconst X1.here hx rfl (hb hby at_40) ?_
      show Steps p.tables e below (T1.setTop (mkF m 41 #[.val (.int b0), .val (.int b1), .val (.int b2), .val (.int b3), .val (.int sp), .val (.int (0 : Int32)), .val (.int av), .val (.ref ca), .unset, .unset, .unset, .unset] [(.int (1 : Int32)), (.int (0 : Int32))])) tgt
      refine XS.icmpYes X1.here hx rfl (pc0 := 41) (pc' := 53) rfl (hb hby at_41) rfl (flt (by decide : ¬ ((1 : Int32) < (0 : Int32)))).2.2.2 (by decide) (by decide) ?_
      show Steps p.tables e below (T1.setTop (mkF m 53 #[.val (.int b0), .val (.int b1), .val (.int b2), .val (.int b3), .val (.int sp), .val (.int (0 : Int32)), .val (.int av), .val (.ref ca), .unset, .unset, .unset, .unset] [])) tgt
      refine XS.iload X1.here hx rfl (hb hby at_53) rfl ?_
      show Steps p.tables e below (T1.setTop (mkF m 55 #[.val (.int b0), .val (.int b1), .val (.int b2), .val (.int b3), .val (.int sp), .val (.int (0 : Int32)), .val (.int av), .val (.ref ca), .unset, .unset, .unset, .unset] [(.int (0 : Int32))])) tgt
      refine XS.iconst X1.here hx rfl (hb hby at_55) ?_
      show Steps p.tables e below (T1.setTop (mkF m 56 #[.val (.int b0), .val (.int b1), .val (.int b2), .val (.int b3), .val (.int sp), .val (.int (0 : Int32)), .val (.int av), .val (.ref ca), .unset, .unset, .unset, .unset] [(.int (2 : Int32)), (.int (0 : Int32))])) tgt
      refine XS.icmpYes X1.here hx rfl (pc0 := 56) (pc' := 68) rfl (hb hby at_56) rfl (flt (by decide : ¬ ((2 : Int32) < (0 : Int32)))).2.2.2 (by decide) (by decide) ?_
      show Steps p.tables e below (T1.setTop (mkF m 68 #[.val (.int b0), .val (.int b1), .val (.int b2), .val (.int b3), .val (.int sp), .val (.int (0 : Int32)), .val (.int av), .val (.ref ca), .unset, .unset, .unset, .unset] [])) tgt
      refine XS.iload X1.here hx rfl (hb hby at_68) rfl ?_
      show Steps p.tables e below (T1.setTop (mkF m 70 #[.val (.int b0), .val (.int b1), .val (.int b2), .val (.int b3), .val (.int sp), .val (.int (0 : Int32)), .val (.int av), .val (.ref ca), .unset, .unset, .unset, .unset] [(.int (0 : Int32))])) tgt
      refine XS.iconst X1.here hx rfl (hb hby at_70) ?_
      show Steps p.tables e below (T1.setTop (mkF m 71 #[.val (.int b0), .val (.int b1), .val (.int b2), .val (.int b3), .val (.int sp), .val (.int (0 : Int32)), .val (.int av), .val (.ref ca), .unset, .unset, .unset, .unset] [(.int (3 : Int32)), (.int (0 : Int32))])) tgt
      refine XS.icmpYes X1.here hx rfl (pc0 := 71) (pc' := 83) rfl (hb hby at_71) rfl (flt (by decide : ¬ ((3 : Int32) < (0 : Int32)))).2.2.2 (by decide) (by decide) ?_
      show Steps p.tables e below (T1.setTop (mkF m 83 #[.val (.int b0), .val (.int b1), .val (.int b2), .val (.int b3), .val (.int sp), .val (.int (0 : Int32)), .val (.int av), .val (.ref ca), .unset, .unset, .unset, .unset] [])) tgt
      refine XS.aload X1.here hx rfl (hb hby at_83) rfl rfl ?_
      show Steps p.tables e below (T1.setTop (mkF m 85 #[.val (.int b0), .val (.int b1), .val (.int b2), .val (.int b3), .val (.int sp), .val (.int (0 : Int32)), .val (.int av), .val (.ref ca), .unset, .unset, .unset, .unset] [(.ref ca)])) tgt
      refine XS.iload X1.here hx rfl (hb hby at_85) rfl ?_
      exact k
    obtain ⟨rr, R1, R2, R3⟩ := own_ex (fun _ => 0) 0 (by decide) 0 av hav0 (by omega)
    obtain ⟨_, _, ⟨T2, L2, k2, n2⟩, -, X2, ⟨Lc2, hQ2, l2, y2, z2⟩, st2⟩ := Jvm.LawKit.callS X1 hx (y := (⟨"com/example/tidewatch/tidewatch/io/Decimal", "skipDigits", "([BI)I"⟩ : MethodName)) hown (mvT hZ (hw _ (List.mem_of_getElem? (i := 1) rfl))) (mvT hZ (hw _ (List.mem_of_getElem? (i := 2) rfl))) (mvT hZ (hw _ (List.mem_of_getElem? (i := 3) rfl))) (mvT hZ (hw _ (List.mem_of_getElem? (i := 4) rfl))) (by decide) (backOf (W := 0) (rm1 l Z a0 hw [] ca av (0 : Int32) 0 (fun _ => 0) rr h1 n0 Zs1 A_ca_1 (by decide) (by decide) hav0 R1 R2 R3) hZ (hw _ (List.mem_of_getElem? (i := 4) rfl)) (hw _ (List.mem_of_getElem? (i := 3) rfl)) (by decide) (by decide)) (g := (mkF m 87 #[.val (.int b0), .val (.int b1), .val (.int b2), .val (.int b3), .val (.int sp), .val (.int (0 : Int32)), .val (.int av), .val (.ref ca), .unset, .unset, .unset, .unset] [(.int av), (.ref ca)])) rfl (by rw [hml]; rfl) (argsL := [(.ref ca), (.int av)]) (rest := []) (lenOf pd_0_0 rfl) rfl (by show 2 * 0 + _ ≤ _; exact Nat.le_of_eq rfl) (hb hby at_87) (fun _ _ => ⟨rfl, e1, (by decide : 1 + 0 ≤ _), (by decide : 0 + 0 ≤ _)⟩)
    dsimp only [Pt.U, Pt.locs, Pt.cells, Pt.slots] at X2 l2 y2 z2 st2 hQ2
    subst l2 y2 z2
    obtain ⟨rfl, N2q, K2⟩ := hQ2
    have N2 := Fr.app N0 N2q
    refine own_st st2 ?_
    show own_Go p e below _ (T2.setTop (mkF m 90 #[.val (.int b0), .val (.int b1), .val (.int b2), .val (.int b3), .val (.int sp), .val (.int (0 : Int32)), .val (.int av), .val (.ref ca), .unset, .unset, .unset, .unset] [(.int rr)]))
    refine own_st (V := T2.setTop (mkF m 96 #[.val (.int b0), .val (.int b1), .val (.int b2), .val (.int b3), .val (.int sp), .val (.int (0 : Int32)), .val (.int av), .val (.ref ca), .val (.int rr), .unset, .unset, .unset] [(.int (0 : Int32)), (.int av)])) (fun tgt k => ?_) ?_
    · show Steps p.tables e below (T2.setTop (mkF m 90 #[.val (.int b0), .val (.int b1), .val (.int b2), .val (.int b3), .val (.int sp), .val (.int (0 : Int32)), .val (.int av), .val (.ref ca), .unset, .unset, .unset, .unset] [(.int rr)])) tgt
      refine XS.istore X2.here hx rfl (hb hby at_90) rfl (l' := #[.val (.int b0), .val (.int b1), .val (.int b2), .val (.int b3), .val (.int sp), .val (.int (0 : Int32)), .val (.int av), .val (.ref ca), .val (.int rr), .unset, .unset, .unset]) rfl ?_
      show Steps p.tables e below (T2.setTop (mkF m 92 #[.val (.int b0), .val (.int b1), .val (.int b2), .val (.int b3), .val (.int sp), .val (.int (0 : Int32)), .val (.int av), .val (.ref ca), .val (.int rr), .unset, .unset, .unset] [])) tgt
      refine XS.iload X2.here hx rfl (hb hby at_92) rfl ?_
      show Steps p.tables e below (T2.setTop (mkF m 94 #[.val (.int b0), .val (.int b1), .val (.int b2), .val (.int b3), .val (.int sp), .val (.int (0 : Int32)), .val (.int av), .val (.ref ca), .val (.int rr), .unset, .unset, .unset] [(.int av)])) tgt
      refine XS.iload X2.here hx rfl (hb hby at_94) rfl ?_
      exact k
    by_cases hc96 : av < (0 : Int32)
    · skip
      refine own_st (V := T2.setTop (mkF m 149 #[.val (.int b0), .val (.int b1), .val (.int b2), .val (.int b3), .val (.int sp), .val (.int (0 : Int32)), .val (.int av), .val (.ref ca), .val (.int rr), .val (.int (1 : Int32)), .unset, .unset] [(.int (0 : Int32)), (.int rr), (.int av), (.ref ca)])) (fun tgt k => ?_) ?_
      · show Steps p.tables e below (T2.setTop (mkF m 96 #[.val (.int b0), .val (.int b1), .val (.int b2), .val (.int b3), .val (.int sp), .val (.int (0 : Int32)), .val (.int av), .val (.ref ca), .val (.int rr), .unset, .unset, .unset] [(.int (0 : Int32)), (.int av)])) tgt
        refine XS.icmpYes X2.here hx rfl (pc0 := 96) (pc' := 114) rfl (hb hby at_96) rfl (tlt hc96).1 (by decide) (by decide) ?_
        show Steps p.tables e below (T2.setTop (mkF m 114 #[.val (.int b0), .val (.int b1), .val (.int b2), .val (.int b3), .val (.int sp), .val (.int (0 : Int32)), .val (.int av), .val (.ref ca), .val (.int rr), .unset, .unset, .unset] [])) tgt
        refine XS.iload X2.here hx rfl (hb hby at_114) rfl ?_
        show Steps p.tables e below (T2.setTop (mkF m 116 #[.val (.int b0), .val (.int b1), .val (.int b2), .val (.int b3), .val (.int sp), .val (.int (0 : Int32)), .val (.int av), .val (.ref ca), .val (.int rr), .unset, .unset, .unset] [(.int rr)])) tgt
        refine XS.iload X2.here hx rfl (hb hby at_116) rfl ?_
        show Steps p.tables e below (T2.setTop (mkF m 118 #[.val (.int b0), .val (.int b1), .val (.int b2), .val (.int b3), .val (.int sp), .val (.int (0 : Int32)), .val (.int av), .val (.ref ca), .val (.int rr), .unset, .unset, .unset] [(.int av), (.int rr)])) tgt
        refine XS.icmpNo X2.here hx rfl (hb hby at_118) rfl (flt (own_nlt R1)).1 ?_
        show Steps p.tables e below (T2.setTop (mkF m 121 #[.val (.int b0), .val (.int b1), .val (.int b2), .val (.int b3), .val (.int sp), .val (.int (0 : Int32)), .val (.int av), .val (.ref ca), .val (.int rr), .unset, .unset, .unset] [])) tgt
        refine XS.iload X2.here hx rfl (hb hby at_121) rfl ?_
        show Steps p.tables e below (T2.setTop (mkF m 123 #[.val (.int b0), .val (.int b1), .val (.int b2), .val (.int b3), .val (.int sp), .val (.int (0 : Int32)), .val (.int av), .val (.ref ca), .val (.int rr), .unset, .unset, .unset] [(.int rr)])) tgt
        refine XS.iload X2.here hx rfl (hb hby at_123) rfl ?_
        show Steps p.tables e below (T2.setTop (mkF m 125 #[.val (.int b0), .val (.int b1), .val (.int b2), .val (.int b3), .val (.int sp), .val (.int (0 : Int32)), .val (.int av), .val (.ref ca), .val (.int rr), .unset, .unset, .unset] [(.int (0 : Int32)), (.int rr)])) tgt
        refine XS.icmpNo X2.here hx rfl (hb hby at_125) rfl (flt (own_le R2 hav0 (by decide) hc96)).2.2.1 ?_
        show Steps p.tables e below (T2.setTop (mkF m 128 #[.val (.int b0), .val (.int b1), .val (.int b2), .val (.int b3), .val (.int sp), .val (.int (0 : Int32)), .val (.int av), .val (.ref ca), .val (.int rr), .unset, .unset, .unset] [])) tgt
        refine XS.iconst X2.here hx rfl (hb hby at_128) ?_
        show Steps p.tables e below (T2.setTop (mkF m 129 #[.val (.int b0), .val (.int b1), .val (.int b2), .val (.int b3), .val (.int sp), .val (.int (0 : Int32)), .val (.int av), .val (.ref ca), .val (.int rr), .unset, .unset, .unset] [(.int (1 : Int32))])) tgt
        refine XS.goto X2.here hx rfl (pc0 := 129) (pc' := 133) rfl (hb hby at_129) (by decide) (by decide) ?_
        show Steps p.tables e below (T2.setTop (mkF m 133 #[.val (.int b0), .val (.int b1), .val (.int b2), .val (.int b3), .val (.int sp), .val (.int (0 : Int32)), .val (.int av), .val (.ref ca), .val (.int rr), .unset, .unset, .unset] [(.int (1 : Int32))])) tgt
        refine XS.istore X2.here hx rfl (hb hby at_133) rfl (l' := #[.val (.int b0), .val (.int b1), .val (.int b2), .val (.int b3), .val (.int sp), .val (.int (0 : Int32)), .val (.int av), .val (.ref ca), .val (.int rr), .val (.int (1 : Int32)), .unset, .unset]) rfl ?_
        show Steps p.tables e below (T2.setTop (mkF m 135 #[.val (.int b0), .val (.int b1), .val (.int b2), .val (.int b3), .val (.int sp), .val (.int (0 : Int32)), .val (.int av), .val (.ref ca), .val (.int rr), .val (.int (1 : Int32)), .unset, .unset] [])) tgt
        refine XS.iload X2.here hx rfl (hb hby at_135) rfl ?_
        show Steps p.tables e below (T2.setTop (mkF m 137 #[.val (.int b0), .val (.int b1), .val (.int b2), .val (.int b3), .val (.int sp), .val (.int (0 : Int32)), .val (.int av), .val (.ref ca), .val (.int rr), .val (.int (1 : Int32)), .unset, .unset] [(.int (1 : Int32))])) tgt
        refine XS.ifYes X2.here hx rfl (pc0 := 137) (pc' := 142) rfl (hb hby at_137) rfl ((if0 _ _).trans (feq (by decide : ¬ ((1 : Int32) = (0 : Int32)))).2) (by decide) (by decide) ?_
        show Steps p.tables e below (T2.setTop (mkF m 142 #[.val (.int b0), .val (.int b1), .val (.int b2), .val (.int b3), .val (.int sp), .val (.int (0 : Int32)), .val (.int av), .val (.ref ca), .val (.int rr), .val (.int (1 : Int32)), .unset, .unset] [])) tgt
        refine XS.aload X2.here hx rfl (hb hby at_142) rfl rfl ?_
        show Steps p.tables e below (T2.setTop (mkF m 144 #[.val (.int b0), .val (.int b1), .val (.int b2), .val (.int b3), .val (.int sp), .val (.int (0 : Int32)), .val (.int av), .val (.ref ca), .val (.int rr), .val (.int (1 : Int32)), .unset, .unset] [(.ref ca)])) tgt
        refine XS.iload X2.here hx rfl (hb hby at_144) rfl ?_
        show Steps p.tables e below (T2.setTop (mkF m 146 #[.val (.int b0), .val (.int b1), .val (.int b2), .val (.int b3), .val (.int sp), .val (.int (0 : Int32)), .val (.int av), .val (.ref ca), .val (.int rr), .val (.int (1 : Int32)), .unset, .unset] [(.int av), (.ref ca)])) tgt
        refine XS.iload X2.here hx rfl (hb hby at_146) rfl ?_
        show Steps p.tables e below (T2.setTop (mkF m 148 #[.val (.int b0), .val (.int b1), .val (.int b2), .val (.int b3), .val (.int sp), .val (.int (0 : Int32)), .val (.int av), .val (.ref ca), .val (.int rr), .val (.int (1 : Int32)), .unset, .unset] [(.int rr), (.int av), (.ref ca)])) tgt
        refine XS.iconst X2.here hx rfl (hb hby at_148) ?_
        exact k
      obtain ⟨_, _, ⟨T3, L3, k3, n3⟩, -, X3, ⟨Lc3, hQ3, l3, y3, z3⟩, st3⟩ := Jvm.LawKit.callS X2 hx (y := (⟨"com/example/tidewatch/tidewatch/io/DecimalSkipDigitsPinLaw", "digitOrOutside", "([BIII)Z"⟩ : MethodName)) hown (mvT hZ (hw _ (List.mem_of_getElem? (i := 5) rfl))) (mvT hZ (hw _ (List.mem_of_getElem? (i := 6) rfl))) (mvT hZ (hw _ (List.mem_of_getElem? (i := 7) rfl))) (mvT hZ (hw _ (List.mem_of_getElem? (i := 8) rfl))) (by decide) (backOf (W := 0) (rm2 l Z a0 hw [] ca av rr (0 : Int32) 0 (fun _ => 0) 0 h1 n0 Zs1 A_ca_1 (by decide) (own_i2 R2 (by decide))) hZ (hw _ (List.mem_of_getElem? (i := 8) rfl)) (hw _ (List.mem_of_getElem? (i := 7) rfl)) (by decide) (by decide)) (g := (mkF m 149 #[.val (.int b0), .val (.int b1), .val (.int b2), .val (.int b3), .val (.int sp), .val (.int (0 : Int32)), .val (.int av), .val (.ref ca), .val (.int rr), .val (.int (1 : Int32)), .unset, .unset] [(.int (0 : Int32)), (.int rr), (.int av), (.ref ca)])) rfl (by rw [hml]; rfl) (argsL := [(.ref ca), (.int av), (.int rr), (.int (0 : Int32))]) (rest := []) (lenOf pd_0_1 rfl) rfl (by show 2 * 0 + _ ≤ _; exact Nat.le_of_eq rfl) (hb hby at_149) (fun _ _ => ⟨rfl, K2, (by decide : 1 + 0 ≤ _), (by decide : 0 + 0 ≤ _)⟩)
      dsimp only [Pt.U, Pt.locs, Pt.cells, Pt.slots] at X3 l3 y3 z3 st3 hQ3
      subst l3 y3 z3
      obtain ⟨rfl, N3q, K3⟩ := hQ3
      have N3 := Fr.app N2 N3q
      refine own_st st3 ?_
      show own_Go p e below _ (T3.setTop (mkF m 152 #[.val (.int b0), .val (.int b1), .val (.int b2), .val (.int b3), .val (.int sp), .val (.int (0 : Int32)), .val (.int av), .val (.ref ca), .val (.int rr), .val (.int (1 : Int32)), .unset, .unset] [(.int (own_doo (fun _ => 0) av rr (0 : Int32) 0))]))
      refine own_st (V := T3.setTop (mkF m 162 #[.val (.int b0), .val (.int b1), .val (.int b2), .val (.int b3), .val (.int sp), .val (.int (0 : Int32)), .val (.int av), .val (.ref ca), .val (.int rr), .val (.int (1 : Int32)), .unset, .unset] [(.int (1 : Int32)), (.int rr), (.int av), (.ref ca)])) (fun tgt k => ?_) ?_
      · show Steps p.tables e below (T3.setTop (mkF m 152 #[.val (.int b0), .val (.int b1), .val (.int b2), .val (.int b3), .val (.int sp), .val (.int (0 : Int32)), .val (.int av), .val (.ref ca), .val (.int rr), .val (.int (1 : Int32)), .unset, .unset] [(.int (own_doo (fun _ => 0) av rr (0 : Int32) 0))])) tgt
        refine XS.ifNo X3.here hx rfl (hb hby at_152) rfl ((if0 _ _).trans (feq (own_doo1 R2 (by decide))).1) ?_
        show Steps p.tables e below (T3.setTop (mkF m 155 #[.val (.int b0), .val (.int b1), .val (.int b2), .val (.int b3), .val (.int sp), .val (.int (0 : Int32)), .val (.int av), .val (.ref ca), .val (.int rr), .val (.int (1 : Int32)), .unset, .unset] [])) tgt
        refine XS.aload X3.here hx rfl (hb hby at_155) rfl rfl ?_
        show Steps p.tables e below (T3.setTop (mkF m 157 #[.val (.int b0), .val (.int b1), .val (.int b2), .val (.int b3), .val (.int sp), .val (.int (0 : Int32)), .val (.int av), .val (.ref ca), .val (.int rr), .val (.int (1 : Int32)), .unset, .unset] [(.ref ca)])) tgt
        refine XS.iload X3.here hx rfl (hb hby at_157) rfl ?_
        show Steps p.tables e below (T3.setTop (mkF m 159 #[.val (.int b0), .val (.int b1), .val (.int b2), .val (.int b3), .val (.int sp), .val (.int (0 : Int32)), .val (.int av), .val (.ref ca), .val (.int rr), .val (.int (1 : Int32)), .unset, .unset] [(.int av), (.ref ca)])) tgt
        refine XS.iload X3.here hx rfl (hb hby at_159) rfl ?_
        show Steps p.tables e below (T3.setTop (mkF m 161 #[.val (.int b0), .val (.int b1), .val (.int b2), .val (.int b3), .val (.int sp), .val (.int (0 : Int32)), .val (.int av), .val (.ref ca), .val (.int rr), .val (.int (1 : Int32)), .unset, .unset] [(.int rr), (.int av), (.ref ca)])) tgt
        refine XS.iconst X3.here hx rfl (hb hby at_161) ?_
        exact k
      obtain ⟨_, _, ⟨T4, L4, k4, n4⟩, -, X4, ⟨Lc4, hQ4, l4, y4, z4⟩, st4⟩ := Jvm.LawKit.callS X3 hx (y := (⟨"com/example/tidewatch/tidewatch/io/DecimalSkipDigitsPinLaw", "digitOrOutside", "([BIII)Z"⟩ : MethodName)) hown (mvT hZ (hw _ (List.mem_of_getElem? (i := 5) rfl))) (mvT hZ (hw _ (List.mem_of_getElem? (i := 6) rfl))) (mvT hZ (hw _ (List.mem_of_getElem? (i := 7) rfl))) (mvT hZ (hw _ (List.mem_of_getElem? (i := 8) rfl))) (by decide) (backOf (W := 0) (rm2 l Z a0 hw [] ca av rr (1 : Int32) 0 (fun _ => 0) 1 h1 n0 Zs1 A_ca_1 (by decide) (own_i2 R2 (by decide))) hZ (hw _ (List.mem_of_getElem? (i := 8) rfl)) (hw _ (List.mem_of_getElem? (i := 7) rfl)) (by decide) (by decide)) (g := (mkF m 162 #[.val (.int b0), .val (.int b1), .val (.int b2), .val (.int b3), .val (.int sp), .val (.int (0 : Int32)), .val (.int av), .val (.ref ca), .val (.int rr), .val (.int (1 : Int32)), .unset, .unset] [(.int (1 : Int32)), (.int rr), (.int av), (.ref ca)])) rfl (by rw [hml]; rfl) (argsL := [(.ref ca), (.int av), (.int rr), (.int (1 : Int32))]) (rest := []) (lenOf pd_0_1 rfl) rfl (by show 2 * 0 + _ ≤ _; exact Nat.le_of_eq rfl) (hb hby at_162) (fun _ _ => ⟨rfl, K3, (by decide : 1 + 0 ≤ _), (by decide : 0 + 0 ≤ _)⟩)
      dsimp only [Pt.U, Pt.locs, Pt.cells, Pt.slots] at X4 l4 y4 z4 st4 hQ4
      subst l4 y4 z4
      obtain ⟨rfl, N4q, K4⟩ := hQ4
      have N4 := Fr.app N3 N4q
      refine own_st st4 ?_
      show own_Go p e below _ (T4.setTop (mkF m 165 #[.val (.int b0), .val (.int b1), .val (.int b2), .val (.int b3), .val (.int sp), .val (.int (0 : Int32)), .val (.int av), .val (.ref ca), .val (.int rr), .val (.int (1 : Int32)), .unset, .unset] [(.int (own_doo (fun _ => 0) av rr (1 : Int32) 1))]))
      refine own_st (V := T4.setTop (mkF m 175 #[.val (.int b0), .val (.int b1), .val (.int b2), .val (.int b3), .val (.int sp), .val (.int (0 : Int32)), .val (.int av), .val (.ref ca), .val (.int rr), .val (.int (1 : Int32)), .unset, .unset] [(.int (2 : Int32)), (.int rr), (.int av), (.ref ca)])) (fun tgt k => ?_) ?_
      · show Steps p.tables e below (T4.setTop (mkF m 165 #[.val (.int b0), .val (.int b1), .val (.int b2), .val (.int b3), .val (.int sp), .val (.int (0 : Int32)), .val (.int av), .val (.ref ca), .val (.int rr), .val (.int (1 : Int32)), .unset, .unset] [(.int (own_doo (fun _ => 0) av rr (1 : Int32) 1))])) tgt
        refine XS.ifNo X4.here hx rfl (hb hby at_165) rfl ((if0 _ _).trans (feq (own_doo1 R2 (by decide))).1) ?_
        show Steps p.tables e below (T4.setTop (mkF m 168 #[.val (.int b0), .val (.int b1), .val (.int b2), .val (.int b3), .val (.int sp), .val (.int (0 : Int32)), .val (.int av), .val (.ref ca), .val (.int rr), .val (.int (1 : Int32)), .unset, .unset] [])) tgt
        refine XS.aload X4.here hx rfl (hb hby at_168) rfl rfl ?_
        show Steps p.tables e below (T4.setTop (mkF m 170 #[.val (.int b0), .val (.int b1), .val (.int b2), .val (.int b3), .val (.int sp), .val (.int (0 : Int32)), .val (.int av), .val (.ref ca), .val (.int rr), .val (.int (1 : Int32)), .unset, .unset] [(.ref ca)])) tgt
        refine XS.iload X4.here hx rfl (hb hby at_170) rfl ?_
        show Steps p.tables e below (T4.setTop (mkF m 172 #[.val (.int b0), .val (.int b1), .val (.int b2), .val (.int b3), .val (.int sp), .val (.int (0 : Int32)), .val (.int av), .val (.ref ca), .val (.int rr), .val (.int (1 : Int32)), .unset, .unset] [(.int av), (.ref ca)])) tgt
        refine XS.iload X4.here hx rfl (hb hby at_172) rfl ?_
        show Steps p.tables e below (T4.setTop (mkF m 174 #[.val (.int b0), .val (.int b1), .val (.int b2), .val (.int b3), .val (.int sp), .val (.int (0 : Int32)), .val (.int av), .val (.ref ca), .val (.int rr), .val (.int (1 : Int32)), .unset, .unset] [(.int rr), (.int av), (.ref ca)])) tgt
        refine XS.iconst X4.here hx rfl (hb hby at_174) ?_
        exact k
      obtain ⟨_, _, ⟨T5, L5, k5, n5⟩, -, X5, ⟨Lc5, hQ5, l5, y5, z5⟩, st5⟩ := Jvm.LawKit.callS X4 hx (y := (⟨"com/example/tidewatch/tidewatch/io/DecimalSkipDigitsPinLaw", "digitOrOutside", "([BIII)Z"⟩ : MethodName)) hown (mvT hZ (hw _ (List.mem_of_getElem? (i := 5) rfl))) (mvT hZ (hw _ (List.mem_of_getElem? (i := 6) rfl))) (mvT hZ (hw _ (List.mem_of_getElem? (i := 7) rfl))) (mvT hZ (hw _ (List.mem_of_getElem? (i := 8) rfl))) (by decide) (backOf (W := 0) (rm2 l Z a0 hw [] ca av rr (2 : Int32) 0 (fun _ => 0) 2 h1 n0 Zs1 A_ca_1 (by decide) (own_i2 R2 (by decide))) hZ (hw _ (List.mem_of_getElem? (i := 8) rfl)) (hw _ (List.mem_of_getElem? (i := 7) rfl)) (by decide) (by decide)) (g := (mkF m 175 #[.val (.int b0), .val (.int b1), .val (.int b2), .val (.int b3), .val (.int sp), .val (.int (0 : Int32)), .val (.int av), .val (.ref ca), .val (.int rr), .val (.int (1 : Int32)), .unset, .unset] [(.int (2 : Int32)), (.int rr), (.int av), (.ref ca)])) rfl (by rw [hml]; rfl) (argsL := [(.ref ca), (.int av), (.int rr), (.int (2 : Int32))]) (rest := []) (lenOf pd_0_1 rfl) rfl (by show 2 * 0 + _ ≤ _; exact Nat.le_of_eq rfl) (hb hby at_175) (fun _ _ => ⟨rfl, K4, (by decide : 1 + 0 ≤ _), (by decide : 0 + 0 ≤ _)⟩)
      dsimp only [Pt.U, Pt.locs, Pt.cells, Pt.slots] at X5 l5 y5 z5 st5 hQ5
      subst l5 y5 z5
      obtain ⟨rfl, N5q, K5⟩ := hQ5
      have N5 := Fr.app N4 N5q
      refine own_st st5 ?_
      show own_Go p e below _ (T5.setTop (mkF m 178 #[.val (.int b0), .val (.int b1), .val (.int b2), .val (.int b3), .val (.int sp), .val (.int (0 : Int32)), .val (.int av), .val (.ref ca), .val (.int rr), .val (.int (1 : Int32)), .unset, .unset] [(.int (own_doo (fun _ => 0) av rr (2 : Int32) 2))]))
      refine own_st (V := T5.setTop (mkF m 188 #[.val (.int b0), .val (.int b1), .val (.int b2), .val (.int b3), .val (.int sp), .val (.int (0 : Int32)), .val (.int av), .val (.ref ca), .val (.int rr), .val (.int (1 : Int32)), .unset, .unset] [(.int (3 : Int32)), (.int rr), (.int av), (.ref ca)])) (fun tgt k => ?_) ?_
      · show Steps p.tables e below (T5.setTop (mkF m 178 #[.val (.int b0), .val (.int b1), .val (.int b2), .val (.int b3), .val (.int sp), .val (.int (0 : Int32)), .val (.int av), .val (.ref ca), .val (.int rr), .val (.int (1 : Int32)), .unset, .unset] [(.int (own_doo (fun _ => 0) av rr (2 : Int32) 2))])) tgt
        refine XS.ifNo X5.here hx rfl (hb hby at_178) rfl ((if0 _ _).trans (feq (own_doo1 R2 (by decide))).1) ?_
        show Steps p.tables e below (T5.setTop (mkF m 181 #[.val (.int b0), .val (.int b1), .val (.int b2), .val (.int b3), .val (.int sp), .val (.int (0 : Int32)), .val (.int av), .val (.ref ca), .val (.int rr), .val (.int (1 : Int32)), .unset, .unset] [])) tgt
        refine XS.aload X5.here hx rfl (hb hby at_181) rfl rfl ?_
        show Steps p.tables e below (T5.setTop (mkF m 183 #[.val (.int b0), .val (.int b1), .val (.int b2), .val (.int b3), .val (.int sp), .val (.int (0 : Int32)), .val (.int av), .val (.ref ca), .val (.int rr), .val (.int (1 : Int32)), .unset, .unset] [(.ref ca)])) tgt
        refine XS.iload X5.here hx rfl (hb hby at_183) rfl ?_
        show Steps p.tables e below (T5.setTop (mkF m 185 #[.val (.int b0), .val (.int b1), .val (.int b2), .val (.int b3), .val (.int sp), .val (.int (0 : Int32)), .val (.int av), .val (.ref ca), .val (.int rr), .val (.int (1 : Int32)), .unset, .unset] [(.int av), (.ref ca)])) tgt
        refine XS.iload X5.here hx rfl (hb hby at_185) rfl ?_
        show Steps p.tables e below (T5.setTop (mkF m 187 #[.val (.int b0), .val (.int b1), .val (.int b2), .val (.int b3), .val (.int sp), .val (.int (0 : Int32)), .val (.int av), .val (.ref ca), .val (.int rr), .val (.int (1 : Int32)), .unset, .unset] [(.int rr), (.int av), (.ref ca)])) tgt
        refine XS.iconst X5.here hx rfl (hb hby at_187) ?_
        exact k
      obtain ⟨_, _, ⟨T6, L6, k6, n6⟩, -, X6, ⟨Lc6, hQ6, l6, y6, z6⟩, st6⟩ := Jvm.LawKit.callS X5 hx (y := (⟨"com/example/tidewatch/tidewatch/io/DecimalSkipDigitsPinLaw", "digitOrOutside", "([BIII)Z"⟩ : MethodName)) hown (mvT hZ (hw _ (List.mem_of_getElem? (i := 5) rfl))) (mvT hZ (hw _ (List.mem_of_getElem? (i := 6) rfl))) (mvT hZ (hw _ (List.mem_of_getElem? (i := 7) rfl))) (mvT hZ (hw _ (List.mem_of_getElem? (i := 8) rfl))) (by decide) (backOf (W := 0) (rm2 l Z a0 hw [] ca av rr (3 : Int32) 0 (fun _ => 0) 3 h1 n0 Zs1 A_ca_1 (by decide) (own_i2 R2 (by decide))) hZ (hw _ (List.mem_of_getElem? (i := 8) rfl)) (hw _ (List.mem_of_getElem? (i := 7) rfl)) (by decide) (by decide)) (g := (mkF m 188 #[.val (.int b0), .val (.int b1), .val (.int b2), .val (.int b3), .val (.int sp), .val (.int (0 : Int32)), .val (.int av), .val (.ref ca), .val (.int rr), .val (.int (1 : Int32)), .unset, .unset] [(.int (3 : Int32)), (.int rr), (.int av), (.ref ca)])) rfl (by rw [hml]; rfl) (argsL := [(.ref ca), (.int av), (.int rr), (.int (3 : Int32))]) (rest := []) (lenOf pd_0_1 rfl) rfl (by show 2 * 0 + _ ≤ _; exact Nat.le_of_eq rfl) (hb hby at_188) (fun _ _ => ⟨rfl, K5, (by decide : 1 + 0 ≤ _), (by decide : 0 + 0 ≤ _)⟩)
      dsimp only [Pt.U, Pt.locs, Pt.cells, Pt.slots] at X6 l6 y6 z6 st6 hQ6
      subst l6 y6 z6
      obtain ⟨rfl, N6q, K6⟩ := hQ6
      have N6 := Fr.app N5 N6q
      refine own_st st6 ?_
      show own_Go p e below _ (T6.setTop (mkF m 191 #[.val (.int b0), .val (.int b1), .val (.int b2), .val (.int b3), .val (.int sp), .val (.int (0 : Int32)), .val (.int av), .val (.ref ca), .val (.int rr), .val (.int (1 : Int32)), .unset, .unset] [(.int (own_doo (fun _ => 0) av rr (3 : Int32) 3))]))
      refine own_st (V := T6.setTop (mkF m 205 #[.val (.int b0), .val (.int b1), .val (.int b2), .val (.int b3), .val (.int sp), .val (.int (0 : Int32)), .val (.int av), .val (.ref ca), .val (.int rr), .val (.int (1 : Int32)), .val (.int (1 : Int32)), .unset] [(.int (0 : Int32)), (.int rr)])) (fun tgt k => ?_) ?_
      · show Steps p.tables e below (T6.setTop (mkF m 191 #[.val (.int b0), .val (.int b1), .val (.int b2), .val (.int b3), .val (.int sp), .val (.int (0 : Int32)), .val (.int av), .val (.ref ca), .val (.int rr), .val (.int (1 : Int32)), .unset, .unset] [(.int (own_doo (fun _ => 0) av rr (3 : Int32) 3))])) tgt
        refine XS.ifNo X6.here hx rfl (hb hby at_191) rfl ((if0 _ _).trans (feq (own_doo1 R2 (by decide))).1) ?_
        show Steps p.tables e below (T6.setTop (mkF m 194 #[.val (.int b0), .val (.int b1), .val (.int b2), .val (.int b3), .val (.int sp), .val (.int (0 : Int32)), .val (.int av), .val (.ref ca), .val (.int rr), .val (.int (1 : Int32)), .unset, .unset] [])) tgt
        refine XS.iconst X6.here hx rfl (hb hby at_194) ?_
        show Steps p.tables e below (T6.setTop (mkF m 195 #[.val (.int b0), .val (.int b1), .val (.int b2), .val (.int b3), .val (.int sp), .val (.int (0 : Int32)), .val (.int av), .val (.ref ca), .val (.int rr), .val (.int (1 : Int32)), .unset, .unset] [(.int (1 : Int32))])) tgt
        refine XS.goto X6.here hx rfl (pc0 := 195) (pc' := 199) rfl (hb hby at_195) (by decide) (by decide) ?_
        show Steps p.tables e below (T6.setTop (mkF m 199 #[.val (.int b0), .val (.int b1), .val (.int b2), .val (.int b3), .val (.int sp), .val (.int (0 : Int32)), .val (.int av), .val (.ref ca), .val (.int rr), .val (.int (1 : Int32)), .unset, .unset] [(.int (1 : Int32))])) tgt
        refine XS.istore X6.here hx rfl (hb hby at_199) rfl (l' := #[.val (.int b0), .val (.int b1), .val (.int b2), .val (.int b3), .val (.int sp), .val (.int (0 : Int32)), .val (.int av), .val (.ref ca), .val (.int rr), .val (.int (1 : Int32)), .val (.int (1 : Int32)), .unset]) rfl ?_
        show Steps p.tables e below (T6.setTop (mkF m 201 #[.val (.int b0), .val (.int b1), .val (.int b2), .val (.int b3), .val (.int sp), .val (.int (0 : Int32)), .val (.int av), .val (.ref ca), .val (.int rr), .val (.int (1 : Int32)), .val (.int (1 : Int32)), .unset] [])) tgt
        refine XS.iload X6.here hx rfl (hb hby at_201) rfl ?_
        show Steps p.tables e below (T6.setTop (mkF m 203 #[.val (.int b0), .val (.int b1), .val (.int b2), .val (.int b3), .val (.int sp), .val (.int (0 : Int32)), .val (.int av), .val (.ref ca), .val (.int rr), .val (.int (1 : Int32)), .val (.int (1 : Int32)), .unset] [(.int rr)])) tgt
        refine XS.iload X6.here hx rfl (hb hby at_203) rfl ?_
        exact k
      by_cases hc205 : rr < (0 : Int32)
      · skip
        refine own_st (V := T6.setTop (mkF m 213 #[.val (.int b0), .val (.int b1), .val (.int b2), .val (.int b3), .val (.int sp), .val (.int (0 : Int32)), .val (.int av), .val (.ref ca), .val (.int rr), .val (.int (1 : Int32)), .val (.int (1 : Int32)), .unset] [(.int ((fun _ => 0) rr.toInt.toNat))])) (fun tgt k => ?_) ?_
        · show Steps p.tables e below (T6.setTop (mkF m 205 #[.val (.int b0), .val (.int b1), .val (.int b2), .val (.int b3), .val (.int sp), .val (.int (0 : Int32)), .val (.int av), .val (.ref ca), .val (.int rr), .val (.int (1 : Int32)), .val (.int (1 : Int32)), .unset] [(.int (0 : Int32)), (.int rr)])) tgt
          refine XS.icmpNo X6.here hx rfl (hb hby at_205) rfl (tlt hc205).2.1 ?_
          show Steps p.tables e below (T6.setTop (mkF m 208 #[.val (.int b0), .val (.int b1), .val (.int b2), .val (.int b3), .val (.int sp), .val (.int (0 : Int32)), .val (.int av), .val (.ref ca), .val (.int rr), .val (.int (1 : Int32)), .val (.int (1 : Int32)), .unset] [])) tgt
          refine XS.aload X6.here hx rfl (hb hby at_208) rfl rfl ?_
          show Steps p.tables e below (T6.setTop (mkF m 210 #[.val (.int b0), .val (.int b1), .val (.int b2), .val (.int b3), .val (.int sp), .val (.int (0 : Int32)), .val (.int av), .val (.ref ca), .val (.int rr), .val (.int (1 : Int32)), .val (.int (1 : Int32)), .unset] [(.ref ca)])) tgt
          refine XS.iload X6.here hx rfl (hb hby at_210) rfl ?_
          show Steps p.tables e below (T6.setTop (mkF m 212 #[.val (.int b0), .val (.int b1), .val (.int b2), .val (.int b3), .val (.int sp), .val (.int (0 : Int32)), .val (.int av), .val (.ref ca), .val (.int rr), .val (.int (1 : Int32)), .val (.int (1 : Int32)), .unset] [(.int rr), (.ref ca)])) tgt
          refine own_baload X6 hx hZ K6 A_ca_1 (j := rr) (k := rr.toInt.toNat) (by omega) (by have := own_ilt.mp hc205; rw [show (0 : Int32).toInt = 0 from rfl] at this; omega) (g := (mkF m 212 #[.val (.int b0), .val (.int b1), .val (.int b2), .val (.int b3), .val (.int sp), .val (.int (0 : Int32)), .val (.int av), .val (.ref ca), .val (.int rr), .val (.int (1 : Int32)), .val (.int (1 : Int32)), .unset] [(.int rr), (.ref ca)])) rfl rfl (hb hby at_212) ?_
          exact k
        obtain ⟨_, _, ⟨T7, L7, k7, n7⟩, -, X7, ⟨Lc7, hQ7, l7, y7, z7⟩, st7⟩ := Jvm.LawKit.callS X6 hx (y := (⟨"com/example/tidewatch/tidewatch/io/DecimalSkipDigitsPinLaw", "isDigit", "(B)Z"⟩ : MethodName)) hown (mvT hZ (hw _ (List.mem_of_getElem? (i := 9) rfl))) (mvT hZ (hw _ (List.mem_of_getElem? (i := 10) rfl))) (mvT hZ (hw _ (List.mem_of_getElem? (i := 7) rfl))) (mvT hZ (hw _ (List.mem_of_getElem? (i := 11) rfl))) (by decide) (backOf (W := 0) (rm3 l Z a0 hw [] ((fun _ => 0) rr.toInt.toNat) h1 n0 Zs1 ) hZ (hw _ (List.mem_of_getElem? (i := 11) rfl)) (hw _ (List.mem_of_getElem? (i := 7) rfl)) (by decide) (by decide)) (g := (mkF m 213 #[.val (.int b0), .val (.int b1), .val (.int b2), .val (.int b3), .val (.int sp), .val (.int (0 : Int32)), .val (.int av), .val (.ref ca), .val (.int rr), .val (.int (1 : Int32)), .val (.int (1 : Int32)), .unset] [(.int ((fun _ => 0) rr.toInt.toNat))])) rfl (by rw [hml]; rfl) (argsL := [(.int ((fun _ => 0) rr.toInt.toNat))]) (rest := []) (lenOf pd_0_2 rfl) rfl (by show 2 * 0 + _ ≤ _; exact Nat.le_of_eq rfl) (hb hby at_213) (fun _ _ => ⟨rfl, K6, (by decide : 1 + 0 ≤ _), (by decide : 0 + 0 ≤ _)⟩)
        dsimp only [Pt.U, Pt.locs, Pt.cells, Pt.slots] at X7 l7 y7 z7 st7 hQ7
        subst l7 y7 z7
        obtain ⟨rfl, N7q, K7⟩ := hQ7
        have N7 := Fr.app N6 N7q
        refine own_st st7 ?_
        show own_Go p e below _ (T7.setTop (mkF m 216 #[.val (.int b0), .val (.int b1), .val (.int b2), .val (.int b3), .val (.int sp), .val (.int (0 : Int32)), .val (.int av), .val (.ref ca), .val (.int rr), .val (.int (1 : Int32)), .val (.int (1 : Int32)), .unset] [(.int (own_isd ((fun _ => 0) rr.toInt.toNat)))]))
        refine own_st (V := T7.setTop (mkF m 241 #[.val (.int b0), .val (.int b1), .val (.int b2), .val (.int b3), .val (.int sp), .val (.int (0 : Int32)), .val (.int av), .val (.ref ca), .val (.int rr), .val (.int (1 : Int32)), .val (.int (1 : Int32)), .val (.int (1 : Int32))] [(.int (1 : Int32))])) (fun tgt k => ?_) ?_
        · show Steps p.tables e below (T7.setTop (mkF m 216 #[.val (.int b0), .val (.int b1), .val (.int b2), .val (.int b3), .val (.int sp), .val (.int (0 : Int32)), .val (.int av), .val (.ref ca), .val (.int rr), .val (.int (1 : Int32)), .val (.int (1 : Int32)), .unset] [(.int (own_isd ((fun _ => 0) rr.toInt.toNat)))])) tgt
          refine XS.ifNo X7.here hx rfl (hb hby at_216) rfl ((if0 _ _).trans (teq ((own_isd1 _).2 (fun z => R3 ⟨by have := own_ilt.mp hc205; rw [show (0 : Int32).toInt = 0 from rfl] at this; omega, z⟩))).2) ?_
          show Steps p.tables e below (T7.setTop (mkF m 219 #[.val (.int b0), .val (.int b1), .val (.int b2), .val (.int b3), .val (.int sp), .val (.int (0 : Int32)), .val (.int av), .val (.ref ca), .val (.int rr), .val (.int (1 : Int32)), .val (.int (1 : Int32)), .unset] [])) tgt
          refine XS.iconst X7.here hx rfl (hb hby at_219) ?_
          show Steps p.tables e below (T7.setTop (mkF m 220 #[.val (.int b0), .val (.int b1), .val (.int b2), .val (.int b3), .val (.int sp), .val (.int (0 : Int32)), .val (.int av), .val (.ref ca), .val (.int rr), .val (.int (1 : Int32)), .val (.int (1 : Int32)), .unset] [(.int (1 : Int32))])) tgt
          refine XS.goto X7.here hx rfl (pc0 := 220) (pc' := 224) rfl (hb hby at_220) (by decide) (by decide) ?_
          show Steps p.tables e below (T7.setTop (mkF m 224 #[.val (.int b0), .val (.int b1), .val (.int b2), .val (.int b3), .val (.int sp), .val (.int (0 : Int32)), .val (.int av), .val (.ref ca), .val (.int rr), .val (.int (1 : Int32)), .val (.int (1 : Int32)), .unset] [(.int (1 : Int32))])) tgt
          refine XS.istore X7.here hx rfl (hb hby at_224) rfl (l' := #[.val (.int b0), .val (.int b1), .val (.int b2), .val (.int b3), .val (.int sp), .val (.int (0 : Int32)), .val (.int av), .val (.ref ca), .val (.int rr), .val (.int (1 : Int32)), .val (.int (1 : Int32)), .val (.int (1 : Int32))]) rfl ?_
          show Steps p.tables e below (T7.setTop (mkF m 226 #[.val (.int b0), .val (.int b1), .val (.int b2), .val (.int b3), .val (.int sp), .val (.int (0 : Int32)), .val (.int av), .val (.ref ca), .val (.int rr), .val (.int (1 : Int32)), .val (.int (1 : Int32)), .val (.int (1 : Int32))] [])) tgt
          refine XS.iload X7.here hx rfl (hb hby at_226) rfl ?_
          show Steps p.tables e below (T7.setTop (mkF m 228 #[.val (.int b0), .val (.int b1), .val (.int b2), .val (.int b3), .val (.int sp), .val (.int (0 : Int32)), .val (.int av), .val (.ref ca), .val (.int rr), .val (.int (1 : Int32)), .val (.int (1 : Int32)), .val (.int (1 : Int32))] [(.int (1 : Int32))])) tgt
          refine XS.ifNo X7.here hx rfl (hb hby at_228) rfl ((if0 _ _).trans (feq (by decide : ¬ ((1 : Int32) = (0 : Int32)))).1) ?_
          show Steps p.tables e below (T7.setTop (mkF m 231 #[.val (.int b0), .val (.int b1), .val (.int b2), .val (.int b3), .val (.int sp), .val (.int (0 : Int32)), .val (.int av), .val (.ref ca), .val (.int rr), .val (.int (1 : Int32)), .val (.int (1 : Int32)), .val (.int (1 : Int32))] [])) tgt
          refine XS.iload X7.here hx rfl (hb hby at_231) rfl ?_
          show Steps p.tables e below (T7.setTop (mkF m 233 #[.val (.int b0), .val (.int b1), .val (.int b2), .val (.int b3), .val (.int sp), .val (.int (0 : Int32)), .val (.int av), .val (.ref ca), .val (.int rr), .val (.int (1 : Int32)), .val (.int (1 : Int32)), .val (.int (1 : Int32))] [(.int (1 : Int32))])) tgt
          refine XS.ifNo X7.here hx rfl (hb hby at_233) rfl ((if0 _ _).trans (feq (by decide : ¬ ((1 : Int32) = (0 : Int32)))).1) ?_
          show Steps p.tables e below (T7.setTop (mkF m 236 #[.val (.int b0), .val (.int b1), .val (.int b2), .val (.int b3), .val (.int sp), .val (.int (0 : Int32)), .val (.int av), .val (.ref ca), .val (.int rr), .val (.int (1 : Int32)), .val (.int (1 : Int32)), .val (.int (1 : Int32))] [])) tgt
          refine XS.iconst X7.here hx rfl (hb hby at_236) ?_
          show Steps p.tables e below (T7.setTop (mkF m 237 #[.val (.int b0), .val (.int b1), .val (.int b2), .val (.int b3), .val (.int sp), .val (.int (0 : Int32)), .val (.int av), .val (.ref ca), .val (.int rr), .val (.int (1 : Int32)), .val (.int (1 : Int32)), .val (.int (1 : Int32))] [(.int (1 : Int32))])) tgt
          refine XS.goto X7.here hx rfl (pc0 := 237) (pc' := 241) rfl (hb hby at_237) (by decide) (by decide) ?_
          exact k
        refine own_retN X7 hx hlk (t := .boolean) (z' := (1 : Int32)) Bd.returns (by simp) rfl (hb hby at_241) ?_ (by decide) (by decide)
        show Q0 Z b0 b1 b2 b3 sp h0 n0 (some (.int (1 : Int32))) T7.heap _
        rw [K7]
        exact ⟨rfl, N7⟩
      · skip
        refine own_st (V := T6.setTop (mkF m 241 #[.val (.int b0), .val (.int b1), .val (.int b2), .val (.int b3), .val (.int sp), .val (.int (0 : Int32)), .val (.int av), .val (.ref ca), .val (.int rr), .val (.int (1 : Int32)), .val (.int (1 : Int32)), .val (.int (1 : Int32))] [(.int (1 : Int32))])) (fun tgt k => ?_) ?_
        · show Steps p.tables e below (T6.setTop (mkF m 205 #[.val (.int b0), .val (.int b1), .val (.int b2), .val (.int b3), .val (.int sp), .val (.int (0 : Int32)), .val (.int av), .val (.ref ca), .val (.int rr), .val (.int (1 : Int32)), .val (.int (1 : Int32)), .unset] [(.int (0 : Int32)), (.int rr)])) tgt
          refine XS.icmpYes X6.here hx rfl (pc0 := 205) (pc' := 219) rfl (hb hby at_205) rfl (flt hc205).2.1 (by decide) (by decide) ?_
          show Steps p.tables e below (T6.setTop (mkF m 219 #[.val (.int b0), .val (.int b1), .val (.int b2), .val (.int b3), .val (.int sp), .val (.int (0 : Int32)), .val (.int av), .val (.ref ca), .val (.int rr), .val (.int (1 : Int32)), .val (.int (1 : Int32)), .unset] [])) tgt
          refine XS.iconst X6.here hx rfl (hb hby at_219) ?_
          show Steps p.tables e below (T6.setTop (mkF m 220 #[.val (.int b0), .val (.int b1), .val (.int b2), .val (.int b3), .val (.int sp), .val (.int (0 : Int32)), .val (.int av), .val (.ref ca), .val (.int rr), .val (.int (1 : Int32)), .val (.int (1 : Int32)), .unset] [(.int (1 : Int32))])) tgt
          refine XS.goto X6.here hx rfl (pc0 := 220) (pc' := 224) rfl (hb hby at_220) (by decide) (by decide) ?_
          show Steps p.tables e below (T6.setTop (mkF m 224 #[.val (.int b0), .val (.int b1), .val (.int b2), .val (.int b3), .val (.int sp), .val (.int (0 : Int32)), .val (.int av), .val (.ref ca), .val (.int rr), .val (.int (1 : Int32)), .val (.int (1 : Int32)), .unset] [(.int (1 : Int32))])) tgt
          refine XS.istore X6.here hx rfl (hb hby at_224) rfl (l' := #[.val (.int b0), .val (.int b1), .val (.int b2), .val (.int b3), .val (.int sp), .val (.int (0 : Int32)), .val (.int av), .val (.ref ca), .val (.int rr), .val (.int (1 : Int32)), .val (.int (1 : Int32)), .val (.int (1 : Int32))]) rfl ?_
          show Steps p.tables e below (T6.setTop (mkF m 226 #[.val (.int b0), .val (.int b1), .val (.int b2), .val (.int b3), .val (.int sp), .val (.int (0 : Int32)), .val (.int av), .val (.ref ca), .val (.int rr), .val (.int (1 : Int32)), .val (.int (1 : Int32)), .val (.int (1 : Int32))] [])) tgt
          refine XS.iload X6.here hx rfl (hb hby at_226) rfl ?_
          show Steps p.tables e below (T6.setTop (mkF m 228 #[.val (.int b0), .val (.int b1), .val (.int b2), .val (.int b3), .val (.int sp), .val (.int (0 : Int32)), .val (.int av), .val (.ref ca), .val (.int rr), .val (.int (1 : Int32)), .val (.int (1 : Int32)), .val (.int (1 : Int32))] [(.int (1 : Int32))])) tgt
          refine XS.ifNo X6.here hx rfl (hb hby at_228) rfl ((if0 _ _).trans (feq (by decide : ¬ ((1 : Int32) = (0 : Int32)))).1) ?_
          show Steps p.tables e below (T6.setTop (mkF m 231 #[.val (.int b0), .val (.int b1), .val (.int b2), .val (.int b3), .val (.int sp), .val (.int (0 : Int32)), .val (.int av), .val (.ref ca), .val (.int rr), .val (.int (1 : Int32)), .val (.int (1 : Int32)), .val (.int (1 : Int32))] [])) tgt
          refine XS.iload X6.here hx rfl (hb hby at_231) rfl ?_
          show Steps p.tables e below (T6.setTop (mkF m 233 #[.val (.int b0), .val (.int b1), .val (.int b2), .val (.int b3), .val (.int sp), .val (.int (0 : Int32)), .val (.int av), .val (.ref ca), .val (.int rr), .val (.int (1 : Int32)), .val (.int (1 : Int32)), .val (.int (1 : Int32))] [(.int (1 : Int32))])) tgt
          refine XS.ifNo X6.here hx rfl (hb hby at_233) rfl ((if0 _ _).trans (feq (by decide : ¬ ((1 : Int32) = (0 : Int32)))).1) ?_
          show Steps p.tables e below (T6.setTop (mkF m 236 #[.val (.int b0), .val (.int b1), .val (.int b2), .val (.int b3), .val (.int sp), .val (.int (0 : Int32)), .val (.int av), .val (.ref ca), .val (.int rr), .val (.int (1 : Int32)), .val (.int (1 : Int32)), .val (.int (1 : Int32))] [])) tgt
          refine XS.iconst X6.here hx rfl (hb hby at_236) ?_
          show Steps p.tables e below (T6.setTop (mkF m 237 #[.val (.int b0), .val (.int b1), .val (.int b2), .val (.int b3), .val (.int sp), .val (.int (0 : Int32)), .val (.int av), .val (.ref ca), .val (.int rr), .val (.int (1 : Int32)), .val (.int (1 : Int32)), .val (.int (1 : Int32))] [(.int (1 : Int32))])) tgt
          refine XS.goto X6.here hx rfl (pc0 := 237) (pc' := 241) rfl (hb hby at_237) (by decide) (by decide) ?_
          exact k
        refine own_retN X6 hx hlk (t := .boolean) (z' := (1 : Int32)) Bd.returns (by simp) rfl (hb hby at_241) ?_ (by decide) (by decide)
        show Q0 Z b0 b1 b2 b3 sp h0 n0 (some (.int (1 : Int32))) T6.heap _
        rw [K6]
        exact ⟨rfl, N6⟩
    · skip
      refine own_st (V := T2.setTop (mkF m 149 #[.val (.int b0), .val (.int b1), .val (.int b2), .val (.int b3), .val (.int sp), .val (.int (0 : Int32)), .val (.int av), .val (.ref ca), .val (.int rr), .val (.int (1 : Int32)), .unset, .unset] [(.int (0 : Int32)), (.int rr), (.int av), (.ref ca)])) (fun tgt k => ?_) ?_
      · show Steps p.tables e below (T2.setTop (mkF m 96 #[.val (.int b0), .val (.int b1), .val (.int b2), .val (.int b3), .val (.int sp), .val (.int (0 : Int32)), .val (.int av), .val (.ref ca), .val (.int rr), .unset, .unset, .unset] [(.int (0 : Int32)), (.int av)])) tgt
        refine XS.icmpNo X2.here hx rfl (hb hby at_96) rfl (flt hc96).1 ?_
        show Steps p.tables e below (T2.setTop (mkF m 99 #[.val (.int b0), .val (.int b1), .val (.int b2), .val (.int b3), .val (.int sp), .val (.int (0 : Int32)), .val (.int av), .val (.ref ca), .val (.int rr), .unset, .unset, .unset] [])) tgt
        refine XS.iload X2.here hx rfl (hb hby at_99) rfl ?_
        show Steps p.tables e below (T2.setTop (mkF m 101 #[.val (.int b0), .val (.int b1), .val (.int b2), .val (.int b3), .val (.int sp), .val (.int (0 : Int32)), .val (.int av), .val (.ref ca), .val (.int rr), .unset, .unset, .unset] [(.int rr)])) tgt
        refine XS.iload X2.here hx rfl (hb hby at_101) rfl ?_
        show Steps p.tables e below (T2.setTop (mkF m 103 #[.val (.int b0), .val (.int b1), .val (.int b2), .val (.int b3), .val (.int sp), .val (.int (0 : Int32)), .val (.int av), .val (.ref ca), .val (.int rr), .unset, .unset, .unset] [(.int av), (.int rr)])) tgt
        refine XS.icmpNo X2.here hx rfl (hb hby at_103) rfl (teq (own_eq R1 R2 hav0 (by decide) hc96)).2 ?_
        show Steps p.tables e below (T2.setTop (mkF m 106 #[.val (.int b0), .val (.int b1), .val (.int b2), .val (.int b3), .val (.int sp), .val (.int (0 : Int32)), .val (.int av), .val (.ref ca), .val (.int rr), .unset, .unset, .unset] [])) tgt
        refine XS.iconst X2.here hx rfl (hb hby at_106) ?_
        show Steps p.tables e below (T2.setTop (mkF m 107 #[.val (.int b0), .val (.int b1), .val (.int b2), .val (.int b3), .val (.int sp), .val (.int (0 : Int32)), .val (.int av), .val (.ref ca), .val (.int rr), .unset, .unset, .unset] [(.int (1 : Int32))])) tgt
        refine XS.goto X2.here hx rfl (pc0 := 107) (pc' := 133) rfl (hb hby at_107) (by decide) (by decide) ?_
        show Steps p.tables e below (T2.setTop (mkF m 133 #[.val (.int b0), .val (.int b1), .val (.int b2), .val (.int b3), .val (.int sp), .val (.int (0 : Int32)), .val (.int av), .val (.ref ca), .val (.int rr), .unset, .unset, .unset] [(.int (1 : Int32))])) tgt
        refine XS.istore X2.here hx rfl (hb hby at_133) rfl (l' := #[.val (.int b0), .val (.int b1), .val (.int b2), .val (.int b3), .val (.int sp), .val (.int (0 : Int32)), .val (.int av), .val (.ref ca), .val (.int rr), .val (.int (1 : Int32)), .unset, .unset]) rfl ?_
        show Steps p.tables e below (T2.setTop (mkF m 135 #[.val (.int b0), .val (.int b1), .val (.int b2), .val (.int b3), .val (.int sp), .val (.int (0 : Int32)), .val (.int av), .val (.ref ca), .val (.int rr), .val (.int (1 : Int32)), .unset, .unset] [])) tgt
        refine XS.iload X2.here hx rfl (hb hby at_135) rfl ?_
        show Steps p.tables e below (T2.setTop (mkF m 137 #[.val (.int b0), .val (.int b1), .val (.int b2), .val (.int b3), .val (.int sp), .val (.int (0 : Int32)), .val (.int av), .val (.ref ca), .val (.int rr), .val (.int (1 : Int32)), .unset, .unset] [(.int (1 : Int32))])) tgt
        refine XS.ifYes X2.here hx rfl (pc0 := 137) (pc' := 142) rfl (hb hby at_137) rfl ((if0 _ _).trans (feq (by decide : ¬ ((1 : Int32) = (0 : Int32)))).2) (by decide) (by decide) ?_
        show Steps p.tables e below (T2.setTop (mkF m 142 #[.val (.int b0), .val (.int b1), .val (.int b2), .val (.int b3), .val (.int sp), .val (.int (0 : Int32)), .val (.int av), .val (.ref ca), .val (.int rr), .val (.int (1 : Int32)), .unset, .unset] [])) tgt
        refine XS.aload X2.here hx rfl (hb hby at_142) rfl rfl ?_
        show Steps p.tables e below (T2.setTop (mkF m 144 #[.val (.int b0), .val (.int b1), .val (.int b2), .val (.int b3), .val (.int sp), .val (.int (0 : Int32)), .val (.int av), .val (.ref ca), .val (.int rr), .val (.int (1 : Int32)), .unset, .unset] [(.ref ca)])) tgt
        refine XS.iload X2.here hx rfl (hb hby at_144) rfl ?_
        show Steps p.tables e below (T2.setTop (mkF m 146 #[.val (.int b0), .val (.int b1), .val (.int b2), .val (.int b3), .val (.int sp), .val (.int (0 : Int32)), .val (.int av), .val (.ref ca), .val (.int rr), .val (.int (1 : Int32)), .unset, .unset] [(.int av), (.ref ca)])) tgt
        refine XS.iload X2.here hx rfl (hb hby at_146) rfl ?_
        show Steps p.tables e below (T2.setTop (mkF m 148 #[.val (.int b0), .val (.int b1), .val (.int b2), .val (.int b3), .val (.int sp), .val (.int (0 : Int32)), .val (.int av), .val (.ref ca), .val (.int rr), .val (.int (1 : Int32)), .unset, .unset] [(.int rr), (.int av), (.ref ca)])) tgt
        refine XS.iconst X2.here hx rfl (hb hby at_148) ?_
        exact k
      obtain ⟨_, _, ⟨T10, L10, k10, n10⟩, -, X10, ⟨Lc10, hQ10, l10, y10, z10⟩, st10⟩ := Jvm.LawKit.callS X2 hx (y := (⟨"com/example/tidewatch/tidewatch/io/DecimalSkipDigitsPinLaw", "digitOrOutside", "([BIII)Z"⟩ : MethodName)) hown (mvT hZ (hw _ (List.mem_of_getElem? (i := 5) rfl))) (mvT hZ (hw _ (List.mem_of_getElem? (i := 6) rfl))) (mvT hZ (hw _ (List.mem_of_getElem? (i := 7) rfl))) (mvT hZ (hw _ (List.mem_of_getElem? (i := 8) rfl))) (by decide) (backOf (W := 0) (rm2 l Z a0 hw [] ca av rr (0 : Int32) 0 (fun _ => 0) 0 h1 n0 Zs1 A_ca_1 (by decide) (own_i2 R2 (by decide))) hZ (hw _ (List.mem_of_getElem? (i := 8) rfl)) (hw _ (List.mem_of_getElem? (i := 7) rfl)) (by decide) (by decide)) (g := (mkF m 149 #[.val (.int b0), .val (.int b1), .val (.int b2), .val (.int b3), .val (.int sp), .val (.int (0 : Int32)), .val (.int av), .val (.ref ca), .val (.int rr), .val (.int (1 : Int32)), .unset, .unset] [(.int (0 : Int32)), (.int rr), (.int av), (.ref ca)])) rfl (by rw [hml]; rfl) (argsL := [(.ref ca), (.int av), (.int rr), (.int (0 : Int32))]) (rest := []) (lenOf pd_0_1 rfl) rfl (by show 2 * 0 + _ ≤ _; exact Nat.le_of_eq rfl) (hb hby at_149) (fun _ _ => ⟨rfl, K2, (by decide : 1 + 0 ≤ _), (by decide : 0 + 0 ≤ _)⟩)
      dsimp only [Pt.U, Pt.locs, Pt.cells, Pt.slots] at X10 l10 y10 z10 st10 hQ10
      subst l10 y10 z10
      obtain ⟨rfl, N10q, K10⟩ := hQ10
      have N10 := Fr.app N2 N10q
      refine own_st st10 ?_
      show own_Go p e below _ (T10.setTop (mkF m 152 #[.val (.int b0), .val (.int b1), .val (.int b2), .val (.int b3), .val (.int sp), .val (.int (0 : Int32)), .val (.int av), .val (.ref ca), .val (.int rr), .val (.int (1 : Int32)), .unset, .unset] [(.int (own_doo (fun _ => 0) av rr (0 : Int32) 0))]))
      refine own_st (V := T10.setTop (mkF m 162 #[.val (.int b0), .val (.int b1), .val (.int b2), .val (.int b3), .val (.int sp), .val (.int (0 : Int32)), .val (.int av), .val (.ref ca), .val (.int rr), .val (.int (1 : Int32)), .unset, .unset] [(.int (1 : Int32)), (.int rr), (.int av), (.ref ca)])) (fun tgt k => ?_) ?_
      · show Steps p.tables e below (T10.setTop (mkF m 152 #[.val (.int b0), .val (.int b1), .val (.int b2), .val (.int b3), .val (.int sp), .val (.int (0 : Int32)), .val (.int av), .val (.ref ca), .val (.int rr), .val (.int (1 : Int32)), .unset, .unset] [(.int (own_doo (fun _ => 0) av rr (0 : Int32) 0))])) tgt
        refine XS.ifNo X10.here hx rfl (hb hby at_152) rfl ((if0 _ _).trans (feq (own_doo1 R2 (by decide))).1) ?_
        show Steps p.tables e below (T10.setTop (mkF m 155 #[.val (.int b0), .val (.int b1), .val (.int b2), .val (.int b3), .val (.int sp), .val (.int (0 : Int32)), .val (.int av), .val (.ref ca), .val (.int rr), .val (.int (1 : Int32)), .unset, .unset] [])) tgt
        refine XS.aload X10.here hx rfl (hb hby at_155) rfl rfl ?_
        show Steps p.tables e below (T10.setTop (mkF m 157 #[.val (.int b0), .val (.int b1), .val (.int b2), .val (.int b3), .val (.int sp), .val (.int (0 : Int32)), .val (.int av), .val (.ref ca), .val (.int rr), .val (.int (1 : Int32)), .unset, .unset] [(.ref ca)])) tgt
        refine XS.iload X10.here hx rfl (hb hby at_157) rfl ?_
        show Steps p.tables e below (T10.setTop (mkF m 159 #[.val (.int b0), .val (.int b1), .val (.int b2), .val (.int b3), .val (.int sp), .val (.int (0 : Int32)), .val (.int av), .val (.ref ca), .val (.int rr), .val (.int (1 : Int32)), .unset, .unset] [(.int av), (.ref ca)])) tgt
        refine XS.iload X10.here hx rfl (hb hby at_159) rfl ?_
        show Steps p.tables e below (T10.setTop (mkF m 161 #[.val (.int b0), .val (.int b1), .val (.int b2), .val (.int b3), .val (.int sp), .val (.int (0 : Int32)), .val (.int av), .val (.ref ca), .val (.int rr), .val (.int (1 : Int32)), .unset, .unset] [(.int rr), (.int av), (.ref ca)])) tgt
        refine XS.iconst X10.here hx rfl (hb hby at_161) ?_
        exact k
      obtain ⟨_, _, ⟨T11, L11, k11, n11⟩, -, X11, ⟨Lc11, hQ11, l11, y11, z11⟩, st11⟩ := Jvm.LawKit.callS X10 hx (y := (⟨"com/example/tidewatch/tidewatch/io/DecimalSkipDigitsPinLaw", "digitOrOutside", "([BIII)Z"⟩ : MethodName)) hown (mvT hZ (hw _ (List.mem_of_getElem? (i := 5) rfl))) (mvT hZ (hw _ (List.mem_of_getElem? (i := 6) rfl))) (mvT hZ (hw _ (List.mem_of_getElem? (i := 7) rfl))) (mvT hZ (hw _ (List.mem_of_getElem? (i := 8) rfl))) (by decide) (backOf (W := 0) (rm2 l Z a0 hw [] ca av rr (1 : Int32) 0 (fun _ => 0) 1 h1 n0 Zs1 A_ca_1 (by decide) (own_i2 R2 (by decide))) hZ (hw _ (List.mem_of_getElem? (i := 8) rfl)) (hw _ (List.mem_of_getElem? (i := 7) rfl)) (by decide) (by decide)) (g := (mkF m 162 #[.val (.int b0), .val (.int b1), .val (.int b2), .val (.int b3), .val (.int sp), .val (.int (0 : Int32)), .val (.int av), .val (.ref ca), .val (.int rr), .val (.int (1 : Int32)), .unset, .unset] [(.int (1 : Int32)), (.int rr), (.int av), (.ref ca)])) rfl (by rw [hml]; rfl) (argsL := [(.ref ca), (.int av), (.int rr), (.int (1 : Int32))]) (rest := []) (lenOf pd_0_1 rfl) rfl (by show 2 * 0 + _ ≤ _; exact Nat.le_of_eq rfl) (hb hby at_162) (fun _ _ => ⟨rfl, K10, (by decide : 1 + 0 ≤ _), (by decide : 0 + 0 ≤ _)⟩)
      dsimp only [Pt.U, Pt.locs, Pt.cells, Pt.slots] at X11 l11 y11 z11 st11 hQ11
      subst l11 y11 z11
      obtain ⟨rfl, N11q, K11⟩ := hQ11
      have N11 := Fr.app N10 N11q
      refine own_st st11 ?_
      show own_Go p e below _ (T11.setTop (mkF m 165 #[.val (.int b0), .val (.int b1), .val (.int b2), .val (.int b3), .val (.int sp), .val (.int (0 : Int32)), .val (.int av), .val (.ref ca), .val (.int rr), .val (.int (1 : Int32)), .unset, .unset] [(.int (own_doo (fun _ => 0) av rr (1 : Int32) 1))]))
      refine own_st (V := T11.setTop (mkF m 175 #[.val (.int b0), .val (.int b1), .val (.int b2), .val (.int b3), .val (.int sp), .val (.int (0 : Int32)), .val (.int av), .val (.ref ca), .val (.int rr), .val (.int (1 : Int32)), .unset, .unset] [(.int (2 : Int32)), (.int rr), (.int av), (.ref ca)])) (fun tgt k => ?_) ?_
      · show Steps p.tables e below (T11.setTop (mkF m 165 #[.val (.int b0), .val (.int b1), .val (.int b2), .val (.int b3), .val (.int sp), .val (.int (0 : Int32)), .val (.int av), .val (.ref ca), .val (.int rr), .val (.int (1 : Int32)), .unset, .unset] [(.int (own_doo (fun _ => 0) av rr (1 : Int32) 1))])) tgt
        refine XS.ifNo X11.here hx rfl (hb hby at_165) rfl ((if0 _ _).trans (feq (own_doo1 R2 (by decide))).1) ?_
        show Steps p.tables e below (T11.setTop (mkF m 168 #[.val (.int b0), .val (.int b1), .val (.int b2), .val (.int b3), .val (.int sp), .val (.int (0 : Int32)), .val (.int av), .val (.ref ca), .val (.int rr), .val (.int (1 : Int32)), .unset, .unset] [])) tgt
        refine XS.aload X11.here hx rfl (hb hby at_168) rfl rfl ?_
        show Steps p.tables e below (T11.setTop (mkF m 170 #[.val (.int b0), .val (.int b1), .val (.int b2), .val (.int b3), .val (.int sp), .val (.int (0 : Int32)), .val (.int av), .val (.ref ca), .val (.int rr), .val (.int (1 : Int32)), .unset, .unset] [(.ref ca)])) tgt
        refine XS.iload X11.here hx rfl (hb hby at_170) rfl ?_
        show Steps p.tables e below (T11.setTop (mkF m 172 #[.val (.int b0), .val (.int b1), .val (.int b2), .val (.int b3), .val (.int sp), .val (.int (0 : Int32)), .val (.int av), .val (.ref ca), .val (.int rr), .val (.int (1 : Int32)), .unset, .unset] [(.int av), (.ref ca)])) tgt
        refine XS.iload X11.here hx rfl (hb hby at_172) rfl ?_
        show Steps p.tables e below (T11.setTop (mkF m 174 #[.val (.int b0), .val (.int b1), .val (.int b2), .val (.int b3), .val (.int sp), .val (.int (0 : Int32)), .val (.int av), .val (.ref ca), .val (.int rr), .val (.int (1 : Int32)), .unset, .unset] [(.int rr), (.int av), (.ref ca)])) tgt
        refine XS.iconst X11.here hx rfl (hb hby at_174) ?_
        exact k
      obtain ⟨_, _, ⟨T12, L12, k12, n12⟩, -, X12, ⟨Lc12, hQ12, l12, y12, z12⟩, st12⟩ := Jvm.LawKit.callS X11 hx (y := (⟨"com/example/tidewatch/tidewatch/io/DecimalSkipDigitsPinLaw", "digitOrOutside", "([BIII)Z"⟩ : MethodName)) hown (mvT hZ (hw _ (List.mem_of_getElem? (i := 5) rfl))) (mvT hZ (hw _ (List.mem_of_getElem? (i := 6) rfl))) (mvT hZ (hw _ (List.mem_of_getElem? (i := 7) rfl))) (mvT hZ (hw _ (List.mem_of_getElem? (i := 8) rfl))) (by decide) (backOf (W := 0) (rm2 l Z a0 hw [] ca av rr (2 : Int32) 0 (fun _ => 0) 2 h1 n0 Zs1 A_ca_1 (by decide) (own_i2 R2 (by decide))) hZ (hw _ (List.mem_of_getElem? (i := 8) rfl)) (hw _ (List.mem_of_getElem? (i := 7) rfl)) (by decide) (by decide)) (g := (mkF m 175 #[.val (.int b0), .val (.int b1), .val (.int b2), .val (.int b3), .val (.int sp), .val (.int (0 : Int32)), .val (.int av), .val (.ref ca), .val (.int rr), .val (.int (1 : Int32)), .unset, .unset] [(.int (2 : Int32)), (.int rr), (.int av), (.ref ca)])) rfl (by rw [hml]; rfl) (argsL := [(.ref ca), (.int av), (.int rr), (.int (2 : Int32))]) (rest := []) (lenOf pd_0_1 rfl) rfl (by show 2 * 0 + _ ≤ _; exact Nat.le_of_eq rfl) (hb hby at_175) (fun _ _ => ⟨rfl, K11, (by decide : 1 + 0 ≤ _), (by decide : 0 + 0 ≤ _)⟩)
      dsimp only [Pt.U, Pt.locs, Pt.cells, Pt.slots] at X12 l12 y12 z12 st12 hQ12
      subst l12 y12 z12
      obtain ⟨rfl, N12q, K12⟩ := hQ12
      have N12 := Fr.app N11 N12q
      refine own_st st12 ?_
      show own_Go p e below _ (T12.setTop (mkF m 178 #[.val (.int b0), .val (.int b1), .val (.int b2), .val (.int b3), .val (.int sp), .val (.int (0 : Int32)), .val (.int av), .val (.ref ca), .val (.int rr), .val (.int (1 : Int32)), .unset, .unset] [(.int (own_doo (fun _ => 0) av rr (2 : Int32) 2))]))
      refine own_st (V := T12.setTop (mkF m 188 #[.val (.int b0), .val (.int b1), .val (.int b2), .val (.int b3), .val (.int sp), .val (.int (0 : Int32)), .val (.int av), .val (.ref ca), .val (.int rr), .val (.int (1 : Int32)), .unset, .unset] [(.int (3 : Int32)), (.int rr), (.int av), (.ref ca)])) (fun tgt k => ?_) ?_
      · show Steps p.tables e below (T12.setTop (mkF m 178 #[.val (.int b0), .val (.int b1), .val (.int b2), .val (.int b3), .val (.int sp), .val (.int (0 : Int32)), .val (.int av), .val (.ref ca), .val (.int rr), .val (.int (1 : Int32)), .unset, .unset] [(.int (own_doo (fun _ => 0) av rr (2 : Int32) 2))])) tgt
        refine XS.ifNo X12.here hx rfl (hb hby at_178) rfl ((if0 _ _).trans (feq (own_doo1 R2 (by decide))).1) ?_
        show Steps p.tables e below (T12.setTop (mkF m 181 #[.val (.int b0), .val (.int b1), .val (.int b2), .val (.int b3), .val (.int sp), .val (.int (0 : Int32)), .val (.int av), .val (.ref ca), .val (.int rr), .val (.int (1 : Int32)), .unset, .unset] [])) tgt
        refine XS.aload X12.here hx rfl (hb hby at_181) rfl rfl ?_
        show Steps p.tables e below (T12.setTop (mkF m 183 #[.val (.int b0), .val (.int b1), .val (.int b2), .val (.int b3), .val (.int sp), .val (.int (0 : Int32)), .val (.int av), .val (.ref ca), .val (.int rr), .val (.int (1 : Int32)), .unset, .unset] [(.ref ca)])) tgt
        refine XS.iload X12.here hx rfl (hb hby at_183) rfl ?_
        show Steps p.tables e below (T12.setTop (mkF m 185 #[.val (.int b0), .val (.int b1), .val (.int b2), .val (.int b3), .val (.int sp), .val (.int (0 : Int32)), .val (.int av), .val (.ref ca), .val (.int rr), .val (.int (1 : Int32)), .unset, .unset] [(.int av), (.ref ca)])) tgt
        refine XS.iload X12.here hx rfl (hb hby at_185) rfl ?_
        show Steps p.tables e below (T12.setTop (mkF m 187 #[.val (.int b0), .val (.int b1), .val (.int b2), .val (.int b3), .val (.int sp), .val (.int (0 : Int32)), .val (.int av), .val (.ref ca), .val (.int rr), .val (.int (1 : Int32)), .unset, .unset] [(.int rr), (.int av), (.ref ca)])) tgt
        refine XS.iconst X12.here hx rfl (hb hby at_187) ?_
        exact k
      obtain ⟨_, _, ⟨T13, L13, k13, n13⟩, -, X13, ⟨Lc13, hQ13, l13, y13, z13⟩, st13⟩ := Jvm.LawKit.callS X12 hx (y := (⟨"com/example/tidewatch/tidewatch/io/DecimalSkipDigitsPinLaw", "digitOrOutside", "([BIII)Z"⟩ : MethodName)) hown (mvT hZ (hw _ (List.mem_of_getElem? (i := 5) rfl))) (mvT hZ (hw _ (List.mem_of_getElem? (i := 6) rfl))) (mvT hZ (hw _ (List.mem_of_getElem? (i := 7) rfl))) (mvT hZ (hw _ (List.mem_of_getElem? (i := 8) rfl))) (by decide) (backOf (W := 0) (rm2 l Z a0 hw [] ca av rr (3 : Int32) 0 (fun _ => 0) 3 h1 n0 Zs1 A_ca_1 (by decide) (own_i2 R2 (by decide))) hZ (hw _ (List.mem_of_getElem? (i := 8) rfl)) (hw _ (List.mem_of_getElem? (i := 7) rfl)) (by decide) (by decide)) (g := (mkF m 188 #[.val (.int b0), .val (.int b1), .val (.int b2), .val (.int b3), .val (.int sp), .val (.int (0 : Int32)), .val (.int av), .val (.ref ca), .val (.int rr), .val (.int (1 : Int32)), .unset, .unset] [(.int (3 : Int32)), (.int rr), (.int av), (.ref ca)])) rfl (by rw [hml]; rfl) (argsL := [(.ref ca), (.int av), (.int rr), (.int (3 : Int32))]) (rest := []) (lenOf pd_0_1 rfl) rfl (by show 2 * 0 + _ ≤ _; exact Nat.le_of_eq rfl) (hb hby at_188) (fun _ _ => ⟨rfl, K12, (by decide : 1 + 0 ≤ _), (by decide : 0 + 0 ≤ _)⟩)
      dsimp only [Pt.U, Pt.locs, Pt.cells, Pt.slots] at X13 l13 y13 z13 st13 hQ13
      subst l13 y13 z13
      obtain ⟨rfl, N13q, K13⟩ := hQ13
      have N13 := Fr.app N12 N13q
      refine own_st st13 ?_
      show own_Go p e below _ (T13.setTop (mkF m 191 #[.val (.int b0), .val (.int b1), .val (.int b2), .val (.int b3), .val (.int sp), .val (.int (0 : Int32)), .val (.int av), .val (.ref ca), .val (.int rr), .val (.int (1 : Int32)), .unset, .unset] [(.int (own_doo (fun _ => 0) av rr (3 : Int32) 3))]))
      refine own_st (V := T13.setTop (mkF m 205 #[.val (.int b0), .val (.int b1), .val (.int b2), .val (.int b3), .val (.int sp), .val (.int (0 : Int32)), .val (.int av), .val (.ref ca), .val (.int rr), .val (.int (1 : Int32)), .val (.int (1 : Int32)), .unset] [(.int (0 : Int32)), (.int rr)])) (fun tgt k => ?_) ?_
      · show Steps p.tables e below (T13.setTop (mkF m 191 #[.val (.int b0), .val (.int b1), .val (.int b2), .val (.int b3), .val (.int sp), .val (.int (0 : Int32)), .val (.int av), .val (.ref ca), .val (.int rr), .val (.int (1 : Int32)), .unset, .unset] [(.int (own_doo (fun _ => 0) av rr (3 : Int32) 3))])) tgt
        refine XS.ifNo X13.here hx rfl (hb hby at_191) rfl ((if0 _ _).trans (feq (own_doo1 R2 (by decide))).1) ?_
        show Steps p.tables e below (T13.setTop (mkF m 194 #[.val (.int b0), .val (.int b1), .val (.int b2), .val (.int b3), .val (.int sp), .val (.int (0 : Int32)), .val (.int av), .val (.ref ca), .val (.int rr), .val (.int (1 : Int32)), .unset, .unset] [])) tgt
        refine XS.iconst X13.here hx rfl (hb hby at_194) ?_
        show Steps p.tables e below (T13.setTop (mkF m 195 #[.val (.int b0), .val (.int b1), .val (.int b2), .val (.int b3), .val (.int sp), .val (.int (0 : Int32)), .val (.int av), .val (.ref ca), .val (.int rr), .val (.int (1 : Int32)), .unset, .unset] [(.int (1 : Int32))])) tgt
        refine XS.goto X13.here hx rfl (pc0 := 195) (pc' := 199) rfl (hb hby at_195) (by decide) (by decide) ?_
        show Steps p.tables e below (T13.setTop (mkF m 199 #[.val (.int b0), .val (.int b1), .val (.int b2), .val (.int b3), .val (.int sp), .val (.int (0 : Int32)), .val (.int av), .val (.ref ca), .val (.int rr), .val (.int (1 : Int32)), .unset, .unset] [(.int (1 : Int32))])) tgt
        refine XS.istore X13.here hx rfl (hb hby at_199) rfl (l' := #[.val (.int b0), .val (.int b1), .val (.int b2), .val (.int b3), .val (.int sp), .val (.int (0 : Int32)), .val (.int av), .val (.ref ca), .val (.int rr), .val (.int (1 : Int32)), .val (.int (1 : Int32)), .unset]) rfl ?_
        show Steps p.tables e below (T13.setTop (mkF m 201 #[.val (.int b0), .val (.int b1), .val (.int b2), .val (.int b3), .val (.int sp), .val (.int (0 : Int32)), .val (.int av), .val (.ref ca), .val (.int rr), .val (.int (1 : Int32)), .val (.int (1 : Int32)), .unset] [])) tgt
        refine XS.iload X13.here hx rfl (hb hby at_201) rfl ?_
        show Steps p.tables e below (T13.setTop (mkF m 203 #[.val (.int b0), .val (.int b1), .val (.int b2), .val (.int b3), .val (.int sp), .val (.int (0 : Int32)), .val (.int av), .val (.ref ca), .val (.int rr), .val (.int (1 : Int32)), .val (.int (1 : Int32)), .unset] [(.int rr)])) tgt
        refine XS.iload X13.here hx rfl (hb hby at_203) rfl ?_
        exact k
      by_cases hc205 : rr < (0 : Int32)
      · skip
        refine own_st (V := T13.setTop (mkF m 213 #[.val (.int b0), .val (.int b1), .val (.int b2), .val (.int b3), .val (.int sp), .val (.int (0 : Int32)), .val (.int av), .val (.ref ca), .val (.int rr), .val (.int (1 : Int32)), .val (.int (1 : Int32)), .unset] [(.int ((fun _ => 0) rr.toInt.toNat))])) (fun tgt k => ?_) ?_
        · show Steps p.tables e below (T13.setTop (mkF m 205 #[.val (.int b0), .val (.int b1), .val (.int b2), .val (.int b3), .val (.int sp), .val (.int (0 : Int32)), .val (.int av), .val (.ref ca), .val (.int rr), .val (.int (1 : Int32)), .val (.int (1 : Int32)), .unset] [(.int (0 : Int32)), (.int rr)])) tgt
          refine XS.icmpNo X13.here hx rfl (hb hby at_205) rfl (tlt hc205).2.1 ?_
          show Steps p.tables e below (T13.setTop (mkF m 208 #[.val (.int b0), .val (.int b1), .val (.int b2), .val (.int b3), .val (.int sp), .val (.int (0 : Int32)), .val (.int av), .val (.ref ca), .val (.int rr), .val (.int (1 : Int32)), .val (.int (1 : Int32)), .unset] [])) tgt
          refine XS.aload X13.here hx rfl (hb hby at_208) rfl rfl ?_
          show Steps p.tables e below (T13.setTop (mkF m 210 #[.val (.int b0), .val (.int b1), .val (.int b2), .val (.int b3), .val (.int sp), .val (.int (0 : Int32)), .val (.int av), .val (.ref ca), .val (.int rr), .val (.int (1 : Int32)), .val (.int (1 : Int32)), .unset] [(.ref ca)])) tgt
          refine XS.iload X13.here hx rfl (hb hby at_210) rfl ?_
          show Steps p.tables e below (T13.setTop (mkF m 212 #[.val (.int b0), .val (.int b1), .val (.int b2), .val (.int b3), .val (.int sp), .val (.int (0 : Int32)), .val (.int av), .val (.ref ca), .val (.int rr), .val (.int (1 : Int32)), .val (.int (1 : Int32)), .unset] [(.int rr), (.ref ca)])) tgt
          refine own_baload X13 hx hZ K13 A_ca_1 (j := rr) (k := rr.toInt.toNat) (by omega) (by have := own_ilt.mp hc205; rw [show (0 : Int32).toInt = 0 from rfl] at this; omega) (g := (mkF m 212 #[.val (.int b0), .val (.int b1), .val (.int b2), .val (.int b3), .val (.int sp), .val (.int (0 : Int32)), .val (.int av), .val (.ref ca), .val (.int rr), .val (.int (1 : Int32)), .val (.int (1 : Int32)), .unset] [(.int rr), (.ref ca)])) rfl rfl (hb hby at_212) ?_
          exact k
        obtain ⟨_, _, ⟨T14, L14, k14, n14⟩, -, X14, ⟨Lc14, hQ14, l14, y14, z14⟩, st14⟩ := Jvm.LawKit.callS X13 hx (y := (⟨"com/example/tidewatch/tidewatch/io/DecimalSkipDigitsPinLaw", "isDigit", "(B)Z"⟩ : MethodName)) hown (mvT hZ (hw _ (List.mem_of_getElem? (i := 9) rfl))) (mvT hZ (hw _ (List.mem_of_getElem? (i := 10) rfl))) (mvT hZ (hw _ (List.mem_of_getElem? (i := 7) rfl))) (mvT hZ (hw _ (List.mem_of_getElem? (i := 11) rfl))) (by decide) (backOf (W := 0) (rm3 l Z a0 hw [] ((fun _ => 0) rr.toInt.toNat) h1 n0 Zs1 ) hZ (hw _ (List.mem_of_getElem? (i := 11) rfl)) (hw _ (List.mem_of_getElem? (i := 7) rfl)) (by decide) (by decide)) (g := (mkF m 213 #[.val (.int b0), .val (.int b1), .val (.int b2), .val (.int b3), .val (.int sp), .val (.int (0 : Int32)), .val (.int av), .val (.ref ca), .val (.int rr), .val (.int (1 : Int32)), .val (.int (1 : Int32)), .unset] [(.int ((fun _ => 0) rr.toInt.toNat))])) rfl (by rw [hml]; rfl) (argsL := [(.int ((fun _ => 0) rr.toInt.toNat))]) (rest := []) (lenOf pd_0_2 rfl) rfl (by show 2 * 0 + _ ≤ _; exact Nat.le_of_eq rfl) (hb hby at_213) (fun _ _ => ⟨rfl, K13, (by decide : 1 + 0 ≤ _), (by decide : 0 + 0 ≤ _)⟩)
        dsimp only [Pt.U, Pt.locs, Pt.cells, Pt.slots] at X14 l14 y14 z14 st14 hQ14
        subst l14 y14 z14
        obtain ⟨rfl, N14q, K14⟩ := hQ14
        have N14 := Fr.app N13 N14q
        refine own_st st14 ?_
        show own_Go p e below _ (T14.setTop (mkF m 216 #[.val (.int b0), .val (.int b1), .val (.int b2), .val (.int b3), .val (.int sp), .val (.int (0 : Int32)), .val (.int av), .val (.ref ca), .val (.int rr), .val (.int (1 : Int32)), .val (.int (1 : Int32)), .unset] [(.int (own_isd ((fun _ => 0) rr.toInt.toNat)))]))
        refine own_st (V := T14.setTop (mkF m 241 #[.val (.int b0), .val (.int b1), .val (.int b2), .val (.int b3), .val (.int sp), .val (.int (0 : Int32)), .val (.int av), .val (.ref ca), .val (.int rr), .val (.int (1 : Int32)), .val (.int (1 : Int32)), .val (.int (1 : Int32))] [(.int (1 : Int32))])) (fun tgt k => ?_) ?_
        · show Steps p.tables e below (T14.setTop (mkF m 216 #[.val (.int b0), .val (.int b1), .val (.int b2), .val (.int b3), .val (.int sp), .val (.int (0 : Int32)), .val (.int av), .val (.ref ca), .val (.int rr), .val (.int (1 : Int32)), .val (.int (1 : Int32)), .unset] [(.int (own_isd ((fun _ => 0) rr.toInt.toNat)))])) tgt
          refine XS.ifNo X14.here hx rfl (hb hby at_216) rfl ((if0 _ _).trans (teq ((own_isd1 _).2 (fun z => R3 ⟨by have := own_ilt.mp hc205; rw [show (0 : Int32).toInt = 0 from rfl] at this; omega, z⟩))).2) ?_
          show Steps p.tables e below (T14.setTop (mkF m 219 #[.val (.int b0), .val (.int b1), .val (.int b2), .val (.int b3), .val (.int sp), .val (.int (0 : Int32)), .val (.int av), .val (.ref ca), .val (.int rr), .val (.int (1 : Int32)), .val (.int (1 : Int32)), .unset] [])) tgt
          refine XS.iconst X14.here hx rfl (hb hby at_219) ?_
          show Steps p.tables e below (T14.setTop (mkF m 220 #[.val (.int b0), .val (.int b1), .val (.int b2), .val (.int b3), .val (.int sp), .val (.int (0 : Int32)), .val (.int av), .val (.ref ca), .val (.int rr), .val (.int (1 : Int32)), .val (.int (1 : Int32)), .unset] [(.int (1 : Int32))])) tgt
          refine XS.goto X14.here hx rfl (pc0 := 220) (pc' := 224) rfl (hb hby at_220) (by decide) (by decide) ?_
          show Steps p.tables e below (T14.setTop (mkF m 224 #[.val (.int b0), .val (.int b1), .val (.int b2), .val (.int b3), .val (.int sp), .val (.int (0 : Int32)), .val (.int av), .val (.ref ca), .val (.int rr), .val (.int (1 : Int32)), .val (.int (1 : Int32)), .unset] [(.int (1 : Int32))])) tgt
          refine XS.istore X14.here hx rfl (hb hby at_224) rfl (l' := #[.val (.int b0), .val (.int b1), .val (.int b2), .val (.int b3), .val (.int sp), .val (.int (0 : Int32)), .val (.int av), .val (.ref ca), .val (.int rr), .val (.int (1 : Int32)), .val (.int (1 : Int32)), .val (.int (1 : Int32))]) rfl ?_
          show Steps p.tables e below (T14.setTop (mkF m 226 #[.val (.int b0), .val (.int b1), .val (.int b2), .val (.int b3), .val (.int sp), .val (.int (0 : Int32)), .val (.int av), .val (.ref ca), .val (.int rr), .val (.int (1 : Int32)), .val (.int (1 : Int32)), .val (.int (1 : Int32))] [])) tgt
          refine XS.iload X14.here hx rfl (hb hby at_226) rfl ?_
          show Steps p.tables e below (T14.setTop (mkF m 228 #[.val (.int b0), .val (.int b1), .val (.int b2), .val (.int b3), .val (.int sp), .val (.int (0 : Int32)), .val (.int av), .val (.ref ca), .val (.int rr), .val (.int (1 : Int32)), .val (.int (1 : Int32)), .val (.int (1 : Int32))] [(.int (1 : Int32))])) tgt
          refine XS.ifNo X14.here hx rfl (hb hby at_228) rfl ((if0 _ _).trans (feq (by decide : ¬ ((1 : Int32) = (0 : Int32)))).1) ?_
          show Steps p.tables e below (T14.setTop (mkF m 231 #[.val (.int b0), .val (.int b1), .val (.int b2), .val (.int b3), .val (.int sp), .val (.int (0 : Int32)), .val (.int av), .val (.ref ca), .val (.int rr), .val (.int (1 : Int32)), .val (.int (1 : Int32)), .val (.int (1 : Int32))] [])) tgt
          refine XS.iload X14.here hx rfl (hb hby at_231) rfl ?_
          show Steps p.tables e below (T14.setTop (mkF m 233 #[.val (.int b0), .val (.int b1), .val (.int b2), .val (.int b3), .val (.int sp), .val (.int (0 : Int32)), .val (.int av), .val (.ref ca), .val (.int rr), .val (.int (1 : Int32)), .val (.int (1 : Int32)), .val (.int (1 : Int32))] [(.int (1 : Int32))])) tgt
          refine XS.ifNo X14.here hx rfl (hb hby at_233) rfl ((if0 _ _).trans (feq (by decide : ¬ ((1 : Int32) = (0 : Int32)))).1) ?_
          show Steps p.tables e below (T14.setTop (mkF m 236 #[.val (.int b0), .val (.int b1), .val (.int b2), .val (.int b3), .val (.int sp), .val (.int (0 : Int32)), .val (.int av), .val (.ref ca), .val (.int rr), .val (.int (1 : Int32)), .val (.int (1 : Int32)), .val (.int (1 : Int32))] [])) tgt
          refine XS.iconst X14.here hx rfl (hb hby at_236) ?_
          show Steps p.tables e below (T14.setTop (mkF m 237 #[.val (.int b0), .val (.int b1), .val (.int b2), .val (.int b3), .val (.int sp), .val (.int (0 : Int32)), .val (.int av), .val (.ref ca), .val (.int rr), .val (.int (1 : Int32)), .val (.int (1 : Int32)), .val (.int (1 : Int32))] [(.int (1 : Int32))])) tgt
          refine XS.goto X14.here hx rfl (pc0 := 237) (pc' := 241) rfl (hb hby at_237) (by decide) (by decide) ?_
          exact k
        refine own_retN X14 hx hlk (t := .boolean) (z' := (1 : Int32)) Bd.returns (by simp) rfl (hb hby at_241) ?_ (by decide) (by decide)
        show Q0 Z b0 b1 b2 b3 sp h0 n0 (some (.int (1 : Int32))) T14.heap _
        rw [K14]
        exact ⟨rfl, N14⟩
      · skip
        refine own_st (V := T13.setTop (mkF m 241 #[.val (.int b0), .val (.int b1), .val (.int b2), .val (.int b3), .val (.int sp), .val (.int (0 : Int32)), .val (.int av), .val (.ref ca), .val (.int rr), .val (.int (1 : Int32)), .val (.int (1 : Int32)), .val (.int (1 : Int32))] [(.int (1 : Int32))])) (fun tgt k => ?_) ?_
        · show Steps p.tables e below (T13.setTop (mkF m 205 #[.val (.int b0), .val (.int b1), .val (.int b2), .val (.int b3), .val (.int sp), .val (.int (0 : Int32)), .val (.int av), .val (.ref ca), .val (.int rr), .val (.int (1 : Int32)), .val (.int (1 : Int32)), .unset] [(.int (0 : Int32)), (.int rr)])) tgt
          refine XS.icmpYes X13.here hx rfl (pc0 := 205) (pc' := 219) rfl (hb hby at_205) rfl (flt hc205).2.1 (by decide) (by decide) ?_
          show Steps p.tables e below (T13.setTop (mkF m 219 #[.val (.int b0), .val (.int b1), .val (.int b2), .val (.int b3), .val (.int sp), .val (.int (0 : Int32)), .val (.int av), .val (.ref ca), .val (.int rr), .val (.int (1 : Int32)), .val (.int (1 : Int32)), .unset] [])) tgt
          refine XS.iconst X13.here hx rfl (hb hby at_219) ?_
          show Steps p.tables e below (T13.setTop (mkF m 220 #[.val (.int b0), .val (.int b1), .val (.int b2), .val (.int b3), .val (.int sp), .val (.int (0 : Int32)), .val (.int av), .val (.ref ca), .val (.int rr), .val (.int (1 : Int32)), .val (.int (1 : Int32)), .unset] [(.int (1 : Int32))])) tgt
          refine XS.goto X13.here hx rfl (pc0 := 220) (pc' := 224) rfl (hb hby at_220) (by decide) (by decide) ?_
          show Steps p.tables e below (T13.setTop (mkF m 224 #[.val (.int b0), .val (.int b1), .val (.int b2), .val (.int b3), .val (.int sp), .val (.int (0 : Int32)), .val (.int av), .val (.ref ca), .val (.int rr), .val (.int (1 : Int32)), .val (.int (1 : Int32)), .unset] [(.int (1 : Int32))])) tgt
          refine XS.istore X13.here hx rfl (hb hby at_224) rfl (l' := #[.val (.int b0), .val (.int b1), .val (.int b2), .val (.int b3), .val (.int sp), .val (.int (0 : Int32)), .val (.int av), .val (.ref ca), .val (.int rr), .val (.int (1 : Int32)), .val (.int (1 : Int32)), .val (.int (1 : Int32))]) rfl ?_
          show Steps p.tables e below (T13.setTop (mkF m 226 #[.val (.int b0), .val (.int b1), .val (.int b2), .val (.int b3), .val (.int sp), .val (.int (0 : Int32)), .val (.int av), .val (.ref ca), .val (.int rr), .val (.int (1 : Int32)), .val (.int (1 : Int32)), .val (.int (1 : Int32))] [])) tgt
          refine XS.iload X13.here hx rfl (hb hby at_226) rfl ?_
          show Steps p.tables e below (T13.setTop (mkF m 228 #[.val (.int b0), .val (.int b1), .val (.int b2), .val (.int b3), .val (.int sp), .val (.int (0 : Int32)), .val (.int av), .val (.ref ca), .val (.int rr), .val (.int (1 : Int32)), .val (.int (1 : Int32)), .val (.int (1 : Int32))] [(.int (1 : Int32))])) tgt
          refine XS.ifNo X13.here hx rfl (hb hby at_228) rfl ((if0 _ _).trans (feq (by decide : ¬ ((1 : Int32) = (0 : Int32)))).1) ?_
          show Steps p.tables e below (T13.setTop (mkF m 231 #[.val (.int b0), .val (.int b1), .val (.int b2), .val (.int b3), .val (.int sp), .val (.int (0 : Int32)), .val (.int av), .val (.ref ca), .val (.int rr), .val (.int (1 : Int32)), .val (.int (1 : Int32)), .val (.int (1 : Int32))] [])) tgt
          refine XS.iload X13.here hx rfl (hb hby at_231) rfl ?_
          show Steps p.tables e below (T13.setTop (mkF m 233 #[.val (.int b0), .val (.int b1), .val (.int b2), .val (.int b3), .val (.int sp), .val (.int (0 : Int32)), .val (.int av), .val (.ref ca), .val (.int rr), .val (.int (1 : Int32)), .val (.int (1 : Int32)), .val (.int (1 : Int32))] [(.int (1 : Int32))])) tgt
          refine XS.ifNo X13.here hx rfl (hb hby at_233) rfl ((if0 _ _).trans (feq (by decide : ¬ ((1 : Int32) = (0 : Int32)))).1) ?_
          show Steps p.tables e below (T13.setTop (mkF m 236 #[.val (.int b0), .val (.int b1), .val (.int b2), .val (.int b3), .val (.int sp), .val (.int (0 : Int32)), .val (.int av), .val (.ref ca), .val (.int rr), .val (.int (1 : Int32)), .val (.int (1 : Int32)), .val (.int (1 : Int32))] [])) tgt
          refine XS.iconst X13.here hx rfl (hb hby at_236) ?_
          show Steps p.tables e below (T13.setTop (mkF m 237 #[.val (.int b0), .val (.int b1), .val (.int b2), .val (.int b3), .val (.int sp), .val (.int (0 : Int32)), .val (.int av), .val (.ref ca), .val (.int rr), .val (.int (1 : Int32)), .val (.int (1 : Int32)), .val (.int (1 : Int32))] [(.int (1 : Int32))])) tgt
          refine XS.goto X13.here hx rfl (pc0 := 237) (pc' := 241) rfl (hb hby at_237) (by decide) (by decide) ?_
          exact k
        refine own_retN X13 hx hlk (t := .boolean) (z' := (1 : Int32)) Bd.returns (by simp) rfl (hb hby at_241) ?_ (by decide) (by decide)
        show Q0 Z b0 b1 b2 b3 sp h0 n0 (some (.int (1 : Int32))) T13.heap _
        rw [K13]
        exact ⟨rfl, N13⟩
  · skip
    rw [show ((sp &&& (7 : Int32)) % (5 : Int32)) = (1 : Int32) from q]
    refine own_st (V := s₁.setTop (mkF m 18 #[.val (.int b0), .val (.int b1), .val (.int b2), .val (.int b3), .val (.int sp), .val (.int (1 : Int32)), .val (.int (((sp.toUInt32 >>> ((3 : Int32) &&& 31).toUInt32).toInt32) &&& (7 : Int32))), .unset, .unset, .unset, .unset, .unset] [])) (fun tgt k => ?_) ?_
    · show Steps p.tables e below (s₁.setTop (mkF m 9 #[.val (.int b0), .val (.int b1), .val (.int b2), .val (.int b3), .val (.int sp), .val (.int (1 : Int32)), .unset, .unset, .unset, .unset, .unset, .unset] [])) tgt
      refine XS.iload X0.here hx rfl (hb hby at_9) rfl ?_
      show Steps p.tables e below (s₁.setTop (mkF m 11 #[.val (.int b0), .val (.int b1), .val (.int b2), .val (.int b3), .val (.int sp), .val (.int (1 : Int32)), .unset, .unset, .unset, .unset, .unset, .unset] [(.int sp)])) tgt
      refine XS.iconst X0.here hx rfl (hb hby at_11) ?_
      show Steps p.tables e below (s₁.setTop (mkF m 12 #[.val (.int b0), .val (.int b1), .val (.int b2), .val (.int b3), .val (.int sp), .val (.int (1 : Int32)), .unset, .unset, .unset, .unset, .unset, .unset] [(.int (3 : Int32)), (.int sp)])) tgt
      refine XS.iushr X0.here hx rfl (hb hby at_12) rfl ?_
      show Steps p.tables e below (s₁.setTop (mkF m 13 #[.val (.int b0), .val (.int b1), .val (.int b2), .val (.int b3), .val (.int sp), .val (.int (1 : Int32)), .unset, .unset, .unset, .unset, .unset, .unset] [(.int ((sp.toUInt32 >>> ((3 : Int32) &&& 31).toUInt32).toInt32))])) tgt
      refine XS.bipush X0.here hx rfl (hb hby at_13) ?_
      show Steps p.tables e below (s₁.setTop (mkF m 15 #[.val (.int b0), .val (.int b1), .val (.int b2), .val (.int b3), .val (.int sp), .val (.int (1 : Int32)), .unset, .unset, .unset, .unset, .unset, .unset] [(.int (7 : Int32)), (.int ((sp.toUInt32 >>> ((3 : Int32) &&& 31).toUInt32).toInt32))])) tgt
      refine XS.iand X0.here hx rfl (hb hby at_15) rfl ?_
      show Steps p.tables e below (s₁.setTop (mkF m 16 #[.val (.int b0), .val (.int b1), .val (.int b2), .val (.int b3), .val (.int sp), .val (.int (1 : Int32)), .unset, .unset, .unset, .unset, .unset, .unset] [(.int (((sp.toUInt32 >>> ((3 : Int32) &&& 31).toUInt32).toInt32) &&& (7 : Int32)))])) tgt
      refine XS.istore X0.here hx rfl (hb hby at_16) rfl (l' := #[.val (.int b0), .val (.int b1), .val (.int b2), .val (.int b3), .val (.int sp), .val (.int (1 : Int32)), .val (.int (((sp.toUInt32 >>> ((3 : Int32) &&& 31).toUInt32).toInt32) &&& (7 : Int32))), .unset, .unset, .unset, .unset, .unset]) rfl ?_
      exact k
    obtain ⟨av, hav⟩ : ∃ z : Int32, z = (((sp.toUInt32 >>> ((3 : Int32) &&& 31).toUInt32).toInt32) &&& (7 : Int32)) := ⟨_, rfl⟩
    rw [← hav]
    have hav0 : 0 ≤ av.toInt := by rw [hav]; exact (c_and _ 7 (by decide)).1
    refine own_st (V := s₁.setTop (mkF m 20 #[.val (.int b0), .val (.int b1), .val (.int b2), .val (.int b3), .val (.int sp), .val (.int (1 : Int32)), .val (.int av), .unset, .unset, .unset, .unset, .unset] [(.int (1 : Int32))])) (fun tgt k => ?_) ?_
    · show Steps p.tables e below (s₁.setTop (mkF m 18 #[.val (.int b0), .val (.int b1), .val (.int b2), .val (.int b3), .val (.int sp), .val (.int (1 : Int32)), .val (.int av), .unset, .unset, .unset, .unset, .unset] [])) tgt
      refine XS.iload X0.here hx rfl (hb hby at_18) rfl ?_
      exact k
    obtain ⟨T17, h17, c17, X17, e17, E17, A17, st17⟩ := own_newarr X0 hx hZ (hw _ (List.mem_of_getElem? (i := 0) rfl)) e0 (g := (mkF m 20 #[.val (.int b0), .val (.int b1), .val (.int b2), .val (.int b3), .val (.int sp), .val (.int (1 : Int32)), .val (.int av), .unset, .unset, .unset, .unset, .unset] [(.int (1 : Int32))])) rfl (hb hby at_20) rfl (k := 1) rfl (cap := 1) (by decide) (by decide) (by decide) (by decide)
    obtain ⟨ca, g17⟩ : ∃ z, z = h0.size := ⟨_, rfl⟩
    rw [← g17] at A17 st17
    have g_ca : n0 ≤ ca := Nat.le_trans Z0 (Nat.le_of_eq g17.symm)
    have A_ca_17 : own_Ai Z h17 ca .byte 1 (fun _ => 0) := own_Ai.new A17
    have Zs17 : n0 ≤ h17.size := Nat.le_trans Z0 E17.1
    refine own_st st17 ?_
    show own_Go p e below _ (T17.setTop (mkF m 22 #[.val (.int b0), .val (.int b1), .val (.int b2), .val (.int b3), .val (.int sp), .val (.int (1 : Int32)), .val (.int av), .unset, .unset, .unset, .unset, .unset] [(.ref ca)]))
    refine own_st (V := T17.setTop (mkF m 37 #[.val (.int b0), .val (.int b1), .val (.int b2), .val (.int b3), .val (.int sp), .val (.int (1 : Int32)), .val (.int av), .val (.ref ca), .unset, .unset, .unset, .unset] [(.int ((b0 + (48 : Int32)).toInt8.toInt32)), (.int (0 : Int32)), (.ref ca)])) (fun tgt k => ?_) ?_
    · show Steps p.tables e below (T17.setTop (mkF m 22 #[.val (.int b0), .val (.int b1), .val (.int b2), .val (.int b3), .val (.int sp), .val (.int (1 : Int32)), .val (.int av), .unset, .unset, .unset, .unset, .unset] [(.ref ca)])) tgt
      refine XS.astore X17.here hx rfl (hb hby at_22) rfl rfl (l' := #[.val (.int b0), .val (.int b1), .val (.int b2), .val (.int b3), .val (.int sp), .val (.int (1 : Int32)), .val (.int av), .val (.ref ca), .unset, .unset, .unset, .unset]) rfl ?_
      show Steps p.tables e below (T17.setTop (mkF m 24 #[.val (.int b0), .val (.int b1), .val (.int b2), .val (.int b3), .val (.int sp), .val (.int (1 : Int32)), .val (.int av), .val (.ref ca), .unset, .unset, .unset, .unset] [])) tgt
      refine XS.iload X17.here hx rfl (hb hby at_24) rfl ?_
      show Steps p.tables e below (T17.setTop (mkF m 26 #[.val (.int b0), .val (.int b1), .val (.int b2), .val (.int b3), .val (.int sp), .val (.int (1 : Int32)), .val (.int av), .val (.ref ca), .unset, .unset, .unset, .unset] [(.int (1 : Int32))])) tgt
      refine XS.ifNo X17.here hx rfl (hb hby at_26) rfl ((if0 _ _).trans (tlt (by decide : (0 : Int32) < (1 : Int32))).2.2.2) ?_
      show Steps p.tables e below (T17.setTop (mkF m 29 #[.val (.int b0), .val (.int b1), .val (.int b2), .val (.int b3), .val (.int sp), .val (.int (1 : Int32)), .val (.int av), .val (.ref ca), .unset, .unset, .unset, .unset] [])) tgt
      refine XS.aload X17.here hx rfl (hb hby at_29) rfl rfl ?_
      show Steps p.tables e below (T17.setTop (mkF m 31 #[.val (.int b0), .val (.int b1), .val (.int b2), .val (.int b3), .val (.int sp), .val (.int (1 : Int32)), .val (.int av), .val (.ref ca), .unset, .unset, .unset, .unset] [(.ref ca)])) tgt
      refine XS.iconst X17.here hx rfl (hb hby at_31) ?_
      show Steps p.tables e below (T17.setTop (mkF m 32 #[.val (.int b0), .val (.int b1), .val (.int b2), .val (.int b3), .val (.int sp), .val (.int (1 : Int32)), .val (.int av), .val (.ref ca), .unset, .unset, .unset, .unset] [(.int (0 : Int32)), (.ref ca)])) tgt
      refine XS.iloadN X17.here hx rfl (hb hby at_32) rfl ?_
      show Steps p.tables e below (T17.setTop (mkF m 33 #[.val (.int b0), .val (.int b1), .val (.int b2), .val (.int b3), .val (.int sp), .val (.int (1 : Int32)), .val (.int av), .val (.ref ca), .unset, .unset, .unset, .unset] [(.int b0), (.int (0 : Int32)), (.ref ca)])) tgt
      refine XS.bipush X17.here hx rfl (hb hby at_33) ?_
      show Steps p.tables e below (T17.setTop (mkF m 35 #[.val (.int b0), .val (.int b1), .val (.int b2), .val (.int b3), .val (.int sp), .val (.int (1 : Int32)), .val (.int av), .val (.ref ca), .unset, .unset, .unset, .unset] [(.int (48 : Int32)), (.int b0), (.int (0 : Int32)), (.ref ca)])) tgt
      refine XS.iadd X17.here hx rfl (hb hby at_35) rfl ?_
      show Steps p.tables e below (T17.setTop (mkF m 36 #[.val (.int b0), .val (.int b1), .val (.int b2), .val (.int b3), .val (.int sp), .val (.int (1 : Int32)), .val (.int av), .val (.ref ca), .unset, .unset, .unset, .unset] [(.int (b0 + (48 : Int32))), (.int (0 : Int32)), (.ref ca)])) tgt
      refine XS.i2b X17.here hx rfl (hb hby at_36) rfl ?_
      exact k
    obtain ⟨T18, h18, X18, e18, W18, A_ca_18, st18⟩ := own_bastore X17 hx hZ e17 A_ca_17 (j := (0 : Int32)) (k := 0) rfl (by decide) (g := (mkF m 37 #[.val (.int b0), .val (.int b1), .val (.int b2), .val (.int b3), .val (.int sp), .val (.int (1 : Int32)), .val (.int av), .val (.ref ca), .unset, .unset, .unset, .unset] [(.int ((b0 + (48 : Int32)).toInt8.toInt32)), (.int (0 : Int32)), (.ref ca)])) rfl rfl (hb hby at_37)
    have N18 := Fr.snoc X18 N0 g_ca
    have Zs18 : n0 ≤ h18.size := Nat.le_trans Zs17 (Keep.of_wr W18).1
    refine own_st st18 ?_
    show own_Go p e below _ (T18.setTop (mkF m 38 #[.val (.int b0), .val (.int b1), .val (.int b2), .val (.int b3), .val (.int sp), .val (.int (1 : Int32)), .val (.int av), .val (.ref ca), .unset, .unset, .unset, .unset] []))
    refine own_st (V := T18.setTop (mkF m 87 #[.val (.int b0), .val (.int b1), .val (.int b2), .val (.int b3), .val (.int sp), .val (.int (1 : Int32)), .val (.int av), .val (.ref ca), .unset, .unset, .unset, .unset] [(.int av), (.ref ca)])) (fun tgt k => ?_) ?_
    · show Steps p.tables e below (T18.setTop (mkF m 38 #[.val (.int b0), .val (.int b1), .val (.int b2), .val (.int b3), .val (.int sp), .val (.int (1 : Int32)), .val (.int av), .val (.ref ca), .unset, .unset, .unset, .unset] [])) tgt
      refine XS.iload X18.here hx rfl (hb hby at_38) rfl ?_
      show Steps p.tables e below (T18.setTop (mkF m 40 #[.val (.int b0), .val (.int b1), .val (.int b2), .val (.int b3), .val (.int sp), .val (.int (1 : Int32)), .val (.int av), .val (.ref ca), .unset, .unset, .unset, .unset] [(.int (1 : Int32))])) tgt
      refine XS.iconst X18.here hx rfl (hb hby at_40) ?_
      show Steps p.tables e below (T18.setTop (mkF m 41 #[.val (.int b0), .val (.int b1), .val (.int b2), .val (.int b3), .val (.int sp), .val (.int (1 : Int32)), .val (.int av), .val (.ref ca), .unset, .unset, .unset, .unset] [(.int (1 : Int32)), (.int (1 : Int32))])) tgt
      refine XS.icmpYes X18.here hx rfl (pc0 := 41) (pc' := 53) rfl (hb hby at_41) rfl (flt (by decide : ¬ ((1 : Int32) < (1 : Int32)))).2.2.2 (by decide) (by decide) ?_
      show Steps p.tables e below (T18.setTop (mkF m 53 #[.val (.int b0), .val (.int b1), .val (.int b2), .val (.int b3), .val (.int sp), .val (.int (1 : Int32)), .val (.int av), .val (.ref ca), .unset, .unset, .unset, .unset] [])) tgt
      refine XS.iload X18.here hx rfl (hb hby at_53) rfl ?_
      show Steps p.tables e below (T18.setTop (mkF m 55 #[.val (.int b0), .val (.int b1), .val (.int b2), .val (.int b3), .val (.int sp), .val (.int (1 : Int32)), .val (.int av), .val (.ref ca), .unset, .unset, .unset, .unset] [(.int (1 : Int32))])) tgt
      refine XS.iconst X18.here hx rfl (hb hby at_55) ?_
      show Steps p.tables e below (T18.setTop (mkF m 56 #[.val (.int b0), .val (.int b1), .val (.int b2), .val (.int b3), .val (.int sp), .val (.int (1 : Int32)), .val (.int av), .val (.ref ca), .unset, .unset, .unset, .unset] [(.int (2 : Int32)), (.int (1 : Int32))])) tgt
      refine XS.icmpYes X18.here hx rfl (pc0 := 56) (pc' := 68) rfl (hb hby at_56) rfl (flt (by decide : ¬ ((2 : Int32) < (1 : Int32)))).2.2.2 (by decide) (by decide) ?_
      show Steps p.tables e below (T18.setTop (mkF m 68 #[.val (.int b0), .val (.int b1), .val (.int b2), .val (.int b3), .val (.int sp), .val (.int (1 : Int32)), .val (.int av), .val (.ref ca), .unset, .unset, .unset, .unset] [])) tgt
      refine XS.iload X18.here hx rfl (hb hby at_68) rfl ?_
      show Steps p.tables e below (T18.setTop (mkF m 70 #[.val (.int b0), .val (.int b1), .val (.int b2), .val (.int b3), .val (.int sp), .val (.int (1 : Int32)), .val (.int av), .val (.ref ca), .unset, .unset, .unset, .unset] [(.int (1 : Int32))])) tgt
      refine XS.iconst X18.here hx rfl (hb hby at_70) ?_
      show Steps p.tables e below (T18.setTop (mkF m 71 #[.val (.int b0), .val (.int b1), .val (.int b2), .val (.int b3), .val (.int sp), .val (.int (1 : Int32)), .val (.int av), .val (.ref ca), .unset, .unset, .unset, .unset] [(.int (3 : Int32)), (.int (1 : Int32))])) tgt
      refine XS.icmpYes X18.here hx rfl (pc0 := 71) (pc' := 83) rfl (hb hby at_71) rfl (flt (by decide : ¬ ((3 : Int32) < (1 : Int32)))).2.2.2 (by decide) (by decide) ?_
      show Steps p.tables e below (T18.setTop (mkF m 83 #[.val (.int b0), .val (.int b1), .val (.int b2), .val (.int b3), .val (.int sp), .val (.int (1 : Int32)), .val (.int av), .val (.ref ca), .unset, .unset, .unset, .unset] [])) tgt
      refine XS.aload X18.here hx rfl (hb hby at_83) rfl rfl ?_
      show Steps p.tables e below (T18.setTop (mkF m 85 #[.val (.int b0), .val (.int b1), .val (.int b2), .val (.int b3), .val (.int sp), .val (.int (1 : Int32)), .val (.int av), .val (.ref ca), .unset, .unset, .unset, .unset] [(.ref ca)])) tgt
      refine XS.iload X18.here hx rfl (hb hby at_85) rfl ?_
      exact k
    obtain ⟨rr, R1, R2, R3⟩ := own_ex (own_up (fun _ => 0) 0 ((b0 + (48 : Int32)).toInt8.toInt32).toInt8.toInt32) 1 (by decide) 1 av hav0 (by omega)
    obtain ⟨_, _, ⟨T19, L19, k19, n19⟩, -, X19, ⟨Lc19, hQ19, l19, y19, z19⟩, st19⟩ := Jvm.LawKit.callS X18 hx (y := (⟨"com/example/tidewatch/tidewatch/io/Decimal", "skipDigits", "([BI)I"⟩ : MethodName)) hown (mvT hZ (hw _ (List.mem_of_getElem? (i := 1) rfl))) (mvT hZ (hw _ (List.mem_of_getElem? (i := 2) rfl))) (mvT hZ (hw _ (List.mem_of_getElem? (i := 3) rfl))) (mvT hZ (hw _ (List.mem_of_getElem? (i := 4) rfl))) (by decide) (backOf (W := 0) (rm1 l Z a0 hw [] ca av (1 : Int32) 1 (own_up (fun _ => 0) 0 ((b0 + (48 : Int32)).toInt8.toInt32).toInt8.toInt32) rr h18 n0 Zs18 A_ca_18 (by decide) (by decide) hav0 R1 R2 R3) hZ (hw _ (List.mem_of_getElem? (i := 4) rfl)) (hw _ (List.mem_of_getElem? (i := 3) rfl)) (by decide) (by decide)) (g := (mkF m 87 #[.val (.int b0), .val (.int b1), .val (.int b2), .val (.int b3), .val (.int sp), .val (.int (1 : Int32)), .val (.int av), .val (.ref ca), .unset, .unset, .unset, .unset] [(.int av), (.ref ca)])) rfl (by rw [hml]; rfl) (argsL := [(.ref ca), (.int av)]) (rest := []) (lenOf pd_0_0 rfl) rfl (by show 2 * 0 + _ ≤ _; exact Nat.le_of_eq rfl) (hb hby at_87) (fun _ _ => ⟨rfl, e18, (by decide : 1 + 0 ≤ _), (by decide : 1 + 0 ≤ _)⟩)
    dsimp only [Pt.U, Pt.locs, Pt.cells, Pt.slots] at X19 l19 y19 z19 st19 hQ19
    subst l19 y19 z19
    obtain ⟨rfl, N19q, K19⟩ := hQ19
    have N19 := Fr.app N18 N19q
    refine own_st st19 ?_
    show own_Go p e below _ (T19.setTop (mkF m 90 #[.val (.int b0), .val (.int b1), .val (.int b2), .val (.int b3), .val (.int sp), .val (.int (1 : Int32)), .val (.int av), .val (.ref ca), .unset, .unset, .unset, .unset] [(.int rr)]))
    refine own_st (V := T19.setTop (mkF m 96 #[.val (.int b0), .val (.int b1), .val (.int b2), .val (.int b3), .val (.int sp), .val (.int (1 : Int32)), .val (.int av), .val (.ref ca), .val (.int rr), .unset, .unset, .unset] [(.int (1 : Int32)), (.int av)])) (fun tgt k => ?_) ?_
    · show Steps p.tables e below (T19.setTop (mkF m 90 #[.val (.int b0), .val (.int b1), .val (.int b2), .val (.int b3), .val (.int sp), .val (.int (1 : Int32)), .val (.int av), .val (.ref ca), .unset, .unset, .unset, .unset] [(.int rr)])) tgt
      refine XS.istore X19.here hx rfl (hb hby at_90) rfl (l' := #[.val (.int b0), .val (.int b1), .val (.int b2), .val (.int b3), .val (.int sp), .val (.int (1 : Int32)), .val (.int av), .val (.ref ca), .val (.int rr), .unset, .unset, .unset]) rfl ?_
      show Steps p.tables e below (T19.setTop (mkF m 92 #[.val (.int b0), .val (.int b1), .val (.int b2), .val (.int b3), .val (.int sp), .val (.int (1 : Int32)), .val (.int av), .val (.ref ca), .val (.int rr), .unset, .unset, .unset] [])) tgt
      refine XS.iload X19.here hx rfl (hb hby at_92) rfl ?_
      show Steps p.tables e below (T19.setTop (mkF m 94 #[.val (.int b0), .val (.int b1), .val (.int b2), .val (.int b3), .val (.int sp), .val (.int (1 : Int32)), .val (.int av), .val (.ref ca), .val (.int rr), .unset, .unset, .unset] [(.int av)])) tgt
      refine XS.iload X19.here hx rfl (hb hby at_94) rfl ?_
      exact k
    by_cases hc96 : av < (1 : Int32)
    · skip
      refine own_st (V := T19.setTop (mkF m 149 #[.val (.int b0), .val (.int b1), .val (.int b2), .val (.int b3), .val (.int sp), .val (.int (1 : Int32)), .val (.int av), .val (.ref ca), .val (.int rr), .val (.int (1 : Int32)), .unset, .unset] [(.int (0 : Int32)), (.int rr), (.int av), (.ref ca)])) (fun tgt k => ?_) ?_
      · show Steps p.tables e below (T19.setTop (mkF m 96 #[.val (.int b0), .val (.int b1), .val (.int b2), .val (.int b3), .val (.int sp), .val (.int (1 : Int32)), .val (.int av), .val (.ref ca), .val (.int rr), .unset, .unset, .unset] [(.int (1 : Int32)), (.int av)])) tgt
        refine XS.icmpYes X19.here hx rfl (pc0 := 96) (pc' := 114) rfl (hb hby at_96) rfl (tlt hc96).1 (by decide) (by decide) ?_
        show Steps p.tables e below (T19.setTop (mkF m 114 #[.val (.int b0), .val (.int b1), .val (.int b2), .val (.int b3), .val (.int sp), .val (.int (1 : Int32)), .val (.int av), .val (.ref ca), .val (.int rr), .unset, .unset, .unset] [])) tgt
        refine XS.iload X19.here hx rfl (hb hby at_114) rfl ?_
        show Steps p.tables e below (T19.setTop (mkF m 116 #[.val (.int b0), .val (.int b1), .val (.int b2), .val (.int b3), .val (.int sp), .val (.int (1 : Int32)), .val (.int av), .val (.ref ca), .val (.int rr), .unset, .unset, .unset] [(.int rr)])) tgt
        refine XS.iload X19.here hx rfl (hb hby at_116) rfl ?_
        show Steps p.tables e below (T19.setTop (mkF m 118 #[.val (.int b0), .val (.int b1), .val (.int b2), .val (.int b3), .val (.int sp), .val (.int (1 : Int32)), .val (.int av), .val (.ref ca), .val (.int rr), .unset, .unset, .unset] [(.int av), (.int rr)])) tgt
        refine XS.icmpNo X19.here hx rfl (hb hby at_118) rfl (flt (own_nlt R1)).1 ?_
        show Steps p.tables e below (T19.setTop (mkF m 121 #[.val (.int b0), .val (.int b1), .val (.int b2), .val (.int b3), .val (.int sp), .val (.int (1 : Int32)), .val (.int av), .val (.ref ca), .val (.int rr), .unset, .unset, .unset] [])) tgt
        refine XS.iload X19.here hx rfl (hb hby at_121) rfl ?_
        show Steps p.tables e below (T19.setTop (mkF m 123 #[.val (.int b0), .val (.int b1), .val (.int b2), .val (.int b3), .val (.int sp), .val (.int (1 : Int32)), .val (.int av), .val (.ref ca), .val (.int rr), .unset, .unset, .unset] [(.int rr)])) tgt
        refine XS.iload X19.here hx rfl (hb hby at_123) rfl ?_
        show Steps p.tables e below (T19.setTop (mkF m 125 #[.val (.int b0), .val (.int b1), .val (.int b2), .val (.int b3), .val (.int sp), .val (.int (1 : Int32)), .val (.int av), .val (.ref ca), .val (.int rr), .unset, .unset, .unset] [(.int (1 : Int32)), (.int rr)])) tgt
        refine XS.icmpNo X19.here hx rfl (hb hby at_125) rfl (flt (own_le R2 hav0 (by decide) hc96)).2.2.1 ?_
        show Steps p.tables e below (T19.setTop (mkF m 128 #[.val (.int b0), .val (.int b1), .val (.int b2), .val (.int b3), .val (.int sp), .val (.int (1 : Int32)), .val (.int av), .val (.ref ca), .val (.int rr), .unset, .unset, .unset] [])) tgt
        refine XS.iconst X19.here hx rfl (hb hby at_128) ?_
        show Steps p.tables e below (T19.setTop (mkF m 129 #[.val (.int b0), .val (.int b1), .val (.int b2), .val (.int b3), .val (.int sp), .val (.int (1 : Int32)), .val (.int av), .val (.ref ca), .val (.int rr), .unset, .unset, .unset] [(.int (1 : Int32))])) tgt
        refine XS.goto X19.here hx rfl (pc0 := 129) (pc' := 133) rfl (hb hby at_129) (by decide) (by decide) ?_
        show Steps p.tables e below (T19.setTop (mkF m 133 #[.val (.int b0), .val (.int b1), .val (.int b2), .val (.int b3), .val (.int sp), .val (.int (1 : Int32)), .val (.int av), .val (.ref ca), .val (.int rr), .unset, .unset, .unset] [(.int (1 : Int32))])) tgt
        refine XS.istore X19.here hx rfl (hb hby at_133) rfl (l' := #[.val (.int b0), .val (.int b1), .val (.int b2), .val (.int b3), .val (.int sp), .val (.int (1 : Int32)), .val (.int av), .val (.ref ca), .val (.int rr), .val (.int (1 : Int32)), .unset, .unset]) rfl ?_
        show Steps p.tables e below (T19.setTop (mkF m 135 #[.val (.int b0), .val (.int b1), .val (.int b2), .val (.int b3), .val (.int sp), .val (.int (1 : Int32)), .val (.int av), .val (.ref ca), .val (.int rr), .val (.int (1 : Int32)), .unset, .unset] [])) tgt
        refine XS.iload X19.here hx rfl (hb hby at_135) rfl ?_
        show Steps p.tables e below (T19.setTop (mkF m 137 #[.val (.int b0), .val (.int b1), .val (.int b2), .val (.int b3), .val (.int sp), .val (.int (1 : Int32)), .val (.int av), .val (.ref ca), .val (.int rr), .val (.int (1 : Int32)), .unset, .unset] [(.int (1 : Int32))])) tgt
        refine XS.ifYes X19.here hx rfl (pc0 := 137) (pc' := 142) rfl (hb hby at_137) rfl ((if0 _ _).trans (feq (by decide : ¬ ((1 : Int32) = (0 : Int32)))).2) (by decide) (by decide) ?_
        show Steps p.tables e below (T19.setTop (mkF m 142 #[.val (.int b0), .val (.int b1), .val (.int b2), .val (.int b3), .val (.int sp), .val (.int (1 : Int32)), .val (.int av), .val (.ref ca), .val (.int rr), .val (.int (1 : Int32)), .unset, .unset] [])) tgt
        refine XS.aload X19.here hx rfl (hb hby at_142) rfl rfl ?_
        show Steps p.tables e below (T19.setTop (mkF m 144 #[.val (.int b0), .val (.int b1), .val (.int b2), .val (.int b3), .val (.int sp), .val (.int (1 : Int32)), .val (.int av), .val (.ref ca), .val (.int rr), .val (.int (1 : Int32)), .unset, .unset] [(.ref ca)])) tgt
        refine XS.iload X19.here hx rfl (hb hby at_144) rfl ?_
        show Steps p.tables e below (T19.setTop (mkF m 146 #[.val (.int b0), .val (.int b1), .val (.int b2), .val (.int b3), .val (.int sp), .val (.int (1 : Int32)), .val (.int av), .val (.ref ca), .val (.int rr), .val (.int (1 : Int32)), .unset, .unset] [(.int av), (.ref ca)])) tgt
        refine XS.iload X19.here hx rfl (hb hby at_146) rfl ?_
        show Steps p.tables e below (T19.setTop (mkF m 148 #[.val (.int b0), .val (.int b1), .val (.int b2), .val (.int b3), .val (.int sp), .val (.int (1 : Int32)), .val (.int av), .val (.ref ca), .val (.int rr), .val (.int (1 : Int32)), .unset, .unset] [(.int rr), (.int av), (.ref ca)])) tgt
        refine XS.iconst X19.here hx rfl (hb hby at_148) ?_
        exact k
      obtain ⟨_, _, ⟨T20, L20, k20, n20⟩, -, X20, ⟨Lc20, hQ20, l20, y20, z20⟩, st20⟩ := Jvm.LawKit.callS X19 hx (y := (⟨"com/example/tidewatch/tidewatch/io/DecimalSkipDigitsPinLaw", "digitOrOutside", "([BIII)Z"⟩ : MethodName)) hown (mvT hZ (hw _ (List.mem_of_getElem? (i := 5) rfl))) (mvT hZ (hw _ (List.mem_of_getElem? (i := 6) rfl))) (mvT hZ (hw _ (List.mem_of_getElem? (i := 7) rfl))) (mvT hZ (hw _ (List.mem_of_getElem? (i := 8) rfl))) (by decide) (backOf (W := 0) (rm2 l Z a0 hw [] ca av rr (0 : Int32) 1 (own_up (fun _ => 0) 0 ((b0 + (48 : Int32)).toInt8.toInt32).toInt8.toInt32) 0 h18 n0 Zs18 A_ca_18 (by decide) (own_i2 R2 (by decide))) hZ (hw _ (List.mem_of_getElem? (i := 8) rfl)) (hw _ (List.mem_of_getElem? (i := 7) rfl)) (by decide) (by decide)) (g := (mkF m 149 #[.val (.int b0), .val (.int b1), .val (.int b2), .val (.int b3), .val (.int sp), .val (.int (1 : Int32)), .val (.int av), .val (.ref ca), .val (.int rr), .val (.int (1 : Int32)), .unset, .unset] [(.int (0 : Int32)), (.int rr), (.int av), (.ref ca)])) rfl (by rw [hml]; rfl) (argsL := [(.ref ca), (.int av), (.int rr), (.int (0 : Int32))]) (rest := []) (lenOf pd_0_1 rfl) rfl (by show 2 * 0 + _ ≤ _; exact Nat.le_of_eq rfl) (hb hby at_149) (fun _ _ => ⟨rfl, K19, (by decide : 1 + 0 ≤ _), (by decide : 1 + 0 ≤ _)⟩)
      dsimp only [Pt.U, Pt.locs, Pt.cells, Pt.slots] at X20 l20 y20 z20 st20 hQ20
      subst l20 y20 z20
      obtain ⟨rfl, N20q, K20⟩ := hQ20
      have N20 := Fr.app N19 N20q
      refine own_st st20 ?_
      show own_Go p e below _ (T20.setTop (mkF m 152 #[.val (.int b0), .val (.int b1), .val (.int b2), .val (.int b3), .val (.int sp), .val (.int (1 : Int32)), .val (.int av), .val (.ref ca), .val (.int rr), .val (.int (1 : Int32)), .unset, .unset] [(.int (own_doo (own_up (fun _ => 0) 0 ((b0 + (48 : Int32)).toInt8.toInt32).toInt8.toInt32) av rr (0 : Int32) 0))]))
      refine own_st (V := T20.setTop (mkF m 162 #[.val (.int b0), .val (.int b1), .val (.int b2), .val (.int b3), .val (.int sp), .val (.int (1 : Int32)), .val (.int av), .val (.ref ca), .val (.int rr), .val (.int (1 : Int32)), .unset, .unset] [(.int (1 : Int32)), (.int rr), (.int av), (.ref ca)])) (fun tgt k => ?_) ?_
      · show Steps p.tables e below (T20.setTop (mkF m 152 #[.val (.int b0), .val (.int b1), .val (.int b2), .val (.int b3), .val (.int sp), .val (.int (1 : Int32)), .val (.int av), .val (.ref ca), .val (.int rr), .val (.int (1 : Int32)), .unset, .unset] [(.int (own_doo (own_up (fun _ => 0) 0 ((b0 + (48 : Int32)).toInt8.toInt32).toInt8.toInt32) av rr (0 : Int32) 0))])) tgt
        refine XS.ifNo X20.here hx rfl (hb hby at_152) rfl ((if0 _ _).trans (feq (own_doo1 R2 (by decide))).1) ?_
        show Steps p.tables e below (T20.setTop (mkF m 155 #[.val (.int b0), .val (.int b1), .val (.int b2), .val (.int b3), .val (.int sp), .val (.int (1 : Int32)), .val (.int av), .val (.ref ca), .val (.int rr), .val (.int (1 : Int32)), .unset, .unset] [])) tgt
        refine XS.aload X20.here hx rfl (hb hby at_155) rfl rfl ?_
        show Steps p.tables e below (T20.setTop (mkF m 157 #[.val (.int b0), .val (.int b1), .val (.int b2), .val (.int b3), .val (.int sp), .val (.int (1 : Int32)), .val (.int av), .val (.ref ca), .val (.int rr), .val (.int (1 : Int32)), .unset, .unset] [(.ref ca)])) tgt
        refine XS.iload X20.here hx rfl (hb hby at_157) rfl ?_
        show Steps p.tables e below (T20.setTop (mkF m 159 #[.val (.int b0), .val (.int b1), .val (.int b2), .val (.int b3), .val (.int sp), .val (.int (1 : Int32)), .val (.int av), .val (.ref ca), .val (.int rr), .val (.int (1 : Int32)), .unset, .unset] [(.int av), (.ref ca)])) tgt
        refine XS.iload X20.here hx rfl (hb hby at_159) rfl ?_
        show Steps p.tables e below (T20.setTop (mkF m 161 #[.val (.int b0), .val (.int b1), .val (.int b2), .val (.int b3), .val (.int sp), .val (.int (1 : Int32)), .val (.int av), .val (.ref ca), .val (.int rr), .val (.int (1 : Int32)), .unset, .unset] [(.int rr), (.int av), (.ref ca)])) tgt
        refine XS.iconst X20.here hx rfl (hb hby at_161) ?_
        exact k
      obtain ⟨_, _, ⟨T21, L21, k21, n21⟩, -, X21, ⟨Lc21, hQ21, l21, y21, z21⟩, st21⟩ := Jvm.LawKit.callS X20 hx (y := (⟨"com/example/tidewatch/tidewatch/io/DecimalSkipDigitsPinLaw", "digitOrOutside", "([BIII)Z"⟩ : MethodName)) hown (mvT hZ (hw _ (List.mem_of_getElem? (i := 5) rfl))) (mvT hZ (hw _ (List.mem_of_getElem? (i := 6) rfl))) (mvT hZ (hw _ (List.mem_of_getElem? (i := 7) rfl))) (mvT hZ (hw _ (List.mem_of_getElem? (i := 8) rfl))) (by decide) (backOf (W := 0) (rm2 l Z a0 hw [] ca av rr (1 : Int32) 1 (own_up (fun _ => 0) 0 ((b0 + (48 : Int32)).toInt8.toInt32).toInt8.toInt32) 1 h18 n0 Zs18 A_ca_18 (by decide) (own_i2 R2 (by decide))) hZ (hw _ (List.mem_of_getElem? (i := 8) rfl)) (hw _ (List.mem_of_getElem? (i := 7) rfl)) (by decide) (by decide)) (g := (mkF m 162 #[.val (.int b0), .val (.int b1), .val (.int b2), .val (.int b3), .val (.int sp), .val (.int (1 : Int32)), .val (.int av), .val (.ref ca), .val (.int rr), .val (.int (1 : Int32)), .unset, .unset] [(.int (1 : Int32)), (.int rr), (.int av), (.ref ca)])) rfl (by rw [hml]; rfl) (argsL := [(.ref ca), (.int av), (.int rr), (.int (1 : Int32))]) (rest := []) (lenOf pd_0_1 rfl) rfl (by show 2 * 0 + _ ≤ _; exact Nat.le_of_eq rfl) (hb hby at_162) (fun _ _ => ⟨rfl, K20, (by decide : 1 + 0 ≤ _), (by decide : 1 + 0 ≤ _)⟩)
      dsimp only [Pt.U, Pt.locs, Pt.cells, Pt.slots] at X21 l21 y21 z21 st21 hQ21
      subst l21 y21 z21
      obtain ⟨rfl, N21q, K21⟩ := hQ21
      have N21 := Fr.app N20 N21q
      refine own_st st21 ?_
      show own_Go p e below _ (T21.setTop (mkF m 165 #[.val (.int b0), .val (.int b1), .val (.int b2), .val (.int b3), .val (.int sp), .val (.int (1 : Int32)), .val (.int av), .val (.ref ca), .val (.int rr), .val (.int (1 : Int32)), .unset, .unset] [(.int (own_doo (own_up (fun _ => 0) 0 ((b0 + (48 : Int32)).toInt8.toInt32).toInt8.toInt32) av rr (1 : Int32) 1))]))
      refine own_st (V := T21.setTop (mkF m 175 #[.val (.int b0), .val (.int b1), .val (.int b2), .val (.int b3), .val (.int sp), .val (.int (1 : Int32)), .val (.int av), .val (.ref ca), .val (.int rr), .val (.int (1 : Int32)), .unset, .unset] [(.int (2 : Int32)), (.int rr), (.int av), (.ref ca)])) (fun tgt k => ?_) ?_
      · show Steps p.tables e below (T21.setTop (mkF m 165 #[.val (.int b0), .val (.int b1), .val (.int b2), .val (.int b3), .val (.int sp), .val (.int (1 : Int32)), .val (.int av), .val (.ref ca), .val (.int rr), .val (.int (1 : Int32)), .unset, .unset] [(.int (own_doo (own_up (fun _ => 0) 0 ((b0 + (48 : Int32)).toInt8.toInt32).toInt8.toInt32) av rr (1 : Int32) 1))])) tgt
        refine XS.ifNo X21.here hx rfl (hb hby at_165) rfl ((if0 _ _).trans (feq (own_doo1 R2 (by decide))).1) ?_
        show Steps p.tables e below (T21.setTop (mkF m 168 #[.val (.int b0), .val (.int b1), .val (.int b2), .val (.int b3), .val (.int sp), .val (.int (1 : Int32)), .val (.int av), .val (.ref ca), .val (.int rr), .val (.int (1 : Int32)), .unset, .unset] [])) tgt
        refine XS.aload X21.here hx rfl (hb hby at_168) rfl rfl ?_
        show Steps p.tables e below (T21.setTop (mkF m 170 #[.val (.int b0), .val (.int b1), .val (.int b2), .val (.int b3), .val (.int sp), .val (.int (1 : Int32)), .val (.int av), .val (.ref ca), .val (.int rr), .val (.int (1 : Int32)), .unset, .unset] [(.ref ca)])) tgt
        refine XS.iload X21.here hx rfl (hb hby at_170) rfl ?_
        show Steps p.tables e below (T21.setTop (mkF m 172 #[.val (.int b0), .val (.int b1), .val (.int b2), .val (.int b3), .val (.int sp), .val (.int (1 : Int32)), .val (.int av), .val (.ref ca), .val (.int rr), .val (.int (1 : Int32)), .unset, .unset] [(.int av), (.ref ca)])) tgt
        refine XS.iload X21.here hx rfl (hb hby at_172) rfl ?_
        show Steps p.tables e below (T21.setTop (mkF m 174 #[.val (.int b0), .val (.int b1), .val (.int b2), .val (.int b3), .val (.int sp), .val (.int (1 : Int32)), .val (.int av), .val (.ref ca), .val (.int rr), .val (.int (1 : Int32)), .unset, .unset] [(.int rr), (.int av), (.ref ca)])) tgt
        refine XS.iconst X21.here hx rfl (hb hby at_174) ?_
        exact k
      obtain ⟨_, _, ⟨T22, L22, k22, n22⟩, -, X22, ⟨Lc22, hQ22, l22, y22, z22⟩, st22⟩ := Jvm.LawKit.callS X21 hx (y := (⟨"com/example/tidewatch/tidewatch/io/DecimalSkipDigitsPinLaw", "digitOrOutside", "([BIII)Z"⟩ : MethodName)) hown (mvT hZ (hw _ (List.mem_of_getElem? (i := 5) rfl))) (mvT hZ (hw _ (List.mem_of_getElem? (i := 6) rfl))) (mvT hZ (hw _ (List.mem_of_getElem? (i := 7) rfl))) (mvT hZ (hw _ (List.mem_of_getElem? (i := 8) rfl))) (by decide) (backOf (W := 0) (rm2 l Z a0 hw [] ca av rr (2 : Int32) 1 (own_up (fun _ => 0) 0 ((b0 + (48 : Int32)).toInt8.toInt32).toInt8.toInt32) 2 h18 n0 Zs18 A_ca_18 (by decide) (own_i2 R2 (by decide))) hZ (hw _ (List.mem_of_getElem? (i := 8) rfl)) (hw _ (List.mem_of_getElem? (i := 7) rfl)) (by decide) (by decide)) (g := (mkF m 175 #[.val (.int b0), .val (.int b1), .val (.int b2), .val (.int b3), .val (.int sp), .val (.int (1 : Int32)), .val (.int av), .val (.ref ca), .val (.int rr), .val (.int (1 : Int32)), .unset, .unset] [(.int (2 : Int32)), (.int rr), (.int av), (.ref ca)])) rfl (by rw [hml]; rfl) (argsL := [(.ref ca), (.int av), (.int rr), (.int (2 : Int32))]) (rest := []) (lenOf pd_0_1 rfl) rfl (by show 2 * 0 + _ ≤ _; exact Nat.le_of_eq rfl) (hb hby at_175) (fun _ _ => ⟨rfl, K21, (by decide : 1 + 0 ≤ _), (by decide : 1 + 0 ≤ _)⟩)
      dsimp only [Pt.U, Pt.locs, Pt.cells, Pt.slots] at X22 l22 y22 z22 st22 hQ22
      subst l22 y22 z22
      obtain ⟨rfl, N22q, K22⟩ := hQ22
      have N22 := Fr.app N21 N22q
      refine own_st st22 ?_
      show own_Go p e below _ (T22.setTop (mkF m 178 #[.val (.int b0), .val (.int b1), .val (.int b2), .val (.int b3), .val (.int sp), .val (.int (1 : Int32)), .val (.int av), .val (.ref ca), .val (.int rr), .val (.int (1 : Int32)), .unset, .unset] [(.int (own_doo (own_up (fun _ => 0) 0 ((b0 + (48 : Int32)).toInt8.toInt32).toInt8.toInt32) av rr (2 : Int32) 2))]))
      refine own_st (V := T22.setTop (mkF m 188 #[.val (.int b0), .val (.int b1), .val (.int b2), .val (.int b3), .val (.int sp), .val (.int (1 : Int32)), .val (.int av), .val (.ref ca), .val (.int rr), .val (.int (1 : Int32)), .unset, .unset] [(.int (3 : Int32)), (.int rr), (.int av), (.ref ca)])) (fun tgt k => ?_) ?_
      · show Steps p.tables e below (T22.setTop (mkF m 178 #[.val (.int b0), .val (.int b1), .val (.int b2), .val (.int b3), .val (.int sp), .val (.int (1 : Int32)), .val (.int av), .val (.ref ca), .val (.int rr), .val (.int (1 : Int32)), .unset, .unset] [(.int (own_doo (own_up (fun _ => 0) 0 ((b0 + (48 : Int32)).toInt8.toInt32).toInt8.toInt32) av rr (2 : Int32) 2))])) tgt
        refine XS.ifNo X22.here hx rfl (hb hby at_178) rfl ((if0 _ _).trans (feq (own_doo1 R2 (by decide))).1) ?_
        show Steps p.tables e below (T22.setTop (mkF m 181 #[.val (.int b0), .val (.int b1), .val (.int b2), .val (.int b3), .val (.int sp), .val (.int (1 : Int32)), .val (.int av), .val (.ref ca), .val (.int rr), .val (.int (1 : Int32)), .unset, .unset] [])) tgt
        refine XS.aload X22.here hx rfl (hb hby at_181) rfl rfl ?_
        show Steps p.tables e below (T22.setTop (mkF m 183 #[.val (.int b0), .val (.int b1), .val (.int b2), .val (.int b3), .val (.int sp), .val (.int (1 : Int32)), .val (.int av), .val (.ref ca), .val (.int rr), .val (.int (1 : Int32)), .unset, .unset] [(.ref ca)])) tgt
        refine XS.iload X22.here hx rfl (hb hby at_183) rfl ?_
        show Steps p.tables e below (T22.setTop (mkF m 185 #[.val (.int b0), .val (.int b1), .val (.int b2), .val (.int b3), .val (.int sp), .val (.int (1 : Int32)), .val (.int av), .val (.ref ca), .val (.int rr), .val (.int (1 : Int32)), .unset, .unset] [(.int av), (.ref ca)])) tgt
        refine XS.iload X22.here hx rfl (hb hby at_185) rfl ?_
        show Steps p.tables e below (T22.setTop (mkF m 187 #[.val (.int b0), .val (.int b1), .val (.int b2), .val (.int b3), .val (.int sp), .val (.int (1 : Int32)), .val (.int av), .val (.ref ca), .val (.int rr), .val (.int (1 : Int32)), .unset, .unset] [(.int rr), (.int av), (.ref ca)])) tgt
        refine XS.iconst X22.here hx rfl (hb hby at_187) ?_
        exact k
      obtain ⟨_, _, ⟨T23, L23, k23, n23⟩, -, X23, ⟨Lc23, hQ23, l23, y23, z23⟩, st23⟩ := Jvm.LawKit.callS X22 hx (y := (⟨"com/example/tidewatch/tidewatch/io/DecimalSkipDigitsPinLaw", "digitOrOutside", "([BIII)Z"⟩ : MethodName)) hown (mvT hZ (hw _ (List.mem_of_getElem? (i := 5) rfl))) (mvT hZ (hw _ (List.mem_of_getElem? (i := 6) rfl))) (mvT hZ (hw _ (List.mem_of_getElem? (i := 7) rfl))) (mvT hZ (hw _ (List.mem_of_getElem? (i := 8) rfl))) (by decide) (backOf (W := 0) (rm2 l Z a0 hw [] ca av rr (3 : Int32) 1 (own_up (fun _ => 0) 0 ((b0 + (48 : Int32)).toInt8.toInt32).toInt8.toInt32) 3 h18 n0 Zs18 A_ca_18 (by decide) (own_i2 R2 (by decide))) hZ (hw _ (List.mem_of_getElem? (i := 8) rfl)) (hw _ (List.mem_of_getElem? (i := 7) rfl)) (by decide) (by decide)) (g := (mkF m 188 #[.val (.int b0), .val (.int b1), .val (.int b2), .val (.int b3), .val (.int sp), .val (.int (1 : Int32)), .val (.int av), .val (.ref ca), .val (.int rr), .val (.int (1 : Int32)), .unset, .unset] [(.int (3 : Int32)), (.int rr), (.int av), (.ref ca)])) rfl (by rw [hml]; rfl) (argsL := [(.ref ca), (.int av), (.int rr), (.int (3 : Int32))]) (rest := []) (lenOf pd_0_1 rfl) rfl (by show 2 * 0 + _ ≤ _; exact Nat.le_of_eq rfl) (hb hby at_188) (fun _ _ => ⟨rfl, K22, (by decide : 1 + 0 ≤ _), (by decide : 1 + 0 ≤ _)⟩)
      dsimp only [Pt.U, Pt.locs, Pt.cells, Pt.slots] at X23 l23 y23 z23 st23 hQ23
      subst l23 y23 z23
      obtain ⟨rfl, N23q, K23⟩ := hQ23
      have N23 := Fr.app N22 N23q
      refine own_st st23 ?_
      show own_Go p e below _ (T23.setTop (mkF m 191 #[.val (.int b0), .val (.int b1), .val (.int b2), .val (.int b3), .val (.int sp), .val (.int (1 : Int32)), .val (.int av), .val (.ref ca), .val (.int rr), .val (.int (1 : Int32)), .unset, .unset] [(.int (own_doo (own_up (fun _ => 0) 0 ((b0 + (48 : Int32)).toInt8.toInt32).toInt8.toInt32) av rr (3 : Int32) 3))]))
      refine own_st (V := T23.setTop (mkF m 205 #[.val (.int b0), .val (.int b1), .val (.int b2), .val (.int b3), .val (.int sp), .val (.int (1 : Int32)), .val (.int av), .val (.ref ca), .val (.int rr), .val (.int (1 : Int32)), .val (.int (1 : Int32)), .unset] [(.int (1 : Int32)), (.int rr)])) (fun tgt k => ?_) ?_
      · show Steps p.tables e below (T23.setTop (mkF m 191 #[.val (.int b0), .val (.int b1), .val (.int b2), .val (.int b3), .val (.int sp), .val (.int (1 : Int32)), .val (.int av), .val (.ref ca), .val (.int rr), .val (.int (1 : Int32)), .unset, .unset] [(.int (own_doo (own_up (fun _ => 0) 0 ((b0 + (48 : Int32)).toInt8.toInt32).toInt8.toInt32) av rr (3 : Int32) 3))])) tgt
        refine XS.ifNo X23.here hx rfl (hb hby at_191) rfl ((if0 _ _).trans (feq (own_doo1 R2 (by decide))).1) ?_
        show Steps p.tables e below (T23.setTop (mkF m 194 #[.val (.int b0), .val (.int b1), .val (.int b2), .val (.int b3), .val (.int sp), .val (.int (1 : Int32)), .val (.int av), .val (.ref ca), .val (.int rr), .val (.int (1 : Int32)), .unset, .unset] [])) tgt
        refine XS.iconst X23.here hx rfl (hb hby at_194) ?_
        show Steps p.tables e below (T23.setTop (mkF m 195 #[.val (.int b0), .val (.int b1), .val (.int b2), .val (.int b3), .val (.int sp), .val (.int (1 : Int32)), .val (.int av), .val (.ref ca), .val (.int rr), .val (.int (1 : Int32)), .unset, .unset] [(.int (1 : Int32))])) tgt
        refine XS.goto X23.here hx rfl (pc0 := 195) (pc' := 199) rfl (hb hby at_195) (by decide) (by decide) ?_
        show Steps p.tables e below (T23.setTop (mkF m 199 #[.val (.int b0), .val (.int b1), .val (.int b2), .val (.int b3), .val (.int sp), .val (.int (1 : Int32)), .val (.int av), .val (.ref ca), .val (.int rr), .val (.int (1 : Int32)), .unset, .unset] [(.int (1 : Int32))])) tgt
        refine XS.istore X23.here hx rfl (hb hby at_199) rfl (l' := #[.val (.int b0), .val (.int b1), .val (.int b2), .val (.int b3), .val (.int sp), .val (.int (1 : Int32)), .val (.int av), .val (.ref ca), .val (.int rr), .val (.int (1 : Int32)), .val (.int (1 : Int32)), .unset]) rfl ?_
        show Steps p.tables e below (T23.setTop (mkF m 201 #[.val (.int b0), .val (.int b1), .val (.int b2), .val (.int b3), .val (.int sp), .val (.int (1 : Int32)), .val (.int av), .val (.ref ca), .val (.int rr), .val (.int (1 : Int32)), .val (.int (1 : Int32)), .unset] [])) tgt
        refine XS.iload X23.here hx rfl (hb hby at_201) rfl ?_
        show Steps p.tables e below (T23.setTop (mkF m 203 #[.val (.int b0), .val (.int b1), .val (.int b2), .val (.int b3), .val (.int sp), .val (.int (1 : Int32)), .val (.int av), .val (.ref ca), .val (.int rr), .val (.int (1 : Int32)), .val (.int (1 : Int32)), .unset] [(.int rr)])) tgt
        refine XS.iload X23.here hx rfl (hb hby at_203) rfl ?_
        exact k
      by_cases hc205 : rr < (1 : Int32)
      · skip
        refine own_st (V := T23.setTop (mkF m 213 #[.val (.int b0), .val (.int b1), .val (.int b2), .val (.int b3), .val (.int sp), .val (.int (1 : Int32)), .val (.int av), .val (.ref ca), .val (.int rr), .val (.int (1 : Int32)), .val (.int (1 : Int32)), .unset] [(.int ((own_up (fun _ => 0) 0 ((b0 + (48 : Int32)).toInt8.toInt32).toInt8.toInt32) rr.toInt.toNat))])) (fun tgt k => ?_) ?_
        · show Steps p.tables e below (T23.setTop (mkF m 205 #[.val (.int b0), .val (.int b1), .val (.int b2), .val (.int b3), .val (.int sp), .val (.int (1 : Int32)), .val (.int av), .val (.ref ca), .val (.int rr), .val (.int (1 : Int32)), .val (.int (1 : Int32)), .unset] [(.int (1 : Int32)), (.int rr)])) tgt
          refine XS.icmpNo X23.here hx rfl (hb hby at_205) rfl (tlt hc205).2.1 ?_
          show Steps p.tables e below (T23.setTop (mkF m 208 #[.val (.int b0), .val (.int b1), .val (.int b2), .val (.int b3), .val (.int sp), .val (.int (1 : Int32)), .val (.int av), .val (.ref ca), .val (.int rr), .val (.int (1 : Int32)), .val (.int (1 : Int32)), .unset] [])) tgt
          refine XS.aload X23.here hx rfl (hb hby at_208) rfl rfl ?_
          show Steps p.tables e below (T23.setTop (mkF m 210 #[.val (.int b0), .val (.int b1), .val (.int b2), .val (.int b3), .val (.int sp), .val (.int (1 : Int32)), .val (.int av), .val (.ref ca), .val (.int rr), .val (.int (1 : Int32)), .val (.int (1 : Int32)), .unset] [(.ref ca)])) tgt
          refine XS.iload X23.here hx rfl (hb hby at_210) rfl ?_
          show Steps p.tables e below (T23.setTop (mkF m 212 #[.val (.int b0), .val (.int b1), .val (.int b2), .val (.int b3), .val (.int sp), .val (.int (1 : Int32)), .val (.int av), .val (.ref ca), .val (.int rr), .val (.int (1 : Int32)), .val (.int (1 : Int32)), .unset] [(.int rr), (.ref ca)])) tgt
          refine own_baload X23 hx hZ K23 A_ca_18 (j := rr) (k := rr.toInt.toNat) (by omega) (by have := own_ilt.mp hc205; rw [show (1 : Int32).toInt = 1 from rfl] at this; omega) (g := (mkF m 212 #[.val (.int b0), .val (.int b1), .val (.int b2), .val (.int b3), .val (.int sp), .val (.int (1 : Int32)), .val (.int av), .val (.ref ca), .val (.int rr), .val (.int (1 : Int32)), .val (.int (1 : Int32)), .unset] [(.int rr), (.ref ca)])) rfl rfl (hb hby at_212) ?_
          exact k
        obtain ⟨_, _, ⟨T24, L24, k24, n24⟩, -, X24, ⟨Lc24, hQ24, l24, y24, z24⟩, st24⟩ := Jvm.LawKit.callS X23 hx (y := (⟨"com/example/tidewatch/tidewatch/io/DecimalSkipDigitsPinLaw", "isDigit", "(B)Z"⟩ : MethodName)) hown (mvT hZ (hw _ (List.mem_of_getElem? (i := 9) rfl))) (mvT hZ (hw _ (List.mem_of_getElem? (i := 10) rfl))) (mvT hZ (hw _ (List.mem_of_getElem? (i := 7) rfl))) (mvT hZ (hw _ (List.mem_of_getElem? (i := 11) rfl))) (by decide) (backOf (W := 0) (rm3 l Z a0 hw [] ((own_up (fun _ => 0) 0 ((b0 + (48 : Int32)).toInt8.toInt32).toInt8.toInt32) rr.toInt.toNat) h18 n0 Zs18 ) hZ (hw _ (List.mem_of_getElem? (i := 11) rfl)) (hw _ (List.mem_of_getElem? (i := 7) rfl)) (by decide) (by decide)) (g := (mkF m 213 #[.val (.int b0), .val (.int b1), .val (.int b2), .val (.int b3), .val (.int sp), .val (.int (1 : Int32)), .val (.int av), .val (.ref ca), .val (.int rr), .val (.int (1 : Int32)), .val (.int (1 : Int32)), .unset] [(.int ((own_up (fun _ => 0) 0 ((b0 + (48 : Int32)).toInt8.toInt32).toInt8.toInt32) rr.toInt.toNat))])) rfl (by rw [hml]; rfl) (argsL := [(.int ((own_up (fun _ => 0) 0 ((b0 + (48 : Int32)).toInt8.toInt32).toInt8.toInt32) rr.toInt.toNat))]) (rest := []) (lenOf pd_0_2 rfl) rfl (by show 2 * 0 + _ ≤ _; exact Nat.le_of_eq rfl) (hb hby at_213) (fun _ _ => ⟨rfl, K23, (by decide : 1 + 0 ≤ _), (by decide : 1 + 0 ≤ _)⟩)
        dsimp only [Pt.U, Pt.locs, Pt.cells, Pt.slots] at X24 l24 y24 z24 st24 hQ24
        subst l24 y24 z24
        obtain ⟨rfl, N24q, K24⟩ := hQ24
        have N24 := Fr.app N23 N24q
        refine own_st st24 ?_
        show own_Go p e below _ (T24.setTop (mkF m 216 #[.val (.int b0), .val (.int b1), .val (.int b2), .val (.int b3), .val (.int sp), .val (.int (1 : Int32)), .val (.int av), .val (.ref ca), .val (.int rr), .val (.int (1 : Int32)), .val (.int (1 : Int32)), .unset] [(.int (own_isd ((own_up (fun _ => 0) 0 ((b0 + (48 : Int32)).toInt8.toInt32).toInt8.toInt32) rr.toInt.toNat)))]))
        refine own_st (V := T24.setTop (mkF m 241 #[.val (.int b0), .val (.int b1), .val (.int b2), .val (.int b3), .val (.int sp), .val (.int (1 : Int32)), .val (.int av), .val (.ref ca), .val (.int rr), .val (.int (1 : Int32)), .val (.int (1 : Int32)), .val (.int (1 : Int32))] [(.int (1 : Int32))])) (fun tgt k => ?_) ?_
        · show Steps p.tables e below (T24.setTop (mkF m 216 #[.val (.int b0), .val (.int b1), .val (.int b2), .val (.int b3), .val (.int sp), .val (.int (1 : Int32)), .val (.int av), .val (.ref ca), .val (.int rr), .val (.int (1 : Int32)), .val (.int (1 : Int32)), .unset] [(.int (own_isd ((own_up (fun _ => 0) 0 ((b0 + (48 : Int32)).toInt8.toInt32).toInt8.toInt32) rr.toInt.toNat)))])) tgt
          refine XS.ifNo X24.here hx rfl (hb hby at_216) rfl ((if0 _ _).trans (teq ((own_isd1 _).2 (fun z => R3 ⟨by have := own_ilt.mp hc205; rw [show (1 : Int32).toInt = 1 from rfl] at this; omega, z⟩))).2) ?_
          show Steps p.tables e below (T24.setTop (mkF m 219 #[.val (.int b0), .val (.int b1), .val (.int b2), .val (.int b3), .val (.int sp), .val (.int (1 : Int32)), .val (.int av), .val (.ref ca), .val (.int rr), .val (.int (1 : Int32)), .val (.int (1 : Int32)), .unset] [])) tgt
          refine XS.iconst X24.here hx rfl (hb hby at_219) ?_
          show Steps p.tables e below (T24.setTop (mkF m 220 #[.val (.int b0), .val (.int b1), .val (.int b2), .val (.int b3), .val (.int sp), .val (.int (1 : Int32)), .val (.int av), .val (.ref ca), .val (.int rr), .val (.int (1 : Int32)), .val (.int (1 : Int32)), .unset] [(.int (1 : Int32))])) tgt
          refine XS.goto X24.here hx rfl (pc0 := 220) (pc' := 224) rfl (hb hby at_220) (by decide) (by decide) ?_
          show Steps p.tables e below (T24.setTop (mkF m 224 #[.val (.int b0), .val (.int b1), .val (.int b2), .val (.int b3), .val (.int sp), .val (.int (1 : Int32)), .val (.int av), .val (.ref ca), .val (.int rr), .val (.int (1 : Int32)), .val (.int (1 : Int32)), .unset] [(.int (1 : Int32))])) tgt
          refine XS.istore X24.here hx rfl (hb hby at_224) rfl (l' := #[.val (.int b0), .val (.int b1), .val (.int b2), .val (.int b3), .val (.int sp), .val (.int (1 : Int32)), .val (.int av), .val (.ref ca), .val (.int rr), .val (.int (1 : Int32)), .val (.int (1 : Int32)), .val (.int (1 : Int32))]) rfl ?_
          show Steps p.tables e below (T24.setTop (mkF m 226 #[.val (.int b0), .val (.int b1), .val (.int b2), .val (.int b3), .val (.int sp), .val (.int (1 : Int32)), .val (.int av), .val (.ref ca), .val (.int rr), .val (.int (1 : Int32)), .val (.int (1 : Int32)), .val (.int (1 : Int32))] [])) tgt
          refine XS.iload X24.here hx rfl (hb hby at_226) rfl ?_
          show Steps p.tables e below (T24.setTop (mkF m 228 #[.val (.int b0), .val (.int b1), .val (.int b2), .val (.int b3), .val (.int sp), .val (.int (1 : Int32)), .val (.int av), .val (.ref ca), .val (.int rr), .val (.int (1 : Int32)), .val (.int (1 : Int32)), .val (.int (1 : Int32))] [(.int (1 : Int32))])) tgt
          refine XS.ifNo X24.here hx rfl (hb hby at_228) rfl ((if0 _ _).trans (feq (by decide : ¬ ((1 : Int32) = (0 : Int32)))).1) ?_
          show Steps p.tables e below (T24.setTop (mkF m 231 #[.val (.int b0), .val (.int b1), .val (.int b2), .val (.int b3), .val (.int sp), .val (.int (1 : Int32)), .val (.int av), .val (.ref ca), .val (.int rr), .val (.int (1 : Int32)), .val (.int (1 : Int32)), .val (.int (1 : Int32))] [])) tgt
          refine XS.iload X24.here hx rfl (hb hby at_231) rfl ?_
          show Steps p.tables e below (T24.setTop (mkF m 233 #[.val (.int b0), .val (.int b1), .val (.int b2), .val (.int b3), .val (.int sp), .val (.int (1 : Int32)), .val (.int av), .val (.ref ca), .val (.int rr), .val (.int (1 : Int32)), .val (.int (1 : Int32)), .val (.int (1 : Int32))] [(.int (1 : Int32))])) tgt
          refine XS.ifNo X24.here hx rfl (hb hby at_233) rfl ((if0 _ _).trans (feq (by decide : ¬ ((1 : Int32) = (0 : Int32)))).1) ?_
          show Steps p.tables e below (T24.setTop (mkF m 236 #[.val (.int b0), .val (.int b1), .val (.int b2), .val (.int b3), .val (.int sp), .val (.int (1 : Int32)), .val (.int av), .val (.ref ca), .val (.int rr), .val (.int (1 : Int32)), .val (.int (1 : Int32)), .val (.int (1 : Int32))] [])) tgt
          refine XS.iconst X24.here hx rfl (hb hby at_236) ?_
          show Steps p.tables e below (T24.setTop (mkF m 237 #[.val (.int b0), .val (.int b1), .val (.int b2), .val (.int b3), .val (.int sp), .val (.int (1 : Int32)), .val (.int av), .val (.ref ca), .val (.int rr), .val (.int (1 : Int32)), .val (.int (1 : Int32)), .val (.int (1 : Int32))] [(.int (1 : Int32))])) tgt
          refine XS.goto X24.here hx rfl (pc0 := 237) (pc' := 241) rfl (hb hby at_237) (by decide) (by decide) ?_
          exact k
        refine own_retN X24 hx hlk (t := .boolean) (z' := (1 : Int32)) Bd.returns (by simp) rfl (hb hby at_241) ?_ (by decide) (by decide)
        show Q0 Z b0 b1 b2 b3 sp h0 n0 (some (.int (1 : Int32))) T24.heap _
        rw [K24]
        exact ⟨rfl, N24⟩
      · skip
        refine own_st (V := T23.setTop (mkF m 241 #[.val (.int b0), .val (.int b1), .val (.int b2), .val (.int b3), .val (.int sp), .val (.int (1 : Int32)), .val (.int av), .val (.ref ca), .val (.int rr), .val (.int (1 : Int32)), .val (.int (1 : Int32)), .val (.int (1 : Int32))] [(.int (1 : Int32))])) (fun tgt k => ?_) ?_
        · show Steps p.tables e below (T23.setTop (mkF m 205 #[.val (.int b0), .val (.int b1), .val (.int b2), .val (.int b3), .val (.int sp), .val (.int (1 : Int32)), .val (.int av), .val (.ref ca), .val (.int rr), .val (.int (1 : Int32)), .val (.int (1 : Int32)), .unset] [(.int (1 : Int32)), (.int rr)])) tgt
          refine XS.icmpYes X23.here hx rfl (pc0 := 205) (pc' := 219) rfl (hb hby at_205) rfl (flt hc205).2.1 (by decide) (by decide) ?_
          show Steps p.tables e below (T23.setTop (mkF m 219 #[.val (.int b0), .val (.int b1), .val (.int b2), .val (.int b3), .val (.int sp), .val (.int (1 : Int32)), .val (.int av), .val (.ref ca), .val (.int rr), .val (.int (1 : Int32)), .val (.int (1 : Int32)), .unset] [])) tgt
          refine XS.iconst X23.here hx rfl (hb hby at_219) ?_
          show Steps p.tables e below (T23.setTop (mkF m 220 #[.val (.int b0), .val (.int b1), .val (.int b2), .val (.int b3), .val (.int sp), .val (.int (1 : Int32)), .val (.int av), .val (.ref ca), .val (.int rr), .val (.int (1 : Int32)), .val (.int (1 : Int32)), .unset] [(.int (1 : Int32))])) tgt
          refine XS.goto X23.here hx rfl (pc0 := 220) (pc' := 224) rfl (hb hby at_220) (by decide) (by decide) ?_
          show Steps p.tables e below (T23.setTop (mkF m 224 #[.val (.int b0), .val (.int b1), .val (.int b2), .val (.int b3), .val (.int sp), .val (.int (1 : Int32)), .val (.int av), .val (.ref ca), .val (.int rr), .val (.int (1 : Int32)), .val (.int (1 : Int32)), .unset] [(.int (1 : Int32))])) tgt
          refine XS.istore X23.here hx rfl (hb hby at_224) rfl (l' := #[.val (.int b0), .val (.int b1), .val (.int b2), .val (.int b3), .val (.int sp), .val (.int (1 : Int32)), .val (.int av), .val (.ref ca), .val (.int rr), .val (.int (1 : Int32)), .val (.int (1 : Int32)), .val (.int (1 : Int32))]) rfl ?_
          show Steps p.tables e below (T23.setTop (mkF m 226 #[.val (.int b0), .val (.int b1), .val (.int b2), .val (.int b3), .val (.int sp), .val (.int (1 : Int32)), .val (.int av), .val (.ref ca), .val (.int rr), .val (.int (1 : Int32)), .val (.int (1 : Int32)), .val (.int (1 : Int32))] [])) tgt
          refine XS.iload X23.here hx rfl (hb hby at_226) rfl ?_
          show Steps p.tables e below (T23.setTop (mkF m 228 #[.val (.int b0), .val (.int b1), .val (.int b2), .val (.int b3), .val (.int sp), .val (.int (1 : Int32)), .val (.int av), .val (.ref ca), .val (.int rr), .val (.int (1 : Int32)), .val (.int (1 : Int32)), .val (.int (1 : Int32))] [(.int (1 : Int32))])) tgt
          refine XS.ifNo X23.here hx rfl (hb hby at_228) rfl ((if0 _ _).trans (feq (by decide : ¬ ((1 : Int32) = (0 : Int32)))).1) ?_
          show Steps p.tables e below (T23.setTop (mkF m 231 #[.val (.int b0), .val (.int b1), .val (.int b2), .val (.int b3), .val (.int sp), .val (.int (1 : Int32)), .val (.int av), .val (.ref ca), .val (.int rr), .val (.int (1 : Int32)), .val (.int (1 : Int32)), .val (.int (1 : Int32))] [])) tgt
          refine XS.iload X23.here hx rfl (hb hby at_231) rfl ?_
          show Steps p.tables e below (T23.setTop (mkF m 233 #[.val (.int b0), .val (.int b1), .val (.int b2), .val (.int b3), .val (.int sp), .val (.int (1 : Int32)), .val (.int av), .val (.ref ca), .val (.int rr), .val (.int (1 : Int32)), .val (.int (1 : Int32)), .val (.int (1 : Int32))] [(.int (1 : Int32))])) tgt
          refine XS.ifNo X23.here hx rfl (hb hby at_233) rfl ((if0 _ _).trans (feq (by decide : ¬ ((1 : Int32) = (0 : Int32)))).1) ?_
          show Steps p.tables e below (T23.setTop (mkF m 236 #[.val (.int b0), .val (.int b1), .val (.int b2), .val (.int b3), .val (.int sp), .val (.int (1 : Int32)), .val (.int av), .val (.ref ca), .val (.int rr), .val (.int (1 : Int32)), .val (.int (1 : Int32)), .val (.int (1 : Int32))] [])) tgt
          refine XS.iconst X23.here hx rfl (hb hby at_236) ?_
          show Steps p.tables e below (T23.setTop (mkF m 237 #[.val (.int b0), .val (.int b1), .val (.int b2), .val (.int b3), .val (.int sp), .val (.int (1 : Int32)), .val (.int av), .val (.ref ca), .val (.int rr), .val (.int (1 : Int32)), .val (.int (1 : Int32)), .val (.int (1 : Int32))] [(.int (1 : Int32))])) tgt
          refine XS.goto X23.here hx rfl (pc0 := 237) (pc' := 241) rfl (hb hby at_237) (by decide) (by decide) ?_
          exact k
        refine own_retN X23 hx hlk (t := .boolean) (z' := (1 : Int32)) Bd.returns (by simp) rfl (hb hby at_241) ?_ (by decide) (by decide)
        show Q0 Z b0 b1 b2 b3 sp h0 n0 (some (.int (1 : Int32))) T23.heap _
        rw [K23]
        exact ⟨rfl, N23⟩
    · skip
      refine own_st (V := T19.setTop (mkF m 149 #[.val (.int b0), .val (.int b1), .val (.int b2), .val (.int b3), .val (.int sp), .val (.int (1 : Int32)), .val (.int av), .val (.ref ca), .val (.int rr), .val (.int (1 : Int32)), .unset, .unset] [(.int (0 : Int32)), (.int rr), (.int av), (.ref ca)])) (fun tgt k => ?_) ?_
      · show Steps p.tables e below (T19.setTop (mkF m 96 #[.val (.int b0), .val (.int b1), .val (.int b2), .val (.int b3), .val (.int sp), .val (.int (1 : Int32)), .val (.int av), .val (.ref ca), .val (.int rr), .unset, .unset, .unset] [(.int (1 : Int32)), (.int av)])) tgt
        refine XS.icmpNo X19.here hx rfl (hb hby at_96) rfl (flt hc96).1 ?_
        show Steps p.tables e below (T19.setTop (mkF m 99 #[.val (.int b0), .val (.int b1), .val (.int b2), .val (.int b3), .val (.int sp), .val (.int (1 : Int32)), .val (.int av), .val (.ref ca), .val (.int rr), .unset, .unset, .unset] [])) tgt
        refine XS.iload X19.here hx rfl (hb hby at_99) rfl ?_
        show Steps p.tables e below (T19.setTop (mkF m 101 #[.val (.int b0), .val (.int b1), .val (.int b2), .val (.int b3), .val (.int sp), .val (.int (1 : Int32)), .val (.int av), .val (.ref ca), .val (.int rr), .unset, .unset, .unset] [(.int rr)])) tgt
        refine XS.iload X19.here hx rfl (hb hby at_101) rfl ?_
        show Steps p.tables e below (T19.setTop (mkF m 103 #[.val (.int b0), .val (.int b1), .val (.int b2), .val (.int b3), .val (.int sp), .val (.int (1 : Int32)), .val (.int av), .val (.ref ca), .val (.int rr), .unset, .unset, .unset] [(.int av), (.int rr)])) tgt
        refine XS.icmpNo X19.here hx rfl (hb hby at_103) rfl (teq (own_eq R1 R2 hav0 (by decide) hc96)).2 ?_
        show Steps p.tables e below (T19.setTop (mkF m 106 #[.val (.int b0), .val (.int b1), .val (.int b2), .val (.int b3), .val (.int sp), .val (.int (1 : Int32)), .val (.int av), .val (.ref ca), .val (.int rr), .unset, .unset, .unset] [])) tgt
        refine XS.iconst X19.here hx rfl (hb hby at_106) ?_
        show Steps p.tables e below (T19.setTop (mkF m 107 #[.val (.int b0), .val (.int b1), .val (.int b2), .val (.int b3), .val (.int sp), .val (.int (1 : Int32)), .val (.int av), .val (.ref ca), .val (.int rr), .unset, .unset, .unset] [(.int (1 : Int32))])) tgt
        refine XS.goto X19.here hx rfl (pc0 := 107) (pc' := 133) rfl (hb hby at_107) (by decide) (by decide) ?_
        show Steps p.tables e below (T19.setTop (mkF m 133 #[.val (.int b0), .val (.int b1), .val (.int b2), .val (.int b3), .val (.int sp), .val (.int (1 : Int32)), .val (.int av), .val (.ref ca), .val (.int rr), .unset, .unset, .unset] [(.int (1 : Int32))])) tgt
        refine XS.istore X19.here hx rfl (hb hby at_133) rfl (l' := #[.val (.int b0), .val (.int b1), .val (.int b2), .val (.int b3), .val (.int sp), .val (.int (1 : Int32)), .val (.int av), .val (.ref ca), .val (.int rr), .val (.int (1 : Int32)), .unset, .unset]) rfl ?_
        show Steps p.tables e below (T19.setTop (mkF m 135 #[.val (.int b0), .val (.int b1), .val (.int b2), .val (.int b3), .val (.int sp), .val (.int (1 : Int32)), .val (.int av), .val (.ref ca), .val (.int rr), .val (.int (1 : Int32)), .unset, .unset] [])) tgt
        refine XS.iload X19.here hx rfl (hb hby at_135) rfl ?_
        show Steps p.tables e below (T19.setTop (mkF m 137 #[.val (.int b0), .val (.int b1), .val (.int b2), .val (.int b3), .val (.int sp), .val (.int (1 : Int32)), .val (.int av), .val (.ref ca), .val (.int rr), .val (.int (1 : Int32)), .unset, .unset] [(.int (1 : Int32))])) tgt
        refine XS.ifYes X19.here hx rfl (pc0 := 137) (pc' := 142) rfl (hb hby at_137) rfl ((if0 _ _).trans (feq (by decide : ¬ ((1 : Int32) = (0 : Int32)))).2) (by decide) (by decide) ?_
        show Steps p.tables e below (T19.setTop (mkF m 142 #[.val (.int b0), .val (.int b1), .val (.int b2), .val (.int b3), .val (.int sp), .val (.int (1 : Int32)), .val (.int av), .val (.ref ca), .val (.int rr), .val (.int (1 : Int32)), .unset, .unset] [])) tgt
        refine XS.aload X19.here hx rfl (hb hby at_142) rfl rfl ?_
        show Steps p.tables e below (T19.setTop (mkF m 144 #[.val (.int b0), .val (.int b1), .val (.int b2), .val (.int b3), .val (.int sp), .val (.int (1 : Int32)), .val (.int av), .val (.ref ca), .val (.int rr), .val (.int (1 : Int32)), .unset, .unset] [(.ref ca)])) tgt
        refine XS.iload X19.here hx rfl (hb hby at_144) rfl ?_
        show Steps p.tables e below (T19.setTop (mkF m 146 #[.val (.int b0), .val (.int b1), .val (.int b2), .val (.int b3), .val (.int sp), .val (.int (1 : Int32)), .val (.int av), .val (.ref ca), .val (.int rr), .val (.int (1 : Int32)), .unset, .unset] [(.int av), (.ref ca)])) tgt
        refine XS.iload X19.here hx rfl (hb hby at_146) rfl ?_
        show Steps p.tables e below (T19.setTop (mkF m 148 #[.val (.int b0), .val (.int b1), .val (.int b2), .val (.int b3), .val (.int sp), .val (.int (1 : Int32)), .val (.int av), .val (.ref ca), .val (.int rr), .val (.int (1 : Int32)), .unset, .unset] [(.int rr), (.int av), (.ref ca)])) tgt
        refine XS.iconst X19.here hx rfl (hb hby at_148) ?_
        exact k
      obtain ⟨_, _, ⟨T27, L27, k27, n27⟩, -, X27, ⟨Lc27, hQ27, l27, y27, z27⟩, st27⟩ := Jvm.LawKit.callS X19 hx (y := (⟨"com/example/tidewatch/tidewatch/io/DecimalSkipDigitsPinLaw", "digitOrOutside", "([BIII)Z"⟩ : MethodName)) hown (mvT hZ (hw _ (List.mem_of_getElem? (i := 5) rfl))) (mvT hZ (hw _ (List.mem_of_getElem? (i := 6) rfl))) (mvT hZ (hw _ (List.mem_of_getElem? (i := 7) rfl))) (mvT hZ (hw _ (List.mem_of_getElem? (i := 8) rfl))) (by decide) (backOf (W := 0) (rm2 l Z a0 hw [] ca av rr (0 : Int32) 1 (own_up (fun _ => 0) 0 ((b0 + (48 : Int32)).toInt8.toInt32).toInt8.toInt32) 0 h18 n0 Zs18 A_ca_18 (by decide) (own_i2 R2 (by decide))) hZ (hw _ (List.mem_of_getElem? (i := 8) rfl)) (hw _ (List.mem_of_getElem? (i := 7) rfl)) (by decide) (by decide)) (g := (mkF m 149 #[.val (.int b0), .val (.int b1), .val (.int b2), .val (.int b3), .val (.int sp), .val (.int (1 : Int32)), .val (.int av), .val (.ref ca), .val (.int rr), .val (.int (1 : Int32)), .unset, .unset] [(.int (0 : Int32)), (.int rr), (.int av), (.ref ca)])) rfl (by rw [hml]; rfl) (argsL := [(.ref ca), (.int av), (.int rr), (.int (0 : Int32))]) (rest := []) (lenOf pd_0_1 rfl) rfl (by show 2 * 0 + _ ≤ _; exact Nat.le_of_eq rfl) (hb hby at_149) (fun _ _ => ⟨rfl, K19, (by decide : 1 + 0 ≤ _), (by decide : 1 + 0 ≤ _)⟩)
      dsimp only [Pt.U, Pt.locs, Pt.cells, Pt.slots] at X27 l27 y27 z27 st27 hQ27
      subst l27 y27 z27
      obtain ⟨rfl, N27q, K27⟩ := hQ27
      have N27 := Fr.app N19 N27q
      refine own_st st27 ?_
      show own_Go p e below _ (T27.setTop (mkF m 152 #[.val (.int b0), .val (.int b1), .val (.int b2), .val (.int b3), .val (.int sp), .val (.int (1 : Int32)), .val (.int av), .val (.ref ca), .val (.int rr), .val (.int (1 : Int32)), .unset, .unset] [(.int (own_doo (own_up (fun _ => 0) 0 ((b0 + (48 : Int32)).toInt8.toInt32).toInt8.toInt32) av rr (0 : Int32) 0))]))
      refine own_st (V := T27.setTop (mkF m 162 #[.val (.int b0), .val (.int b1), .val (.int b2), .val (.int b3), .val (.int sp), .val (.int (1 : Int32)), .val (.int av), .val (.ref ca), .val (.int rr), .val (.int (1 : Int32)), .unset, .unset] [(.int (1 : Int32)), (.int rr), (.int av), (.ref ca)])) (fun tgt k => ?_) ?_
      · show Steps p.tables e below (T27.setTop (mkF m 152 #[.val (.int b0), .val (.int b1), .val (.int b2), .val (.int b3), .val (.int sp), .val (.int (1 : Int32)), .val (.int av), .val (.ref ca), .val (.int rr), .val (.int (1 : Int32)), .unset, .unset] [(.int (own_doo (own_up (fun _ => 0) 0 ((b0 + (48 : Int32)).toInt8.toInt32).toInt8.toInt32) av rr (0 : Int32) 0))])) tgt
        refine XS.ifNo X27.here hx rfl (hb hby at_152) rfl ((if0 _ _).trans (feq (own_doo1 R2 (by decide))).1) ?_
        show Steps p.tables e below (T27.setTop (mkF m 155 #[.val (.int b0), .val (.int b1), .val (.int b2), .val (.int b3), .val (.int sp), .val (.int (1 : Int32)), .val (.int av), .val (.ref ca), .val (.int rr), .val (.int (1 : Int32)), .unset, .unset] [])) tgt
        refine XS.aload X27.here hx rfl (hb hby at_155) rfl rfl ?_
        show Steps p.tables e below (T27.setTop (mkF m 157 #[.val (.int b0), .val (.int b1), .val (.int b2), .val (.int b3), .val (.int sp), .val (.int (1 : Int32)), .val (.int av), .val (.ref ca), .val (.int rr), .val (.int (1 : Int32)), .unset, .unset] [(.ref ca)])) tgt
        refine XS.iload X27.here hx rfl (hb hby at_157) rfl ?_
        show Steps p.tables e below (T27.setTop (mkF m 159 #[.val (.int b0), .val (.int b1), .val (.int b2), .val (.int b3), .val (.int sp), .val (.int (1 : Int32)), .val (.int av), .val (.ref ca), .val (.int rr), .val (.int (1 : Int32)), .unset, .unset] [(.int av), (.ref ca)])) tgt
        refine XS.iload X27.here hx rfl (hb hby at_159) rfl ?_
        show Steps p.tables e below (T27.setTop (mkF m 161 #[.val (.int b0), .val (.int b1), .val (.int b2), .val (.int b3), .val (.int sp), .val (.int (1 : Int32)), .val (.int av), .val (.ref ca), .val (.int rr), .val (.int (1 : Int32)), .unset, .unset] [(.int rr), (.int av), (.ref ca)])) tgt
        refine XS.iconst X27.here hx rfl (hb hby at_161) ?_
        exact k
      obtain ⟨_, _, ⟨T28, L28, k28, n28⟩, -, X28, ⟨Lc28, hQ28, l28, y28, z28⟩, st28⟩ := Jvm.LawKit.callS X27 hx (y := (⟨"com/example/tidewatch/tidewatch/io/DecimalSkipDigitsPinLaw", "digitOrOutside", "([BIII)Z"⟩ : MethodName)) hown (mvT hZ (hw _ (List.mem_of_getElem? (i := 5) rfl))) (mvT hZ (hw _ (List.mem_of_getElem? (i := 6) rfl))) (mvT hZ (hw _ (List.mem_of_getElem? (i := 7) rfl))) (mvT hZ (hw _ (List.mem_of_getElem? (i := 8) rfl))) (by decide) (backOf (W := 0) (rm2 l Z a0 hw [] ca av rr (1 : Int32) 1 (own_up (fun _ => 0) 0 ((b0 + (48 : Int32)).toInt8.toInt32).toInt8.toInt32) 1 h18 n0 Zs18 A_ca_18 (by decide) (own_i2 R2 (by decide))) hZ (hw _ (List.mem_of_getElem? (i := 8) rfl)) (hw _ (List.mem_of_getElem? (i := 7) rfl)) (by decide) (by decide)) (g := (mkF m 162 #[.val (.int b0), .val (.int b1), .val (.int b2), .val (.int b3), .val (.int sp), .val (.int (1 : Int32)), .val (.int av), .val (.ref ca), .val (.int rr), .val (.int (1 : Int32)), .unset, .unset] [(.int (1 : Int32)), (.int rr), (.int av), (.ref ca)])) rfl (by rw [hml]; rfl) (argsL := [(.ref ca), (.int av), (.int rr), (.int (1 : Int32))]) (rest := []) (lenOf pd_0_1 rfl) rfl (by show 2 * 0 + _ ≤ _; exact Nat.le_of_eq rfl) (hb hby at_162) (fun _ _ => ⟨rfl, K27, (by decide : 1 + 0 ≤ _), (by decide : 1 + 0 ≤ _)⟩)
      dsimp only [Pt.U, Pt.locs, Pt.cells, Pt.slots] at X28 l28 y28 z28 st28 hQ28
      subst l28 y28 z28
      obtain ⟨rfl, N28q, K28⟩ := hQ28
      have N28 := Fr.app N27 N28q
      refine own_st st28 ?_
      show own_Go p e below _ (T28.setTop (mkF m 165 #[.val (.int b0), .val (.int b1), .val (.int b2), .val (.int b3), .val (.int sp), .val (.int (1 : Int32)), .val (.int av), .val (.ref ca), .val (.int rr), .val (.int (1 : Int32)), .unset, .unset] [(.int (own_doo (own_up (fun _ => 0) 0 ((b0 + (48 : Int32)).toInt8.toInt32).toInt8.toInt32) av rr (1 : Int32) 1))]))
      refine own_st (V := T28.setTop (mkF m 175 #[.val (.int b0), .val (.int b1), .val (.int b2), .val (.int b3), .val (.int sp), .val (.int (1 : Int32)), .val (.int av), .val (.ref ca), .val (.int rr), .val (.int (1 : Int32)), .unset, .unset] [(.int (2 : Int32)), (.int rr), (.int av), (.ref ca)])) (fun tgt k => ?_) ?_
      · show Steps p.tables e below (T28.setTop (mkF m 165 #[.val (.int b0), .val (.int b1), .val (.int b2), .val (.int b3), .val (.int sp), .val (.int (1 : Int32)), .val (.int av), .val (.ref ca), .val (.int rr), .val (.int (1 : Int32)), .unset, .unset] [(.int (own_doo (own_up (fun _ => 0) 0 ((b0 + (48 : Int32)).toInt8.toInt32).toInt8.toInt32) av rr (1 : Int32) 1))])) tgt
        refine XS.ifNo X28.here hx rfl (hb hby at_165) rfl ((if0 _ _).trans (feq (own_doo1 R2 (by decide))).1) ?_
        show Steps p.tables e below (T28.setTop (mkF m 168 #[.val (.int b0), .val (.int b1), .val (.int b2), .val (.int b3), .val (.int sp), .val (.int (1 : Int32)), .val (.int av), .val (.ref ca), .val (.int rr), .val (.int (1 : Int32)), .unset, .unset] [])) tgt
        refine XS.aload X28.here hx rfl (hb hby at_168) rfl rfl ?_
        show Steps p.tables e below (T28.setTop (mkF m 170 #[.val (.int b0), .val (.int b1), .val (.int b2), .val (.int b3), .val (.int sp), .val (.int (1 : Int32)), .val (.int av), .val (.ref ca), .val (.int rr), .val (.int (1 : Int32)), .unset, .unset] [(.ref ca)])) tgt
        refine XS.iload X28.here hx rfl (hb hby at_170) rfl ?_
        show Steps p.tables e below (T28.setTop (mkF m 172 #[.val (.int b0), .val (.int b1), .val (.int b2), .val (.int b3), .val (.int sp), .val (.int (1 : Int32)), .val (.int av), .val (.ref ca), .val (.int rr), .val (.int (1 : Int32)), .unset, .unset] [(.int av), (.ref ca)])) tgt
        refine XS.iload X28.here hx rfl (hb hby at_172) rfl ?_
        show Steps p.tables e below (T28.setTop (mkF m 174 #[.val (.int b0), .val (.int b1), .val (.int b2), .val (.int b3), .val (.int sp), .val (.int (1 : Int32)), .val (.int av), .val (.ref ca), .val (.int rr), .val (.int (1 : Int32)), .unset, .unset] [(.int rr), (.int av), (.ref ca)])) tgt
        refine XS.iconst X28.here hx rfl (hb hby at_174) ?_
        exact k
      obtain ⟨_, _, ⟨T29, L29, k29, n29⟩, -, X29, ⟨Lc29, hQ29, l29, y29, z29⟩, st29⟩ := Jvm.LawKit.callS X28 hx (y := (⟨"com/example/tidewatch/tidewatch/io/DecimalSkipDigitsPinLaw", "digitOrOutside", "([BIII)Z"⟩ : MethodName)) hown (mvT hZ (hw _ (List.mem_of_getElem? (i := 5) rfl))) (mvT hZ (hw _ (List.mem_of_getElem? (i := 6) rfl))) (mvT hZ (hw _ (List.mem_of_getElem? (i := 7) rfl))) (mvT hZ (hw _ (List.mem_of_getElem? (i := 8) rfl))) (by decide) (backOf (W := 0) (rm2 l Z a0 hw [] ca av rr (2 : Int32) 1 (own_up (fun _ => 0) 0 ((b0 + (48 : Int32)).toInt8.toInt32).toInt8.toInt32) 2 h18 n0 Zs18 A_ca_18 (by decide) (own_i2 R2 (by decide))) hZ (hw _ (List.mem_of_getElem? (i := 8) rfl)) (hw _ (List.mem_of_getElem? (i := 7) rfl)) (by decide) (by decide)) (g := (mkF m 175 #[.val (.int b0), .val (.int b1), .val (.int b2), .val (.int b3), .val (.int sp), .val (.int (1 : Int32)), .val (.int av), .val (.ref ca), .val (.int rr), .val (.int (1 : Int32)), .unset, .unset] [(.int (2 : Int32)), (.int rr), (.int av), (.ref ca)])) rfl (by rw [hml]; rfl) (argsL := [(.ref ca), (.int av), (.int rr), (.int (2 : Int32))]) (rest := []) (lenOf pd_0_1 rfl) rfl (by show 2 * 0 + _ ≤ _; exact Nat.le_of_eq rfl) (hb hby at_175) (fun _ _ => ⟨rfl, K28, (by decide : 1 + 0 ≤ _), (by decide : 1 + 0 ≤ _)⟩)
      dsimp only [Pt.U, Pt.locs, Pt.cells, Pt.slots] at X29 l29 y29 z29 st29 hQ29
      subst l29 y29 z29
      obtain ⟨rfl, N29q, K29⟩ := hQ29
      have N29 := Fr.app N28 N29q
      refine own_st st29 ?_
      show own_Go p e below _ (T29.setTop (mkF m 178 #[.val (.int b0), .val (.int b1), .val (.int b2), .val (.int b3), .val (.int sp), .val (.int (1 : Int32)), .val (.int av), .val (.ref ca), .val (.int rr), .val (.int (1 : Int32)), .unset, .unset] [(.int (own_doo (own_up (fun _ => 0) 0 ((b0 + (48 : Int32)).toInt8.toInt32).toInt8.toInt32) av rr (2 : Int32) 2))]))
      refine own_st (V := T29.setTop (mkF m 188 #[.val (.int b0), .val (.int b1), .val (.int b2), .val (.int b3), .val (.int sp), .val (.int (1 : Int32)), .val (.int av), .val (.ref ca), .val (.int rr), .val (.int (1 : Int32)), .unset, .unset] [(.int (3 : Int32)), (.int rr), (.int av), (.ref ca)])) (fun tgt k => ?_) ?_
      · show Steps p.tables e below (T29.setTop (mkF m 178 #[.val (.int b0), .val (.int b1), .val (.int b2), .val (.int b3), .val (.int sp), .val (.int (1 : Int32)), .val (.int av), .val (.ref ca), .val (.int rr), .val (.int (1 : Int32)), .unset, .unset] [(.int (own_doo (own_up (fun _ => 0) 0 ((b0 + (48 : Int32)).toInt8.toInt32).toInt8.toInt32) av rr (2 : Int32) 2))])) tgt
        refine XS.ifNo X29.here hx rfl (hb hby at_178) rfl ((if0 _ _).trans (feq (own_doo1 R2 (by decide))).1) ?_
        show Steps p.tables e below (T29.setTop (mkF m 181 #[.val (.int b0), .val (.int b1), .val (.int b2), .val (.int b3), .val (.int sp), .val (.int (1 : Int32)), .val (.int av), .val (.ref ca), .val (.int rr), .val (.int (1 : Int32)), .unset, .unset] [])) tgt
        refine XS.aload X29.here hx rfl (hb hby at_181) rfl rfl ?_
        show Steps p.tables e below (T29.setTop (mkF m 183 #[.val (.int b0), .val (.int b1), .val (.int b2), .val (.int b3), .val (.int sp), .val (.int (1 : Int32)), .val (.int av), .val (.ref ca), .val (.int rr), .val (.int (1 : Int32)), .unset, .unset] [(.ref ca)])) tgt
        refine XS.iload X29.here hx rfl (hb hby at_183) rfl ?_
        show Steps p.tables e below (T29.setTop (mkF m 185 #[.val (.int b0), .val (.int b1), .val (.int b2), .val (.int b3), .val (.int sp), .val (.int (1 : Int32)), .val (.int av), .val (.ref ca), .val (.int rr), .val (.int (1 : Int32)), .unset, .unset] [(.int av), (.ref ca)])) tgt
        refine XS.iload X29.here hx rfl (hb hby at_185) rfl ?_
        show Steps p.tables e below (T29.setTop (mkF m 187 #[.val (.int b0), .val (.int b1), .val (.int b2), .val (.int b3), .val (.int sp), .val (.int (1 : Int32)), .val (.int av), .val (.ref ca), .val (.int rr), .val (.int (1 : Int32)), .unset, .unset] [(.int rr), (.int av), (.ref ca)])) tgt
        refine XS.iconst X29.here hx rfl (hb hby at_187) ?_
        exact k
      obtain ⟨_, _, ⟨T30, L30, k30, n30⟩, -, X30, ⟨Lc30, hQ30, l30, y30, z30⟩, st30⟩ := Jvm.LawKit.callS X29 hx (y := (⟨"com/example/tidewatch/tidewatch/io/DecimalSkipDigitsPinLaw", "digitOrOutside", "([BIII)Z"⟩ : MethodName)) hown (mvT hZ (hw _ (List.mem_of_getElem? (i := 5) rfl))) (mvT hZ (hw _ (List.mem_of_getElem? (i := 6) rfl))) (mvT hZ (hw _ (List.mem_of_getElem? (i := 7) rfl))) (mvT hZ (hw _ (List.mem_of_getElem? (i := 8) rfl))) (by decide) (backOf (W := 0) (rm2 l Z a0 hw [] ca av rr (3 : Int32) 1 (own_up (fun _ => 0) 0 ((b0 + (48 : Int32)).toInt8.toInt32).toInt8.toInt32) 3 h18 n0 Zs18 A_ca_18 (by decide) (own_i2 R2 (by decide))) hZ (hw _ (List.mem_of_getElem? (i := 8) rfl)) (hw _ (List.mem_of_getElem? (i := 7) rfl)) (by decide) (by decide)) (g := (mkF m 188 #[.val (.int b0), .val (.int b1), .val (.int b2), .val (.int b3), .val (.int sp), .val (.int (1 : Int32)), .val (.int av), .val (.ref ca), .val (.int rr), .val (.int (1 : Int32)), .unset, .unset] [(.int (3 : Int32)), (.int rr), (.int av), (.ref ca)])) rfl (by rw [hml]; rfl) (argsL := [(.ref ca), (.int av), (.int rr), (.int (3 : Int32))]) (rest := []) (lenOf pd_0_1 rfl) rfl (by show 2 * 0 + _ ≤ _; exact Nat.le_of_eq rfl) (hb hby at_188) (fun _ _ => ⟨rfl, K29, (by decide : 1 + 0 ≤ _), (by decide : 1 + 0 ≤ _)⟩)
      dsimp only [Pt.U, Pt.locs, Pt.cells, Pt.slots] at X30 l30 y30 z30 st30 hQ30
      subst l30 y30 z30
      obtain ⟨rfl, N30q, K30⟩ := hQ30
      have N30 := Fr.app N29 N30q
      refine own_st st30 ?_
      show own_Go p e below _ (T30.setTop (mkF m 191 #[.val (.int b0), .val (.int b1), .val (.int b2), .val (.int b3), .val (.int sp), .val (.int (1 : Int32)), .val (.int av), .val (.ref ca), .val (.int rr), .val (.int (1 : Int32)), .unset, .unset] [(.int (own_doo (own_up (fun _ => 0) 0 ((b0 + (48 : Int32)).toInt8.toInt32).toInt8.toInt32) av rr (3 : Int32) 3))]))
      refine own_st (V := T30.setTop (mkF m 205 #[.val (.int b0), .val (.int b1), .val (.int b2), .val (.int b3), .val (.int sp), .val (.int (1 : Int32)), .val (.int av), .val (.ref ca), .val (.int rr), .val (.int (1 : Int32)), .val (.int (1 : Int32)), .unset] [(.int (1 : Int32)), (.int rr)])) (fun tgt k => ?_) ?_
      · show Steps p.tables e below (T30.setTop (mkF m 191 #[.val (.int b0), .val (.int b1), .val (.int b2), .val (.int b3), .val (.int sp), .val (.int (1 : Int32)), .val (.int av), .val (.ref ca), .val (.int rr), .val (.int (1 : Int32)), .unset, .unset] [(.int (own_doo (own_up (fun _ => 0) 0 ((b0 + (48 : Int32)).toInt8.toInt32).toInt8.toInt32) av rr (3 : Int32) 3))])) tgt
        refine XS.ifNo X30.here hx rfl (hb hby at_191) rfl ((if0 _ _).trans (feq (own_doo1 R2 (by decide))).1) ?_
        show Steps p.tables e below (T30.setTop (mkF m 194 #[.val (.int b0), .val (.int b1), .val (.int b2), .val (.int b3), .val (.int sp), .val (.int (1 : Int32)), .val (.int av), .val (.ref ca), .val (.int rr), .val (.int (1 : Int32)), .unset, .unset] [])) tgt
        refine XS.iconst X30.here hx rfl (hb hby at_194) ?_
        show Steps p.tables e below (T30.setTop (mkF m 195 #[.val (.int b0), .val (.int b1), .val (.int b2), .val (.int b3), .val (.int sp), .val (.int (1 : Int32)), .val (.int av), .val (.ref ca), .val (.int rr), .val (.int (1 : Int32)), .unset, .unset] [(.int (1 : Int32))])) tgt
        refine XS.goto X30.here hx rfl (pc0 := 195) (pc' := 199) rfl (hb hby at_195) (by decide) (by decide) ?_
        show Steps p.tables e below (T30.setTop (mkF m 199 #[.val (.int b0), .val (.int b1), .val (.int b2), .val (.int b3), .val (.int sp), .val (.int (1 : Int32)), .val (.int av), .val (.ref ca), .val (.int rr), .val (.int (1 : Int32)), .unset, .unset] [(.int (1 : Int32))])) tgt
        refine XS.istore X30.here hx rfl (hb hby at_199) rfl (l' := #[.val (.int b0), .val (.int b1), .val (.int b2), .val (.int b3), .val (.int sp), .val (.int (1 : Int32)), .val (.int av), .val (.ref ca), .val (.int rr), .val (.int (1 : Int32)), .val (.int (1 : Int32)), .unset]) rfl ?_
        show Steps p.tables e below (T30.setTop (mkF m 201 #[.val (.int b0), .val (.int b1), .val (.int b2), .val (.int b3), .val (.int sp), .val (.int (1 : Int32)), .val (.int av), .val (.ref ca), .val (.int rr), .val (.int (1 : Int32)), .val (.int (1 : Int32)), .unset] [])) tgt
        refine XS.iload X30.here hx rfl (hb hby at_201) rfl ?_
        show Steps p.tables e below (T30.setTop (mkF m 203 #[.val (.int b0), .val (.int b1), .val (.int b2), .val (.int b3), .val (.int sp), .val (.int (1 : Int32)), .val (.int av), .val (.ref ca), .val (.int rr), .val (.int (1 : Int32)), .val (.int (1 : Int32)), .unset] [(.int rr)])) tgt
        refine XS.iload X30.here hx rfl (hb hby at_203) rfl ?_
        exact k
      by_cases hc205 : rr < (1 : Int32)
      · skip
        refine own_st (V := T30.setTop (mkF m 213 #[.val (.int b0), .val (.int b1), .val (.int b2), .val (.int b3), .val (.int sp), .val (.int (1 : Int32)), .val (.int av), .val (.ref ca), .val (.int rr), .val (.int (1 : Int32)), .val (.int (1 : Int32)), .unset] [(.int ((own_up (fun _ => 0) 0 ((b0 + (48 : Int32)).toInt8.toInt32).toInt8.toInt32) rr.toInt.toNat))])) (fun tgt k => ?_) ?_
        · show Steps p.tables e below (T30.setTop (mkF m 205 #[.val (.int b0), .val (.int b1), .val (.int b2), .val (.int b3), .val (.int sp), .val (.int (1 : Int32)), .val (.int av), .val (.ref ca), .val (.int rr), .val (.int (1 : Int32)), .val (.int (1 : Int32)), .unset] [(.int (1 : Int32)), (.int rr)])) tgt
          refine XS.icmpNo X30.here hx rfl (hb hby at_205) rfl (tlt hc205).2.1 ?_
          show Steps p.tables e below (T30.setTop (mkF m 208 #[.val (.int b0), .val (.int b1), .val (.int b2), .val (.int b3), .val (.int sp), .val (.int (1 : Int32)), .val (.int av), .val (.ref ca), .val (.int rr), .val (.int (1 : Int32)), .val (.int (1 : Int32)), .unset] [])) tgt
          refine XS.aload X30.here hx rfl (hb hby at_208) rfl rfl ?_
          show Steps p.tables e below (T30.setTop (mkF m 210 #[.val (.int b0), .val (.int b1), .val (.int b2), .val (.int b3), .val (.int sp), .val (.int (1 : Int32)), .val (.int av), .val (.ref ca), .val (.int rr), .val (.int (1 : Int32)), .val (.int (1 : Int32)), .unset] [(.ref ca)])) tgt
          refine XS.iload X30.here hx rfl (hb hby at_210) rfl ?_
          show Steps p.tables e below (T30.setTop (mkF m 212 #[.val (.int b0), .val (.int b1), .val (.int b2), .val (.int b3), .val (.int sp), .val (.int (1 : Int32)), .val (.int av), .val (.ref ca), .val (.int rr), .val (.int (1 : Int32)), .val (.int (1 : Int32)), .unset] [(.int rr), (.ref ca)])) tgt
          refine own_baload X30 hx hZ K30 A_ca_18 (j := rr) (k := rr.toInt.toNat) (by omega) (by have := own_ilt.mp hc205; rw [show (1 : Int32).toInt = 1 from rfl] at this; omega) (g := (mkF m 212 #[.val (.int b0), .val (.int b1), .val (.int b2), .val (.int b3), .val (.int sp), .val (.int (1 : Int32)), .val (.int av), .val (.ref ca), .val (.int rr), .val (.int (1 : Int32)), .val (.int (1 : Int32)), .unset] [(.int rr), (.ref ca)])) rfl rfl (hb hby at_212) ?_
          exact k
        obtain ⟨_, _, ⟨T31, L31, k31, n31⟩, -, X31, ⟨Lc31, hQ31, l31, y31, z31⟩, st31⟩ := Jvm.LawKit.callS X30 hx (y := (⟨"com/example/tidewatch/tidewatch/io/DecimalSkipDigitsPinLaw", "isDigit", "(B)Z"⟩ : MethodName)) hown (mvT hZ (hw _ (List.mem_of_getElem? (i := 9) rfl))) (mvT hZ (hw _ (List.mem_of_getElem? (i := 10) rfl))) (mvT hZ (hw _ (List.mem_of_getElem? (i := 7) rfl))) (mvT hZ (hw _ (List.mem_of_getElem? (i := 11) rfl))) (by decide) (backOf (W := 0) (rm3 l Z a0 hw [] ((own_up (fun _ => 0) 0 ((b0 + (48 : Int32)).toInt8.toInt32).toInt8.toInt32) rr.toInt.toNat) h18 n0 Zs18 ) hZ (hw _ (List.mem_of_getElem? (i := 11) rfl)) (hw _ (List.mem_of_getElem? (i := 7) rfl)) (by decide) (by decide)) (g := (mkF m 213 #[.val (.int b0), .val (.int b1), .val (.int b2), .val (.int b3), .val (.int sp), .val (.int (1 : Int32)), .val (.int av), .val (.ref ca), .val (.int rr), .val (.int (1 : Int32)), .val (.int (1 : Int32)), .unset] [(.int ((own_up (fun _ => 0) 0 ((b0 + (48 : Int32)).toInt8.toInt32).toInt8.toInt32) rr.toInt.toNat))])) rfl (by rw [hml]; rfl) (argsL := [(.int ((own_up (fun _ => 0) 0 ((b0 + (48 : Int32)).toInt8.toInt32).toInt8.toInt32) rr.toInt.toNat))]) (rest := []) (lenOf pd_0_2 rfl) rfl (by show 2 * 0 + _ ≤ _; exact Nat.le_of_eq rfl) (hb hby at_213) (fun _ _ => ⟨rfl, K30, (by decide : 1 + 0 ≤ _), (by decide : 1 + 0 ≤ _)⟩)
        dsimp only [Pt.U, Pt.locs, Pt.cells, Pt.slots] at X31 l31 y31 z31 st31 hQ31
        subst l31 y31 z31
        obtain ⟨rfl, N31q, K31⟩ := hQ31
        have N31 := Fr.app N30 N31q
        refine own_st st31 ?_
        show own_Go p e below _ (T31.setTop (mkF m 216 #[.val (.int b0), .val (.int b1), .val (.int b2), .val (.int b3), .val (.int sp), .val (.int (1 : Int32)), .val (.int av), .val (.ref ca), .val (.int rr), .val (.int (1 : Int32)), .val (.int (1 : Int32)), .unset] [(.int (own_isd ((own_up (fun _ => 0) 0 ((b0 + (48 : Int32)).toInt8.toInt32).toInt8.toInt32) rr.toInt.toNat)))]))
        refine own_st (V := T31.setTop (mkF m 241 #[.val (.int b0), .val (.int b1), .val (.int b2), .val (.int b3), .val (.int sp), .val (.int (1 : Int32)), .val (.int av), .val (.ref ca), .val (.int rr), .val (.int (1 : Int32)), .val (.int (1 : Int32)), .val (.int (1 : Int32))] [(.int (1 : Int32))])) (fun tgt k => ?_) ?_
        · show Steps p.tables e below (T31.setTop (mkF m 216 #[.val (.int b0), .val (.int b1), .val (.int b2), .val (.int b3), .val (.int sp), .val (.int (1 : Int32)), .val (.int av), .val (.ref ca), .val (.int rr), .val (.int (1 : Int32)), .val (.int (1 : Int32)), .unset] [(.int (own_isd ((own_up (fun _ => 0) 0 ((b0 + (48 : Int32)).toInt8.toInt32).toInt8.toInt32) rr.toInt.toNat)))])) tgt
          refine XS.ifNo X31.here hx rfl (hb hby at_216) rfl ((if0 _ _).trans (teq ((own_isd1 _).2 (fun z => R3 ⟨by have := own_ilt.mp hc205; rw [show (1 : Int32).toInt = 1 from rfl] at this; omega, z⟩))).2) ?_
          show Steps p.tables e below (T31.setTop (mkF m 219 #[.val (.int b0), .val (.int b1), .val (.int b2), .val (.int b3), .val (.int sp), .val (.int (1 : Int32)), .val (.int av), .val (.ref ca), .val (.int rr), .val (.int (1 : Int32)), .val (.int (1 : Int32)), .unset] [])) tgt
          refine XS.iconst X31.here hx rfl (hb hby at_219) ?_
          show Steps p.tables e below (T31.setTop (mkF m 220 #[.val (.int b0), .val (.int b1), .val (.int b2), .val (.int b3), .val (.int sp), .val (.int (1 : Int32)), .val (.int av), .val (.ref ca), .val (.int rr), .val (.int (1 : Int32)), .val (.int (1 : Int32)), .unset] [(.int (1 : Int32))])) tgt
          refine XS.goto X31.here hx rfl (pc0 := 220) (pc' := 224) rfl (hb hby at_220) (by decide) (by decide) ?_
          show Steps p.tables e below (T31.setTop (mkF m 224 #[.val (.int b0), .val (.int b1), .val (.int b2), .val (.int b3), .val (.int sp), .val (.int (1 : Int32)), .val (.int av), .val (.ref ca), .val (.int rr), .val (.int (1 : Int32)), .val (.int (1 : Int32)), .unset] [(.int (1 : Int32))])) tgt
          refine XS.istore X31.here hx rfl (hb hby at_224) rfl (l' := #[.val (.int b0), .val (.int b1), .val (.int b2), .val (.int b3), .val (.int sp), .val (.int (1 : Int32)), .val (.int av), .val (.ref ca), .val (.int rr), .val (.int (1 : Int32)), .val (.int (1 : Int32)), .val (.int (1 : Int32))]) rfl ?_
          show Steps p.tables e below (T31.setTop (mkF m 226 #[.val (.int b0), .val (.int b1), .val (.int b2), .val (.int b3), .val (.int sp), .val (.int (1 : Int32)), .val (.int av), .val (.ref ca), .val (.int rr), .val (.int (1 : Int32)), .val (.int (1 : Int32)), .val (.int (1 : Int32))] [])) tgt
          refine XS.iload X31.here hx rfl (hb hby at_226) rfl ?_
          show Steps p.tables e below (T31.setTop (mkF m 228 #[.val (.int b0), .val (.int b1), .val (.int b2), .val (.int b3), .val (.int sp), .val (.int (1 : Int32)), .val (.int av), .val (.ref ca), .val (.int rr), .val (.int (1 : Int32)), .val (.int (1 : Int32)), .val (.int (1 : Int32))] [(.int (1 : Int32))])) tgt
          refine XS.ifNo X31.here hx rfl (hb hby at_228) rfl ((if0 _ _).trans (feq (by decide : ¬ ((1 : Int32) = (0 : Int32)))).1) ?_
          show Steps p.tables e below (T31.setTop (mkF m 231 #[.val (.int b0), .val (.int b1), .val (.int b2), .val (.int b3), .val (.int sp), .val (.int (1 : Int32)), .val (.int av), .val (.ref ca), .val (.int rr), .val (.int (1 : Int32)), .val (.int (1 : Int32)), .val (.int (1 : Int32))] [])) tgt
          refine XS.iload X31.here hx rfl (hb hby at_231) rfl ?_
          show Steps p.tables e below (T31.setTop (mkF m 233 #[.val (.int b0), .val (.int b1), .val (.int b2), .val (.int b3), .val (.int sp), .val (.int (1 : Int32)), .val (.int av), .val (.ref ca), .val (.int rr), .val (.int (1 : Int32)), .val (.int (1 : Int32)), .val (.int (1 : Int32))] [(.int (1 : Int32))])) tgt
          refine XS.ifNo X31.here hx rfl (hb hby at_233) rfl ((if0 _ _).trans (feq (by decide : ¬ ((1 : Int32) = (0 : Int32)))).1) ?_
          show Steps p.tables e below (T31.setTop (mkF m 236 #[.val (.int b0), .val (.int b1), .val (.int b2), .val (.int b3), .val (.int sp), .val (.int (1 : Int32)), .val (.int av), .val (.ref ca), .val (.int rr), .val (.int (1 : Int32)), .val (.int (1 : Int32)), .val (.int (1 : Int32))] [])) tgt
          refine XS.iconst X31.here hx rfl (hb hby at_236) ?_
          show Steps p.tables e below (T31.setTop (mkF m 237 #[.val (.int b0), .val (.int b1), .val (.int b2), .val (.int b3), .val (.int sp), .val (.int (1 : Int32)), .val (.int av), .val (.ref ca), .val (.int rr), .val (.int (1 : Int32)), .val (.int (1 : Int32)), .val (.int (1 : Int32))] [(.int (1 : Int32))])) tgt
          refine XS.goto X31.here hx rfl (pc0 := 237) (pc' := 241) rfl (hb hby at_237) (by decide) (by decide) ?_
          exact k
        refine own_retN X31 hx hlk (t := .boolean) (z' := (1 : Int32)) Bd.returns (by simp) rfl (hb hby at_241) ?_ (by decide) (by decide)
        show Q0 Z b0 b1 b2 b3 sp h0 n0 (some (.int (1 : Int32))) T31.heap _
        rw [K31]
        exact ⟨rfl, N31⟩
      · skip
        refine own_st (V := T30.setTop (mkF m 241 #[.val (.int b0), .val (.int b1), .val (.int b2), .val (.int b3), .val (.int sp), .val (.int (1 : Int32)), .val (.int av), .val (.ref ca), .val (.int rr), .val (.int (1 : Int32)), .val (.int (1 : Int32)), .val (.int (1 : Int32))] [(.int (1 : Int32))])) (fun tgt k => ?_) ?_
        · show Steps p.tables e below (T30.setTop (mkF m 205 #[.val (.int b0), .val (.int b1), .val (.int b2), .val (.int b3), .val (.int sp), .val (.int (1 : Int32)), .val (.int av), .val (.ref ca), .val (.int rr), .val (.int (1 : Int32)), .val (.int (1 : Int32)), .unset] [(.int (1 : Int32)), (.int rr)])) tgt
          refine XS.icmpYes X30.here hx rfl (pc0 := 205) (pc' := 219) rfl (hb hby at_205) rfl (flt hc205).2.1 (by decide) (by decide) ?_
          show Steps p.tables e below (T30.setTop (mkF m 219 #[.val (.int b0), .val (.int b1), .val (.int b2), .val (.int b3), .val (.int sp), .val (.int (1 : Int32)), .val (.int av), .val (.ref ca), .val (.int rr), .val (.int (1 : Int32)), .val (.int (1 : Int32)), .unset] [])) tgt
          refine XS.iconst X30.here hx rfl (hb hby at_219) ?_
          show Steps p.tables e below (T30.setTop (mkF m 220 #[.val (.int b0), .val (.int b1), .val (.int b2), .val (.int b3), .val (.int sp), .val (.int (1 : Int32)), .val (.int av), .val (.ref ca), .val (.int rr), .val (.int (1 : Int32)), .val (.int (1 : Int32)), .unset] [(.int (1 : Int32))])) tgt
          refine XS.goto X30.here hx rfl (pc0 := 220) (pc' := 224) rfl (hb hby at_220) (by decide) (by decide) ?_
          show Steps p.tables e below (T30.setTop (mkF m 224 #[.val (.int b0), .val (.int b1), .val (.int b2), .val (.int b3), .val (.int sp), .val (.int (1 : Int32)), .val (.int av), .val (.ref ca), .val (.int rr), .val (.int (1 : Int32)), .val (.int (1 : Int32)), .unset] [(.int (1 : Int32))])) tgt
          refine XS.istore X30.here hx rfl (hb hby at_224) rfl (l' := #[.val (.int b0), .val (.int b1), .val (.int b2), .val (.int b3), .val (.int sp), .val (.int (1 : Int32)), .val (.int av), .val (.ref ca), .val (.int rr), .val (.int (1 : Int32)), .val (.int (1 : Int32)), .val (.int (1 : Int32))]) rfl ?_
          show Steps p.tables e below (T30.setTop (mkF m 226 #[.val (.int b0), .val (.int b1), .val (.int b2), .val (.int b3), .val (.int sp), .val (.int (1 : Int32)), .val (.int av), .val (.ref ca), .val (.int rr), .val (.int (1 : Int32)), .val (.int (1 : Int32)), .val (.int (1 : Int32))] [])) tgt
          refine XS.iload X30.here hx rfl (hb hby at_226) rfl ?_
          show Steps p.tables e below (T30.setTop (mkF m 228 #[.val (.int b0), .val (.int b1), .val (.int b2), .val (.int b3), .val (.int sp), .val (.int (1 : Int32)), .val (.int av), .val (.ref ca), .val (.int rr), .val (.int (1 : Int32)), .val (.int (1 : Int32)), .val (.int (1 : Int32))] [(.int (1 : Int32))])) tgt
          refine XS.ifNo X30.here hx rfl (hb hby at_228) rfl ((if0 _ _).trans (feq (by decide : ¬ ((1 : Int32) = (0 : Int32)))).1) ?_
          show Steps p.tables e below (T30.setTop (mkF m 231 #[.val (.int b0), .val (.int b1), .val (.int b2), .val (.int b3), .val (.int sp), .val (.int (1 : Int32)), .val (.int av), .val (.ref ca), .val (.int rr), .val (.int (1 : Int32)), .val (.int (1 : Int32)), .val (.int (1 : Int32))] [])) tgt
          refine XS.iload X30.here hx rfl (hb hby at_231) rfl ?_
          show Steps p.tables e below (T30.setTop (mkF m 233 #[.val (.int b0), .val (.int b1), .val (.int b2), .val (.int b3), .val (.int sp), .val (.int (1 : Int32)), .val (.int av), .val (.ref ca), .val (.int rr), .val (.int (1 : Int32)), .val (.int (1 : Int32)), .val (.int (1 : Int32))] [(.int (1 : Int32))])) tgt
          refine XS.ifNo X30.here hx rfl (hb hby at_233) rfl ((if0 _ _).trans (feq (by decide : ¬ ((1 : Int32) = (0 : Int32)))).1) ?_
          show Steps p.tables e below (T30.setTop (mkF m 236 #[.val (.int b0), .val (.int b1), .val (.int b2), .val (.int b3), .val (.int sp), .val (.int (1 : Int32)), .val (.int av), .val (.ref ca), .val (.int rr), .val (.int (1 : Int32)), .val (.int (1 : Int32)), .val (.int (1 : Int32))] [])) tgt
          refine XS.iconst X30.here hx rfl (hb hby at_236) ?_
          show Steps p.tables e below (T30.setTop (mkF m 237 #[.val (.int b0), .val (.int b1), .val (.int b2), .val (.int b3), .val (.int sp), .val (.int (1 : Int32)), .val (.int av), .val (.ref ca), .val (.int rr), .val (.int (1 : Int32)), .val (.int (1 : Int32)), .val (.int (1 : Int32))] [(.int (1 : Int32))])) tgt
          refine XS.goto X30.here hx rfl (pc0 := 237) (pc' := 241) rfl (hb hby at_237) (by decide) (by decide) ?_
          exact k
        refine own_retN X30 hx hlk (t := .boolean) (z' := (1 : Int32)) Bd.returns (by simp) rfl (hb hby at_241) ?_ (by decide) (by decide)
        show Q0 Z b0 b1 b2 b3 sp h0 n0 (some (.int (1 : Int32))) T30.heap _
        rw [K30]
        exact ⟨rfl, N30⟩
  · skip
    rw [show ((sp &&& (7 : Int32)) % (5 : Int32)) = (2 : Int32) from q]
    refine own_st (V := s₁.setTop (mkF m 18 #[.val (.int b0), .val (.int b1), .val (.int b2), .val (.int b3), .val (.int sp), .val (.int (2 : Int32)), .val (.int (((sp.toUInt32 >>> ((3 : Int32) &&& 31).toUInt32).toInt32) &&& (7 : Int32))), .unset, .unset, .unset, .unset, .unset] [])) (fun tgt k => ?_) ?_
    · show Steps p.tables e below (s₁.setTop (mkF m 9 #[.val (.int b0), .val (.int b1), .val (.int b2), .val (.int b3), .val (.int sp), .val (.int (2 : Int32)), .unset, .unset, .unset, .unset, .unset, .unset] [])) tgt
      refine XS.iload X0.here hx rfl (hb hby at_9) rfl ?_
      show Steps p.tables e below (s₁.setTop (mkF m 11 #[.val (.int b0), .val (.int b1), .val (.int b2), .val (.int b3), .val (.int sp), .val (.int (2 : Int32)), .unset, .unset, .unset, .unset, .unset, .unset] [(.int sp)])) tgt
      refine XS.iconst X0.here hx rfl (hb hby at_11) ?_
      show Steps p.tables e below (s₁.setTop (mkF m 12 #[.val (.int b0), .val (.int b1), .val (.int b2), .val (.int b3), .val (.int sp), .val (.int (2 : Int32)), .unset, .unset, .unset, .unset, .unset, .unset] [(.int (3 : Int32)), (.int sp)])) tgt
      refine XS.iushr X0.here hx rfl (hb hby at_12) rfl ?_
      show Steps p.tables e below (s₁.setTop (mkF m 13 #[.val (.int b0), .val (.int b1), .val (.int b2), .val (.int b3), .val (.int sp), .val (.int (2 : Int32)), .unset, .unset, .unset, .unset, .unset, .unset] [(.int ((sp.toUInt32 >>> ((3 : Int32) &&& 31).toUInt32).toInt32))])) tgt
      refine XS.bipush X0.here hx rfl (hb hby at_13) ?_
      show Steps p.tables e below (s₁.setTop (mkF m 15 #[.val (.int b0), .val (.int b1), .val (.int b2), .val (.int b3), .val (.int sp), .val (.int (2 : Int32)), .unset, .unset, .unset, .unset, .unset, .unset] [(.int (7 : Int32)), (.int ((sp.toUInt32 >>> ((3 : Int32) &&& 31).toUInt32).toInt32))])) tgt
      refine XS.iand X0.here hx rfl (hb hby at_15) rfl ?_
      show Steps p.tables e below (s₁.setTop (mkF m 16 #[.val (.int b0), .val (.int b1), .val (.int b2), .val (.int b3), .val (.int sp), .val (.int (2 : Int32)), .unset, .unset, .unset, .unset, .unset, .unset] [(.int (((sp.toUInt32 >>> ((3 : Int32) &&& 31).toUInt32).toInt32) &&& (7 : Int32)))])) tgt
      refine XS.istore X0.here hx rfl (hb hby at_16) rfl (l' := #[.val (.int b0), .val (.int b1), .val (.int b2), .val (.int b3), .val (.int sp), .val (.int (2 : Int32)), .val (.int (((sp.toUInt32 >>> ((3 : Int32) &&& 31).toUInt32).toInt32) &&& (7 : Int32))), .unset, .unset, .unset, .unset, .unset]) rfl ?_
      exact k
    obtain ⟨av, hav⟩ : ∃ z : Int32, z = (((sp.toUInt32 >>> ((3 : Int32) &&& 31).toUInt32).toInt32) &&& (7 : Int32)) := ⟨_, rfl⟩
    rw [← hav]
    have hav0 : 0 ≤ av.toInt := by rw [hav]; exact (c_and _ 7 (by decide)).1
    refine own_st (V := s₁.setTop (mkF m 20 #[.val (.int b0), .val (.int b1), .val (.int b2), .val (.int b3), .val (.int sp), .val (.int (2 : Int32)), .val (.int av), .unset, .unset, .unset, .unset, .unset] [(.int (2 : Int32))])) (fun tgt k => ?_) ?_
    · show Steps p.tables e below (s₁.setTop (mkF m 18 #[.val (.int b0), .val (.int b1), .val (.int b2), .val (.int b3), .val (.int sp), .val (.int (2 : Int32)), .val (.int av), .unset, .unset, .unset, .unset, .unset] [])) tgt
      refine XS.iload X0.here hx rfl (hb hby at_18) rfl ?_
      exact k
    obtain ⟨T34, h34, c34, X34, e34, E34, A34, st34⟩ := own_newarr X0 hx hZ (hw _ (List.mem_of_getElem? (i := 0) rfl)) e0 (g := (mkF m 20 #[.val (.int b0), .val (.int b1), .val (.int b2), .val (.int b3), .val (.int sp), .val (.int (2 : Int32)), .val (.int av), .unset, .unset, .unset, .unset, .unset] [(.int (2 : Int32))])) rfl (hb hby at_20) rfl (k := 2) rfl (cap := 2) (by decide) (by decide) (by decide) (by decide)
    obtain ⟨ca, g34⟩ : ∃ z, z = h0.size := ⟨_, rfl⟩
    rw [← g34] at A34 st34
    have g_ca : n0 ≤ ca := Nat.le_trans Z0 (Nat.le_of_eq g34.symm)
    have A_ca_34 : own_Ai Z h34 ca .byte 2 (fun _ => 0) := own_Ai.new A34
    have Zs34 : n0 ≤ h34.size := Nat.le_trans Z0 E34.1
    refine own_st st34 ?_
    show own_Go p e below _ (T34.setTop (mkF m 22 #[.val (.int b0), .val (.int b1), .val (.int b2), .val (.int b3), .val (.int sp), .val (.int (2 : Int32)), .val (.int av), .unset, .unset, .unset, .unset, .unset] [(.ref ca)]))
    refine own_st (V := T34.setTop (mkF m 37 #[.val (.int b0), .val (.int b1), .val (.int b2), .val (.int b3), .val (.int sp), .val (.int (2 : Int32)), .val (.int av), .val (.ref ca), .unset, .unset, .unset, .unset] [(.int ((b0 + (48 : Int32)).toInt8.toInt32)), (.int (0 : Int32)), (.ref ca)])) (fun tgt k => ?_) ?_
    · show Steps p.tables e below (T34.setTop (mkF m 22 #[.val (.int b0), .val (.int b1), .val (.int b2), .val (.int b3), .val (.int sp), .val (.int (2 : Int32)), .val (.int av), .unset, .unset, .unset, .unset, .unset] [(.ref ca)])) tgt
      refine XS.astore X34.here hx rfl (hb hby at_22) rfl rfl (l' := #[.val (.int b0), .val (.int b1), .val (.int b2), .val (.int b3), .val (.int sp), .val (.int (2 : Int32)), .val (.int av), .val (.ref ca), .unset, .unset, .unset, .unset]) rfl ?_
      show Steps p.tables e below (T34.setTop (mkF m 24 #[.val (.int b0), .val (.int b1), .val (.int b2), .val (.int b3), .val (.int sp), .val (.int (2 : Int32)), .val (.int av), .val (.ref ca), .unset, .unset, .unset, .unset] [])) tgt
      refine XS.iload X34.here hx rfl (hb hby at_24) rfl ?_
      show Steps p.tables e below (T34.setTop (mkF m 26 #[.val (.int b0), .val (.int b1), .val (.int b2), .val (.int b3), .val (.int sp), .val (.int (2 : Int32)), .val (.int av), .val (.ref ca), .unset, .unset, .unset, .unset] [(.int (2 : Int32))])) tgt
      refine XS.ifNo X34.here hx rfl (hb hby at_26) rfl ((if0 _ _).trans (tlt (by decide : (0 : Int32) < (2 : Int32))).2.2.2) ?_
      show Steps p.tables e below (T34.setTop (mkF m 29 #[.val (.int b0), .val (.int b1), .val (.int b2), .val (.int b3), .val (.int sp), .val (.int (2 : Int32)), .val (.int av), .val (.ref ca), .unset, .unset, .unset, .unset] [])) tgt
      refine XS.aload X34.here hx rfl (hb hby at_29) rfl rfl ?_
      show Steps p.tables e below (T34.setTop (mkF m 31 #[.val (.int b0), .val (.int b1), .val (.int b2), .val (.int b3), .val (.int sp), .val (.int (2 : Int32)), .val (.int av), .val (.ref ca), .unset, .unset, .unset, .unset] [(.ref ca)])) tgt
      refine XS.iconst X34.here hx rfl (hb hby at_31) ?_
      show Steps p.tables e below (T34.setTop (mkF m 32 #[.val (.int b0), .val (.int b1), .val (.int b2), .val (.int b3), .val (.int sp), .val (.int (2 : Int32)), .val (.int av), .val (.ref ca), .unset, .unset, .unset, .unset] [(.int (0 : Int32)), (.ref ca)])) tgt
      refine XS.iloadN X34.here hx rfl (hb hby at_32) rfl ?_
      show Steps p.tables e below (T34.setTop (mkF m 33 #[.val (.int b0), .val (.int b1), .val (.int b2), .val (.int b3), .val (.int sp), .val (.int (2 : Int32)), .val (.int av), .val (.ref ca), .unset, .unset, .unset, .unset] [(.int b0), (.int (0 : Int32)), (.ref ca)])) tgt
      refine XS.bipush X34.here hx rfl (hb hby at_33) ?_
      show Steps p.tables e below (T34.setTop (mkF m 35 #[.val (.int b0), .val (.int b1), .val (.int b2), .val (.int b3), .val (.int sp), .val (.int (2 : Int32)), .val (.int av), .val (.ref ca), .unset, .unset, .unset, .unset] [(.int (48 : Int32)), (.int b0), (.int (0 : Int32)), (.ref ca)])) tgt
      refine XS.iadd X34.here hx rfl (hb hby at_35) rfl ?_
      show Steps p.tables e below (T34.setTop (mkF m 36 #[.val (.int b0), .val (.int b1), .val (.int b2), .val (.int b3), .val (.int sp), .val (.int (2 : Int32)), .val (.int av), .val (.ref ca), .unset, .unset, .unset, .unset] [(.int (b0 + (48 : Int32))), (.int (0 : Int32)), (.ref ca)])) tgt
      refine XS.i2b X34.here hx rfl (hb hby at_36) rfl ?_
      exact k
    obtain ⟨T35, h35, X35, e35, W35, A_ca_35, st35⟩ := own_bastore X34 hx hZ e34 A_ca_34 (j := (0 : Int32)) (k := 0) rfl (by decide) (g := (mkF m 37 #[.val (.int b0), .val (.int b1), .val (.int b2), .val (.int b3), .val (.int sp), .val (.int (2 : Int32)), .val (.int av), .val (.ref ca), .unset, .unset, .unset, .unset] [(.int ((b0 + (48 : Int32)).toInt8.toInt32)), (.int (0 : Int32)), (.ref ca)])) rfl rfl (hb hby at_37)
    have N35 := Fr.snoc X35 N0 g_ca
    have Zs35 : n0 ≤ h35.size := Nat.le_trans Zs34 (Keep.of_wr W35).1
    refine own_st st35 ?_
    show own_Go p e below _ (T35.setTop (mkF m 38 #[.val (.int b0), .val (.int b1), .val (.int b2), .val (.int b3), .val (.int sp), .val (.int (2 : Int32)), .val (.int av), .val (.ref ca), .unset, .unset, .unset, .unset] []))
    refine own_st (V := T35.setTop (mkF m 52 #[.val (.int b0), .val (.int b1), .val (.int b2), .val (.int b3), .val (.int sp), .val (.int (2 : Int32)), .val (.int av), .val (.ref ca), .unset, .unset, .unset, .unset] [(.int ((b1 + (48 : Int32)).toInt8.toInt32)), (.int (1 : Int32)), (.ref ca)])) (fun tgt k => ?_) ?_
    · show Steps p.tables e below (T35.setTop (mkF m 38 #[.val (.int b0), .val (.int b1), .val (.int b2), .val (.int b3), .val (.int sp), .val (.int (2 : Int32)), .val (.int av), .val (.ref ca), .unset, .unset, .unset, .unset] [])) tgt
      refine XS.iload X35.here hx rfl (hb hby at_38) rfl ?_
      show Steps p.tables e below (T35.setTop (mkF m 40 #[.val (.int b0), .val (.int b1), .val (.int b2), .val (.int b3), .val (.int sp), .val (.int (2 : Int32)), .val (.int av), .val (.ref ca), .unset, .unset, .unset, .unset] [(.int (2 : Int32))])) tgt
      refine XS.iconst X35.here hx rfl (hb hby at_40) ?_
      show Steps p.tables e below (T35.setTop (mkF m 41 #[.val (.int b0), .val (.int b1), .val (.int b2), .val (.int b3), .val (.int sp), .val (.int (2 : Int32)), .val (.int av), .val (.ref ca), .unset, .unset, .unset, .unset] [(.int (1 : Int32)), (.int (2 : Int32))])) tgt
      refine XS.icmpNo X35.here hx rfl (hb hby at_41) rfl (tlt (by decide : (1 : Int32) < (2 : Int32))).2.2.2 ?_
      show Steps p.tables e below (T35.setTop (mkF m 44 #[.val (.int b0), .val (.int b1), .val (.int b2), .val (.int b3), .val (.int sp), .val (.int (2 : Int32)), .val (.int av), .val (.ref ca), .unset, .unset, .unset, .unset] [])) tgt
      refine XS.aload X35.here hx rfl (hb hby at_44) rfl rfl ?_
      show Steps p.tables e below (T35.setTop (mkF m 46 #[.val (.int b0), .val (.int b1), .val (.int b2), .val (.int b3), .val (.int sp), .val (.int (2 : Int32)), .val (.int av), .val (.ref ca), .unset, .unset, .unset, .unset] [(.ref ca)])) tgt
      refine XS.iconst X35.here hx rfl (hb hby at_46) ?_
      show Steps p.tables e below (T35.setTop (mkF m 47 #[.val (.int b0), .val (.int b1), .val (.int b2), .val (.int b3), .val (.int sp), .val (.int (2 : Int32)), .val (.int av), .val (.ref ca), .unset, .unset, .unset, .unset] [(.int (1 : Int32)), (.ref ca)])) tgt
      refine XS.iloadN X35.here hx rfl (hb hby at_47) rfl ?_
      show Steps p.tables e below (T35.setTop (mkF m 48 #[.val (.int b0), .val (.int b1), .val (.int b2), .val (.int b3), .val (.int sp), .val (.int (2 : Int32)), .val (.int av), .val (.ref ca), .unset, .unset, .unset, .unset] [(.int b1), (.int (1 : Int32)), (.ref ca)])) tgt
      refine XS.bipush X35.here hx rfl (hb hby at_48) ?_
      show Steps p.tables e below (T35.setTop (mkF m 50 #[.val (.int b0), .val (.int b1), .val (.int b2), .val (.int b3), .val (.int sp), .val (.int (2 : Int32)), .val (.int av), .val (.ref ca), .unset, .unset, .unset, .unset] [(.int (48 : Int32)), (.int b1), (.int (1 : Int32)), (.ref ca)])) tgt
      refine XS.iadd X35.here hx rfl (hb hby at_50) rfl ?_
      show Steps p.tables e below (T35.setTop (mkF m 51 #[.val (.int b0), .val (.int b1), .val (.int b2), .val (.int b3), .val (.int sp), .val (.int (2 : Int32)), .val (.int av), .val (.ref ca), .unset, .unset, .unset, .unset] [(.int (b1 + (48 : Int32))), (.int (1 : Int32)), (.ref ca)])) tgt
      refine XS.i2b X35.here hx rfl (hb hby at_51) rfl ?_
      exact k
    obtain ⟨T36, h36, X36, e36, W36, A_ca_36, st36⟩ := own_bastore X35 hx hZ e35 A_ca_35 (j := (1 : Int32)) (k := 1) rfl (by decide) (g := (mkF m 52 #[.val (.int b0), .val (.int b1), .val (.int b2), .val (.int b3), .val (.int sp), .val (.int (2 : Int32)), .val (.int av), .val (.ref ca), .unset, .unset, .unset, .unset] [(.int ((b1 + (48 : Int32)).toInt8.toInt32)), (.int (1 : Int32)), (.ref ca)])) rfl rfl (hb hby at_52)
    have N36 := Fr.snoc X36 N35 g_ca
    have Zs36 : n0 ≤ h36.size := Nat.le_trans Zs35 (Keep.of_wr W36).1
    refine own_st st36 ?_
    show own_Go p e below _ (T36.setTop (mkF m 53 #[.val (.int b0), .val (.int b1), .val (.int b2), .val (.int b3), .val (.int sp), .val (.int (2 : Int32)), .val (.int av), .val (.ref ca), .unset, .unset, .unset, .unset] []))
    refine own_st (V := T36.setTop (mkF m 87 #[.val (.int b0), .val (.int b1), .val (.int b2), .val (.int b3), .val (.int sp), .val (.int (2 : Int32)), .val (.int av), .val (.ref ca), .unset, .unset, .unset, .unset] [(.int av), (.ref ca)])) (fun tgt k => ?_) ?_
    · show Steps p.tables e below (T36.setTop (mkF m 53 #[.val (.int b0), .val (.int b1), .val (.int b2), .val (.int b3), .val (.int sp), .val (.int (2 : Int32)), .val (.int av), .val (.ref ca), .unset, .unset, .unset, .unset] [])) tgt
      refine XS.iload X36.here hx rfl (hb hby at_53) rfl ?_
      show Steps p.tables e below (T36.setTop (mkF m 55 #[.val (.int b0), .val (.int b1), .val (.int b2), .val (.int b3), .val (.int sp), .val (.int (2 : Int32)), .val (.int av), .val (.ref ca), .unset, .unset, .unset, .unset] [(.int (2 : Int32))])) tgt
      refine XS.iconst X36.here hx rfl (hb hby at_55) ?_
      show Steps p.tables e below (T36.setTop (mkF m 56 #[.val (.int b0), .val (.int b1), .val (.int b2), .val (.int b3), .val (.int sp), .val (.int (2 : Int32)), .val (.int av), .val (.ref ca), .unset, .unset, .unset, .unset] [(.int (2 : Int32)), (.int (2 : Int32))])) tgt
      refine XS.icmpYes X36.here hx rfl (pc0 := 56) (pc' := 68) rfl (hb hby at_56) rfl (flt (by decide : ¬ ((2 : Int32) < (2 : Int32)))).2.2.2 (by decide) (by decide) ?_
      show Steps p.tables e below (T36.setTop (mkF m 68 #[.val (.int b0), .val (.int b1), .val (.int b2), .val (.int b3), .val (.int sp), .val (.int (2 : Int32)), .val (.int av), .val (.ref ca), .unset, .unset, .unset, .unset] [])) tgt
      refine XS.iload X36.here hx rfl (hb hby at_68) rfl ?_
      show Steps p.tables e below (T36.setTop (mkF m 70 #[.val (.int b0), .val (.int b1), .val (.int b2), .val (.int b3), .val (.int sp), .val (.int (2 : Int32)), .val (.int av), .val (.ref ca), .unset, .unset, .unset, .unset] [(.int (2 : Int32))])) tgt
      refine XS.iconst X36.here hx rfl (hb hby at_70) ?_
      show Steps p.tables e below (T36.setTop (mkF m 71 #[.val (.int b0), .val (.int b1), .val (.int b2), .val (.int b3), .val (.int sp), .val (.int (2 : Int32)), .val (.int av), .val (.ref ca), .unset, .unset, .unset, .unset] [(.int (3 : Int32)), (.int (2 : Int32))])) tgt
      refine XS.icmpYes X36.here hx rfl (pc0 := 71) (pc' := 83) rfl (hb hby at_71) rfl (flt (by decide : ¬ ((3 : Int32) < (2 : Int32)))).2.2.2 (by decide) (by decide) ?_
      show Steps p.tables e below (T36.setTop (mkF m 83 #[.val (.int b0), .val (.int b1), .val (.int b2), .val (.int b3), .val (.int sp), .val (.int (2 : Int32)), .val (.int av), .val (.ref ca), .unset, .unset, .unset, .unset] [])) tgt
      refine XS.aload X36.here hx rfl (hb hby at_83) rfl rfl ?_
      show Steps p.tables e below (T36.setTop (mkF m 85 #[.val (.int b0), .val (.int b1), .val (.int b2), .val (.int b3), .val (.int sp), .val (.int (2 : Int32)), .val (.int av), .val (.ref ca), .unset, .unset, .unset, .unset] [(.ref ca)])) tgt
      refine XS.iload X36.here hx rfl (hb hby at_85) rfl ?_
      exact k
    obtain ⟨rr, R1, R2, R3⟩ := own_ex (own_up (own_up (fun _ => 0) 0 ((b0 + (48 : Int32)).toInt8.toInt32).toInt8.toInt32) 1 ((b1 + (48 : Int32)).toInt8.toInt32).toInt8.toInt32) 2 (by decide) 2 av hav0 (by omega)
    obtain ⟨_, _, ⟨T37, L37, k37, n37⟩, -, X37, ⟨Lc37, hQ37, l37, y37, z37⟩, st37⟩ := Jvm.LawKit.callS X36 hx (y := (⟨"com/example/tidewatch/tidewatch/io/Decimal", "skipDigits", "([BI)I"⟩ : MethodName)) hown (mvT hZ (hw _ (List.mem_of_getElem? (i := 1) rfl))) (mvT hZ (hw _ (List.mem_of_getElem? (i := 2) rfl))) (mvT hZ (hw _ (List.mem_of_getElem? (i := 3) rfl))) (mvT hZ (hw _ (List.mem_of_getElem? (i := 4) rfl))) (by decide) (backOf (W := 0) (rm1 l Z a0 hw [] ca av (2 : Int32) 2 (own_up (own_up (fun _ => 0) 0 ((b0 + (48 : Int32)).toInt8.toInt32).toInt8.toInt32) 1 ((b1 + (48 : Int32)).toInt8.toInt32).toInt8.toInt32) rr h36 n0 Zs36 A_ca_36 (by decide) (by decide) hav0 R1 R2 R3) hZ (hw _ (List.mem_of_getElem? (i := 4) rfl)) (hw _ (List.mem_of_getElem? (i := 3) rfl)) (by decide) (by decide)) (g := (mkF m 87 #[.val (.int b0), .val (.int b1), .val (.int b2), .val (.int b3), .val (.int sp), .val (.int (2 : Int32)), .val (.int av), .val (.ref ca), .unset, .unset, .unset, .unset] [(.int av), (.ref ca)])) rfl (by rw [hml]; rfl) (argsL := [(.ref ca), (.int av)]) (rest := []) (lenOf pd_0_0 rfl) rfl (by show 2 * 0 + _ ≤ _; exact Nat.le_of_eq rfl) (hb hby at_87) (fun _ _ => ⟨rfl, e36, (by decide : 1 + 0 ≤ _), (by decide : 2 + 0 ≤ _)⟩)
    dsimp only [Pt.U, Pt.locs, Pt.cells, Pt.slots] at X37 l37 y37 z37 st37 hQ37
    subst l37 y37 z37
    obtain ⟨rfl, N37q, K37⟩ := hQ37
    have N37 := Fr.app N36 N37q
    refine own_st st37 ?_
    show own_Go p e below _ (T37.setTop (mkF m 90 #[.val (.int b0), .val (.int b1), .val (.int b2), .val (.int b3), .val (.int sp), .val (.int (2 : Int32)), .val (.int av), .val (.ref ca), .unset, .unset, .unset, .unset] [(.int rr)]))
    refine own_st (V := T37.setTop (mkF m 96 #[.val (.int b0), .val (.int b1), .val (.int b2), .val (.int b3), .val (.int sp), .val (.int (2 : Int32)), .val (.int av), .val (.ref ca), .val (.int rr), .unset, .unset, .unset] [(.int (2 : Int32)), (.int av)])) (fun tgt k => ?_) ?_
    · show Steps p.tables e below (T37.setTop (mkF m 90 #[.val (.int b0), .val (.int b1), .val (.int b2), .val (.int b3), .val (.int sp), .val (.int (2 : Int32)), .val (.int av), .val (.ref ca), .unset, .unset, .unset, .unset] [(.int rr)])) tgt
      refine XS.istore X37.here hx rfl (hb hby at_90) rfl (l' := #[.val (.int b0), .val (.int b1), .val (.int b2), .val (.int b3), .val (.int sp), .val (.int (2 : Int32)), .val (.int av), .val (.ref ca), .val (.int rr), .unset, .unset, .unset]) rfl ?_
      show Steps p.tables e below (T37.setTop (mkF m 92 #[.val (.int b0), .val (.int b1), .val (.int b2), .val (.int b3), .val (.int sp), .val (.int (2 : Int32)), .val (.int av), .val (.ref ca), .val (.int rr), .unset, .unset, .unset] [])) tgt
      refine XS.iload X37.here hx rfl (hb hby at_92) rfl ?_
      show Steps p.tables e below (T37.setTop (mkF m 94 #[.val (.int b0), .val (.int b1), .val (.int b2), .val (.int b3), .val (.int sp), .val (.int (2 : Int32)), .val (.int av), .val (.ref ca), .val (.int rr), .unset, .unset, .unset] [(.int av)])) tgt
      refine XS.iload X37.here hx rfl (hb hby at_94) rfl ?_
      exact k
    by_cases hc96 : av < (2 : Int32)
    · skip
      refine own_st (V := T37.setTop (mkF m 149 #[.val (.int b0), .val (.int b1), .val (.int b2), .val (.int b3), .val (.int sp), .val (.int (2 : Int32)), .val (.int av), .val (.ref ca), .val (.int rr), .val (.int (1 : Int32)), .unset, .unset] [(.int (0 : Int32)), (.int rr), (.int av), (.ref ca)])) (fun tgt k => ?_) ?_
      · show Steps p.tables e below (T37.setTop (mkF m 96 #[.val (.int b0), .val (.int b1), .val (.int b2), .val (.int b3), .val (.int sp), .val (.int (2 : Int32)), .val (.int av), .val (.ref ca), .val (.int rr), .unset, .unset, .unset] [(.int (2 : Int32)), (.int av)])) tgt
        refine XS.icmpYes X37.here hx rfl (pc0 := 96) (pc' := 114) rfl (hb hby at_96) rfl (tlt hc96).1 (by decide) (by decide) ?_
        show Steps p.tables e below (T37.setTop (mkF m 114 #[.val (.int b0), .val (.int b1), .val (.int b2), .val (.int b3), .val (.int sp), .val (.int (2 : Int32)), .val (.int av), .val (.ref ca), .val (.int rr), .unset, .unset, .unset] [])) tgt
        refine XS.iload X37.here hx rfl (hb hby at_114) rfl ?_
        show Steps p.tables e below (T37.setTop (mkF m 116 #[.val (.int b0), .val (.int b1), .val (.int b2), .val (.int b3), .val (.int sp), .val (.int (2 : Int32)), .val (.int av), .val (.ref ca), .val (.int rr), .unset, .unset, .unset] [(.int rr)])) tgt
        refine XS.iload X37.here hx rfl (hb hby at_116) rfl ?_
        show Steps p.tables e below (T37.setTop (mkF m 118 #[.val (.int b0), .val (.int b1), .val (.int b2), .val (.int b3), .val (.int sp), .val (.int (2 : Int32)), .val (.int av), .val (.ref ca), .val (.int rr), .unset, .unset, .unset] [(.int av), (.int rr)])) tgt
        refine XS.icmpNo X37.here hx rfl (hb hby at_118) rfl (flt (own_nlt R1)).1 ?_
        show Steps p.tables e below (T37.setTop (mkF m 121 #[.val (.int b0), .val (.int b1), .val (.int b2), .val (.int b3), .val (.int sp), .val (.int (2 : Int32)), .val (.int av), .val (.ref ca), .val (.int rr), .unset, .unset, .unset] [])) tgt
        refine XS.iload X37.here hx rfl (hb hby at_121) rfl ?_
        show Steps p.tables e below (T37.setTop (mkF m 123 #[.val (.int b0), .val (.int b1), .val (.int b2), .val (.int b3), .val (.int sp), .val (.int (2 : Int32)), .val (.int av), .val (.ref ca), .val (.int rr), .unset, .unset, .unset] [(.int rr)])) tgt
        refine XS.iload X37.here hx rfl (hb hby at_123) rfl ?_
        show Steps p.tables e below (T37.setTop (mkF m 125 #[.val (.int b0), .val (.int b1), .val (.int b2), .val (.int b3), .val (.int sp), .val (.int (2 : Int32)), .val (.int av), .val (.ref ca), .val (.int rr), .unset, .unset, .unset] [(.int (2 : Int32)), (.int rr)])) tgt
        refine XS.icmpNo X37.here hx rfl (hb hby at_125) rfl (flt (own_le R2 hav0 (by decide) hc96)).2.2.1 ?_
        show Steps p.tables e below (T37.setTop (mkF m 128 #[.val (.int b0), .val (.int b1), .val (.int b2), .val (.int b3), .val (.int sp), .val (.int (2 : Int32)), .val (.int av), .val (.ref ca), .val (.int rr), .unset, .unset, .unset] [])) tgt
        refine XS.iconst X37.here hx rfl (hb hby at_128) ?_
        show Steps p.tables e below (T37.setTop (mkF m 129 #[.val (.int b0), .val (.int b1), .val (.int b2), .val (.int b3), .val (.int sp), .val (.int (2 : Int32)), .val (.int av), .val (.ref ca), .val (.int rr), .unset, .unset, .unset] [(.int (1 : Int32))])) tgt
        refine XS.goto X37.here hx rfl (pc0 := 129) (pc' := 133) rfl (hb hby at_129) (by decide) (by decide) ?_
        show Steps p.tables e below (T37.setTop (mkF m 133 #[.val (.int b0), .val (.int b1), .val (.int b2), .val (.int b3), .val (.int sp), .val (.int (2 : Int32)), .val (.int av), .val (.ref ca), .val (.int rr), .unset, .unset, .unset] [(.int (1 : Int32))])) tgt
        refine XS.istore X37.here hx rfl (hb hby at_133) rfl (l' := #[.val (.int b0), .val (.int b1), .val (.int b2), .val (.int b3), .val (.int sp), .val (.int (2 : Int32)), .val (.int av), .val (.ref ca), .val (.int rr), .val (.int (1 : Int32)), .unset, .unset]) rfl ?_
        show Steps p.tables e below (T37.setTop (mkF m 135 #[.val (.int b0), .val (.int b1), .val (.int b2), .val (.int b3), .val (.int sp), .val (.int (2 : Int32)), .val (.int av), .val (.ref ca), .val (.int rr), .val (.int (1 : Int32)), .unset, .unset] [])) tgt
        refine XS.iload X37.here hx rfl (hb hby at_135) rfl ?_
        show Steps p.tables e below (T37.setTop (mkF m 137 #[.val (.int b0), .val (.int b1), .val (.int b2), .val (.int b3), .val (.int sp), .val (.int (2 : Int32)), .val (.int av), .val (.ref ca), .val (.int rr), .val (.int (1 : Int32)), .unset, .unset] [(.int (1 : Int32))])) tgt
        refine XS.ifYes X37.here hx rfl (pc0 := 137) (pc' := 142) rfl (hb hby at_137) rfl ((if0 _ _).trans (feq (by decide : ¬ ((1 : Int32) = (0 : Int32)))).2) (by decide) (by decide) ?_
        show Steps p.tables e below (T37.setTop (mkF m 142 #[.val (.int b0), .val (.int b1), .val (.int b2), .val (.int b3), .val (.int sp), .val (.int (2 : Int32)), .val (.int av), .val (.ref ca), .val (.int rr), .val (.int (1 : Int32)), .unset, .unset] [])) tgt
        refine XS.aload X37.here hx rfl (hb hby at_142) rfl rfl ?_
        show Steps p.tables e below (T37.setTop (mkF m 144 #[.val (.int b0), .val (.int b1), .val (.int b2), .val (.int b3), .val (.int sp), .val (.int (2 : Int32)), .val (.int av), .val (.ref ca), .val (.int rr), .val (.int (1 : Int32)), .unset, .unset] [(.ref ca)])) tgt
        refine XS.iload X37.here hx rfl (hb hby at_144) rfl ?_
        show Steps p.tables e below (T37.setTop (mkF m 146 #[.val (.int b0), .val (.int b1), .val (.int b2), .val (.int b3), .val (.int sp), .val (.int (2 : Int32)), .val (.int av), .val (.ref ca), .val (.int rr), .val (.int (1 : Int32)), .unset, .unset] [(.int av), (.ref ca)])) tgt
        refine XS.iload X37.here hx rfl (hb hby at_146) rfl ?_
        show Steps p.tables e below (T37.setTop (mkF m 148 #[.val (.int b0), .val (.int b1), .val (.int b2), .val (.int b3), .val (.int sp), .val (.int (2 : Int32)), .val (.int av), .val (.ref ca), .val (.int rr), .val (.int (1 : Int32)), .unset, .unset] [(.int rr), (.int av), (.ref ca)])) tgt
        refine XS.iconst X37.here hx rfl (hb hby at_148) ?_
        exact k
      obtain ⟨_, _, ⟨T38, L38, k38, n38⟩, -, X38, ⟨Lc38, hQ38, l38, y38, z38⟩, st38⟩ := Jvm.LawKit.callS X37 hx (y := (⟨"com/example/tidewatch/tidewatch/io/DecimalSkipDigitsPinLaw", "digitOrOutside", "([BIII)Z"⟩ : MethodName)) hown (mvT hZ (hw _ (List.mem_of_getElem? (i := 5) rfl))) (mvT hZ (hw _ (List.mem_of_getElem? (i := 6) rfl))) (mvT hZ (hw _ (List.mem_of_getElem? (i := 7) rfl))) (mvT hZ (hw _ (List.mem_of_getElem? (i := 8) rfl))) (by decide) (backOf (W := 0) (rm2 l Z a0 hw [] ca av rr (0 : Int32) 2 (own_up (own_up (fun _ => 0) 0 ((b0 + (48 : Int32)).toInt8.toInt32).toInt8.toInt32) 1 ((b1 + (48 : Int32)).toInt8.toInt32).toInt8.toInt32) 0 h36 n0 Zs36 A_ca_36 (by decide) (own_i2 R2 (by decide))) hZ (hw _ (List.mem_of_getElem? (i := 8) rfl)) (hw _ (List.mem_of_getElem? (i := 7) rfl)) (by decide) (by decide)) (g := (mkF m 149 #[.val (.int b0), .val (.int b1), .val (.int b2), .val (.int b3), .val (.int sp), .val (.int (2 : Int32)), .val (.int av), .val (.ref ca), .val (.int rr), .val (.int (1 : Int32)), .unset, .unset] [(.int (0 : Int32)), (.int rr), (.int av), (.ref ca)])) rfl (by rw [hml]; rfl) (argsL := [(.ref ca), (.int av), (.int rr), (.int (0 : Int32))]) (rest := []) (lenOf pd_0_1 rfl) rfl (by show 2 * 0 + _ ≤ _; exact Nat.le_of_eq rfl) (hb hby at_149) (fun _ _ => ⟨rfl, K37, (by decide : 1 + 0 ≤ _), (by decide : 2 + 0 ≤ _)⟩)
      dsimp only [Pt.U, Pt.locs, Pt.cells, Pt.slots] at X38 l38 y38 z38 st38 hQ38
      subst l38 y38 z38
      obtain ⟨rfl, N38q, K38⟩ := hQ38
      have N38 := Fr.app N37 N38q
      refine own_st st38 ?_
      show own_Go p e below _ (T38.setTop (mkF m 152 #[.val (.int b0), .val (.int b1), .val (.int b2), .val (.int b3), .val (.int sp), .val (.int (2 : Int32)), .val (.int av), .val (.ref ca), .val (.int rr), .val (.int (1 : Int32)), .unset, .unset] [(.int (own_doo (own_up (own_up (fun _ => 0) 0 ((b0 + (48 : Int32)).toInt8.toInt32).toInt8.toInt32) 1 ((b1 + (48 : Int32)).toInt8.toInt32).toInt8.toInt32) av rr (0 : Int32) 0))]))
      refine own_st (V := T38.setTop (mkF m 162 #[.val (.int b0), .val (.int b1), .val (.int b2), .val (.int b3), .val (.int sp), .val (.int (2 : Int32)), .val (.int av), .val (.ref ca), .val (.int rr), .val (.int (1 : Int32)), .unset, .unset] [(.int (1 : Int32)), (.int rr), (.int av), (.ref ca)])) (fun tgt k => ?_) ?_
      · show Steps p.tables e below (T38.setTop (mkF m 152 #[.val (.int b0), .val (.int b1), .val (.int b2), .val (.int b3), .val (.int sp), .val (.int (2 : Int32)), .val (.int av), .val (.ref ca), .val (.int rr), .val (.int (1 : Int32)), .unset, .unset] [(.int (own_doo (own_up (own_up (fun _ => 0) 0 ((b0 + (48 : Int32)).toInt8.toInt32).toInt8.toInt32) 1 ((b1 + (48 : Int32)).toInt8.toInt32).toInt8.toInt32) av rr (0 : Int32) 0))])) tgt
        refine XS.ifNo X38.here hx rfl (hb hby at_152) rfl ((if0 _ _).trans (feq (own_doo1 R2 (by decide))).1) ?_
        show Steps p.tables e below (T38.setTop (mkF m 155 #[.val (.int b0), .val (.int b1), .val (.int b2), .val (.int b3), .val (.int sp), .val (.int (2 : Int32)), .val (.int av), .val (.ref ca), .val (.int rr), .val (.int (1 : Int32)), .unset, .unset] [])) tgt
        refine XS.aload X38.here hx rfl (hb hby at_155) rfl rfl ?_
        show Steps p.tables e below (T38.setTop (mkF m 157 #[.val (.int b0), .val (.int b1), .val (.int b2), .val (.int b3), .val (.int sp), .val (.int (2 : Int32)), .val (.int av), .val (.ref ca), .val (.int rr), .val (.int (1 : Int32)), .unset, .unset] [(.ref ca)])) tgt
        refine XS.iload X38.here hx rfl (hb hby at_157) rfl ?_
        show Steps p.tables e below (T38.setTop (mkF m 159 #[.val (.int b0), .val (.int b1), .val (.int b2), .val (.int b3), .val (.int sp), .val (.int (2 : Int32)), .val (.int av), .val (.ref ca), .val (.int rr), .val (.int (1 : Int32)), .unset, .unset] [(.int av), (.ref ca)])) tgt
        refine XS.iload X38.here hx rfl (hb hby at_159) rfl ?_
        show Steps p.tables e below (T38.setTop (mkF m 161 #[.val (.int b0), .val (.int b1), .val (.int b2), .val (.int b3), .val (.int sp), .val (.int (2 : Int32)), .val (.int av), .val (.ref ca), .val (.int rr), .val (.int (1 : Int32)), .unset, .unset] [(.int rr), (.int av), (.ref ca)])) tgt
        refine XS.iconst X38.here hx rfl (hb hby at_161) ?_
        exact k
      obtain ⟨_, _, ⟨T39, L39, k39, n39⟩, -, X39, ⟨Lc39, hQ39, l39, y39, z39⟩, st39⟩ := Jvm.LawKit.callS X38 hx (y := (⟨"com/example/tidewatch/tidewatch/io/DecimalSkipDigitsPinLaw", "digitOrOutside", "([BIII)Z"⟩ : MethodName)) hown (mvT hZ (hw _ (List.mem_of_getElem? (i := 5) rfl))) (mvT hZ (hw _ (List.mem_of_getElem? (i := 6) rfl))) (mvT hZ (hw _ (List.mem_of_getElem? (i := 7) rfl))) (mvT hZ (hw _ (List.mem_of_getElem? (i := 8) rfl))) (by decide) (backOf (W := 0) (rm2 l Z a0 hw [] ca av rr (1 : Int32) 2 (own_up (own_up (fun _ => 0) 0 ((b0 + (48 : Int32)).toInt8.toInt32).toInt8.toInt32) 1 ((b1 + (48 : Int32)).toInt8.toInt32).toInt8.toInt32) 1 h36 n0 Zs36 A_ca_36 (by decide) (own_i2 R2 (by decide))) hZ (hw _ (List.mem_of_getElem? (i := 8) rfl)) (hw _ (List.mem_of_getElem? (i := 7) rfl)) (by decide) (by decide)) (g := (mkF m 162 #[.val (.int b0), .val (.int b1), .val (.int b2), .val (.int b3), .val (.int sp), .val (.int (2 : Int32)), .val (.int av), .val (.ref ca), .val (.int rr), .val (.int (1 : Int32)), .unset, .unset] [(.int (1 : Int32)), (.int rr), (.int av), (.ref ca)])) rfl (by rw [hml]; rfl) (argsL := [(.ref ca), (.int av), (.int rr), (.int (1 : Int32))]) (rest := []) (lenOf pd_0_1 rfl) rfl (by show 2 * 0 + _ ≤ _; exact Nat.le_of_eq rfl) (hb hby at_162) (fun _ _ => ⟨rfl, K38, (by decide : 1 + 0 ≤ _), (by decide : 2 + 0 ≤ _)⟩)
      dsimp only [Pt.U, Pt.locs, Pt.cells, Pt.slots] at X39 l39 y39 z39 st39 hQ39
      subst l39 y39 z39
      obtain ⟨rfl, N39q, K39⟩ := hQ39
      have N39 := Fr.app N38 N39q
      refine own_st st39 ?_
      show own_Go p e below _ (T39.setTop (mkF m 165 #[.val (.int b0), .val (.int b1), .val (.int b2), .val (.int b3), .val (.int sp), .val (.int (2 : Int32)), .val (.int av), .val (.ref ca), .val (.int rr), .val (.int (1 : Int32)), .unset, .unset] [(.int (own_doo (own_up (own_up (fun _ => 0) 0 ((b0 + (48 : Int32)).toInt8.toInt32).toInt8.toInt32) 1 ((b1 + (48 : Int32)).toInt8.toInt32).toInt8.toInt32) av rr (1 : Int32) 1))]))
      refine own_st (V := T39.setTop (mkF m 175 #[.val (.int b0), .val (.int b1), .val (.int b2), .val (.int b3), .val (.int sp), .val (.int (2 : Int32)), .val (.int av), .val (.ref ca), .val (.int rr), .val (.int (1 : Int32)), .unset, .unset] [(.int (2 : Int32)), (.int rr), (.int av), (.ref ca)])) (fun tgt k => ?_) ?_
      · show Steps p.tables e below (T39.setTop (mkF m 165 #[.val (.int b0), .val (.int b1), .val (.int b2), .val (.int b3), .val (.int sp), .val (.int (2 : Int32)), .val (.int av), .val (.ref ca), .val (.int rr), .val (.int (1 : Int32)), .unset, .unset] [(.int (own_doo (own_up (own_up (fun _ => 0) 0 ((b0 + (48 : Int32)).toInt8.toInt32).toInt8.toInt32) 1 ((b1 + (48 : Int32)).toInt8.toInt32).toInt8.toInt32) av rr (1 : Int32) 1))])) tgt
        refine XS.ifNo X39.here hx rfl (hb hby at_165) rfl ((if0 _ _).trans (feq (own_doo1 R2 (by decide))).1) ?_
        show Steps p.tables e below (T39.setTop (mkF m 168 #[.val (.int b0), .val (.int b1), .val (.int b2), .val (.int b3), .val (.int sp), .val (.int (2 : Int32)), .val (.int av), .val (.ref ca), .val (.int rr), .val (.int (1 : Int32)), .unset, .unset] [])) tgt
        refine XS.aload X39.here hx rfl (hb hby at_168) rfl rfl ?_
        show Steps p.tables e below (T39.setTop (mkF m 170 #[.val (.int b0), .val (.int b1), .val (.int b2), .val (.int b3), .val (.int sp), .val (.int (2 : Int32)), .val (.int av), .val (.ref ca), .val (.int rr), .val (.int (1 : Int32)), .unset, .unset] [(.ref ca)])) tgt
        refine XS.iload X39.here hx rfl (hb hby at_170) rfl ?_
        show Steps p.tables e below (T39.setTop (mkF m 172 #[.val (.int b0), .val (.int b1), .val (.int b2), .val (.int b3), .val (.int sp), .val (.int (2 : Int32)), .val (.int av), .val (.ref ca), .val (.int rr), .val (.int (1 : Int32)), .unset, .unset] [(.int av), (.ref ca)])) tgt
        refine XS.iload X39.here hx rfl (hb hby at_172) rfl ?_
        show Steps p.tables e below (T39.setTop (mkF m 174 #[.val (.int b0), .val (.int b1), .val (.int b2), .val (.int b3), .val (.int sp), .val (.int (2 : Int32)), .val (.int av), .val (.ref ca), .val (.int rr), .val (.int (1 : Int32)), .unset, .unset] [(.int rr), (.int av), (.ref ca)])) tgt
        refine XS.iconst X39.here hx rfl (hb hby at_174) ?_
        exact k
      obtain ⟨_, _, ⟨T40, L40, k40, n40⟩, -, X40, ⟨Lc40, hQ40, l40, y40, z40⟩, st40⟩ := Jvm.LawKit.callS X39 hx (y := (⟨"com/example/tidewatch/tidewatch/io/DecimalSkipDigitsPinLaw", "digitOrOutside", "([BIII)Z"⟩ : MethodName)) hown (mvT hZ (hw _ (List.mem_of_getElem? (i := 5) rfl))) (mvT hZ (hw _ (List.mem_of_getElem? (i := 6) rfl))) (mvT hZ (hw _ (List.mem_of_getElem? (i := 7) rfl))) (mvT hZ (hw _ (List.mem_of_getElem? (i := 8) rfl))) (by decide) (backOf (W := 0) (rm2 l Z a0 hw [] ca av rr (2 : Int32) 2 (own_up (own_up (fun _ => 0) 0 ((b0 + (48 : Int32)).toInt8.toInt32).toInt8.toInt32) 1 ((b1 + (48 : Int32)).toInt8.toInt32).toInt8.toInt32) 2 h36 n0 Zs36 A_ca_36 (by decide) (own_i2 R2 (by decide))) hZ (hw _ (List.mem_of_getElem? (i := 8) rfl)) (hw _ (List.mem_of_getElem? (i := 7) rfl)) (by decide) (by decide)) (g := (mkF m 175 #[.val (.int b0), .val (.int b1), .val (.int b2), .val (.int b3), .val (.int sp), .val (.int (2 : Int32)), .val (.int av), .val (.ref ca), .val (.int rr), .val (.int (1 : Int32)), .unset, .unset] [(.int (2 : Int32)), (.int rr), (.int av), (.ref ca)])) rfl (by rw [hml]; rfl) (argsL := [(.ref ca), (.int av), (.int rr), (.int (2 : Int32))]) (rest := []) (lenOf pd_0_1 rfl) rfl (by show 2 * 0 + _ ≤ _; exact Nat.le_of_eq rfl) (hb hby at_175) (fun _ _ => ⟨rfl, K39, (by decide : 1 + 0 ≤ _), (by decide : 2 + 0 ≤ _)⟩)
      dsimp only [Pt.U, Pt.locs, Pt.cells, Pt.slots] at X40 l40 y40 z40 st40 hQ40
      subst l40 y40 z40
      obtain ⟨rfl, N40q, K40⟩ := hQ40
      have N40 := Fr.app N39 N40q
      refine own_st st40 ?_
      show own_Go p e below _ (T40.setTop (mkF m 178 #[.val (.int b0), .val (.int b1), .val (.int b2), .val (.int b3), .val (.int sp), .val (.int (2 : Int32)), .val (.int av), .val (.ref ca), .val (.int rr), .val (.int (1 : Int32)), .unset, .unset] [(.int (own_doo (own_up (own_up (fun _ => 0) 0 ((b0 + (48 : Int32)).toInt8.toInt32).toInt8.toInt32) 1 ((b1 + (48 : Int32)).toInt8.toInt32).toInt8.toInt32) av rr (2 : Int32) 2))]))
      refine own_st (V := T40.setTop (mkF m 188 #[.val (.int b0), .val (.int b1), .val (.int b2), .val (.int b3), .val (.int sp), .val (.int (2 : Int32)), .val (.int av), .val (.ref ca), .val (.int rr), .val (.int (1 : Int32)), .unset, .unset] [(.int (3 : Int32)), (.int rr), (.int av), (.ref ca)])) (fun tgt k => ?_) ?_
      · show Steps p.tables e below (T40.setTop (mkF m 178 #[.val (.int b0), .val (.int b1), .val (.int b2), .val (.int b3), .val (.int sp), .val (.int (2 : Int32)), .val (.int av), .val (.ref ca), .val (.int rr), .val (.int (1 : Int32)), .unset, .unset] [(.int (own_doo (own_up (own_up (fun _ => 0) 0 ((b0 + (48 : Int32)).toInt8.toInt32).toInt8.toInt32) 1 ((b1 + (48 : Int32)).toInt8.toInt32).toInt8.toInt32) av rr (2 : Int32) 2))])) tgt
        refine XS.ifNo X40.here hx rfl (hb hby at_178) rfl ((if0 _ _).trans (feq (own_doo1 R2 (by decide))).1) ?_
        show Steps p.tables e below (T40.setTop (mkF m 181 #[.val (.int b0), .val (.int b1), .val (.int b2), .val (.int b3), .val (.int sp), .val (.int (2 : Int32)), .val (.int av), .val (.ref ca), .val (.int rr), .val (.int (1 : Int32)), .unset, .unset] [])) tgt
        refine XS.aload X40.here hx rfl (hb hby at_181) rfl rfl ?_
        show Steps p.tables e below (T40.setTop (mkF m 183 #[.val (.int b0), .val (.int b1), .val (.int b2), .val (.int b3), .val (.int sp), .val (.int (2 : Int32)), .val (.int av), .val (.ref ca), .val (.int rr), .val (.int (1 : Int32)), .unset, .unset] [(.ref ca)])) tgt
        refine XS.iload X40.here hx rfl (hb hby at_183) rfl ?_
        show Steps p.tables e below (T40.setTop (mkF m 185 #[.val (.int b0), .val (.int b1), .val (.int b2), .val (.int b3), .val (.int sp), .val (.int (2 : Int32)), .val (.int av), .val (.ref ca), .val (.int rr), .val (.int (1 : Int32)), .unset, .unset] [(.int av), (.ref ca)])) tgt
        refine XS.iload X40.here hx rfl (hb hby at_185) rfl ?_
        show Steps p.tables e below (T40.setTop (mkF m 187 #[.val (.int b0), .val (.int b1), .val (.int b2), .val (.int b3), .val (.int sp), .val (.int (2 : Int32)), .val (.int av), .val (.ref ca), .val (.int rr), .val (.int (1 : Int32)), .unset, .unset] [(.int rr), (.int av), (.ref ca)])) tgt
        refine XS.iconst X40.here hx rfl (hb hby at_187) ?_
        exact k
      obtain ⟨_, _, ⟨T41, L41, k41, n41⟩, -, X41, ⟨Lc41, hQ41, l41, y41, z41⟩, st41⟩ := Jvm.LawKit.callS X40 hx (y := (⟨"com/example/tidewatch/tidewatch/io/DecimalSkipDigitsPinLaw", "digitOrOutside", "([BIII)Z"⟩ : MethodName)) hown (mvT hZ (hw _ (List.mem_of_getElem? (i := 5) rfl))) (mvT hZ (hw _ (List.mem_of_getElem? (i := 6) rfl))) (mvT hZ (hw _ (List.mem_of_getElem? (i := 7) rfl))) (mvT hZ (hw _ (List.mem_of_getElem? (i := 8) rfl))) (by decide) (backOf (W := 0) (rm2 l Z a0 hw [] ca av rr (3 : Int32) 2 (own_up (own_up (fun _ => 0) 0 ((b0 + (48 : Int32)).toInt8.toInt32).toInt8.toInt32) 1 ((b1 + (48 : Int32)).toInt8.toInt32).toInt8.toInt32) 3 h36 n0 Zs36 A_ca_36 (by decide) (own_i2 R2 (by decide))) hZ (hw _ (List.mem_of_getElem? (i := 8) rfl)) (hw _ (List.mem_of_getElem? (i := 7) rfl)) (by decide) (by decide)) (g := (mkF m 188 #[.val (.int b0), .val (.int b1), .val (.int b2), .val (.int b3), .val (.int sp), .val (.int (2 : Int32)), .val (.int av), .val (.ref ca), .val (.int rr), .val (.int (1 : Int32)), .unset, .unset] [(.int (3 : Int32)), (.int rr), (.int av), (.ref ca)])) rfl (by rw [hml]; rfl) (argsL := [(.ref ca), (.int av), (.int rr), (.int (3 : Int32))]) (rest := []) (lenOf pd_0_1 rfl) rfl (by show 2 * 0 + _ ≤ _; exact Nat.le_of_eq rfl) (hb hby at_188) (fun _ _ => ⟨rfl, K40, (by decide : 1 + 0 ≤ _), (by decide : 2 + 0 ≤ _)⟩)
      dsimp only [Pt.U, Pt.locs, Pt.cells, Pt.slots] at X41 l41 y41 z41 st41 hQ41
      subst l41 y41 z41
      obtain ⟨rfl, N41q, K41⟩ := hQ41
      have N41 := Fr.app N40 N41q
      refine own_st st41 ?_
      show own_Go p e below _ (T41.setTop (mkF m 191 #[.val (.int b0), .val (.int b1), .val (.int b2), .val (.int b3), .val (.int sp), .val (.int (2 : Int32)), .val (.int av), .val (.ref ca), .val (.int rr), .val (.int (1 : Int32)), .unset, .unset] [(.int (own_doo (own_up (own_up (fun _ => 0) 0 ((b0 + (48 : Int32)).toInt8.toInt32).toInt8.toInt32) 1 ((b1 + (48 : Int32)).toInt8.toInt32).toInt8.toInt32) av rr (3 : Int32) 3))]))
      refine own_st (V := T41.setTop (mkF m 205 #[.val (.int b0), .val (.int b1), .val (.int b2), .val (.int b3), .val (.int sp), .val (.int (2 : Int32)), .val (.int av), .val (.ref ca), .val (.int rr), .val (.int (1 : Int32)), .val (.int (1 : Int32)), .unset] [(.int (2 : Int32)), (.int rr)])) (fun tgt k => ?_) ?_
      · show Steps p.tables e below (T41.setTop (mkF m 191 #[.val (.int b0), .val (.int b1), .val (.int b2), .val (.int b3), .val (.int sp), .val (.int (2 : Int32)), .val (.int av), .val (.ref ca), .val (.int rr), .val (.int (1 : Int32)), .unset, .unset] [(.int (own_doo (own_up (own_up (fun _ => 0) 0 ((b0 + (48 : Int32)).toInt8.toInt32).toInt8.toInt32) 1 ((b1 + (48 : Int32)).toInt8.toInt32).toInt8.toInt32) av rr (3 : Int32) 3))])) tgt
        refine XS.ifNo X41.here hx rfl (hb hby at_191) rfl ((if0 _ _).trans (feq (own_doo1 R2 (by decide))).1) ?_
        show Steps p.tables e below (T41.setTop (mkF m 194 #[.val (.int b0), .val (.int b1), .val (.int b2), .val (.int b3), .val (.int sp), .val (.int (2 : Int32)), .val (.int av), .val (.ref ca), .val (.int rr), .val (.int (1 : Int32)), .unset, .unset] [])) tgt
        refine XS.iconst X41.here hx rfl (hb hby at_194) ?_
        show Steps p.tables e below (T41.setTop (mkF m 195 #[.val (.int b0), .val (.int b1), .val (.int b2), .val (.int b3), .val (.int sp), .val (.int (2 : Int32)), .val (.int av), .val (.ref ca), .val (.int rr), .val (.int (1 : Int32)), .unset, .unset] [(.int (1 : Int32))])) tgt
        refine XS.goto X41.here hx rfl (pc0 := 195) (pc' := 199) rfl (hb hby at_195) (by decide) (by decide) ?_
        show Steps p.tables e below (T41.setTop (mkF m 199 #[.val (.int b0), .val (.int b1), .val (.int b2), .val (.int b3), .val (.int sp), .val (.int (2 : Int32)), .val (.int av), .val (.ref ca), .val (.int rr), .val (.int (1 : Int32)), .unset, .unset] [(.int (1 : Int32))])) tgt
        refine XS.istore X41.here hx rfl (hb hby at_199) rfl (l' := #[.val (.int b0), .val (.int b1), .val (.int b2), .val (.int b3), .val (.int sp), .val (.int (2 : Int32)), .val (.int av), .val (.ref ca), .val (.int rr), .val (.int (1 : Int32)), .val (.int (1 : Int32)), .unset]) rfl ?_
        show Steps p.tables e below (T41.setTop (mkF m 201 #[.val (.int b0), .val (.int b1), .val (.int b2), .val (.int b3), .val (.int sp), .val (.int (2 : Int32)), .val (.int av), .val (.ref ca), .val (.int rr), .val (.int (1 : Int32)), .val (.int (1 : Int32)), .unset] [])) tgt
        refine XS.iload X41.here hx rfl (hb hby at_201) rfl ?_
        show Steps p.tables e below (T41.setTop (mkF m 203 #[.val (.int b0), .val (.int b1), .val (.int b2), .val (.int b3), .val (.int sp), .val (.int (2 : Int32)), .val (.int av), .val (.ref ca), .val (.int rr), .val (.int (1 : Int32)), .val (.int (1 : Int32)), .unset] [(.int rr)])) tgt
        refine XS.iload X41.here hx rfl (hb hby at_203) rfl ?_
        exact k
      by_cases hc205 : rr < (2 : Int32)
      · skip
        refine own_st (V := T41.setTop (mkF m 213 #[.val (.int b0), .val (.int b1), .val (.int b2), .val (.int b3), .val (.int sp), .val (.int (2 : Int32)), .val (.int av), .val (.ref ca), .val (.int rr), .val (.int (1 : Int32)), .val (.int (1 : Int32)), .unset] [(.int ((own_up (own_up (fun _ => 0) 0 ((b0 + (48 : Int32)).toInt8.toInt32).toInt8.toInt32) 1 ((b1 + (48 : Int32)).toInt8.toInt32).toInt8.toInt32) rr.toInt.toNat))])) (fun tgt k => ?_) ?_
        · show Steps p.tables e below (T41.setTop (mkF m 205 #[.val (.int b0), .val (.int b1), .val (.int b2), .val (.int b3), .val (.int sp), .val (.int (2 : Int32)), .val (.int av), .val (.ref ca), .val (.int rr), .val (.int (1 : Int32)), .val (.int (1 : Int32)), .unset] [(.int (2 : Int32)), (.int rr)])) tgt
          refine XS.icmpNo X41.here hx rfl (hb hby at_205) rfl (tlt hc205).2.1 ?_
          show Steps p.tables e below (T41.setTop (mkF m 208 #[.val (.int b0), .val (.int b1), .val (.int b2), .val (.int b3), .val (.int sp), .val (.int (2 : Int32)), .val (.int av), .val (.ref ca), .val (.int rr), .val (.int (1 : Int32)), .val (.int (1 : Int32)), .unset] [])) tgt
          refine XS.aload X41.here hx rfl (hb hby at_208) rfl rfl ?_
          show Steps p.tables e below (T41.setTop (mkF m 210 #[.val (.int b0), .val (.int b1), .val (.int b2), .val (.int b3), .val (.int sp), .val (.int (2 : Int32)), .val (.int av), .val (.ref ca), .val (.int rr), .val (.int (1 : Int32)), .val (.int (1 : Int32)), .unset] [(.ref ca)])) tgt
          refine XS.iload X41.here hx rfl (hb hby at_210) rfl ?_
          show Steps p.tables e below (T41.setTop (mkF m 212 #[.val (.int b0), .val (.int b1), .val (.int b2), .val (.int b3), .val (.int sp), .val (.int (2 : Int32)), .val (.int av), .val (.ref ca), .val (.int rr), .val (.int (1 : Int32)), .val (.int (1 : Int32)), .unset] [(.int rr), (.ref ca)])) tgt
          refine own_baload X41 hx hZ K41 A_ca_36 (j := rr) (k := rr.toInt.toNat) (by omega) (by have := own_ilt.mp hc205; rw [show (2 : Int32).toInt = 2 from rfl] at this; omega) (g := (mkF m 212 #[.val (.int b0), .val (.int b1), .val (.int b2), .val (.int b3), .val (.int sp), .val (.int (2 : Int32)), .val (.int av), .val (.ref ca), .val (.int rr), .val (.int (1 : Int32)), .val (.int (1 : Int32)), .unset] [(.int rr), (.ref ca)])) rfl rfl (hb hby at_212) ?_
          exact k
        obtain ⟨_, _, ⟨T42, L42, k42, n42⟩, -, X42, ⟨Lc42, hQ42, l42, y42, z42⟩, st42⟩ := Jvm.LawKit.callS X41 hx (y := (⟨"com/example/tidewatch/tidewatch/io/DecimalSkipDigitsPinLaw", "isDigit", "(B)Z"⟩ : MethodName)) hown (mvT hZ (hw _ (List.mem_of_getElem? (i := 9) rfl))) (mvT hZ (hw _ (List.mem_of_getElem? (i := 10) rfl))) (mvT hZ (hw _ (List.mem_of_getElem? (i := 7) rfl))) (mvT hZ (hw _ (List.mem_of_getElem? (i := 11) rfl))) (by decide) (backOf (W := 0) (rm3 l Z a0 hw [] ((own_up (own_up (fun _ => 0) 0 ((b0 + (48 : Int32)).toInt8.toInt32).toInt8.toInt32) 1 ((b1 + (48 : Int32)).toInt8.toInt32).toInt8.toInt32) rr.toInt.toNat) h36 n0 Zs36 ) hZ (hw _ (List.mem_of_getElem? (i := 11) rfl)) (hw _ (List.mem_of_getElem? (i := 7) rfl)) (by decide) (by decide)) (g := (mkF m 213 #[.val (.int b0), .val (.int b1), .val (.int b2), .val (.int b3), .val (.int sp), .val (.int (2 : Int32)), .val (.int av), .val (.ref ca), .val (.int rr), .val (.int (1 : Int32)), .val (.int (1 : Int32)), .unset] [(.int ((own_up (own_up (fun _ => 0) 0 ((b0 + (48 : Int32)).toInt8.toInt32).toInt8.toInt32) 1 ((b1 + (48 : Int32)).toInt8.toInt32).toInt8.toInt32) rr.toInt.toNat))])) rfl (by rw [hml]; rfl) (argsL := [(.int ((own_up (own_up (fun _ => 0) 0 ((b0 + (48 : Int32)).toInt8.toInt32).toInt8.toInt32) 1 ((b1 + (48 : Int32)).toInt8.toInt32).toInt8.toInt32) rr.toInt.toNat))]) (rest := []) (lenOf pd_0_2 rfl) rfl (by show 2 * 0 + _ ≤ _; exact Nat.le_of_eq rfl) (hb hby at_213) (fun _ _ => ⟨rfl, K41, (by decide : 1 + 0 ≤ _), (by decide : 2 + 0 ≤ _)⟩)
        dsimp only [Pt.U, Pt.locs, Pt.cells, Pt.slots] at X42 l42 y42 z42 st42 hQ42
        subst l42 y42 z42
        obtain ⟨rfl, N42q, K42⟩ := hQ42
        have N42 := Fr.app N41 N42q
        refine own_st st42 ?_
        show own_Go p e below _ (T42.setTop (mkF m 216 #[.val (.int b0), .val (.int b1), .val (.int b2), .val (.int b3), .val (.int sp), .val (.int (2 : Int32)), .val (.int av), .val (.ref ca), .val (.int rr), .val (.int (1 : Int32)), .val (.int (1 : Int32)), .unset] [(.int (own_isd ((own_up (own_up (fun _ => 0) 0 ((b0 + (48 : Int32)).toInt8.toInt32).toInt8.toInt32) 1 ((b1 + (48 : Int32)).toInt8.toInt32).toInt8.toInt32) rr.toInt.toNat)))]))
        refine own_st (V := T42.setTop (mkF m 241 #[.val (.int b0), .val (.int b1), .val (.int b2), .val (.int b3), .val (.int sp), .val (.int (2 : Int32)), .val (.int av), .val (.ref ca), .val (.int rr), .val (.int (1 : Int32)), .val (.int (1 : Int32)), .val (.int (1 : Int32))] [(.int (1 : Int32))])) (fun tgt k => ?_) ?_
        · show Steps p.tables e below (T42.setTop (mkF m 216 #[.val (.int b0), .val (.int b1), .val (.int b2), .val (.int b3), .val (.int sp), .val (.int (2 : Int32)), .val (.int av), .val (.ref ca), .val (.int rr), .val (.int (1 : Int32)), .val (.int (1 : Int32)), .unset] [(.int (own_isd ((own_up (own_up (fun _ => 0) 0 ((b0 + (48 : Int32)).toInt8.toInt32).toInt8.toInt32) 1 ((b1 + (48 : Int32)).toInt8.toInt32).toInt8.toInt32) rr.toInt.toNat)))])) tgt
          refine XS.ifNo X42.here hx rfl (hb hby at_216) rfl ((if0 _ _).trans (teq ((own_isd1 _).2 (fun z => R3 ⟨by have := own_ilt.mp hc205; rw [show (2 : Int32).toInt = 2 from rfl] at this; omega, z⟩))).2) ?_
          show Steps p.tables e below (T42.setTop (mkF m 219 #[.val (.int b0), .val (.int b1), .val (.int b2), .val (.int b3), .val (.int sp), .val (.int (2 : Int32)), .val (.int av), .val (.ref ca), .val (.int rr), .val (.int (1 : Int32)), .val (.int (1 : Int32)), .unset] [])) tgt
          refine XS.iconst X42.here hx rfl (hb hby at_219) ?_
          show Steps p.tables e below (T42.setTop (mkF m 220 #[.val (.int b0), .val (.int b1), .val (.int b2), .val (.int b3), .val (.int sp), .val (.int (2 : Int32)), .val (.int av), .val (.ref ca), .val (.int rr), .val (.int (1 : Int32)), .val (.int (1 : Int32)), .unset] [(.int (1 : Int32))])) tgt
          refine XS.goto X42.here hx rfl (pc0 := 220) (pc' := 224) rfl (hb hby at_220) (by decide) (by decide) ?_
          show Steps p.tables e below (T42.setTop (mkF m 224 #[.val (.int b0), .val (.int b1), .val (.int b2), .val (.int b3), .val (.int sp), .val (.int (2 : Int32)), .val (.int av), .val (.ref ca), .val (.int rr), .val (.int (1 : Int32)), .val (.int (1 : Int32)), .unset] [(.int (1 : Int32))])) tgt
          refine XS.istore X42.here hx rfl (hb hby at_224) rfl (l' := #[.val (.int b0), .val (.int b1), .val (.int b2), .val (.int b3), .val (.int sp), .val (.int (2 : Int32)), .val (.int av), .val (.ref ca), .val (.int rr), .val (.int (1 : Int32)), .val (.int (1 : Int32)), .val (.int (1 : Int32))]) rfl ?_
          show Steps p.tables e below (T42.setTop (mkF m 226 #[.val (.int b0), .val (.int b1), .val (.int b2), .val (.int b3), .val (.int sp), .val (.int (2 : Int32)), .val (.int av), .val (.ref ca), .val (.int rr), .val (.int (1 : Int32)), .val (.int (1 : Int32)), .val (.int (1 : Int32))] [])) tgt
          refine XS.iload X42.here hx rfl (hb hby at_226) rfl ?_
          show Steps p.tables e below (T42.setTop (mkF m 228 #[.val (.int b0), .val (.int b1), .val (.int b2), .val (.int b3), .val (.int sp), .val (.int (2 : Int32)), .val (.int av), .val (.ref ca), .val (.int rr), .val (.int (1 : Int32)), .val (.int (1 : Int32)), .val (.int (1 : Int32))] [(.int (1 : Int32))])) tgt
          refine XS.ifNo X42.here hx rfl (hb hby at_228) rfl ((if0 _ _).trans (feq (by decide : ¬ ((1 : Int32) = (0 : Int32)))).1) ?_
          show Steps p.tables e below (T42.setTop (mkF m 231 #[.val (.int b0), .val (.int b1), .val (.int b2), .val (.int b3), .val (.int sp), .val (.int (2 : Int32)), .val (.int av), .val (.ref ca), .val (.int rr), .val (.int (1 : Int32)), .val (.int (1 : Int32)), .val (.int (1 : Int32))] [])) tgt
          refine XS.iload X42.here hx rfl (hb hby at_231) rfl ?_
          show Steps p.tables e below (T42.setTop (mkF m 233 #[.val (.int b0), .val (.int b1), .val (.int b2), .val (.int b3), .val (.int sp), .val (.int (2 : Int32)), .val (.int av), .val (.ref ca), .val (.int rr), .val (.int (1 : Int32)), .val (.int (1 : Int32)), .val (.int (1 : Int32))] [(.int (1 : Int32))])) tgt
          refine XS.ifNo X42.here hx rfl (hb hby at_233) rfl ((if0 _ _).trans (feq (by decide : ¬ ((1 : Int32) = (0 : Int32)))).1) ?_
          show Steps p.tables e below (T42.setTop (mkF m 236 #[.val (.int b0), .val (.int b1), .val (.int b2), .val (.int b3), .val (.int sp), .val (.int (2 : Int32)), .val (.int av), .val (.ref ca), .val (.int rr), .val (.int (1 : Int32)), .val (.int (1 : Int32)), .val (.int (1 : Int32))] [])) tgt
          refine XS.iconst X42.here hx rfl (hb hby at_236) ?_
          show Steps p.tables e below (T42.setTop (mkF m 237 #[.val (.int b0), .val (.int b1), .val (.int b2), .val (.int b3), .val (.int sp), .val (.int (2 : Int32)), .val (.int av), .val (.ref ca), .val (.int rr), .val (.int (1 : Int32)), .val (.int (1 : Int32)), .val (.int (1 : Int32))] [(.int (1 : Int32))])) tgt
          refine XS.goto X42.here hx rfl (pc0 := 237) (pc' := 241) rfl (hb hby at_237) (by decide) (by decide) ?_
          exact k
        refine own_retN X42 hx hlk (t := .boolean) (z' := (1 : Int32)) Bd.returns (by simp) rfl (hb hby at_241) ?_ (by decide) (by decide)
        show Q0 Z b0 b1 b2 b3 sp h0 n0 (some (.int (1 : Int32))) T42.heap _
        rw [K42]
        exact ⟨rfl, N42⟩
      · skip
        refine own_st (V := T41.setTop (mkF m 241 #[.val (.int b0), .val (.int b1), .val (.int b2), .val (.int b3), .val (.int sp), .val (.int (2 : Int32)), .val (.int av), .val (.ref ca), .val (.int rr), .val (.int (1 : Int32)), .val (.int (1 : Int32)), .val (.int (1 : Int32))] [(.int (1 : Int32))])) (fun tgt k => ?_) ?_
        · show Steps p.tables e below (T41.setTop (mkF m 205 #[.val (.int b0), .val (.int b1), .val (.int b2), .val (.int b3), .val (.int sp), .val (.int (2 : Int32)), .val (.int av), .val (.ref ca), .val (.int rr), .val (.int (1 : Int32)), .val (.int (1 : Int32)), .unset] [(.int (2 : Int32)), (.int rr)])) tgt
          refine XS.icmpYes X41.here hx rfl (pc0 := 205) (pc' := 219) rfl (hb hby at_205) rfl (flt hc205).2.1 (by decide) (by decide) ?_
          show Steps p.tables e below (T41.setTop (mkF m 219 #[.val (.int b0), .val (.int b1), .val (.int b2), .val (.int b3), .val (.int sp), .val (.int (2 : Int32)), .val (.int av), .val (.ref ca), .val (.int rr), .val (.int (1 : Int32)), .val (.int (1 : Int32)), .unset] [])) tgt
          refine XS.iconst X41.here hx rfl (hb hby at_219) ?_
          show Steps p.tables e below (T41.setTop (mkF m 220 #[.val (.int b0), .val (.int b1), .val (.int b2), .val (.int b3), .val (.int sp), .val (.int (2 : Int32)), .val (.int av), .val (.ref ca), .val (.int rr), .val (.int (1 : Int32)), .val (.int (1 : Int32)), .unset] [(.int (1 : Int32))])) tgt
          refine XS.goto X41.here hx rfl (pc0 := 220) (pc' := 224) rfl (hb hby at_220) (by decide) (by decide) ?_
          show Steps p.tables e below (T41.setTop (mkF m 224 #[.val (.int b0), .val (.int b1), .val (.int b2), .val (.int b3), .val (.int sp), .val (.int (2 : Int32)), .val (.int av), .val (.ref ca), .val (.int rr), .val (.int (1 : Int32)), .val (.int (1 : Int32)), .unset] [(.int (1 : Int32))])) tgt
          refine XS.istore X41.here hx rfl (hb hby at_224) rfl (l' := #[.val (.int b0), .val (.int b1), .val (.int b2), .val (.int b3), .val (.int sp), .val (.int (2 : Int32)), .val (.int av), .val (.ref ca), .val (.int rr), .val (.int (1 : Int32)), .val (.int (1 : Int32)), .val (.int (1 : Int32))]) rfl ?_
          show Steps p.tables e below (T41.setTop (mkF m 226 #[.val (.int b0), .val (.int b1), .val (.int b2), .val (.int b3), .val (.int sp), .val (.int (2 : Int32)), .val (.int av), .val (.ref ca), .val (.int rr), .val (.int (1 : Int32)), .val (.int (1 : Int32)), .val (.int (1 : Int32))] [])) tgt
          refine XS.iload X41.here hx rfl (hb hby at_226) rfl ?_
          show Steps p.tables e below (T41.setTop (mkF m 228 #[.val (.int b0), .val (.int b1), .val (.int b2), .val (.int b3), .val (.int sp), .val (.int (2 : Int32)), .val (.int av), .val (.ref ca), .val (.int rr), .val (.int (1 : Int32)), .val (.int (1 : Int32)), .val (.int (1 : Int32))] [(.int (1 : Int32))])) tgt
          refine XS.ifNo X41.here hx rfl (hb hby at_228) rfl ((if0 _ _).trans (feq (by decide : ¬ ((1 : Int32) = (0 : Int32)))).1) ?_
          show Steps p.tables e below (T41.setTop (mkF m 231 #[.val (.int b0), .val (.int b1), .val (.int b2), .val (.int b3), .val (.int sp), .val (.int (2 : Int32)), .val (.int av), .val (.ref ca), .val (.int rr), .val (.int (1 : Int32)), .val (.int (1 : Int32)), .val (.int (1 : Int32))] [])) tgt
          refine XS.iload X41.here hx rfl (hb hby at_231) rfl ?_
          show Steps p.tables e below (T41.setTop (mkF m 233 #[.val (.int b0), .val (.int b1), .val (.int b2), .val (.int b3), .val (.int sp), .val (.int (2 : Int32)), .val (.int av), .val (.ref ca), .val (.int rr), .val (.int (1 : Int32)), .val (.int (1 : Int32)), .val (.int (1 : Int32))] [(.int (1 : Int32))])) tgt
          refine XS.ifNo X41.here hx rfl (hb hby at_233) rfl ((if0 _ _).trans (feq (by decide : ¬ ((1 : Int32) = (0 : Int32)))).1) ?_
          show Steps p.tables e below (T41.setTop (mkF m 236 #[.val (.int b0), .val (.int b1), .val (.int b2), .val (.int b3), .val (.int sp), .val (.int (2 : Int32)), .val (.int av), .val (.ref ca), .val (.int rr), .val (.int (1 : Int32)), .val (.int (1 : Int32)), .val (.int (1 : Int32))] [])) tgt
          refine XS.iconst X41.here hx rfl (hb hby at_236) ?_
          show Steps p.tables e below (T41.setTop (mkF m 237 #[.val (.int b0), .val (.int b1), .val (.int b2), .val (.int b3), .val (.int sp), .val (.int (2 : Int32)), .val (.int av), .val (.ref ca), .val (.int rr), .val (.int (1 : Int32)), .val (.int (1 : Int32)), .val (.int (1 : Int32))] [(.int (1 : Int32))])) tgt
          refine XS.goto X41.here hx rfl (pc0 := 237) (pc' := 241) rfl (hb hby at_237) (by decide) (by decide) ?_
          exact k
        refine own_retN X41 hx hlk (t := .boolean) (z' := (1 : Int32)) Bd.returns (by simp) rfl (hb hby at_241) ?_ (by decide) (by decide)
        show Q0 Z b0 b1 b2 b3 sp h0 n0 (some (.int (1 : Int32))) T41.heap _
        rw [K41]
        exact ⟨rfl, N41⟩
    · skip
      refine own_st (V := T37.setTop (mkF m 149 #[.val (.int b0), .val (.int b1), .val (.int b2), .val (.int b3), .val (.int sp), .val (.int (2 : Int32)), .val (.int av), .val (.ref ca), .val (.int rr), .val (.int (1 : Int32)), .unset, .unset] [(.int (0 : Int32)), (.int rr), (.int av), (.ref ca)])) (fun tgt k => ?_) ?_
      · show Steps p.tables e below (T37.setTop (mkF m 96 #[.val (.int b0), .val (.int b1), .val (.int b2), .val (.int b3), .val (.int sp), .val (.int (2 : Int32)), .val (.int av), .val (.ref ca), .val (.int rr), .unset, .unset, .unset] [(.int (2 : Int32)), (.int av)])) tgt
        refine XS.icmpNo X37.here hx rfl (hb hby at_96) rfl (flt hc96).1 ?_
        show Steps p.tables e below (T37.setTop (mkF m 99 #[.val (.int b0), .val (.int b1), .val (.int b2), .val (.int b3), .val (.int sp), .val (.int (2 : Int32)), .val (.int av), .val (.ref ca), .val (.int rr), .unset, .unset, .unset] [])) tgt
        refine XS.iload X37.here hx rfl (hb hby at_99) rfl ?_
        show Steps p.tables e below (T37.setTop (mkF m 101 #[.val (.int b0), .val (.int b1), .val (.int b2), .val (.int b3), .val (.int sp), .val (.int (2 : Int32)), .val (.int av), .val (.ref ca), .val (.int rr), .unset, .unset, .unset] [(.int rr)])) tgt
        refine XS.iload X37.here hx rfl (hb hby at_101) rfl ?_
        show Steps p.tables e below (T37.setTop (mkF m 103 #[.val (.int b0), .val (.int b1), .val (.int b2), .val (.int b3), .val (.int sp), .val (.int (2 : Int32)), .val (.int av), .val (.ref ca), .val (.int rr), .unset, .unset, .unset] [(.int av), (.int rr)])) tgt
        refine XS.icmpNo X37.here hx rfl (hb hby at_103) rfl (teq (own_eq R1 R2 hav0 (by decide) hc96)).2 ?_
        show Steps p.tables e below (T37.setTop (mkF m 106 #[.val (.int b0), .val (.int b1), .val (.int b2), .val (.int b3), .val (.int sp), .val (.int (2 : Int32)), .val (.int av), .val (.ref ca), .val (.int rr), .unset, .unset, .unset] [])) tgt
        refine XS.iconst X37.here hx rfl (hb hby at_106) ?_
        show Steps p.tables e below (T37.setTop (mkF m 107 #[.val (.int b0), .val (.int b1), .val (.int b2), .val (.int b3), .val (.int sp), .val (.int (2 : Int32)), .val (.int av), .val (.ref ca), .val (.int rr), .unset, .unset, .unset] [(.int (1 : Int32))])) tgt
        refine XS.goto X37.here hx rfl (pc0 := 107) (pc' := 133) rfl (hb hby at_107) (by decide) (by decide) ?_
        show Steps p.tables e below (T37.setTop (mkF m 133 #[.val (.int b0), .val (.int b1), .val (.int b2), .val (.int b3), .val (.int sp), .val (.int (2 : Int32)), .val (.int av), .val (.ref ca), .val (.int rr), .unset, .unset, .unset] [(.int (1 : Int32))])) tgt
        refine XS.istore X37.here hx rfl (hb hby at_133) rfl (l' := #[.val (.int b0), .val (.int b1), .val (.int b2), .val (.int b3), .val (.int sp), .val (.int (2 : Int32)), .val (.int av), .val (.ref ca), .val (.int rr), .val (.int (1 : Int32)), .unset, .unset]) rfl ?_
        show Steps p.tables e below (T37.setTop (mkF m 135 #[.val (.int b0), .val (.int b1), .val (.int b2), .val (.int b3), .val (.int sp), .val (.int (2 : Int32)), .val (.int av), .val (.ref ca), .val (.int rr), .val (.int (1 : Int32)), .unset, .unset] [])) tgt
        refine XS.iload X37.here hx rfl (hb hby at_135) rfl ?_
        show Steps p.tables e below (T37.setTop (mkF m 137 #[.val (.int b0), .val (.int b1), .val (.int b2), .val (.int b3), .val (.int sp), .val (.int (2 : Int32)), .val (.int av), .val (.ref ca), .val (.int rr), .val (.int (1 : Int32)), .unset, .unset] [(.int (1 : Int32))])) tgt
        refine XS.ifYes X37.here hx rfl (pc0 := 137) (pc' := 142) rfl (hb hby at_137) rfl ((if0 _ _).trans (feq (by decide : ¬ ((1 : Int32) = (0 : Int32)))).2) (by decide) (by decide) ?_
        show Steps p.tables e below (T37.setTop (mkF m 142 #[.val (.int b0), .val (.int b1), .val (.int b2), .val (.int b3), .val (.int sp), .val (.int (2 : Int32)), .val (.int av), .val (.ref ca), .val (.int rr), .val (.int (1 : Int32)), .unset, .unset] [])) tgt
        refine XS.aload X37.here hx rfl (hb hby at_142) rfl rfl ?_
        show Steps p.tables e below (T37.setTop (mkF m 144 #[.val (.int b0), .val (.int b1), .val (.int b2), .val (.int b3), .val (.int sp), .val (.int (2 : Int32)), .val (.int av), .val (.ref ca), .val (.int rr), .val (.int (1 : Int32)), .unset, .unset] [(.ref ca)])) tgt
        refine XS.iload X37.here hx rfl (hb hby at_144) rfl ?_
        show Steps p.tables e below (T37.setTop (mkF m 146 #[.val (.int b0), .val (.int b1), .val (.int b2), .val (.int b3), .val (.int sp), .val (.int (2 : Int32)), .val (.int av), .val (.ref ca), .val (.int rr), .val (.int (1 : Int32)), .unset, .unset] [(.int av), (.ref ca)])) tgt
        refine XS.iload X37.here hx rfl (hb hby at_146) rfl ?_
        show Steps p.tables e below (T37.setTop (mkF m 148 #[.val (.int b0), .val (.int b1), .val (.int b2), .val (.int b3), .val (.int sp), .val (.int (2 : Int32)), .val (.int av), .val (.ref ca), .val (.int rr), .val (.int (1 : Int32)), .unset, .unset] [(.int rr), (.int av), (.ref ca)])) tgt
        refine XS.iconst X37.here hx rfl (hb hby at_148) ?_
        exact k
      obtain ⟨_, _, ⟨T45, L45, k45, n45⟩, -, X45, ⟨Lc45, hQ45, l45, y45, z45⟩, st45⟩ := Jvm.LawKit.callS X37 hx (y := (⟨"com/example/tidewatch/tidewatch/io/DecimalSkipDigitsPinLaw", "digitOrOutside", "([BIII)Z"⟩ : MethodName)) hown (mvT hZ (hw _ (List.mem_of_getElem? (i := 5) rfl))) (mvT hZ (hw _ (List.mem_of_getElem? (i := 6) rfl))) (mvT hZ (hw _ (List.mem_of_getElem? (i := 7) rfl))) (mvT hZ (hw _ (List.mem_of_getElem? (i := 8) rfl))) (by decide) (backOf (W := 0) (rm2 l Z a0 hw [] ca av rr (0 : Int32) 2 (own_up (own_up (fun _ => 0) 0 ((b0 + (48 : Int32)).toInt8.toInt32).toInt8.toInt32) 1 ((b1 + (48 : Int32)).toInt8.toInt32).toInt8.toInt32) 0 h36 n0 Zs36 A_ca_36 (by decide) (own_i2 R2 (by decide))) hZ (hw _ (List.mem_of_getElem? (i := 8) rfl)) (hw _ (List.mem_of_getElem? (i := 7) rfl)) (by decide) (by decide)) (g := (mkF m 149 #[.val (.int b0), .val (.int b1), .val (.int b2), .val (.int b3), .val (.int sp), .val (.int (2 : Int32)), .val (.int av), .val (.ref ca), .val (.int rr), .val (.int (1 : Int32)), .unset, .unset] [(.int (0 : Int32)), (.int rr), (.int av), (.ref ca)])) rfl (by rw [hml]; rfl) (argsL := [(.ref ca), (.int av), (.int rr), (.int (0 : Int32))]) (rest := []) (lenOf pd_0_1 rfl) rfl (by show 2 * 0 + _ ≤ _; exact Nat.le_of_eq rfl) (hb hby at_149) (fun _ _ => ⟨rfl, K37, (by decide : 1 + 0 ≤ _), (by decide : 2 + 0 ≤ _)⟩)
      dsimp only [Pt.U, Pt.locs, Pt.cells, Pt.slots] at X45 l45 y45 z45 st45 hQ45
      subst l45 y45 z45
      obtain ⟨rfl, N45q, K45⟩ := hQ45
      have N45 := Fr.app N37 N45q
      refine own_st st45 ?_
      show own_Go p e below _ (T45.setTop (mkF m 152 #[.val (.int b0), .val (.int b1), .val (.int b2), .val (.int b3), .val (.int sp), .val (.int (2 : Int32)), .val (.int av), .val (.ref ca), .val (.int rr), .val (.int (1 : Int32)), .unset, .unset] [(.int (own_doo (own_up (own_up (fun _ => 0) 0 ((b0 + (48 : Int32)).toInt8.toInt32).toInt8.toInt32) 1 ((b1 + (48 : Int32)).toInt8.toInt32).toInt8.toInt32) av rr (0 : Int32) 0))]))
      refine own_st (V := T45.setTop (mkF m 162 #[.val (.int b0), .val (.int b1), .val (.int b2), .val (.int b3), .val (.int sp), .val (.int (2 : Int32)), .val (.int av), .val (.ref ca), .val (.int rr), .val (.int (1 : Int32)), .unset, .unset] [(.int (1 : Int32)), (.int rr), (.int av), (.ref ca)])) (fun tgt k => ?_) ?_
      · show Steps p.tables e below (T45.setTop (mkF m 152 #[.val (.int b0), .val (.int b1), .val (.int b2), .val (.int b3), .val (.int sp), .val (.int (2 : Int32)), .val (.int av), .val (.ref ca), .val (.int rr), .val (.int (1 : Int32)), .unset, .unset] [(.int (own_doo (own_up (own_up (fun _ => 0) 0 ((b0 + (48 : Int32)).toInt8.toInt32).toInt8.toInt32) 1 ((b1 + (48 : Int32)).toInt8.toInt32).toInt8.toInt32) av rr (0 : Int32) 0))])) tgt
        refine XS.ifNo X45.here hx rfl (hb hby at_152) rfl ((if0 _ _).trans (feq (own_doo1 R2 (by decide))).1) ?_
        show Steps p.tables e below (T45.setTop (mkF m 155 #[.val (.int b0), .val (.int b1), .val (.int b2), .val (.int b3), .val (.int sp), .val (.int (2 : Int32)), .val (.int av), .val (.ref ca), .val (.int rr), .val (.int (1 : Int32)), .unset, .unset] [])) tgt
        refine XS.aload X45.here hx rfl (hb hby at_155) rfl rfl ?_
        show Steps p.tables e below (T45.setTop (mkF m 157 #[.val (.int b0), .val (.int b1), .val (.int b2), .val (.int b3), .val (.int sp), .val (.int (2 : Int32)), .val (.int av), .val (.ref ca), .val (.int rr), .val (.int (1 : Int32)), .unset, .unset] [(.ref ca)])) tgt
        refine XS.iload X45.here hx rfl (hb hby at_157) rfl ?_
        show Steps p.tables e below (T45.setTop (mkF m 159 #[.val (.int b0), .val (.int b1), .val (.int b2), .val (.int b3), .val (.int sp), .val (.int (2 : Int32)), .val (.int av), .val (.ref ca), .val (.int rr), .val (.int (1 : Int32)), .unset, .unset] [(.int av), (.ref ca)])) tgt
        refine XS.iload X45.here hx rfl (hb hby at_159) rfl ?_
        show Steps p.tables e below (T45.setTop (mkF m 161 #[.val (.int b0), .val (.int b1), .val (.int b2), .val (.int b3), .val (.int sp), .val (.int (2 : Int32)), .val (.int av), .val (.ref ca), .val (.int rr), .val (.int (1 : Int32)), .unset, .unset] [(.int rr), (.int av), (.ref ca)])) tgt
        refine XS.iconst X45.here hx rfl (hb hby at_161) ?_
        exact k
      obtain ⟨_, _, ⟨T46, L46, k46, n46⟩, -, X46, ⟨Lc46, hQ46, l46, y46, z46⟩, st46⟩ := Jvm.LawKit.callS X45 hx (y := (⟨"com/example/tidewatch/tidewatch/io/DecimalSkipDigitsPinLaw", "digitOrOutside", "([BIII)Z"⟩ : MethodName)) hown (mvT hZ (hw _ (List.mem_of_getElem? (i := 5) rfl))) (mvT hZ (hw _ (List.mem_of_getElem? (i := 6) rfl))) (mvT hZ (hw _ (List.mem_of_getElem? (i := 7) rfl))) (mvT hZ (hw _ (List.mem_of_getElem? (i := 8) rfl))) (by decide) (backOf (W := 0) (rm2 l Z a0 hw [] ca av rr (1 : Int32) 2 (own_up (own_up (fun _ => 0) 0 ((b0 + (48 : Int32)).toInt8.toInt32).toInt8.toInt32) 1 ((b1 + (48 : Int32)).toInt8.toInt32).toInt8.toInt32) 1 h36 n0 Zs36 A_ca_36 (by decide) (own_i2 R2 (by decide))) hZ (hw _ (List.mem_of_getElem? (i := 8) rfl)) (hw _ (List.mem_of_getElem? (i := 7) rfl)) (by decide) (by decide)) (g := (mkF m 162 #[.val (.int b0), .val (.int b1), .val (.int b2), .val (.int b3), .val (.int sp), .val (.int (2 : Int32)), .val (.int av), .val (.ref ca), .val (.int rr), .val (.int (1 : Int32)), .unset, .unset] [(.int (1 : Int32)), (.int rr), (.int av), (.ref ca)])) rfl (by rw [hml]; rfl) (argsL := [(.ref ca), (.int av), (.int rr), (.int (1 : Int32))]) (rest := []) (lenOf pd_0_1 rfl) rfl (by show 2 * 0 + _ ≤ _; exact Nat.le_of_eq rfl) (hb hby at_162) (fun _ _ => ⟨rfl, K45, (by decide : 1 + 0 ≤ _), (by decide : 2 + 0 ≤ _)⟩)
      dsimp only [Pt.U, Pt.locs, Pt.cells, Pt.slots] at X46 l46 y46 z46 st46 hQ46
      subst l46 y46 z46
      obtain ⟨rfl, N46q, K46⟩ := hQ46
      have N46 := Fr.app N45 N46q
      refine own_st st46 ?_
      show own_Go p e below _ (T46.setTop (mkF m 165 #[.val (.int b0), .val (.int b1), .val (.int b2), .val (.int b3), .val (.int sp), .val (.int (2 : Int32)), .val (.int av), .val (.ref ca), .val (.int rr), .val (.int (1 : Int32)), .unset, .unset] [(.int (own_doo (own_up (own_up (fun _ => 0) 0 ((b0 + (48 : Int32)).toInt8.toInt32).toInt8.toInt32) 1 ((b1 + (48 : Int32)).toInt8.toInt32).toInt8.toInt32) av rr (1 : Int32) 1))]))
      refine own_st (V := T46.setTop (mkF m 175 #[.val (.int b0), .val (.int b1), .val (.int b2), .val (.int b3), .val (.int sp), .val (.int (2 : Int32)), .val (.int av), .val (.ref ca), .val (.int rr), .val (.int (1 : Int32)), .unset, .unset] [(.int (2 : Int32)), (.int rr), (.int av), (.ref ca)])) (fun tgt k => ?_) ?_
      · show Steps p.tables e below (T46.setTop (mkF m 165 #[.val (.int b0), .val (.int b1), .val (.int b2), .val (.int b3), .val (.int sp), .val (.int (2 : Int32)), .val (.int av), .val (.ref ca), .val (.int rr), .val (.int (1 : Int32)), .unset, .unset] [(.int (own_doo (own_up (own_up (fun _ => 0) 0 ((b0 + (48 : Int32)).toInt8.toInt32).toInt8.toInt32) 1 ((b1 + (48 : Int32)).toInt8.toInt32).toInt8.toInt32) av rr (1 : Int32) 1))])) tgt
        refine XS.ifNo X46.here hx rfl (hb hby at_165) rfl ((if0 _ _).trans (feq (own_doo1 R2 (by decide))).1) ?_
        show Steps p.tables e below (T46.setTop (mkF m 168 #[.val (.int b0), .val (.int b1), .val (.int b2), .val (.int b3), .val (.int sp), .val (.int (2 : Int32)), .val (.int av), .val (.ref ca), .val (.int rr), .val (.int (1 : Int32)), .unset, .unset] [])) tgt
        refine XS.aload X46.here hx rfl (hb hby at_168) rfl rfl ?_
        show Steps p.tables e below (T46.setTop (mkF m 170 #[.val (.int b0), .val (.int b1), .val (.int b2), .val (.int b3), .val (.int sp), .val (.int (2 : Int32)), .val (.int av), .val (.ref ca), .val (.int rr), .val (.int (1 : Int32)), .unset, .unset] [(.ref ca)])) tgt
        refine XS.iload X46.here hx rfl (hb hby at_170) rfl ?_
        show Steps p.tables e below (T46.setTop (mkF m 172 #[.val (.int b0), .val (.int b1), .val (.int b2), .val (.int b3), .val (.int sp), .val (.int (2 : Int32)), .val (.int av), .val (.ref ca), .val (.int rr), .val (.int (1 : Int32)), .unset, .unset] [(.int av), (.ref ca)])) tgt
        refine XS.iload X46.here hx rfl (hb hby at_172) rfl ?_
        show Steps p.tables e below (T46.setTop (mkF m 174 #[.val (.int b0), .val (.int b1), .val (.int b2), .val (.int b3), .val (.int sp), .val (.int (2 : Int32)), .val (.int av), .val (.ref ca), .val (.int rr), .val (.int (1 : Int32)), .unset, .unset] [(.int rr), (.int av), (.ref ca)])) tgt
        refine XS.iconst X46.here hx rfl (hb hby at_174) ?_
        exact k
      obtain ⟨_, _, ⟨T47, L47, k47, n47⟩, -, X47, ⟨Lc47, hQ47, l47, y47, z47⟩, st47⟩ := Jvm.LawKit.callS X46 hx (y := (⟨"com/example/tidewatch/tidewatch/io/DecimalSkipDigitsPinLaw", "digitOrOutside", "([BIII)Z"⟩ : MethodName)) hown (mvT hZ (hw _ (List.mem_of_getElem? (i := 5) rfl))) (mvT hZ (hw _ (List.mem_of_getElem? (i := 6) rfl))) (mvT hZ (hw _ (List.mem_of_getElem? (i := 7) rfl))) (mvT hZ (hw _ (List.mem_of_getElem? (i := 8) rfl))) (by decide) (backOf (W := 0) (rm2 l Z a0 hw [] ca av rr (2 : Int32) 2 (own_up (own_up (fun _ => 0) 0 ((b0 + (48 : Int32)).toInt8.toInt32).toInt8.toInt32) 1 ((b1 + (48 : Int32)).toInt8.toInt32).toInt8.toInt32) 2 h36 n0 Zs36 A_ca_36 (by decide) (own_i2 R2 (by decide))) hZ (hw _ (List.mem_of_getElem? (i := 8) rfl)) (hw _ (List.mem_of_getElem? (i := 7) rfl)) (by decide) (by decide)) (g := (mkF m 175 #[.val (.int b0), .val (.int b1), .val (.int b2), .val (.int b3), .val (.int sp), .val (.int (2 : Int32)), .val (.int av), .val (.ref ca), .val (.int rr), .val (.int (1 : Int32)), .unset, .unset] [(.int (2 : Int32)), (.int rr), (.int av), (.ref ca)])) rfl (by rw [hml]; rfl) (argsL := [(.ref ca), (.int av), (.int rr), (.int (2 : Int32))]) (rest := []) (lenOf pd_0_1 rfl) rfl (by show 2 * 0 + _ ≤ _; exact Nat.le_of_eq rfl) (hb hby at_175) (fun _ _ => ⟨rfl, K46, (by decide : 1 + 0 ≤ _), (by decide : 2 + 0 ≤ _)⟩)
      dsimp only [Pt.U, Pt.locs, Pt.cells, Pt.slots] at X47 l47 y47 z47 st47 hQ47
      subst l47 y47 z47
      obtain ⟨rfl, N47q, K47⟩ := hQ47
      have N47 := Fr.app N46 N47q
      refine own_st st47 ?_
      show own_Go p e below _ (T47.setTop (mkF m 178 #[.val (.int b0), .val (.int b1), .val (.int b2), .val (.int b3), .val (.int sp), .val (.int (2 : Int32)), .val (.int av), .val (.ref ca), .val (.int rr), .val (.int (1 : Int32)), .unset, .unset] [(.int (own_doo (own_up (own_up (fun _ => 0) 0 ((b0 + (48 : Int32)).toInt8.toInt32).toInt8.toInt32) 1 ((b1 + (48 : Int32)).toInt8.toInt32).toInt8.toInt32) av rr (2 : Int32) 2))]))
      refine own_st (V := T47.setTop (mkF m 188 #[.val (.int b0), .val (.int b1), .val (.int b2), .val (.int b3), .val (.int sp), .val (.int (2 : Int32)), .val (.int av), .val (.ref ca), .val (.int rr), .val (.int (1 : Int32)), .unset, .unset] [(.int (3 : Int32)), (.int rr), (.int av), (.ref ca)])) (fun tgt k => ?_) ?_
      · show Steps p.tables e below (T47.setTop (mkF m 178 #[.val (.int b0), .val (.int b1), .val (.int b2), .val (.int b3), .val (.int sp), .val (.int (2 : Int32)), .val (.int av), .val (.ref ca), .val (.int rr), .val (.int (1 : Int32)), .unset, .unset] [(.int (own_doo (own_up (own_up (fun _ => 0) 0 ((b0 + (48 : Int32)).toInt8.toInt32).toInt8.toInt32) 1 ((b1 + (48 : Int32)).toInt8.toInt32).toInt8.toInt32) av rr (2 : Int32) 2))])) tgt
        refine XS.ifNo X47.here hx rfl (hb hby at_178) rfl ((if0 _ _).trans (feq (own_doo1 R2 (by decide))).1) ?_
        show Steps p.tables e below (T47.setTop (mkF m 181 #[.val (.int b0), .val (.int b1), .val (.int b2), .val (.int b3), .val (.int sp), .val (.int (2 : Int32)), .val (.int av), .val (.ref ca), .val (.int rr), .val (.int (1 : Int32)), .unset, .unset] [])) tgt
        refine XS.aload X47.here hx rfl (hb hby at_181) rfl rfl ?_
        show Steps p.tables e below (T47.setTop (mkF m 183 #[.val (.int b0), .val (.int b1), .val (.int b2), .val (.int b3), .val (.int sp), .val (.int (2 : Int32)), .val (.int av), .val (.ref ca), .val (.int rr), .val (.int (1 : Int32)), .unset, .unset] [(.ref ca)])) tgt
        refine XS.iload X47.here hx rfl (hb hby at_183) rfl ?_
        show Steps p.tables e below (T47.setTop (mkF m 185 #[.val (.int b0), .val (.int b1), .val (.int b2), .val (.int b3), .val (.int sp), .val (.int (2 : Int32)), .val (.int av), .val (.ref ca), .val (.int rr), .val (.int (1 : Int32)), .unset, .unset] [(.int av), (.ref ca)])) tgt
        refine XS.iload X47.here hx rfl (hb hby at_185) rfl ?_
        show Steps p.tables e below (T47.setTop (mkF m 187 #[.val (.int b0), .val (.int b1), .val (.int b2), .val (.int b3), .val (.int sp), .val (.int (2 : Int32)), .val (.int av), .val (.ref ca), .val (.int rr), .val (.int (1 : Int32)), .unset, .unset] [(.int rr), (.int av), (.ref ca)])) tgt
        refine XS.iconst X47.here hx rfl (hb hby at_187) ?_
        exact k
      obtain ⟨_, _, ⟨T48, L48, k48, n48⟩, -, X48, ⟨Lc48, hQ48, l48, y48, z48⟩, st48⟩ := Jvm.LawKit.callS X47 hx (y := (⟨"com/example/tidewatch/tidewatch/io/DecimalSkipDigitsPinLaw", "digitOrOutside", "([BIII)Z"⟩ : MethodName)) hown (mvT hZ (hw _ (List.mem_of_getElem? (i := 5) rfl))) (mvT hZ (hw _ (List.mem_of_getElem? (i := 6) rfl))) (mvT hZ (hw _ (List.mem_of_getElem? (i := 7) rfl))) (mvT hZ (hw _ (List.mem_of_getElem? (i := 8) rfl))) (by decide) (backOf (W := 0) (rm2 l Z a0 hw [] ca av rr (3 : Int32) 2 (own_up (own_up (fun _ => 0) 0 ((b0 + (48 : Int32)).toInt8.toInt32).toInt8.toInt32) 1 ((b1 + (48 : Int32)).toInt8.toInt32).toInt8.toInt32) 3 h36 n0 Zs36 A_ca_36 (by decide) (own_i2 R2 (by decide))) hZ (hw _ (List.mem_of_getElem? (i := 8) rfl)) (hw _ (List.mem_of_getElem? (i := 7) rfl)) (by decide) (by decide)) (g := (mkF m 188 #[.val (.int b0), .val (.int b1), .val (.int b2), .val (.int b3), .val (.int sp), .val (.int (2 : Int32)), .val (.int av), .val (.ref ca), .val (.int rr), .val (.int (1 : Int32)), .unset, .unset] [(.int (3 : Int32)), (.int rr), (.int av), (.ref ca)])) rfl (by rw [hml]; rfl) (argsL := [(.ref ca), (.int av), (.int rr), (.int (3 : Int32))]) (rest := []) (lenOf pd_0_1 rfl) rfl (by show 2 * 0 + _ ≤ _; exact Nat.le_of_eq rfl) (hb hby at_188) (fun _ _ => ⟨rfl, K47, (by decide : 1 + 0 ≤ _), (by decide : 2 + 0 ≤ _)⟩)
      dsimp only [Pt.U, Pt.locs, Pt.cells, Pt.slots] at X48 l48 y48 z48 st48 hQ48
      subst l48 y48 z48
      obtain ⟨rfl, N48q, K48⟩ := hQ48
      have N48 := Fr.app N47 N48q
      refine own_st st48 ?_
      show own_Go p e below _ (T48.setTop (mkF m 191 #[.val (.int b0), .val (.int b1), .val (.int b2), .val (.int b3), .val (.int sp), .val (.int (2 : Int32)), .val (.int av), .val (.ref ca), .val (.int rr), .val (.int (1 : Int32)), .unset, .unset] [(.int (own_doo (own_up (own_up (fun _ => 0) 0 ((b0 + (48 : Int32)).toInt8.toInt32).toInt8.toInt32) 1 ((b1 + (48 : Int32)).toInt8.toInt32).toInt8.toInt32) av rr (3 : Int32) 3))]))
      refine own_st (V := T48.setTop (mkF m 205 #[.val (.int b0), .val (.int b1), .val (.int b2), .val (.int b3), .val (.int sp), .val (.int (2 : Int32)), .val (.int av), .val (.ref ca), .val (.int rr), .val (.int (1 : Int32)), .val (.int (1 : Int32)), .unset] [(.int (2 : Int32)), (.int rr)])) (fun tgt k => ?_) ?_
      · show Steps p.tables e below (T48.setTop (mkF m 191 #[.val (.int b0), .val (.int b1), .val (.int b2), .val (.int b3), .val (.int sp), .val (.int (2 : Int32)), .val (.int av), .val (.ref ca), .val (.int rr), .val (.int (1 : Int32)), .unset, .unset] [(.int (own_doo (own_up (own_up (fun _ => 0) 0 ((b0 + (48 : Int32)).toInt8.toInt32).toInt8.toInt32) 1 ((b1 + (48 : Int32)).toInt8.toInt32).toInt8.toInt32) av rr (3 : Int32) 3))])) tgt
        refine XS.ifNo X48.here hx rfl (hb hby at_191) rfl ((if0 _ _).trans (feq (own_doo1 R2 (by decide))).1) ?_
        show Steps p.tables e below (T48.setTop (mkF m 194 #[.val (.int b0), .val (.int b1), .val (.int b2), .val (.int b3), .val (.int sp), .val (.int (2 : Int32)), .val (.int av), .val (.ref ca), .val (.int rr), .val (.int (1 : Int32)), .unset, .unset] [])) tgt
        refine XS.iconst X48.here hx rfl (hb hby at_194) ?_
        show Steps p.tables e below (T48.setTop (mkF m 195 #[.val (.int b0), .val (.int b1), .val (.int b2), .val (.int b3), .val (.int sp), .val (.int (2 : Int32)), .val (.int av), .val (.ref ca), .val (.int rr), .val (.int (1 : Int32)), .unset, .unset] [(.int (1 : Int32))])) tgt
        refine XS.goto X48.here hx rfl (pc0 := 195) (pc' := 199) rfl (hb hby at_195) (by decide) (by decide) ?_
        show Steps p.tables e below (T48.setTop (mkF m 199 #[.val (.int b0), .val (.int b1), .val (.int b2), .val (.int b3), .val (.int sp), .val (.int (2 : Int32)), .val (.int av), .val (.ref ca), .val (.int rr), .val (.int (1 : Int32)), .unset, .unset] [(.int (1 : Int32))])) tgt
        refine XS.istore X48.here hx rfl (hb hby at_199) rfl (l' := #[.val (.int b0), .val (.int b1), .val (.int b2), .val (.int b3), .val (.int sp), .val (.int (2 : Int32)), .val (.int av), .val (.ref ca), .val (.int rr), .val (.int (1 : Int32)), .val (.int (1 : Int32)), .unset]) rfl ?_
        show Steps p.tables e below (T48.setTop (mkF m 201 #[.val (.int b0), .val (.int b1), .val (.int b2), .val (.int b3), .val (.int sp), .val (.int (2 : Int32)), .val (.int av), .val (.ref ca), .val (.int rr), .val (.int (1 : Int32)), .val (.int (1 : Int32)), .unset] [])) tgt
        refine XS.iload X48.here hx rfl (hb hby at_201) rfl ?_
        show Steps p.tables e below (T48.setTop (mkF m 203 #[.val (.int b0), .val (.int b1), .val (.int b2), .val (.int b3), .val (.int sp), .val (.int (2 : Int32)), .val (.int av), .val (.ref ca), .val (.int rr), .val (.int (1 : Int32)), .val (.int (1 : Int32)), .unset] [(.int rr)])) tgt
        refine XS.iload X48.here hx rfl (hb hby at_203) rfl ?_
        exact k
      by_cases hc205 : rr < (2 : Int32)
      · skip
        refine own_st (V := T48.setTop (mkF m 213 #[.val (.int b0), .val (.int b1), .val (.int b2), .val (.int b3), .val (.int sp), .val (.int (2 : Int32)), .val (.int av), .val (.ref ca), .val (.int rr), .val (.int (1 : Int32)), .val (.int (1 : Int32)), .unset] [(.int ((own_up (own_up (fun _ => 0) 0 ((b0 + (48 : Int32)).toInt8.toInt32).toInt8.toInt32) 1 ((b1 + (48 : Int32)).toInt8.toInt32).toInt8.toInt32) rr.toInt.toNat))])) (fun tgt k => ?_) ?_
        · show Steps p.tables e below (T48.setTop (mkF m 205 #[.val (.int b0), .val (.int b1), .val (.int b2), .val (.int b3), .val (.int sp), .val (.int (2 : Int32)), .val (.int av), .val (.ref ca), .val (.int rr), .val (.int (1 : Int32)), .val (.int (1 : Int32)), .unset] [(.int (2 : Int32)), (.int rr)])) tgt
          refine XS.icmpNo X48.here hx rfl (hb hby at_205) rfl (tlt hc205).2.1 ?_
          show Steps p.tables e below (T48.setTop (mkF m 208 #[.val (.int b0), .val (.int b1), .val (.int b2), .val (.int b3), .val (.int sp), .val (.int (2 : Int32)), .val (.int av), .val (.ref ca), .val (.int rr), .val (.int (1 : Int32)), .val (.int (1 : Int32)), .unset] [])) tgt
          refine XS.aload X48.here hx rfl (hb hby at_208) rfl rfl ?_
          show Steps p.tables e below (T48.setTop (mkF m 210 #[.val (.int b0), .val (.int b1), .val (.int b2), .val (.int b3), .val (.int sp), .val (.int (2 : Int32)), .val (.int av), .val (.ref ca), .val (.int rr), .val (.int (1 : Int32)), .val (.int (1 : Int32)), .unset] [(.ref ca)])) tgt
          refine XS.iload X48.here hx rfl (hb hby at_210) rfl ?_
          show Steps p.tables e below (T48.setTop (mkF m 212 #[.val (.int b0), .val (.int b1), .val (.int b2), .val (.int b3), .val (.int sp), .val (.int (2 : Int32)), .val (.int av), .val (.ref ca), .val (.int rr), .val (.int (1 : Int32)), .val (.int (1 : Int32)), .unset] [(.int rr), (.ref ca)])) tgt
          refine own_baload X48 hx hZ K48 A_ca_36 (j := rr) (k := rr.toInt.toNat) (by omega) (by have := own_ilt.mp hc205; rw [show (2 : Int32).toInt = 2 from rfl] at this; omega) (g := (mkF m 212 #[.val (.int b0), .val (.int b1), .val (.int b2), .val (.int b3), .val (.int sp), .val (.int (2 : Int32)), .val (.int av), .val (.ref ca), .val (.int rr), .val (.int (1 : Int32)), .val (.int (1 : Int32)), .unset] [(.int rr), (.ref ca)])) rfl rfl (hb hby at_212) ?_
          exact k
        obtain ⟨_, _, ⟨T49, L49, k49, n49⟩, -, X49, ⟨Lc49, hQ49, l49, y49, z49⟩, st49⟩ := Jvm.LawKit.callS X48 hx (y := (⟨"com/example/tidewatch/tidewatch/io/DecimalSkipDigitsPinLaw", "isDigit", "(B)Z"⟩ : MethodName)) hown (mvT hZ (hw _ (List.mem_of_getElem? (i := 9) rfl))) (mvT hZ (hw _ (List.mem_of_getElem? (i := 10) rfl))) (mvT hZ (hw _ (List.mem_of_getElem? (i := 7) rfl))) (mvT hZ (hw _ (List.mem_of_getElem? (i := 11) rfl))) (by decide) (backOf (W := 0) (rm3 l Z a0 hw [] ((own_up (own_up (fun _ => 0) 0 ((b0 + (48 : Int32)).toInt8.toInt32).toInt8.toInt32) 1 ((b1 + (48 : Int32)).toInt8.toInt32).toInt8.toInt32) rr.toInt.toNat) h36 n0 Zs36 ) hZ (hw _ (List.mem_of_getElem? (i := 11) rfl)) (hw _ (List.mem_of_getElem? (i := 7) rfl)) (by decide) (by decide)) (g := (mkF m 213 #[.val (.int b0), .val (.int b1), .val (.int b2), .val (.int b3), .val (.int sp), .val (.int (2 : Int32)), .val (.int av), .val (.ref ca), .val (.int rr), .val (.int (1 : Int32)), .val (.int (1 : Int32)), .unset] [(.int ((own_up (own_up (fun _ => 0) 0 ((b0 + (48 : Int32)).toInt8.toInt32).toInt8.toInt32) 1 ((b1 + (48 : Int32)).toInt8.toInt32).toInt8.toInt32) rr.toInt.toNat))])) rfl (by rw [hml]; rfl) (argsL := [(.int ((own_up (own_up (fun _ => 0) 0 ((b0 + (48 : Int32)).toInt8.toInt32).toInt8.toInt32) 1 ((b1 + (48 : Int32)).toInt8.toInt32).toInt8.toInt32) rr.toInt.toNat))]) (rest := []) (lenOf pd_0_2 rfl) rfl (by show 2 * 0 + _ ≤ _; exact Nat.le_of_eq rfl) (hb hby at_213) (fun _ _ => ⟨rfl, K48, (by decide : 1 + 0 ≤ _), (by decide : 2 + 0 ≤ _)⟩)
        dsimp only [Pt.U, Pt.locs, Pt.cells, Pt.slots] at X49 l49 y49 z49 st49 hQ49
        subst l49 y49 z49
        obtain ⟨rfl, N49q, K49⟩ := hQ49
        have N49 := Fr.app N48 N49q
        refine own_st st49 ?_
        show own_Go p e below _ (T49.setTop (mkF m 216 #[.val (.int b0), .val (.int b1), .val (.int b2), .val (.int b3), .val (.int sp), .val (.int (2 : Int32)), .val (.int av), .val (.ref ca), .val (.int rr), .val (.int (1 : Int32)), .val (.int (1 : Int32)), .unset] [(.int (own_isd ((own_up (own_up (fun _ => 0) 0 ((b0 + (48 : Int32)).toInt8.toInt32).toInt8.toInt32) 1 ((b1 + (48 : Int32)).toInt8.toInt32).toInt8.toInt32) rr.toInt.toNat)))]))
        refine own_st (V := T49.setTop (mkF m 241 #[.val (.int b0), .val (.int b1), .val (.int b2), .val (.int b3), .val (.int sp), .val (.int (2 : Int32)), .val (.int av), .val (.ref ca), .val (.int rr), .val (.int (1 : Int32)), .val (.int (1 : Int32)), .val (.int (1 : Int32))] [(.int (1 : Int32))])) (fun tgt k => ?_) ?_
        · show Steps p.tables e below (T49.setTop (mkF m 216 #[.val (.int b0), .val (.int b1), .val (.int b2), .val (.int b3), .val (.int sp), .val (.int (2 : Int32)), .val (.int av), .val (.ref ca), .val (.int rr), .val (.int (1 : Int32)), .val (.int (1 : Int32)), .unset] [(.int (own_isd ((own_up (own_up (fun _ => 0) 0 ((b0 + (48 : Int32)).toInt8.toInt32).toInt8.toInt32) 1 ((b1 + (48 : Int32)).toInt8.toInt32).toInt8.toInt32) rr.toInt.toNat)))])) tgt
          refine XS.ifNo X49.here hx rfl (hb hby at_216) rfl ((if0 _ _).trans (teq ((own_isd1 _).2 (fun z => R3 ⟨by have := own_ilt.mp hc205; rw [show (2 : Int32).toInt = 2 from rfl] at this; omega, z⟩))).2) ?_
          show Steps p.tables e below (T49.setTop (mkF m 219 #[.val (.int b0), .val (.int b1), .val (.int b2), .val (.int b3), .val (.int sp), .val (.int (2 : Int32)), .val (.int av), .val (.ref ca), .val (.int rr), .val (.int (1 : Int32)), .val (.int (1 : Int32)), .unset] [])) tgt
          refine XS.iconst X49.here hx rfl (hb hby at_219) ?_
          show Steps p.tables e below (T49.setTop (mkF m 220 #[.val (.int b0), .val (.int b1), .val (.int b2), .val (.int b3), .val (.int sp), .val (.int (2 : Int32)), .val (.int av), .val (.ref ca), .val (.int rr), .val (.int (1 : Int32)), .val (.int (1 : Int32)), .unset] [(.int (1 : Int32))])) tgt
          refine XS.goto X49.here hx rfl (pc0 := 220) (pc' := 224) rfl (hb hby at_220) (by decide) (by decide) ?_
          show Steps p.tables e below (T49.setTop (mkF m 224 #[.val (.int b0), .val (.int b1), .val (.int b2), .val (.int b3), .val (.int sp), .val (.int (2 : Int32)), .val (.int av), .val (.ref ca), .val (.int rr), .val (.int (1 : Int32)), .val (.int (1 : Int32)), .unset] [(.int (1 : Int32))])) tgt
          refine XS.istore X49.here hx rfl (hb hby at_224) rfl (l' := #[.val (.int b0), .val (.int b1), .val (.int b2), .val (.int b3), .val (.int sp), .val (.int (2 : Int32)), .val (.int av), .val (.ref ca), .val (.int rr), .val (.int (1 : Int32)), .val (.int (1 : Int32)), .val (.int (1 : Int32))]) rfl ?_
          show Steps p.tables e below (T49.setTop (mkF m 226 #[.val (.int b0), .val (.int b1), .val (.int b2), .val (.int b3), .val (.int sp), .val (.int (2 : Int32)), .val (.int av), .val (.ref ca), .val (.int rr), .val (.int (1 : Int32)), .val (.int (1 : Int32)), .val (.int (1 : Int32))] [])) tgt
          refine XS.iload X49.here hx rfl (hb hby at_226) rfl ?_
          show Steps p.tables e below (T49.setTop (mkF m 228 #[.val (.int b0), .val (.int b1), .val (.int b2), .val (.int b3), .val (.int sp), .val (.int (2 : Int32)), .val (.int av), .val (.ref ca), .val (.int rr), .val (.int (1 : Int32)), .val (.int (1 : Int32)), .val (.int (1 : Int32))] [(.int (1 : Int32))])) tgt
          refine XS.ifNo X49.here hx rfl (hb hby at_228) rfl ((if0 _ _).trans (feq (by decide : ¬ ((1 : Int32) = (0 : Int32)))).1) ?_
          show Steps p.tables e below (T49.setTop (mkF m 231 #[.val (.int b0), .val (.int b1), .val (.int b2), .val (.int b3), .val (.int sp), .val (.int (2 : Int32)), .val (.int av), .val (.ref ca), .val (.int rr), .val (.int (1 : Int32)), .val (.int (1 : Int32)), .val (.int (1 : Int32))] [])) tgt
          refine XS.iload X49.here hx rfl (hb hby at_231) rfl ?_
          show Steps p.tables e below (T49.setTop (mkF m 233 #[.val (.int b0), .val (.int b1), .val (.int b2), .val (.int b3), .val (.int sp), .val (.int (2 : Int32)), .val (.int av), .val (.ref ca), .val (.int rr), .val (.int (1 : Int32)), .val (.int (1 : Int32)), .val (.int (1 : Int32))] [(.int (1 : Int32))])) tgt
          refine XS.ifNo X49.here hx rfl (hb hby at_233) rfl ((if0 _ _).trans (feq (by decide : ¬ ((1 : Int32) = (0 : Int32)))).1) ?_
          show Steps p.tables e below (T49.setTop (mkF m 236 #[.val (.int b0), .val (.int b1), .val (.int b2), .val (.int b3), .val (.int sp), .val (.int (2 : Int32)), .val (.int av), .val (.ref ca), .val (.int rr), .val (.int (1 : Int32)), .val (.int (1 : Int32)), .val (.int (1 : Int32))] [])) tgt
          refine XS.iconst X49.here hx rfl (hb hby at_236) ?_
          show Steps p.tables e below (T49.setTop (mkF m 237 #[.val (.int b0), .val (.int b1), .val (.int b2), .val (.int b3), .val (.int sp), .val (.int (2 : Int32)), .val (.int av), .val (.ref ca), .val (.int rr), .val (.int (1 : Int32)), .val (.int (1 : Int32)), .val (.int (1 : Int32))] [(.int (1 : Int32))])) tgt
          refine XS.goto X49.here hx rfl (pc0 := 237) (pc' := 241) rfl (hb hby at_237) (by decide) (by decide) ?_
          exact k
        refine own_retN X49 hx hlk (t := .boolean) (z' := (1 : Int32)) Bd.returns (by simp) rfl (hb hby at_241) ?_ (by decide) (by decide)
        show Q0 Z b0 b1 b2 b3 sp h0 n0 (some (.int (1 : Int32))) T49.heap _
        rw [K49]
        exact ⟨rfl, N49⟩
      · skip
        refine own_st (V := T48.setTop (mkF m 241 #[.val (.int b0), .val (.int b1), .val (.int b2), .val (.int b3), .val (.int sp), .val (.int (2 : Int32)), .val (.int av), .val (.ref ca), .val (.int rr), .val (.int (1 : Int32)), .val (.int (1 : Int32)), .val (.int (1 : Int32))] [(.int (1 : Int32))])) (fun tgt k => ?_) ?_
        · show Steps p.tables e below (T48.setTop (mkF m 205 #[.val (.int b0), .val (.int b1), .val (.int b2), .val (.int b3), .val (.int sp), .val (.int (2 : Int32)), .val (.int av), .val (.ref ca), .val (.int rr), .val (.int (1 : Int32)), .val (.int (1 : Int32)), .unset] [(.int (2 : Int32)), (.int rr)])) tgt
          refine XS.icmpYes X48.here hx rfl (pc0 := 205) (pc' := 219) rfl (hb hby at_205) rfl (flt hc205).2.1 (by decide) (by decide) ?_
          show Steps p.tables e below (T48.setTop (mkF m 219 #[.val (.int b0), .val (.int b1), .val (.int b2), .val (.int b3), .val (.int sp), .val (.int (2 : Int32)), .val (.int av), .val (.ref ca), .val (.int rr), .val (.int (1 : Int32)), .val (.int (1 : Int32)), .unset] [])) tgt
          refine XS.iconst X48.here hx rfl (hb hby at_219) ?_
          show Steps p.tables e below (T48.setTop (mkF m 220 #[.val (.int b0), .val (.int b1), .val (.int b2), .val (.int b3), .val (.int sp), .val (.int (2 : Int32)), .val (.int av), .val (.ref ca), .val (.int rr), .val (.int (1 : Int32)), .val (.int (1 : Int32)), .unset] [(.int (1 : Int32))])) tgt
          refine XS.goto X48.here hx rfl (pc0 := 220) (pc' := 224) rfl (hb hby at_220) (by decide) (by decide) ?_
          show Steps p.tables e below (T48.setTop (mkF m 224 #[.val (.int b0), .val (.int b1), .val (.int b2), .val (.int b3), .val (.int sp), .val (.int (2 : Int32)), .val (.int av), .val (.ref ca), .val (.int rr), .val (.int (1 : Int32)), .val (.int (1 : Int32)), .unset] [(.int (1 : Int32))])) tgt
          refine XS.istore X48.here hx rfl (hb hby at_224) rfl (l' := #[.val (.int b0), .val (.int b1), .val (.int b2), .val (.int b3), .val (.int sp), .val (.int (2 : Int32)), .val (.int av), .val (.ref ca), .val (.int rr), .val (.int (1 : Int32)), .val (.int (1 : Int32)), .val (.int (1 : Int32))]) rfl ?_
          show Steps p.tables e below (T48.setTop (mkF m 226 #[.val (.int b0), .val (.int b1), .val (.int b2), .val (.int b3), .val (.int sp), .val (.int (2 : Int32)), .val (.int av), .val (.ref ca), .val (.int rr), .val (.int (1 : Int32)), .val (.int (1 : Int32)), .val (.int (1 : Int32))] [])) tgt
          refine XS.iload X48.here hx rfl (hb hby at_226) rfl ?_
          show Steps p.tables e below (T48.setTop (mkF m 228 #[.val (.int b0), .val (.int b1), .val (.int b2), .val (.int b3), .val (.int sp), .val (.int (2 : Int32)), .val (.int av), .val (.ref ca), .val (.int rr), .val (.int (1 : Int32)), .val (.int (1 : Int32)), .val (.int (1 : Int32))] [(.int (1 : Int32))])) tgt
          refine XS.ifNo X48.here hx rfl (hb hby at_228) rfl ((if0 _ _).trans (feq (by decide : ¬ ((1 : Int32) = (0 : Int32)))).1) ?_
          show Steps p.tables e below (T48.setTop (mkF m 231 #[.val (.int b0), .val (.int b1), .val (.int b2), .val (.int b3), .val (.int sp), .val (.int (2 : Int32)), .val (.int av), .val (.ref ca), .val (.int rr), .val (.int (1 : Int32)), .val (.int (1 : Int32)), .val (.int (1 : Int32))] [])) tgt
          refine XS.iload X48.here hx rfl (hb hby at_231) rfl ?_
          show Steps p.tables e below (T48.setTop (mkF m 233 #[.val (.int b0), .val (.int b1), .val (.int b2), .val (.int b3), .val (.int sp), .val (.int (2 : Int32)), .val (.int av), .val (.ref ca), .val (.int rr), .val (.int (1 : Int32)), .val (.int (1 : Int32)), .val (.int (1 : Int32))] [(.int (1 : Int32))])) tgt
          refine XS.ifNo X48.here hx rfl (hb hby at_233) rfl ((if0 _ _).trans (feq (by decide : ¬ ((1 : Int32) = (0 : Int32)))).1) ?_
          show Steps p.tables e below (T48.setTop (mkF m 236 #[.val (.int b0), .val (.int b1), .val (.int b2), .val (.int b3), .val (.int sp), .val (.int (2 : Int32)), .val (.int av), .val (.ref ca), .val (.int rr), .val (.int (1 : Int32)), .val (.int (1 : Int32)), .val (.int (1 : Int32))] [])) tgt
          refine XS.iconst X48.here hx rfl (hb hby at_236) ?_
          show Steps p.tables e below (T48.setTop (mkF m 237 #[.val (.int b0), .val (.int b1), .val (.int b2), .val (.int b3), .val (.int sp), .val (.int (2 : Int32)), .val (.int av), .val (.ref ca), .val (.int rr), .val (.int (1 : Int32)), .val (.int (1 : Int32)), .val (.int (1 : Int32))] [(.int (1 : Int32))])) tgt
          refine XS.goto X48.here hx rfl (pc0 := 237) (pc' := 241) rfl (hb hby at_237) (by decide) (by decide) ?_
          exact k
        refine own_retN X48 hx hlk (t := .boolean) (z' := (1 : Int32)) Bd.returns (by simp) rfl (hb hby at_241) ?_ (by decide) (by decide)
        show Q0 Z b0 b1 b2 b3 sp h0 n0 (some (.int (1 : Int32))) T48.heap _
        rw [K48]
        exact ⟨rfl, N48⟩
  · skip
    rw [show ((sp &&& (7 : Int32)) % (5 : Int32)) = (3 : Int32) from q]
    refine own_st (V := s₁.setTop (mkF m 18 #[.val (.int b0), .val (.int b1), .val (.int b2), .val (.int b3), .val (.int sp), .val (.int (3 : Int32)), .val (.int (((sp.toUInt32 >>> ((3 : Int32) &&& 31).toUInt32).toInt32) &&& (7 : Int32))), .unset, .unset, .unset, .unset, .unset] [])) (fun tgt k => ?_) ?_
    · show Steps p.tables e below (s₁.setTop (mkF m 9 #[.val (.int b0), .val (.int b1), .val (.int b2), .val (.int b3), .val (.int sp), .val (.int (3 : Int32)), .unset, .unset, .unset, .unset, .unset, .unset] [])) tgt
      refine XS.iload X0.here hx rfl (hb hby at_9) rfl ?_
      show Steps p.tables e below (s₁.setTop (mkF m 11 #[.val (.int b0), .val (.int b1), .val (.int b2), .val (.int b3), .val (.int sp), .val (.int (3 : Int32)), .unset, .unset, .unset, .unset, .unset, .unset] [(.int sp)])) tgt
      refine XS.iconst X0.here hx rfl (hb hby at_11) ?_
      show Steps p.tables e below (s₁.setTop (mkF m 12 #[.val (.int b0), .val (.int b1), .val (.int b2), .val (.int b3), .val (.int sp), .val (.int (3 : Int32)), .unset, .unset, .unset, .unset, .unset, .unset] [(.int (3 : Int32)), (.int sp)])) tgt
      refine XS.iushr X0.here hx rfl (hb hby at_12) rfl ?_
      show Steps p.tables e below (s₁.setTop (mkF m 13 #[.val (.int b0), .val (.int b1), .val (.int b2), .val (.int b3), .val (.int sp), .val (.int (3 : Int32)), .unset, .unset, .unset, .unset, .unset, .unset] [(.int ((sp.toUInt32 >>> ((3 : Int32) &&& 31).toUInt32).toInt32))])) tgt
      refine XS.bipush X0.here hx rfl (hb hby at_13) ?_
      show Steps p.tables e below (s₁.setTop (mkF m 15 #[.val (.int b0), .val (.int b1), .val (.int b2), .val (.int b3), .val (.int sp), .val (.int (3 : Int32)), .unset, .unset, .unset, .unset, .unset, .unset] [(.int (7 : Int32)), (.int ((sp.toUInt32 >>> ((3 : Int32) &&& 31).toUInt32).toInt32))])) tgt
      refine XS.iand X0.here hx rfl (hb hby at_15) rfl ?_
      show Steps p.tables e below (s₁.setTop (mkF m 16 #[.val (.int b0), .val (.int b1), .val (.int b2), .val (.int b3), .val (.int sp), .val (.int (3 : Int32)), .unset, .unset, .unset, .unset, .unset, .unset] [(.int (((sp.toUInt32 >>> ((3 : Int32) &&& 31).toUInt32).toInt32) &&& (7 : Int32)))])) tgt
      refine XS.istore X0.here hx rfl (hb hby at_16) rfl (l' := #[.val (.int b0), .val (.int b1), .val (.int b2), .val (.int b3), .val (.int sp), .val (.int (3 : Int32)), .val (.int (((sp.toUInt32 >>> ((3 : Int32) &&& 31).toUInt32).toInt32) &&& (7 : Int32))), .unset, .unset, .unset, .unset, .unset]) rfl ?_
      exact k
    obtain ⟨av, hav⟩ : ∃ z : Int32, z = (((sp.toUInt32 >>> ((3 : Int32) &&& 31).toUInt32).toInt32) &&& (7 : Int32)) := ⟨_, rfl⟩
    rw [← hav]
    have hav0 : 0 ≤ av.toInt := by rw [hav]; exact (c_and _ 7 (by decide)).1
    refine own_st (V := s₁.setTop (mkF m 20 #[.val (.int b0), .val (.int b1), .val (.int b2), .val (.int b3), .val (.int sp), .val (.int (3 : Int32)), .val (.int av), .unset, .unset, .unset, .unset, .unset] [(.int (3 : Int32))])) (fun tgt k => ?_) ?_
    · show Steps p.tables e below (s₁.setTop (mkF m 18 #[.val (.int b0), .val (.int b1), .val (.int b2), .val (.int b3), .val (.int sp), .val (.int (3 : Int32)), .val (.int av), .unset, .unset, .unset, .unset, .unset] [])) tgt
      refine XS.iload X0.here hx rfl (hb hby at_18) rfl ?_
      exact k
    obtain ⟨T52, h52, c52, X52, e52, E52, A52, st52⟩ := own_newarr X0 hx hZ (hw _ (List.mem_of_getElem? (i := 0) rfl)) e0 (g := (mkF m 20 #[.val (.int b0), .val (.int b1), .val (.int b2), .val (.int b3), .val (.int sp), .val (.int (3 : Int32)), .val (.int av), .unset, .unset, .unset, .unset, .unset] [(.int (3 : Int32))])) rfl (hb hby at_20) rfl (k := 3) rfl (cap := 3) (by decide) (by decide) (by decide) (by decide)
    obtain ⟨ca, g52⟩ : ∃ z, z = h0.size := ⟨_, rfl⟩
    rw [← g52] at A52 st52
    have g_ca : n0 ≤ ca := Nat.le_trans Z0 (Nat.le_of_eq g52.symm)
    have A_ca_52 : own_Ai Z h52 ca .byte 3 (fun _ => 0) := own_Ai.new A52
    have Zs52 : n0 ≤ h52.size := Nat.le_trans Z0 E52.1
    refine own_st st52 ?_
    show own_Go p e below _ (T52.setTop (mkF m 22 #[.val (.int b0), .val (.int b1), .val (.int b2), .val (.int b3), .val (.int sp), .val (.int (3 : Int32)), .val (.int av), .unset, .unset, .unset, .unset, .unset] [(.ref ca)]))
    refine own_st (V := T52.setTop (mkF m 37 #[.val (.int b0), .val (.int b1), .val (.int b2), .val (.int b3), .val (.int sp), .val (.int (3 : Int32)), .val (.int av), .val (.ref ca), .unset, .unset, .unset, .unset] [(.int ((b0 + (48 : Int32)).toInt8.toInt32)), (.int (0 : Int32)), (.ref ca)])) (fun tgt k => ?_) ?_
    · show Steps p.tables e below (T52.setTop (mkF m 22 #[.val (.int b0), .val (.int b1), .val (.int b2), .val (.int b3), .val (.int sp), .val (.int (3 : Int32)), .val (.int av), .unset, .unset, .unset, .unset, .unset] [(.ref ca)])) tgt
      refine XS.astore X52.here hx rfl (hb hby at_22) rfl rfl (l' := #[.val (.int b0), .val (.int b1), .val (.int b2), .val (.int b3), .val (.int sp), .val (.int (3 : Int32)), .val (.int av), .val (.ref ca), .unset, .unset, .unset, .unset]) rfl ?_
      show Steps p.tables e below (T52.setTop (mkF m 24 #[.val (.int b0), .val (.int b1), .val (.int b2), .val (.int b3), .val (.int sp), .val (.int (3 : Int32)), .val (.int av), .val (.ref ca), .unset, .unset, .unset, .unset] [])) tgt
      refine XS.iload X52.here hx rfl (hb hby at_24) rfl ?_
      show Steps p.tables e below (T52.setTop (mkF m 26 #[.val (.int b0), .val (.int b1), .val (.int b2), .val (.int b3), .val (.int sp), .val (.int (3 : Int32)), .val (.int av), .val (.ref ca), .unset, .unset, .unset, .unset] [(.int (3 : Int32))])) tgt
      refine XS.ifNo X52.here hx rfl (hb hby at_26) rfl ((if0 _ _).trans (tlt (by decide : (0 : Int32) < (3 : Int32))).2.2.2) ?_
      show Steps p.tables e below (T52.setTop (mkF m 29 #[.val (.int b0), .val (.int b1), .val (.int b2), .val (.int b3), .val (.int sp), .val (.int (3 : Int32)), .val (.int av), .val (.ref ca), .unset, .unset, .unset, .unset] [])) tgt
      refine XS.aload X52.here hx rfl (hb hby at_29) rfl rfl ?_
      show Steps p.tables e below (T52.setTop (mkF m 31 #[.val (.int b0), .val (.int b1), .val (.int b2), .val (.int b3), .val (.int sp), .val (.int (3 : Int32)), .val (.int av), .val (.ref ca), .unset, .unset, .unset, .unset] [(.ref ca)])) tgt
      refine XS.iconst X52.here hx rfl (hb hby at_31) ?_
      show Steps p.tables e below (T52.setTop (mkF m 32 #[.val (.int b0), .val (.int b1), .val (.int b2), .val (.int b3), .val (.int sp), .val (.int (3 : Int32)), .val (.int av), .val (.ref ca), .unset, .unset, .unset, .unset] [(.int (0 : Int32)), (.ref ca)])) tgt
      refine XS.iloadN X52.here hx rfl (hb hby at_32) rfl ?_
      show Steps p.tables e below (T52.setTop (mkF m 33 #[.val (.int b0), .val (.int b1), .val (.int b2), .val (.int b3), .val (.int sp), .val (.int (3 : Int32)), .val (.int av), .val (.ref ca), .unset, .unset, .unset, .unset] [(.int b0), (.int (0 : Int32)), (.ref ca)])) tgt
      refine XS.bipush X52.here hx rfl (hb hby at_33) ?_
      show Steps p.tables e below (T52.setTop (mkF m 35 #[.val (.int b0), .val (.int b1), .val (.int b2), .val (.int b3), .val (.int sp), .val (.int (3 : Int32)), .val (.int av), .val (.ref ca), .unset, .unset, .unset, .unset] [(.int (48 : Int32)), (.int b0), (.int (0 : Int32)), (.ref ca)])) tgt
      refine XS.iadd X52.here hx rfl (hb hby at_35) rfl ?_
      show Steps p.tables e below (T52.setTop (mkF m 36 #[.val (.int b0), .val (.int b1), .val (.int b2), .val (.int b3), .val (.int sp), .val (.int (3 : Int32)), .val (.int av), .val (.ref ca), .unset, .unset, .unset, .unset] [(.int (b0 + (48 : Int32))), (.int (0 : Int32)), (.ref ca)])) tgt
      refine XS.i2b X52.here hx rfl (hb hby at_36) rfl ?_
      exact k
    obtain ⟨T53, h53, X53, e53, W53, A_ca_53, st53⟩ := own_bastore X52 hx hZ e52 A_ca_52 (j := (0 : Int32)) (k := 0) rfl (by decide) (g := (mkF m 37 #[.val (.int b0), .val (.int b1), .val (.int b2), .val (.int b3), .val (.int sp), .val (.int (3 : Int32)), .val (.int av), .val (.ref ca), .unset, .unset, .unset, .unset] [(.int ((b0 + (48 : Int32)).toInt8.toInt32)), (.int (0 : Int32)), (.ref ca)])) rfl rfl (hb hby at_37)
    have N53 := Fr.snoc X53 N0 g_ca
    have Zs53 : n0 ≤ h53.size := Nat.le_trans Zs52 (Keep.of_wr W53).1
    refine own_st st53 ?_
    show own_Go p e below _ (T53.setTop (mkF m 38 #[.val (.int b0), .val (.int b1), .val (.int b2), .val (.int b3), .val (.int sp), .val (.int (3 : Int32)), .val (.int av), .val (.ref ca), .unset, .unset, .unset, .unset] []))
    refine own_st (V := T53.setTop (mkF m 52 #[.val (.int b0), .val (.int b1), .val (.int b2), .val (.int b3), .val (.int sp), .val (.int (3 : Int32)), .val (.int av), .val (.ref ca), .unset, .unset, .unset, .unset] [(.int ((b1 + (48 : Int32)).toInt8.toInt32)), (.int (1 : Int32)), (.ref ca)])) (fun tgt k => ?_) ?_
    · show Steps p.tables e below (T53.setTop (mkF m 38 #[.val (.int b0), .val (.int b1), .val (.int b2), .val (.int b3), .val (.int sp), .val (.int (3 : Int32)), .val (.int av), .val (.ref ca), .unset, .unset, .unset, .unset] [])) tgt
      refine XS.iload X53.here hx rfl (hb hby at_38) rfl ?_
      show Steps p.tables e below (T53.setTop (mkF m 40 #[.val (.int b0), .val (.int b1), .val (.int b2), .val (.int b3), .val (.int sp), .val (.int (3 : Int32)), .val (.int av), .val (.ref ca), .unset, .unset, .unset, .unset] [(.int (3 : Int32))])) tgt
      refine XS.iconst X53.here hx rfl (hb hby at_40) ?_
      show Steps p.tables e below (T53.setTop (mkF m 41 #[.val (.int b0), .val (.int b1), .val (.int b2), .val (.int b3), .val (.int sp), .val (.int (3 : Int32)), .val (.int av), .val (.ref ca), .unset, .unset, .unset, .unset] [(.int (1 : Int32)), (.int (3 : Int32))])) tgt
      refine XS.icmpNo X53.here hx rfl (hb hby at_41) rfl (tlt (by decide : (1 : Int32) < (3 : Int32))).2.2.2 ?_
      show Steps p.tables e below (T53.setTop (mkF m 44 #[.val (.int b0), .val (.int b1), .val (.int b2), .val (.int b3), .val (.int sp), .val (.int (3 : Int32)), .val (.int av), .val (.ref ca), .unset, .unset, .unset, .unset] [])) tgt
      refine XS.aload X53.here hx rfl (hb hby at_44) rfl rfl ?_
      show Steps p.tables e below (T53.setTop (mkF m 46 #[.val (.int b0), .val (.int b1), .val (.int b2), .val (.int b3), .val (.int sp), .val (.int (3 : Int32)), .val (.int av), .val (.ref ca), .unset, .unset, .unset, .unset] [(.ref ca)])) tgt
      refine XS.iconst X53.here hx rfl (hb hby at_46) ?_
      show Steps p.tables e below (T53.setTop (mkF m 47 #[.val (.int b0), .val (.int b1), .val (.int b2), .val (.int b3), .val (.int sp), .val (.int (3 : Int32)), .val (.int av), .val (.ref ca), .unset, .unset, .unset, .unset] [(.int (1 : Int32)), (.ref ca)])) tgt
      refine XS.iloadN X53.here hx rfl (hb hby at_47) rfl ?_
      show Steps p.tables e below (T53.setTop (mkF m 48 #[.val (.int b0), .val (.int b1), .val (.int b2), .val (.int b3), .val (.int sp), .val (.int (3 : Int32)), .val (.int av), .val (.ref ca), .unset, .unset, .unset, .unset] [(.int b1), (.int (1 : Int32)), (.ref ca)])) tgt
      refine XS.bipush X53.here hx rfl (hb hby at_48) ?_
      show Steps p.tables e below (T53.setTop (mkF m 50 #[.val (.int b0), .val (.int b1), .val (.int b2), .val (.int b3), .val (.int sp), .val (.int (3 : Int32)), .val (.int av), .val (.ref ca), .unset, .unset, .unset, .unset] [(.int (48 : Int32)), (.int b1), (.int (1 : Int32)), (.ref ca)])) tgt
      refine XS.iadd X53.here hx rfl (hb hby at_50) rfl ?_
      show Steps p.tables e below (T53.setTop (mkF m 51 #[.val (.int b0), .val (.int b1), .val (.int b2), .val (.int b3), .val (.int sp), .val (.int (3 : Int32)), .val (.int av), .val (.ref ca), .unset, .unset, .unset, .unset] [(.int (b1 + (48 : Int32))), (.int (1 : Int32)), (.ref ca)])) tgt
      refine XS.i2b X53.here hx rfl (hb hby at_51) rfl ?_
      exact k
    obtain ⟨T54, h54, X54, e54, W54, A_ca_54, st54⟩ := own_bastore X53 hx hZ e53 A_ca_53 (j := (1 : Int32)) (k := 1) rfl (by decide) (g := (mkF m 52 #[.val (.int b0), .val (.int b1), .val (.int b2), .val (.int b3), .val (.int sp), .val (.int (3 : Int32)), .val (.int av), .val (.ref ca), .unset, .unset, .unset, .unset] [(.int ((b1 + (48 : Int32)).toInt8.toInt32)), (.int (1 : Int32)), (.ref ca)])) rfl rfl (hb hby at_52)
    have N54 := Fr.snoc X54 N53 g_ca
    have Zs54 : n0 ≤ h54.size := Nat.le_trans Zs53 (Keep.of_wr W54).1
    refine own_st st54 ?_
    show own_Go p e below _ (T54.setTop (mkF m 53 #[.val (.int b0), .val (.int b1), .val (.int b2), .val (.int b3), .val (.int sp), .val (.int (3 : Int32)), .val (.int av), .val (.ref ca), .unset, .unset, .unset, .unset] []))
    refine own_st (V := T54.setTop (mkF m 67 #[.val (.int b0), .val (.int b1), .val (.int b2), .val (.int b3), .val (.int sp), .val (.int (3 : Int32)), .val (.int av), .val (.ref ca), .unset, .unset, .unset, .unset] [(.int ((b2 + (48 : Int32)).toInt8.toInt32)), (.int (2 : Int32)), (.ref ca)])) (fun tgt k => ?_) ?_
    · show Steps p.tables e below (T54.setTop (mkF m 53 #[.val (.int b0), .val (.int b1), .val (.int b2), .val (.int b3), .val (.int sp), .val (.int (3 : Int32)), .val (.int av), .val (.ref ca), .unset, .unset, .unset, .unset] [])) tgt
      refine XS.iload X54.here hx rfl (hb hby at_53) rfl ?_
      show Steps p.tables e below (T54.setTop (mkF m 55 #[.val (.int b0), .val (.int b1), .val (.int b2), .val (.int b3), .val (.int sp), .val (.int (3 : Int32)), .val (.int av), .val (.ref ca), .unset, .unset, .unset, .unset] [(.int (3 : Int32))])) tgt
      refine XS.iconst X54.here hx rfl (hb hby at_55) ?_
      show Steps p.tables e below (T54.setTop (mkF m 56 #[.val (.int b0), .val (.int b1), .val (.int b2), .val (.int b3), .val (.int sp), .val (.int (3 : Int32)), .val (.int av), .val (.ref ca), .unset, .unset, .unset, .unset] [(.int (2 : Int32)), (.int (3 : Int32))])) tgt
      refine XS.icmpNo X54.here hx rfl (hb hby at_56) rfl (tlt (by decide : (2 : Int32) < (3 : Int32))).2.2.2 ?_
      show Steps p.tables e below (T54.setTop (mkF m 59 #[.val (.int b0), .val (.int b1), .val (.int b2), .val (.int b3), .val (.int sp), .val (.int (3 : Int32)), .val (.int av), .val (.ref ca), .unset, .unset, .unset, .unset] [])) tgt
      refine XS.aload X54.here hx rfl (hb hby at_59) rfl rfl ?_
      show Steps p.tables e below (T54.setTop (mkF m 61 #[.val (.int b0), .val (.int b1), .val (.int b2), .val (.int b3), .val (.int sp), .val (.int (3 : Int32)), .val (.int av), .val (.ref ca), .unset, .unset, .unset, .unset] [(.ref ca)])) tgt
      refine XS.iconst X54.here hx rfl (hb hby at_61) ?_
      show Steps p.tables e below (T54.setTop (mkF m 62 #[.val (.int b0), .val (.int b1), .val (.int b2), .val (.int b3), .val (.int sp), .val (.int (3 : Int32)), .val (.int av), .val (.ref ca), .unset, .unset, .unset, .unset] [(.int (2 : Int32)), (.ref ca)])) tgt
      refine XS.iloadN X54.here hx rfl (hb hby at_62) rfl ?_
      show Steps p.tables e below (T54.setTop (mkF m 63 #[.val (.int b0), .val (.int b1), .val (.int b2), .val (.int b3), .val (.int sp), .val (.int (3 : Int32)), .val (.int av), .val (.ref ca), .unset, .unset, .unset, .unset] [(.int b2), (.int (2 : Int32)), (.ref ca)])) tgt
      refine XS.bipush X54.here hx rfl (hb hby at_63) ?_
      show Steps p.tables e below (T54.setTop (mkF m 65 #[.val (.int b0), .val (.int b1), .val (.int b2), .val (.int b3), .val (.int sp), .val (.int (3 : Int32)), .val (.int av), .val (.ref ca), .unset, .unset, .unset, .unset] [(.int (48 : Int32)), (.int b2), (.int (2 : Int32)), (.ref ca)])) tgt
      refine XS.iadd X54.here hx rfl (hb hby at_65) rfl ?_
      show Steps p.tables e below (T54.setTop (mkF m 66 #[.val (.int b0), .val (.int b1), .val (.int b2), .val (.int b3), .val (.int sp), .val (.int (3 : Int32)), .val (.int av), .val (.ref ca), .unset, .unset, .unset, .unset] [(.int (b2 + (48 : Int32))), (.int (2 : Int32)), (.ref ca)])) tgt
      refine XS.i2b X54.here hx rfl (hb hby at_66) rfl ?_
      exact k
    obtain ⟨T55, h55, X55, e55, W55, A_ca_55, st55⟩ := own_bastore X54 hx hZ e54 A_ca_54 (j := (2 : Int32)) (k := 2) rfl (by decide) (g := (mkF m 67 #[.val (.int b0), .val (.int b1), .val (.int b2), .val (.int b3), .val (.int sp), .val (.int (3 : Int32)), .val (.int av), .val (.ref ca), .unset, .unset, .unset, .unset] [(.int ((b2 + (48 : Int32)).toInt8.toInt32)), (.int (2 : Int32)), (.ref ca)])) rfl rfl (hb hby at_67)
    have N55 := Fr.snoc X55 N54 g_ca
    have Zs55 : n0 ≤ h55.size := Nat.le_trans Zs54 (Keep.of_wr W55).1
    refine own_st st55 ?_
    show own_Go p e below _ (T55.setTop (mkF m 68 #[.val (.int b0), .val (.int b1), .val (.int b2), .val (.int b3), .val (.int sp), .val (.int (3 : Int32)), .val (.int av), .val (.ref ca), .unset, .unset, .unset, .unset] []))
    refine own_st (V := T55.setTop (mkF m 87 #[.val (.int b0), .val (.int b1), .val (.int b2), .val (.int b3), .val (.int sp), .val (.int (3 : Int32)), .val (.int av), .val (.ref ca), .unset, .unset, .unset, .unset] [(.int av), (.ref ca)])) (fun tgt k => ?_) ?_
    · show Steps p.tables e below (T55.setTop (mkF m 68 #[.val (.int b0), .val (.int b1), .val (.int b2), .val (.int b3), .val (.int sp), .val (.int (3 : Int32)), .val (.int av), .val (.ref ca), .unset, .unset, .unset, .unset] [])) tgt
      refine XS.iload X55.here hx rfl (hb hby at_68) rfl ?_
      show Steps p.tables e below (T55.setTop (mkF m 70 #[.val (.int b0), .val (.int b1), .val (.int b2), .val (.int b3), .val (.int sp), .val (.int (3 : Int32)), .val (.int av), .val (.ref ca), .unset, .unset, .unset, .unset] [(.int (3 : Int32))])) tgt
      refine XS.iconst X55.here hx rfl (hb hby at_70) ?_
      show Steps p.tables e below (T55.setTop (mkF m 71 #[.val (.int b0), .val (.int b1), .val (.int b2), .val (.int b3), .val (.int sp), .val (.int (3 : Int32)), .val (.int av), .val (.ref ca), .unset, .unset, .unset, .unset] [(.int (3 : Int32)), (.int (3 : Int32))])) tgt
      refine XS.icmpYes X55.here hx rfl (pc0 := 71) (pc' := 83) rfl (hb hby at_71) rfl (flt (by decide : ¬ ((3 : Int32) < (3 : Int32)))).2.2.2 (by decide) (by decide) ?_
      show Steps p.tables e below (T55.setTop (mkF m 83 #[.val (.int b0), .val (.int b1), .val (.int b2), .val (.int b3), .val (.int sp), .val (.int (3 : Int32)), .val (.int av), .val (.ref ca), .unset, .unset, .unset, .unset] [])) tgt
      refine XS.aload X55.here hx rfl (hb hby at_83) rfl rfl ?_
      show Steps p.tables e below (T55.setTop (mkF m 85 #[.val (.int b0), .val (.int b1), .val (.int b2), .val (.int b3), .val (.int sp), .val (.int (3 : Int32)), .val (.int av), .val (.ref ca), .unset, .unset, .unset, .unset] [(.ref ca)])) tgt
      refine XS.iload X55.here hx rfl (hb hby at_85) rfl ?_
      exact k
    obtain ⟨rr, R1, R2, R3⟩ := own_ex (own_up (own_up (own_up (fun _ => 0) 0 ((b0 + (48 : Int32)).toInt8.toInt32).toInt8.toInt32) 1 ((b1 + (48 : Int32)).toInt8.toInt32).toInt8.toInt32) 2 ((b2 + (48 : Int32)).toInt8.toInt32).toInt8.toInt32) 3 (by decide) 3 av hav0 (by omega)
    obtain ⟨_, _, ⟨T56, L56, k56, n56⟩, -, X56, ⟨Lc56, hQ56, l56, y56, z56⟩, st56⟩ := Jvm.LawKit.callS X55 hx (y := (⟨"com/example/tidewatch/tidewatch/io/Decimal", "skipDigits", "([BI)I"⟩ : MethodName)) hown (mvT hZ (hw _ (List.mem_of_getElem? (i := 1) rfl))) (mvT hZ (hw _ (List.mem_of_getElem? (i := 2) rfl))) (mvT hZ (hw _ (List.mem_of_getElem? (i := 3) rfl))) (mvT hZ (hw _ (List.mem_of_getElem? (i := 4) rfl))) (by decide) (backOf (W := 0) (rm1 l Z a0 hw [] ca av (3 : Int32) 3 (own_up (own_up (own_up (fun _ => 0) 0 ((b0 + (48 : Int32)).toInt8.toInt32).toInt8.toInt32) 1 ((b1 + (48 : Int32)).toInt8.toInt32).toInt8.toInt32) 2 ((b2 + (48 : Int32)).toInt8.toInt32).toInt8.toInt32) rr h55 n0 Zs55 A_ca_55 (by decide) (by decide) hav0 R1 R2 R3) hZ (hw _ (List.mem_of_getElem? (i := 4) rfl)) (hw _ (List.mem_of_getElem? (i := 3) rfl)) (by decide) (by decide)) (g := (mkF m 87 #[.val (.int b0), .val (.int b1), .val (.int b2), .val (.int b3), .val (.int sp), .val (.int (3 : Int32)), .val (.int av), .val (.ref ca), .unset, .unset, .unset, .unset] [(.int av), (.ref ca)])) rfl (by rw [hml]; rfl) (argsL := [(.ref ca), (.int av)]) (rest := []) (lenOf pd_0_0 rfl) rfl (by show 2 * 0 + _ ≤ _; exact Nat.le_of_eq rfl) (hb hby at_87) (fun _ _ => ⟨rfl, e55, (by decide : 1 + 0 ≤ _), (by decide : 3 + 0 ≤ _)⟩)
    dsimp only [Pt.U, Pt.locs, Pt.cells, Pt.slots] at X56 l56 y56 z56 st56 hQ56
    subst l56 y56 z56
    obtain ⟨rfl, N56q, K56⟩ := hQ56
    have N56 := Fr.app N55 N56q
    refine own_st st56 ?_
    show own_Go p e below _ (T56.setTop (mkF m 90 #[.val (.int b0), .val (.int b1), .val (.int b2), .val (.int b3), .val (.int sp), .val (.int (3 : Int32)), .val (.int av), .val (.ref ca), .unset, .unset, .unset, .unset] [(.int rr)]))
    refine own_st (V := T56.setTop (mkF m 96 #[.val (.int b0), .val (.int b1), .val (.int b2), .val (.int b3), .val (.int sp), .val (.int (3 : Int32)), .val (.int av), .val (.ref ca), .val (.int rr), .unset, .unset, .unset] [(.int (3 : Int32)), (.int av)])) (fun tgt k => ?_) ?_
    · show Steps p.tables e below (T56.setTop (mkF m 90 #[.val (.int b0), .val (.int b1), .val (.int b2), .val (.int b3), .val (.int sp), .val (.int (3 : Int32)), .val (.int av), .val (.ref ca), .unset, .unset, .unset, .unset] [(.int rr)])) tgt
      refine XS.istore X56.here hx rfl (hb hby at_90) rfl (l' := #[.val (.int b0), .val (.int b1), .val (.int b2), .val (.int b3), .val (.int sp), .val (.int (3 : Int32)), .val (.int av), .val (.ref ca), .val (.int rr), .unset, .unset, .unset]) rfl ?_
      show Steps p.tables e below (T56.setTop (mkF m 92 #[.val (.int b0), .val (.int b1), .val (.int b2), .val (.int b3), .val (.int sp), .val (.int (3 : Int32)), .val (.int av), .val (.ref ca), .val (.int rr), .unset, .unset, .unset] [])) tgt
      refine XS.iload X56.here hx rfl (hb hby at_92) rfl ?_
      show Steps p.tables e below (T56.setTop (mkF m 94 #[.val (.int b0), .val (.int b1), .val (.int b2), .val (.int b3), .val (.int sp), .val (.int (3 : Int32)), .val (.int av), .val (.ref ca), .val (.int rr), .unset, .unset, .unset] [(.int av)])) tgt
      refine XS.iload X56.here hx rfl (hb hby at_94) rfl ?_
      exact k
    by_cases hc96 : av < (3 : Int32)
    · skip
      refine own_st (V := T56.setTop (mkF m 149 #[.val (.int b0), .val (.int b1), .val (.int b2), .val (.int b3), .val (.int sp), .val (.int (3 : Int32)), .val (.int av), .val (.ref ca), .val (.int rr), .val (.int (1 : Int32)), .unset, .unset] [(.int (0 : Int32)), (.int rr), (.int av), (.ref ca)])) (fun tgt k => ?_) ?_
      · show Steps p.tables e below (T56.setTop (mkF m 96 #[.val (.int b0), .val (.int b1), .val (.int b2), .val (.int b3), .val (.int sp), .val (.int (3 : Int32)), .val (.int av), .val (.ref ca), .val (.int rr), .unset, .unset, .unset] [(.int (3 : Int32)), (.int av)])) tgt
        refine XS.icmpYes X56.here hx rfl (pc0 := 96) (pc' := 114) rfl (hb hby at_96) rfl (tlt hc96).1 (by decide) (by decide) ?_
        show Steps p.tables e below (T56.setTop (mkF m 114 #[.val (.int b0), .val (.int b1), .val (.int b2), .val (.int b3), .val (.int sp), .val (.int (3 : Int32)), .val (.int av), .val (.ref ca), .val (.int rr), .unset, .unset, .unset] [])) tgt
        refine XS.iload X56.here hx rfl (hb hby at_114) rfl ?_
        show Steps p.tables e below (T56.setTop (mkF m 116 #[.val (.int b0), .val (.int b1), .val (.int b2), .val (.int b3), .val (.int sp), .val (.int (3 : Int32)), .val (.int av), .val (.ref ca), .val (.int rr), .unset, .unset, .unset] [(.int rr)])) tgt
        refine XS.iload X56.here hx rfl (hb hby at_116) rfl ?_
        show Steps p.tables e below (T56.setTop (mkF m 118 #[.val (.int b0), .val (.int b1), .val (.int b2), .val (.int b3), .val (.int sp), .val (.int (3 : Int32)), .val (.int av), .val (.ref ca), .val (.int rr), .unset, .unset, .unset] [(.int av), (.int rr)])) tgt
        refine XS.icmpNo X56.here hx rfl (hb hby at_118) rfl (flt (own_nlt R1)).1 ?_
        show Steps p.tables e below (T56.setTop (mkF m 121 #[.val (.int b0), .val (.int b1), .val (.int b2), .val (.int b3), .val (.int sp), .val (.int (3 : Int32)), .val (.int av), .val (.ref ca), .val (.int rr), .unset, .unset, .unset] [])) tgt
        refine XS.iload X56.here hx rfl (hb hby at_121) rfl ?_
        show Steps p.tables e below (T56.setTop (mkF m 123 #[.val (.int b0), .val (.int b1), .val (.int b2), .val (.int b3), .val (.int sp), .val (.int (3 : Int32)), .val (.int av), .val (.ref ca), .val (.int rr), .unset, .unset, .unset] [(.int rr)])) tgt
        refine XS.iload X56.here hx rfl (hb hby at_123) rfl ?_
        show Steps p.tables e below (T56.setTop (mkF m 125 #[.val (.int b0), .val (.int b1), .val (.int b2), .val (.int b3), .val (.int sp), .val (.int (3 : Int32)), .val (.int av), .val (.ref ca), .val (.int rr), .unset, .unset, .unset] [(.int (3 : Int32)), (.int rr)])) tgt
        refine XS.icmpNo X56.here hx rfl (hb hby at_125) rfl (flt (own_le R2 hav0 (by decide) hc96)).2.2.1 ?_
        show Steps p.tables e below (T56.setTop (mkF m 128 #[.val (.int b0), .val (.int b1), .val (.int b2), .val (.int b3), .val (.int sp), .val (.int (3 : Int32)), .val (.int av), .val (.ref ca), .val (.int rr), .unset, .unset, .unset] [])) tgt
        refine XS.iconst X56.here hx rfl (hb hby at_128) ?_
        show Steps p.tables e below (T56.setTop (mkF m 129 #[.val (.int b0), .val (.int b1), .val (.int b2), .val (.int b3), .val (.int sp), .val (.int (3 : Int32)), .val (.int av), .val (.ref ca), .val (.int rr), .unset, .unset, .unset] [(.int (1 : Int32))])) tgt
        refine XS.goto X56.here hx rfl (pc0 := 129) (pc' := 133) rfl (hb hby at_129) (by decide) (by decide) ?_
        show Steps p.tables e below (T56.setTop (mkF m 133 #[.val (.int b0), .val (.int b1), .val (.int b2), .val (.int b3), .val (.int sp), .val (.int (3 : Int32)), .val (.int av), .val (.ref ca), .val (.int rr), .unset, .unset, .unset] [(.int (1 : Int32))])) tgt
        refine XS.istore X56.here hx rfl (hb hby at_133) rfl (l' := #[.val (.int b0), .val (.int b1), .val (.int b2), .val (.int b3), .val (.int sp), .val (.int (3 : Int32)), .val (.int av), .val (.ref ca), .val (.int rr), .val (.int (1 : Int32)), .unset, .unset]) rfl ?_
        show Steps p.tables e below (T56.setTop (mkF m 135 #[.val (.int b0), .val (.int b1), .val (.int b2), .val (.int b3), .val (.int sp), .val (.int (3 : Int32)), .val (.int av), .val (.ref ca), .val (.int rr), .val (.int (1 : Int32)), .unset, .unset] [])) tgt
        refine XS.iload X56.here hx rfl (hb hby at_135) rfl ?_
        show Steps p.tables e below (T56.setTop (mkF m 137 #[.val (.int b0), .val (.int b1), .val (.int b2), .val (.int b3), .val (.int sp), .val (.int (3 : Int32)), .val (.int av), .val (.ref ca), .val (.int rr), .val (.int (1 : Int32)), .unset, .unset] [(.int (1 : Int32))])) tgt
        refine XS.ifYes X56.here hx rfl (pc0 := 137) (pc' := 142) rfl (hb hby at_137) rfl ((if0 _ _).trans (feq (by decide : ¬ ((1 : Int32) = (0 : Int32)))).2) (by decide) (by decide) ?_
        show Steps p.tables e below (T56.setTop (mkF m 142 #[.val (.int b0), .val (.int b1), .val (.int b2), .val (.int b3), .val (.int sp), .val (.int (3 : Int32)), .val (.int av), .val (.ref ca), .val (.int rr), .val (.int (1 : Int32)), .unset, .unset] [])) tgt
        refine XS.aload X56.here hx rfl (hb hby at_142) rfl rfl ?_
        show Steps p.tables e below (T56.setTop (mkF m 144 #[.val (.int b0), .val (.int b1), .val (.int b2), .val (.int b3), .val (.int sp), .val (.int (3 : Int32)), .val (.int av), .val (.ref ca), .val (.int rr), .val (.int (1 : Int32)), .unset, .unset] [(.ref ca)])) tgt
        refine XS.iload X56.here hx rfl (hb hby at_144) rfl ?_
        show Steps p.tables e below (T56.setTop (mkF m 146 #[.val (.int b0), .val (.int b1), .val (.int b2), .val (.int b3), .val (.int sp), .val (.int (3 : Int32)), .val (.int av), .val (.ref ca), .val (.int rr), .val (.int (1 : Int32)), .unset, .unset] [(.int av), (.ref ca)])) tgt
        refine XS.iload X56.here hx rfl (hb hby at_146) rfl ?_
        show Steps p.tables e below (T56.setTop (mkF m 148 #[.val (.int b0), .val (.int b1), .val (.int b2), .val (.int b3), .val (.int sp), .val (.int (3 : Int32)), .val (.int av), .val (.ref ca), .val (.int rr), .val (.int (1 : Int32)), .unset, .unset] [(.int rr), (.int av), (.ref ca)])) tgt
        refine XS.iconst X56.here hx rfl (hb hby at_148) ?_
        exact k
      obtain ⟨_, _, ⟨T57, L57, k57, n57⟩, -, X57, ⟨Lc57, hQ57, l57, y57, z57⟩, st57⟩ := Jvm.LawKit.callS X56 hx (y := (⟨"com/example/tidewatch/tidewatch/io/DecimalSkipDigitsPinLaw", "digitOrOutside", "([BIII)Z"⟩ : MethodName)) hown (mvT hZ (hw _ (List.mem_of_getElem? (i := 5) rfl))) (mvT hZ (hw _ (List.mem_of_getElem? (i := 6) rfl))) (mvT hZ (hw _ (List.mem_of_getElem? (i := 7) rfl))) (mvT hZ (hw _ (List.mem_of_getElem? (i := 8) rfl))) (by decide) (backOf (W := 0) (rm2 l Z a0 hw [] ca av rr (0 : Int32) 3 (own_up (own_up (own_up (fun _ => 0) 0 ((b0 + (48 : Int32)).toInt8.toInt32).toInt8.toInt32) 1 ((b1 + (48 : Int32)).toInt8.toInt32).toInt8.toInt32) 2 ((b2 + (48 : Int32)).toInt8.toInt32).toInt8.toInt32) 0 h55 n0 Zs55 A_ca_55 (by decide) (own_i2 R2 (by decide))) hZ (hw _ (List.mem_of_getElem? (i := 8) rfl)) (hw _ (List.mem_of_getElem? (i := 7) rfl)) (by decide) (by decide)) (g := (mkF m 149 #[.val (.int b0), .val (.int b1), .val (.int b2), .val (.int b3), .val (.int sp), .val (.int (3 : Int32)), .val (.int av), .val (.ref ca), .val (.int rr), .val (.int (1 : Int32)), .unset, .unset] [(.int (0 : Int32)), (.int rr), (.int av), (.ref ca)])) rfl (by rw [hml]; rfl) (argsL := [(.ref ca), (.int av), (.int rr), (.int (0 : Int32))]) (rest := []) (lenOf pd_0_1 rfl) rfl (by show 2 * 0 + _ ≤ _; exact Nat.le_of_eq rfl) (hb hby at_149) (fun _ _ => ⟨rfl, K56, (by decide : 1 + 0 ≤ _), (by decide : 3 + 0 ≤ _)⟩)
      dsimp only [Pt.U, Pt.locs, Pt.cells, Pt.slots] at X57 l57 y57 z57 st57 hQ57
      subst l57 y57 z57
      obtain ⟨rfl, N57q, K57⟩ := hQ57
      have N57 := Fr.app N56 N57q
      refine own_st st57 ?_
      show own_Go p e below _ (T57.setTop (mkF m 152 #[.val (.int b0), .val (.int b1), .val (.int b2), .val (.int b3), .val (.int sp), .val (.int (3 : Int32)), .val (.int av), .val (.ref ca), .val (.int rr), .val (.int (1 : Int32)), .unset, .unset] [(.int (own_doo (own_up (own_up (own_up (fun _ => 0) 0 ((b0 + (48 : Int32)).toInt8.toInt32).toInt8.toInt32) 1 ((b1 + (48 : Int32)).toInt8.toInt32).toInt8.toInt32) 2 ((b2 + (48 : Int32)).toInt8.toInt32).toInt8.toInt32) av rr (0 : Int32) 0))]))
      refine own_st (V := T57.setTop (mkF m 162 #[.val (.int b0), .val (.int b1), .val (.int b2), .val (.int b3), .val (.int sp), .val (.int (3 : Int32)), .val (.int av), .val (.ref ca), .val (.int rr), .val (.int (1 : Int32)), .unset, .unset] [(.int (1 : Int32)), (.int rr), (.int av), (.ref ca)])) (fun tgt k => ?_) ?_
      · show Steps p.tables e below (T57.setTop (mkF m 152 #[.val (.int b0), .val (.int b1), .val (.int b2), .val (.int b3), .val (.int sp), .val (.int (3 : Int32)), .val (.int av), .val (.ref ca), .val (.int rr), .val (.int (1 : Int32)), .unset, .unset] [(.int (own_doo (own_up (own_up (own_up (fun _ => 0) 0 ((b0 + (48 : Int32)).toInt8.toInt32).toInt8.toInt32) 1 ((b1 + (48 : Int32)).toInt8.toInt32).toInt8.toInt32) 2 ((b2 + (48 : Int32)).toInt8.toInt32).toInt8.toInt32) av rr (0 : Int32) 0))])) tgt
        refine XS.ifNo X57.here hx rfl (hb hby at_152) rfl ((if0 _ _).trans (feq (own_doo1 R2 (by decide))).1) ?_
        show Steps p.tables e below (T57.setTop (mkF m 155 #[.val (.int b0), .val (.int b1), .val (.int b2), .val (.int b3), .val (.int sp), .val (.int (3 : Int32)), .val (.int av), .val (.ref ca), .val (.int rr), .val (.int (1 : Int32)), .unset, .unset] [])) tgt
        refine XS.aload X57.here hx rfl (hb hby at_155) rfl rfl ?_
        show Steps p.tables e below (T57.setTop (mkF m 157 #[.val (.int b0), .val (.int b1), .val (.int b2), .val (.int b3), .val (.int sp), .val (.int (3 : Int32)), .val (.int av), .val (.ref ca), .val (.int rr), .val (.int (1 : Int32)), .unset, .unset] [(.ref ca)])) tgt
        refine XS.iload X57.here hx rfl (hb hby at_157) rfl ?_
        show Steps p.tables e below (T57.setTop (mkF m 159 #[.val (.int b0), .val (.int b1), .val (.int b2), .val (.int b3), .val (.int sp), .val (.int (3 : Int32)), .val (.int av), .val (.ref ca), .val (.int rr), .val (.int (1 : Int32)), .unset, .unset] [(.int av), (.ref ca)])) tgt
        refine XS.iload X57.here hx rfl (hb hby at_159) rfl ?_
        show Steps p.tables e below (T57.setTop (mkF m 161 #[.val (.int b0), .val (.int b1), .val (.int b2), .val (.int b3), .val (.int sp), .val (.int (3 : Int32)), .val (.int av), .val (.ref ca), .val (.int rr), .val (.int (1 : Int32)), .unset, .unset] [(.int rr), (.int av), (.ref ca)])) tgt
        refine XS.iconst X57.here hx rfl (hb hby at_161) ?_
        exact k
      obtain ⟨_, _, ⟨T58, L58, k58, n58⟩, -, X58, ⟨Lc58, hQ58, l58, y58, z58⟩, st58⟩ := Jvm.LawKit.callS X57 hx (y := (⟨"com/example/tidewatch/tidewatch/io/DecimalSkipDigitsPinLaw", "digitOrOutside", "([BIII)Z"⟩ : MethodName)) hown (mvT hZ (hw _ (List.mem_of_getElem? (i := 5) rfl))) (mvT hZ (hw _ (List.mem_of_getElem? (i := 6) rfl))) (mvT hZ (hw _ (List.mem_of_getElem? (i := 7) rfl))) (mvT hZ (hw _ (List.mem_of_getElem? (i := 8) rfl))) (by decide) (backOf (W := 0) (rm2 l Z a0 hw [] ca av rr (1 : Int32) 3 (own_up (own_up (own_up (fun _ => 0) 0 ((b0 + (48 : Int32)).toInt8.toInt32).toInt8.toInt32) 1 ((b1 + (48 : Int32)).toInt8.toInt32).toInt8.toInt32) 2 ((b2 + (48 : Int32)).toInt8.toInt32).toInt8.toInt32) 1 h55 n0 Zs55 A_ca_55 (by decide) (own_i2 R2 (by decide))) hZ (hw _ (List.mem_of_getElem? (i := 8) rfl)) (hw _ (List.mem_of_getElem? (i := 7) rfl)) (by decide) (by decide)) (g := (mkF m 162 #[.val (.int b0), .val (.int b1), .val (.int b2), .val (.int b3), .val (.int sp), .val (.int (3 : Int32)), .val (.int av), .val (.ref ca), .val (.int rr), .val (.int (1 : Int32)), .unset, .unset] [(.int (1 : Int32)), (.int rr), (.int av), (.ref ca)])) rfl (by rw [hml]; rfl) (argsL := [(.ref ca), (.int av), (.int rr), (.int (1 : Int32))]) (rest := []) (lenOf pd_0_1 rfl) rfl (by show 2 * 0 + _ ≤ _; exact Nat.le_of_eq rfl) (hb hby at_162) (fun _ _ => ⟨rfl, K57, (by decide : 1 + 0 ≤ _), (by decide : 3 + 0 ≤ _)⟩)
      dsimp only [Pt.U, Pt.locs, Pt.cells, Pt.slots] at X58 l58 y58 z58 st58 hQ58
      subst l58 y58 z58
      obtain ⟨rfl, N58q, K58⟩ := hQ58
      have N58 := Fr.app N57 N58q
      refine own_st st58 ?_
      show own_Go p e below _ (T58.setTop (mkF m 165 #[.val (.int b0), .val (.int b1), .val (.int b2), .val (.int b3), .val (.int sp), .val (.int (3 : Int32)), .val (.int av), .val (.ref ca), .val (.int rr), .val (.int (1 : Int32)), .unset, .unset] [(.int (own_doo (own_up (own_up (own_up (fun _ => 0) 0 ((b0 + (48 : Int32)).toInt8.toInt32).toInt8.toInt32) 1 ((b1 + (48 : Int32)).toInt8.toInt32).toInt8.toInt32) 2 ((b2 + (48 : Int32)).toInt8.toInt32).toInt8.toInt32) av rr (1 : Int32) 1))]))
      refine own_st (V := T58.setTop (mkF m 175 #[.val (.int b0), .val (.int b1), .val (.int b2), .val (.int b3), .val (.int sp), .val (.int (3 : Int32)), .val (.int av), .val (.ref ca), .val (.int rr), .val (.int (1 : Int32)), .unset, .unset] [(.int (2 : Int32)), (.int rr), (.int av), (.ref ca)])) (fun tgt k => ?_) ?_
      · show Steps p.tables e below (T58.setTop (mkF m 165 #[.val (.int b0), .val (.int b1), .val (.int b2), .val (.int b3), .val (.int sp), .val (.int (3 : Int32)), .val (.int av), .val (.ref ca), .val (.int rr), .val (.int (1 : Int32)), .unset, .unset] [(.int (own_doo (own_up (own_up (own_up (fun _ => 0) 0 ((b0 + (48 : Int32)).toInt8.toInt32).toInt8.toInt32) 1 ((b1 + (48 : Int32)).toInt8.toInt32).toInt8.toInt32) 2 ((b2 + (48 : Int32)).toInt8.toInt32).toInt8.toInt32) av rr (1 : Int32) 1))])) tgt
        refine XS.ifNo X58.here hx rfl (hb hby at_165) rfl ((if0 _ _).trans (feq (own_doo1 R2 (by decide))).1) ?_
        show Steps p.tables e below (T58.setTop (mkF m 168 #[.val (.int b0), .val (.int b1), .val (.int b2), .val (.int b3), .val (.int sp), .val (.int (3 : Int32)), .val (.int av), .val (.ref ca), .val (.int rr), .val (.int (1 : Int32)), .unset, .unset] [])) tgt
        refine XS.aload X58.here hx rfl (hb hby at_168) rfl rfl ?_
        show Steps p.tables e below (T58.setTop (mkF m 170 #[.val (.int b0), .val (.int b1), .val (.int b2), .val (.int b3), .val (.int sp), .val (.int (3 : Int32)), .val (.int av), .val (.ref ca), .val (.int rr), .val (.int (1 : Int32)), .unset, .unset] [(.ref ca)])) tgt
        refine XS.iload X58.here hx rfl (hb hby at_170) rfl ?_
        show Steps p.tables e below (T58.setTop (mkF m 172 #[.val (.int b0), .val (.int b1), .val (.int b2), .val (.int b3), .val (.int sp), .val (.int (3 : Int32)), .val (.int av), .val (.ref ca), .val (.int rr), .val (.int (1 : Int32)), .unset, .unset] [(.int av), (.ref ca)])) tgt
        refine XS.iload X58.here hx rfl (hb hby at_172) rfl ?_
        show Steps p.tables e below (T58.setTop (mkF m 174 #[.val (.int b0), .val (.int b1), .val (.int b2), .val (.int b3), .val (.int sp), .val (.int (3 : Int32)), .val (.int av), .val (.ref ca), .val (.int rr), .val (.int (1 : Int32)), .unset, .unset] [(.int rr), (.int av), (.ref ca)])) tgt
        refine XS.iconst X58.here hx rfl (hb hby at_174) ?_
        exact k
      obtain ⟨_, _, ⟨T59, L59, k59, n59⟩, -, X59, ⟨Lc59, hQ59, l59, y59, z59⟩, st59⟩ := Jvm.LawKit.callS X58 hx (y := (⟨"com/example/tidewatch/tidewatch/io/DecimalSkipDigitsPinLaw", "digitOrOutside", "([BIII)Z"⟩ : MethodName)) hown (mvT hZ (hw _ (List.mem_of_getElem? (i := 5) rfl))) (mvT hZ (hw _ (List.mem_of_getElem? (i := 6) rfl))) (mvT hZ (hw _ (List.mem_of_getElem? (i := 7) rfl))) (mvT hZ (hw _ (List.mem_of_getElem? (i := 8) rfl))) (by decide) (backOf (W := 0) (rm2 l Z a0 hw [] ca av rr (2 : Int32) 3 (own_up (own_up (own_up (fun _ => 0) 0 ((b0 + (48 : Int32)).toInt8.toInt32).toInt8.toInt32) 1 ((b1 + (48 : Int32)).toInt8.toInt32).toInt8.toInt32) 2 ((b2 + (48 : Int32)).toInt8.toInt32).toInt8.toInt32) 2 h55 n0 Zs55 A_ca_55 (by decide) (own_i2 R2 (by decide))) hZ (hw _ (List.mem_of_getElem? (i := 8) rfl)) (hw _ (List.mem_of_getElem? (i := 7) rfl)) (by decide) (by decide)) (g := (mkF m 175 #[.val (.int b0), .val (.int b1), .val (.int b2), .val (.int b3), .val (.int sp), .val (.int (3 : Int32)), .val (.int av), .val (.ref ca), .val (.int rr), .val (.int (1 : Int32)), .unset, .unset] [(.int (2 : Int32)), (.int rr), (.int av), (.ref ca)])) rfl (by rw [hml]; rfl) (argsL := [(.ref ca), (.int av), (.int rr), (.int (2 : Int32))]) (rest := []) (lenOf pd_0_1 rfl) rfl (by show 2 * 0 + _ ≤ _; exact Nat.le_of_eq rfl) (hb hby at_175) (fun _ _ => ⟨rfl, K58, (by decide : 1 + 0 ≤ _), (by decide : 3 + 0 ≤ _)⟩)
      dsimp only [Pt.U, Pt.locs, Pt.cells, Pt.slots] at X59 l59 y59 z59 st59 hQ59
      subst l59 y59 z59
      obtain ⟨rfl, N59q, K59⟩ := hQ59
      have N59 := Fr.app N58 N59q
      refine own_st st59 ?_
      show own_Go p e below _ (T59.setTop (mkF m 178 #[.val (.int b0), .val (.int b1), .val (.int b2), .val (.int b3), .val (.int sp), .val (.int (3 : Int32)), .val (.int av), .val (.ref ca), .val (.int rr), .val (.int (1 : Int32)), .unset, .unset] [(.int (own_doo (own_up (own_up (own_up (fun _ => 0) 0 ((b0 + (48 : Int32)).toInt8.toInt32).toInt8.toInt32) 1 ((b1 + (48 : Int32)).toInt8.toInt32).toInt8.toInt32) 2 ((b2 + (48 : Int32)).toInt8.toInt32).toInt8.toInt32) av rr (2 : Int32) 2))]))
      refine own_st (V := T59.setTop (mkF m 188 #[.val (.int b0), .val (.int b1), .val (.int b2), .val (.int b3), .val (.int sp), .val (.int (3 : Int32)), .val (.int av), .val (.ref ca), .val (.int rr), .val (.int (1 : Int32)), .unset, .unset] [(.int (3 : Int32)), (.int rr), (.int av), (.ref ca)])) (fun tgt k => ?_) ?_
      · show Steps p.tables e below (T59.setTop (mkF m 178 #[.val (.int b0), .val (.int b1), .val (.int b2), .val (.int b3), .val (.int sp), .val (.int (3 : Int32)), .val (.int av), .val (.ref ca), .val (.int rr), .val (.int (1 : Int32)), .unset, .unset] [(.int (own_doo (own_up (own_up (own_up (fun _ => 0) 0 ((b0 + (48 : Int32)).toInt8.toInt32).toInt8.toInt32) 1 ((b1 + (48 : Int32)).toInt8.toInt32).toInt8.toInt32) 2 ((b2 + (48 : Int32)).toInt8.toInt32).toInt8.toInt32) av rr (2 : Int32) 2))])) tgt
        refine XS.ifNo X59.here hx rfl (hb hby at_178) rfl ((if0 _ _).trans (feq (own_doo1 R2 (by decide))).1) ?_
        show Steps p.tables e below (T59.setTop (mkF m 181 #[.val (.int b0), .val (.int b1), .val (.int b2), .val (.int b3), .val (.int sp), .val (.int (3 : Int32)), .val (.int av), .val (.ref ca), .val (.int rr), .val (.int (1 : Int32)), .unset, .unset] [])) tgt
        refine XS.aload X59.here hx rfl (hb hby at_181) rfl rfl ?_
        show Steps p.tables e below (T59.setTop (mkF m 183 #[.val (.int b0), .val (.int b1), .val (.int b2), .val (.int b3), .val (.int sp), .val (.int (3 : Int32)), .val (.int av), .val (.ref ca), .val (.int rr), .val (.int (1 : Int32)), .unset, .unset] [(.ref ca)])) tgt
        refine XS.iload X59.here hx rfl (hb hby at_183) rfl ?_
        show Steps p.tables e below (T59.setTop (mkF m 185 #[.val (.int b0), .val (.int b1), .val (.int b2), .val (.int b3), .val (.int sp), .val (.int (3 : Int32)), .val (.int av), .val (.ref ca), .val (.int rr), .val (.int (1 : Int32)), .unset, .unset] [(.int av), (.ref ca)])) tgt
        refine XS.iload X59.here hx rfl (hb hby at_185) rfl ?_
        show Steps p.tables e below (T59.setTop (mkF m 187 #[.val (.int b0), .val (.int b1), .val (.int b2), .val (.int b3), .val (.int sp), .val (.int (3 : Int32)), .val (.int av), .val (.ref ca), .val (.int rr), .val (.int (1 : Int32)), .unset, .unset] [(.int rr), (.int av), (.ref ca)])) tgt
        refine XS.iconst X59.here hx rfl (hb hby at_187) ?_
        exact k
      obtain ⟨_, _, ⟨T60, L60, k60, n60⟩, -, X60, ⟨Lc60, hQ60, l60, y60, z60⟩, st60⟩ := Jvm.LawKit.callS X59 hx (y := (⟨"com/example/tidewatch/tidewatch/io/DecimalSkipDigitsPinLaw", "digitOrOutside", "([BIII)Z"⟩ : MethodName)) hown (mvT hZ (hw _ (List.mem_of_getElem? (i := 5) rfl))) (mvT hZ (hw _ (List.mem_of_getElem? (i := 6) rfl))) (mvT hZ (hw _ (List.mem_of_getElem? (i := 7) rfl))) (mvT hZ (hw _ (List.mem_of_getElem? (i := 8) rfl))) (by decide) (backOf (W := 0) (rm2 l Z a0 hw [] ca av rr (3 : Int32) 3 (own_up (own_up (own_up (fun _ => 0) 0 ((b0 + (48 : Int32)).toInt8.toInt32).toInt8.toInt32) 1 ((b1 + (48 : Int32)).toInt8.toInt32).toInt8.toInt32) 2 ((b2 + (48 : Int32)).toInt8.toInt32).toInt8.toInt32) 3 h55 n0 Zs55 A_ca_55 (by decide) (own_i2 R2 (by decide))) hZ (hw _ (List.mem_of_getElem? (i := 8) rfl)) (hw _ (List.mem_of_getElem? (i := 7) rfl)) (by decide) (by decide)) (g := (mkF m 188 #[.val (.int b0), .val (.int b1), .val (.int b2), .val (.int b3), .val (.int sp), .val (.int (3 : Int32)), .val (.int av), .val (.ref ca), .val (.int rr), .val (.int (1 : Int32)), .unset, .unset] [(.int (3 : Int32)), (.int rr), (.int av), (.ref ca)])) rfl (by rw [hml]; rfl) (argsL := [(.ref ca), (.int av), (.int rr), (.int (3 : Int32))]) (rest := []) (lenOf pd_0_1 rfl) rfl (by show 2 * 0 + _ ≤ _; exact Nat.le_of_eq rfl) (hb hby at_188) (fun _ _ => ⟨rfl, K59, (by decide : 1 + 0 ≤ _), (by decide : 3 + 0 ≤ _)⟩)
      dsimp only [Pt.U, Pt.locs, Pt.cells, Pt.slots] at X60 l60 y60 z60 st60 hQ60
      subst l60 y60 z60
      obtain ⟨rfl, N60q, K60⟩ := hQ60
      have N60 := Fr.app N59 N60q
      refine own_st st60 ?_
      show own_Go p e below _ (T60.setTop (mkF m 191 #[.val (.int b0), .val (.int b1), .val (.int b2), .val (.int b3), .val (.int sp), .val (.int (3 : Int32)), .val (.int av), .val (.ref ca), .val (.int rr), .val (.int (1 : Int32)), .unset, .unset] [(.int (own_doo (own_up (own_up (own_up (fun _ => 0) 0 ((b0 + (48 : Int32)).toInt8.toInt32).toInt8.toInt32) 1 ((b1 + (48 : Int32)).toInt8.toInt32).toInt8.toInt32) 2 ((b2 + (48 : Int32)).toInt8.toInt32).toInt8.toInt32) av rr (3 : Int32) 3))]))
      refine own_st (V := T60.setTop (mkF m 205 #[.val (.int b0), .val (.int b1), .val (.int b2), .val (.int b3), .val (.int sp), .val (.int (3 : Int32)), .val (.int av), .val (.ref ca), .val (.int rr), .val (.int (1 : Int32)), .val (.int (1 : Int32)), .unset] [(.int (3 : Int32)), (.int rr)])) (fun tgt k => ?_) ?_
      · show Steps p.tables e below (T60.setTop (mkF m 191 #[.val (.int b0), .val (.int b1), .val (.int b2), .val (.int b3), .val (.int sp), .val (.int (3 : Int32)), .val (.int av), .val (.ref ca), .val (.int rr), .val (.int (1 : Int32)), .unset, .unset] [(.int (own_doo (own_up (own_up (own_up (fun _ => 0) 0 ((b0 + (48 : Int32)).toInt8.toInt32).toInt8.toInt32) 1 ((b1 + (48 : Int32)).toInt8.toInt32).toInt8.toInt32) 2 ((b2 + (48 : Int32)).toInt8.toInt32).toInt8.toInt32) av rr (3 : Int32) 3))])) tgt
        refine XS.ifNo X60.here hx rfl (hb hby at_191) rfl ((if0 _ _).trans (feq (own_doo1 R2 (by decide))).1) ?_
        show Steps p.tables e below (T60.setTop (mkF m 194 #[.val (.int b0), .val (.int b1), .val (.int b2), .val (.int b3), .val (.int sp), .val (.int (3 : Int32)), .val (.int av), .val (.ref ca), .val (.int rr), .val (.int (1 : Int32)), .unset, .unset] [])) tgt
        refine XS.iconst X60.here hx rfl (hb hby at_194) ?_
        show Steps p.tables e below (T60.setTop (mkF m 195 #[.val (.int b0), .val (.int b1), .val (.int b2), .val (.int b3), .val (.int sp), .val (.int (3 : Int32)), .val (.int av), .val (.ref ca), .val (.int rr), .val (.int (1 : Int32)), .unset, .unset] [(.int (1 : Int32))])) tgt
        refine XS.goto X60.here hx rfl (pc0 := 195) (pc' := 199) rfl (hb hby at_195) (by decide) (by decide) ?_
        show Steps p.tables e below (T60.setTop (mkF m 199 #[.val (.int b0), .val (.int b1), .val (.int b2), .val (.int b3), .val (.int sp), .val (.int (3 : Int32)), .val (.int av), .val (.ref ca), .val (.int rr), .val (.int (1 : Int32)), .unset, .unset] [(.int (1 : Int32))])) tgt
        refine XS.istore X60.here hx rfl (hb hby at_199) rfl (l' := #[.val (.int b0), .val (.int b1), .val (.int b2), .val (.int b3), .val (.int sp), .val (.int (3 : Int32)), .val (.int av), .val (.ref ca), .val (.int rr), .val (.int (1 : Int32)), .val (.int (1 : Int32)), .unset]) rfl ?_
        show Steps p.tables e below (T60.setTop (mkF m 201 #[.val (.int b0), .val (.int b1), .val (.int b2), .val (.int b3), .val (.int sp), .val (.int (3 : Int32)), .val (.int av), .val (.ref ca), .val (.int rr), .val (.int (1 : Int32)), .val (.int (1 : Int32)), .unset] [])) tgt
        refine XS.iload X60.here hx rfl (hb hby at_201) rfl ?_
        show Steps p.tables e below (T60.setTop (mkF m 203 #[.val (.int b0), .val (.int b1), .val (.int b2), .val (.int b3), .val (.int sp), .val (.int (3 : Int32)), .val (.int av), .val (.ref ca), .val (.int rr), .val (.int (1 : Int32)), .val (.int (1 : Int32)), .unset] [(.int rr)])) tgt
        refine XS.iload X60.here hx rfl (hb hby at_203) rfl ?_
        exact k
      by_cases hc205 : rr < (3 : Int32)
      · skip
        refine own_st (V := T60.setTop (mkF m 213 #[.val (.int b0), .val (.int b1), .val (.int b2), .val (.int b3), .val (.int sp), .val (.int (3 : Int32)), .val (.int av), .val (.ref ca), .val (.int rr), .val (.int (1 : Int32)), .val (.int (1 : Int32)), .unset] [(.int ((own_up (own_up (own_up (fun _ => 0) 0 ((b0 + (48 : Int32)).toInt8.toInt32).toInt8.toInt32) 1 ((b1 + (48 : Int32)).toInt8.toInt32).toInt8.toInt32) 2 ((b2 + (48 : Int32)).toInt8.toInt32).toInt8.toInt32) rr.toInt.toNat))])) (fun tgt k => ?_) ?_
        · show Steps p.tables e below (T60.setTop (mkF m 205 #[.val (.int b0), .val (.int b1), .val (.int b2), .val (.int b3), .val (.int sp), .val (.int (3 : Int32)), .val (.int av), .val (.ref ca), .val (.int rr), .val (.int (1 : Int32)), .val (.int (1 : Int32)), .unset] [(.int (3 : Int32)), (.int rr)])) tgt
          refine XS.icmpNo X60.here hx rfl (hb hby at_205) rfl (tlt hc205).2.1 ?_
          show Steps p.tables e below (T60.setTop (mkF m 208 #[.val (.int b0), .val (.int b1), .val (.int b2), .val (.int b3), .val (.int sp), .val (.int (3 : Int32)), .val (.int av), .val (.ref ca), .val (.int rr), .val (.int (1 : Int32)), .val (.int (1 : Int32)), .unset] [])) tgt
          refine XS.aload X60.here hx rfl (hb hby at_208) rfl rfl ?_
          show Steps p.tables e below (T60.setTop (mkF m 210 #[.val (.int b0), .val (.int b1), .val (.int b2), .val (.int b3), .val (.int sp), .val (.int (3 : Int32)), .val (.int av), .val (.ref ca), .val (.int rr), .val (.int (1 : Int32)), .val (.int (1 : Int32)), .unset] [(.ref ca)])) tgt
          refine XS.iload X60.here hx rfl (hb hby at_210) rfl ?_
          show Steps p.tables e below (T60.setTop (mkF m 212 #[.val (.int b0), .val (.int b1), .val (.int b2), .val (.int b3), .val (.int sp), .val (.int (3 : Int32)), .val (.int av), .val (.ref ca), .val (.int rr), .val (.int (1 : Int32)), .val (.int (1 : Int32)), .unset] [(.int rr), (.ref ca)])) tgt
          refine own_baload X60 hx hZ K60 A_ca_55 (j := rr) (k := rr.toInt.toNat) (by omega) (by have := own_ilt.mp hc205; rw [show (3 : Int32).toInt = 3 from rfl] at this; omega) (g := (mkF m 212 #[.val (.int b0), .val (.int b1), .val (.int b2), .val (.int b3), .val (.int sp), .val (.int (3 : Int32)), .val (.int av), .val (.ref ca), .val (.int rr), .val (.int (1 : Int32)), .val (.int (1 : Int32)), .unset] [(.int rr), (.ref ca)])) rfl rfl (hb hby at_212) ?_
          exact k
        obtain ⟨_, _, ⟨T61, L61, k61, n61⟩, -, X61, ⟨Lc61, hQ61, l61, y61, z61⟩, st61⟩ := Jvm.LawKit.callS X60 hx (y := (⟨"com/example/tidewatch/tidewatch/io/DecimalSkipDigitsPinLaw", "isDigit", "(B)Z"⟩ : MethodName)) hown (mvT hZ (hw _ (List.mem_of_getElem? (i := 9) rfl))) (mvT hZ (hw _ (List.mem_of_getElem? (i := 10) rfl))) (mvT hZ (hw _ (List.mem_of_getElem? (i := 7) rfl))) (mvT hZ (hw _ (List.mem_of_getElem? (i := 11) rfl))) (by decide) (backOf (W := 0) (rm3 l Z a0 hw [] ((own_up (own_up (own_up (fun _ => 0) 0 ((b0 + (48 : Int32)).toInt8.toInt32).toInt8.toInt32) 1 ((b1 + (48 : Int32)).toInt8.toInt32).toInt8.toInt32) 2 ((b2 + (48 : Int32)).toInt8.toInt32).toInt8.toInt32) rr.toInt.toNat) h55 n0 Zs55 ) hZ (hw _ (List.mem_of_getElem? (i := 11) rfl)) (hw _ (List.mem_of_getElem? (i := 7) rfl)) (by decide) (by decide)) (g := (mkF m 213 #[.val (.int b0), .val (.int b1), .val (.int b2), .val (.int b3), .val (.int sp), .val (.int (3 : Int32)), .val (.int av), .val (.ref ca), .val (.int rr), .val (.int (1 : Int32)), .val (.int (1 : Int32)), .unset] [(.int ((own_up (own_up (own_up (fun _ => 0) 0 ((b0 + (48 : Int32)).toInt8.toInt32).toInt8.toInt32) 1 ((b1 + (48 : Int32)).toInt8.toInt32).toInt8.toInt32) 2 ((b2 + (48 : Int32)).toInt8.toInt32).toInt8.toInt32) rr.toInt.toNat))])) rfl (by rw [hml]; rfl) (argsL := [(.int ((own_up (own_up (own_up (fun _ => 0) 0 ((b0 + (48 : Int32)).toInt8.toInt32).toInt8.toInt32) 1 ((b1 + (48 : Int32)).toInt8.toInt32).toInt8.toInt32) 2 ((b2 + (48 : Int32)).toInt8.toInt32).toInt8.toInt32) rr.toInt.toNat))]) (rest := []) (lenOf pd_0_2 rfl) rfl (by show 2 * 0 + _ ≤ _; exact Nat.le_of_eq rfl) (hb hby at_213) (fun _ _ => ⟨rfl, K60, (by decide : 1 + 0 ≤ _), (by decide : 3 + 0 ≤ _)⟩)
        dsimp only [Pt.U, Pt.locs, Pt.cells, Pt.slots] at X61 l61 y61 z61 st61 hQ61
        subst l61 y61 z61
        obtain ⟨rfl, N61q, K61⟩ := hQ61
        have N61 := Fr.app N60 N61q
        refine own_st st61 ?_
        show own_Go p e below _ (T61.setTop (mkF m 216 #[.val (.int b0), .val (.int b1), .val (.int b2), .val (.int b3), .val (.int sp), .val (.int (3 : Int32)), .val (.int av), .val (.ref ca), .val (.int rr), .val (.int (1 : Int32)), .val (.int (1 : Int32)), .unset] [(.int (own_isd ((own_up (own_up (own_up (fun _ => 0) 0 ((b0 + (48 : Int32)).toInt8.toInt32).toInt8.toInt32) 1 ((b1 + (48 : Int32)).toInt8.toInt32).toInt8.toInt32) 2 ((b2 + (48 : Int32)).toInt8.toInt32).toInt8.toInt32) rr.toInt.toNat)))]))
        refine own_st (V := T61.setTop (mkF m 241 #[.val (.int b0), .val (.int b1), .val (.int b2), .val (.int b3), .val (.int sp), .val (.int (3 : Int32)), .val (.int av), .val (.ref ca), .val (.int rr), .val (.int (1 : Int32)), .val (.int (1 : Int32)), .val (.int (1 : Int32))] [(.int (1 : Int32))])) (fun tgt k => ?_) ?_
        · show Steps p.tables e below (T61.setTop (mkF m 216 #[.val (.int b0), .val (.int b1), .val (.int b2), .val (.int b3), .val (.int sp), .val (.int (3 : Int32)), .val (.int av), .val (.ref ca), .val (.int rr), .val (.int (1 : Int32)), .val (.int (1 : Int32)), .unset] [(.int (own_isd ((own_up (own_up (own_up (fun _ => 0) 0 ((b0 + (48 : Int32)).toInt8.toInt32).toInt8.toInt32) 1 ((b1 + (48 : Int32)).toInt8.toInt32).toInt8.toInt32) 2 ((b2 + (48 : Int32)).toInt8.toInt32).toInt8.toInt32) rr.toInt.toNat)))])) tgt
          refine XS.ifNo X61.here hx rfl (hb hby at_216) rfl ((if0 _ _).trans (teq ((own_isd1 _).2 (fun z => R3 ⟨by have := own_ilt.mp hc205; rw [show (3 : Int32).toInt = 3 from rfl] at this; omega, z⟩))).2) ?_
          show Steps p.tables e below (T61.setTop (mkF m 219 #[.val (.int b0), .val (.int b1), .val (.int b2), .val (.int b3), .val (.int sp), .val (.int (3 : Int32)), .val (.int av), .val (.ref ca), .val (.int rr), .val (.int (1 : Int32)), .val (.int (1 : Int32)), .unset] [])) tgt
          refine XS.iconst X61.here hx rfl (hb hby at_219) ?_
          show Steps p.tables e below (T61.setTop (mkF m 220 #[.val (.int b0), .val (.int b1), .val (.int b2), .val (.int b3), .val (.int sp), .val (.int (3 : Int32)), .val (.int av), .val (.ref ca), .val (.int rr), .val (.int (1 : Int32)), .val (.int (1 : Int32)), .unset] [(.int (1 : Int32))])) tgt
          refine XS.goto X61.here hx rfl (pc0 := 220) (pc' := 224) rfl (hb hby at_220) (by decide) (by decide) ?_
          show Steps p.tables e below (T61.setTop (mkF m 224 #[.val (.int b0), .val (.int b1), .val (.int b2), .val (.int b3), .val (.int sp), .val (.int (3 : Int32)), .val (.int av), .val (.ref ca), .val (.int rr), .val (.int (1 : Int32)), .val (.int (1 : Int32)), .unset] [(.int (1 : Int32))])) tgt
          refine XS.istore X61.here hx rfl (hb hby at_224) rfl (l' := #[.val (.int b0), .val (.int b1), .val (.int b2), .val (.int b3), .val (.int sp), .val (.int (3 : Int32)), .val (.int av), .val (.ref ca), .val (.int rr), .val (.int (1 : Int32)), .val (.int (1 : Int32)), .val (.int (1 : Int32))]) rfl ?_
          show Steps p.tables e below (T61.setTop (mkF m 226 #[.val (.int b0), .val (.int b1), .val (.int b2), .val (.int b3), .val (.int sp), .val (.int (3 : Int32)), .val (.int av), .val (.ref ca), .val (.int rr), .val (.int (1 : Int32)), .val (.int (1 : Int32)), .val (.int (1 : Int32))] [])) tgt
          refine XS.iload X61.here hx rfl (hb hby at_226) rfl ?_
          show Steps p.tables e below (T61.setTop (mkF m 228 #[.val (.int b0), .val (.int b1), .val (.int b2), .val (.int b3), .val (.int sp), .val (.int (3 : Int32)), .val (.int av), .val (.ref ca), .val (.int rr), .val (.int (1 : Int32)), .val (.int (1 : Int32)), .val (.int (1 : Int32))] [(.int (1 : Int32))])) tgt
          refine XS.ifNo X61.here hx rfl (hb hby at_228) rfl ((if0 _ _).trans (feq (by decide : ¬ ((1 : Int32) = (0 : Int32)))).1) ?_
          show Steps p.tables e below (T61.setTop (mkF m 231 #[.val (.int b0), .val (.int b1), .val (.int b2), .val (.int b3), .val (.int sp), .val (.int (3 : Int32)), .val (.int av), .val (.ref ca), .val (.int rr), .val (.int (1 : Int32)), .val (.int (1 : Int32)), .val (.int (1 : Int32))] [])) tgt
          refine XS.iload X61.here hx rfl (hb hby at_231) rfl ?_
          show Steps p.tables e below (T61.setTop (mkF m 233 #[.val (.int b0), .val (.int b1), .val (.int b2), .val (.int b3), .val (.int sp), .val (.int (3 : Int32)), .val (.int av), .val (.ref ca), .val (.int rr), .val (.int (1 : Int32)), .val (.int (1 : Int32)), .val (.int (1 : Int32))] [(.int (1 : Int32))])) tgt
          refine XS.ifNo X61.here hx rfl (hb hby at_233) rfl ((if0 _ _).trans (feq (by decide : ¬ ((1 : Int32) = (0 : Int32)))).1) ?_
          show Steps p.tables e below (T61.setTop (mkF m 236 #[.val (.int b0), .val (.int b1), .val (.int b2), .val (.int b3), .val (.int sp), .val (.int (3 : Int32)), .val (.int av), .val (.ref ca), .val (.int rr), .val (.int (1 : Int32)), .val (.int (1 : Int32)), .val (.int (1 : Int32))] [])) tgt
          refine XS.iconst X61.here hx rfl (hb hby at_236) ?_
          show Steps p.tables e below (T61.setTop (mkF m 237 #[.val (.int b0), .val (.int b1), .val (.int b2), .val (.int b3), .val (.int sp), .val (.int (3 : Int32)), .val (.int av), .val (.ref ca), .val (.int rr), .val (.int (1 : Int32)), .val (.int (1 : Int32)), .val (.int (1 : Int32))] [(.int (1 : Int32))])) tgt
          refine XS.goto X61.here hx rfl (pc0 := 237) (pc' := 241) rfl (hb hby at_237) (by decide) (by decide) ?_
          exact k
        refine own_retN X61 hx hlk (t := .boolean) (z' := (1 : Int32)) Bd.returns (by simp) rfl (hb hby at_241) ?_ (by decide) (by decide)
        show Q0 Z b0 b1 b2 b3 sp h0 n0 (some (.int (1 : Int32))) T61.heap _
        rw [K61]
        exact ⟨rfl, N61⟩
      · skip
        refine own_st (V := T60.setTop (mkF m 241 #[.val (.int b0), .val (.int b1), .val (.int b2), .val (.int b3), .val (.int sp), .val (.int (3 : Int32)), .val (.int av), .val (.ref ca), .val (.int rr), .val (.int (1 : Int32)), .val (.int (1 : Int32)), .val (.int (1 : Int32))] [(.int (1 : Int32))])) (fun tgt k => ?_) ?_
        · show Steps p.tables e below (T60.setTop (mkF m 205 #[.val (.int b0), .val (.int b1), .val (.int b2), .val (.int b3), .val (.int sp), .val (.int (3 : Int32)), .val (.int av), .val (.ref ca), .val (.int rr), .val (.int (1 : Int32)), .val (.int (1 : Int32)), .unset] [(.int (3 : Int32)), (.int rr)])) tgt
          refine XS.icmpYes X60.here hx rfl (pc0 := 205) (pc' := 219) rfl (hb hby at_205) rfl (flt hc205).2.1 (by decide) (by decide) ?_
          show Steps p.tables e below (T60.setTop (mkF m 219 #[.val (.int b0), .val (.int b1), .val (.int b2), .val (.int b3), .val (.int sp), .val (.int (3 : Int32)), .val (.int av), .val (.ref ca), .val (.int rr), .val (.int (1 : Int32)), .val (.int (1 : Int32)), .unset] [])) tgt
          refine XS.iconst X60.here hx rfl (hb hby at_219) ?_
          show Steps p.tables e below (T60.setTop (mkF m 220 #[.val (.int b0), .val (.int b1), .val (.int b2), .val (.int b3), .val (.int sp), .val (.int (3 : Int32)), .val (.int av), .val (.ref ca), .val (.int rr), .val (.int (1 : Int32)), .val (.int (1 : Int32)), .unset] [(.int (1 : Int32))])) tgt
          refine XS.goto X60.here hx rfl (pc0 := 220) (pc' := 224) rfl (hb hby at_220) (by decide) (by decide) ?_
          show Steps p.tables e below (T60.setTop (mkF m 224 #[.val (.int b0), .val (.int b1), .val (.int b2), .val (.int b3), .val (.int sp), .val (.int (3 : Int32)), .val (.int av), .val (.ref ca), .val (.int rr), .val (.int (1 : Int32)), .val (.int (1 : Int32)), .unset] [(.int (1 : Int32))])) tgt
          refine XS.istore X60.here hx rfl (hb hby at_224) rfl (l' := #[.val (.int b0), .val (.int b1), .val (.int b2), .val (.int b3), .val (.int sp), .val (.int (3 : Int32)), .val (.int av), .val (.ref ca), .val (.int rr), .val (.int (1 : Int32)), .val (.int (1 : Int32)), .val (.int (1 : Int32))]) rfl ?_
          show Steps p.tables e below (T60.setTop (mkF m 226 #[.val (.int b0), .val (.int b1), .val (.int b2), .val (.int b3), .val (.int sp), .val (.int (3 : Int32)), .val (.int av), .val (.ref ca), .val (.int rr), .val (.int (1 : Int32)), .val (.int (1 : Int32)), .val (.int (1 : Int32))] [])) tgt
          refine XS.iload X60.here hx rfl (hb hby at_226) rfl ?_
          show Steps p.tables e below (T60.setTop (mkF m 228 #[.val (.int b0), .val (.int b1), .val (.int b2), .val (.int b3), .val (.int sp), .val (.int (3 : Int32)), .val (.int av), .val (.ref ca), .val (.int rr), .val (.int (1 : Int32)), .val (.int (1 : Int32)), .val (.int (1 : Int32))] [(.int (1 : Int32))])) tgt
          refine XS.ifNo X60.here hx rfl (hb hby at_228) rfl ((if0 _ _).trans (feq (by decide : ¬ ((1 : Int32) = (0 : Int32)))).1) ?_
          show Steps p.tables e below (T60.setTop (mkF m 231 #[.val (.int b0), .val (.int b1), .val (.int b2), .val (.int b3), .val (.int sp), .val (.int (3 : Int32)), .val (.int av), .val (.ref ca), .val (.int rr), .val (.int (1 : Int32)), .val (.int (1 : Int32)), .val (.int (1 : Int32))] [])) tgt
          refine XS.iload X60.here hx rfl (hb hby at_231) rfl ?_
          show Steps p.tables e below (T60.setTop (mkF m 233 #[.val (.int b0), .val (.int b1), .val (.int b2), .val (.int b3), .val (.int sp), .val (.int (3 : Int32)), .val (.int av), .val (.ref ca), .val (.int rr), .val (.int (1 : Int32)), .val (.int (1 : Int32)), .val (.int (1 : Int32))] [(.int (1 : Int32))])) tgt
          refine XS.ifNo X60.here hx rfl (hb hby at_233) rfl ((if0 _ _).trans (feq (by decide : ¬ ((1 : Int32) = (0 : Int32)))).1) ?_
          show Steps p.tables e below (T60.setTop (mkF m 236 #[.val (.int b0), .val (.int b1), .val (.int b2), .val (.int b3), .val (.int sp), .val (.int (3 : Int32)), .val (.int av), .val (.ref ca), .val (.int rr), .val (.int (1 : Int32)), .val (.int (1 : Int32)), .val (.int (1 : Int32))] [])) tgt
          refine XS.iconst X60.here hx rfl (hb hby at_236) ?_
          show Steps p.tables e below (T60.setTop (mkF m 237 #[.val (.int b0), .val (.int b1), .val (.int b2), .val (.int b3), .val (.int sp), .val (.int (3 : Int32)), .val (.int av), .val (.ref ca), .val (.int rr), .val (.int (1 : Int32)), .val (.int (1 : Int32)), .val (.int (1 : Int32))] [(.int (1 : Int32))])) tgt
          refine XS.goto X60.here hx rfl (pc0 := 237) (pc' := 241) rfl (hb hby at_237) (by decide) (by decide) ?_
          exact k
        refine own_retN X60 hx hlk (t := .boolean) (z' := (1 : Int32)) Bd.returns (by simp) rfl (hb hby at_241) ?_ (by decide) (by decide)
        show Q0 Z b0 b1 b2 b3 sp h0 n0 (some (.int (1 : Int32))) T60.heap _
        rw [K60]
        exact ⟨rfl, N60⟩
    · skip
      refine own_st (V := T56.setTop (mkF m 149 #[.val (.int b0), .val (.int b1), .val (.int b2), .val (.int b3), .val (.int sp), .val (.int (3 : Int32)), .val (.int av), .val (.ref ca), .val (.int rr), .val (.int (1 : Int32)), .unset, .unset] [(.int (0 : Int32)), (.int rr), (.int av), (.ref ca)])) (fun tgt k => ?_) ?_
      · show Steps p.tables e below (T56.setTop (mkF m 96 #[.val (.int b0), .val (.int b1), .val (.int b2), .val (.int b3), .val (.int sp), .val (.int (3 : Int32)), .val (.int av), .val (.ref ca), .val (.int rr), .unset, .unset, .unset] [(.int (3 : Int32)), (.int av)])) tgt
        refine XS.icmpNo X56.here hx rfl (hb hby at_96) rfl (flt hc96).1 ?_
        show Steps p.tables e below (T56.setTop (mkF m 99 #[.val (.int b0), .val (.int b1), .val (.int b2), .val (.int b3), .val (.int sp), .val (.int (3 : Int32)), .val (.int av), .val (.ref ca), .val (.int rr), .unset, .unset, .unset] [])) tgt
        refine XS.iload X56.here hx rfl (hb hby at_99) rfl ?_
        show Steps p.tables e below (T56.setTop (mkF m 101 #[.val (.int b0), .val (.int b1), .val (.int b2), .val (.int b3), .val (.int sp), .val (.int (3 : Int32)), .val (.int av), .val (.ref ca), .val (.int rr), .unset, .unset, .unset] [(.int rr)])) tgt
        refine XS.iload X56.here hx rfl (hb hby at_101) rfl ?_
        show Steps p.tables e below (T56.setTop (mkF m 103 #[.val (.int b0), .val (.int b1), .val (.int b2), .val (.int b3), .val (.int sp), .val (.int (3 : Int32)), .val (.int av), .val (.ref ca), .val (.int rr), .unset, .unset, .unset] [(.int av), (.int rr)])) tgt
        refine XS.icmpNo X56.here hx rfl (hb hby at_103) rfl (teq (own_eq R1 R2 hav0 (by decide) hc96)).2 ?_
        show Steps p.tables e below (T56.setTop (mkF m 106 #[.val (.int b0), .val (.int b1), .val (.int b2), .val (.int b3), .val (.int sp), .val (.int (3 : Int32)), .val (.int av), .val (.ref ca), .val (.int rr), .unset, .unset, .unset] [])) tgt
        refine XS.iconst X56.here hx rfl (hb hby at_106) ?_
        show Steps p.tables e below (T56.setTop (mkF m 107 #[.val (.int b0), .val (.int b1), .val (.int b2), .val (.int b3), .val (.int sp), .val (.int (3 : Int32)), .val (.int av), .val (.ref ca), .val (.int rr), .unset, .unset, .unset] [(.int (1 : Int32))])) tgt
        refine XS.goto X56.here hx rfl (pc0 := 107) (pc' := 133) rfl (hb hby at_107) (by decide) (by decide) ?_
        show Steps p.tables e below (T56.setTop (mkF m 133 #[.val (.int b0), .val (.int b1), .val (.int b2), .val (.int b3), .val (.int sp), .val (.int (3 : Int32)), .val (.int av), .val (.ref ca), .val (.int rr), .unset, .unset, .unset] [(.int (1 : Int32))])) tgt
        refine XS.istore X56.here hx rfl (hb hby at_133) rfl (l' := #[.val (.int b0), .val (.int b1), .val (.int b2), .val (.int b3), .val (.int sp), .val (.int (3 : Int32)), .val (.int av), .val (.ref ca), .val (.int rr), .val (.int (1 : Int32)), .unset, .unset]) rfl ?_
        show Steps p.tables e below (T56.setTop (mkF m 135 #[.val (.int b0), .val (.int b1), .val (.int b2), .val (.int b3), .val (.int sp), .val (.int (3 : Int32)), .val (.int av), .val (.ref ca), .val (.int rr), .val (.int (1 : Int32)), .unset, .unset] [])) tgt
        refine XS.iload X56.here hx rfl (hb hby at_135) rfl ?_
        show Steps p.tables e below (T56.setTop (mkF m 137 #[.val (.int b0), .val (.int b1), .val (.int b2), .val (.int b3), .val (.int sp), .val (.int (3 : Int32)), .val (.int av), .val (.ref ca), .val (.int rr), .val (.int (1 : Int32)), .unset, .unset] [(.int (1 : Int32))])) tgt
        refine XS.ifYes X56.here hx rfl (pc0 := 137) (pc' := 142) rfl (hb hby at_137) rfl ((if0 _ _).trans (feq (by decide : ¬ ((1 : Int32) = (0 : Int32)))).2) (by decide) (by decide) ?_
        show Steps p.tables e below (T56.setTop (mkF m 142 #[.val (.int b0), .val (.int b1), .val (.int b2), .val (.int b3), .val (.int sp), .val (.int (3 : Int32)), .val (.int av), .val (.ref ca), .val (.int rr), .val (.int (1 : Int32)), .unset, .unset] [])) tgt
        refine XS.aload X56.here hx rfl (hb hby at_142) rfl rfl ?_
        show Steps p.tables e below (T56.setTop (mkF m 144 #[.val (.int b0), .val (.int b1), .val (.int b2), .val (.int b3), .val (.int sp), .val (.int (3 : Int32)), .val (.int av), .val (.ref ca), .val (.int rr), .val (.int (1 : Int32)), .unset, .unset] [(.ref ca)])) tgt
        refine XS.iload X56.here hx rfl (hb hby at_144) rfl ?_
        show Steps p.tables e below (T56.setTop (mkF m 146 #[.val (.int b0), .val (.int b1), .val (.int b2), .val (.int b3), .val (.int sp), .val (.int (3 : Int32)), .val (.int av), .val (.ref ca), .val (.int rr), .val (.int (1 : Int32)), .unset, .unset] [(.int av), (.ref ca)])) tgt
        refine XS.iload X56.here hx rfl (hb hby at_146) rfl ?_
        show Steps p.tables e below (T56.setTop (mkF m 148 #[.val (.int b0), .val (.int b1), .val (.int b2), .val (.int b3), .val (.int sp), .val (.int (3 : Int32)), .val (.int av), .val (.ref ca), .val (.int rr), .val (.int (1 : Int32)), .unset, .unset] [(.int rr), (.int av), (.ref ca)])) tgt
        refine XS.iconst X56.here hx rfl (hb hby at_148) ?_
        exact k
      obtain ⟨_, _, ⟨T64, L64, k64, n64⟩, -, X64, ⟨Lc64, hQ64, l64, y64, z64⟩, st64⟩ := Jvm.LawKit.callS X56 hx (y := (⟨"com/example/tidewatch/tidewatch/io/DecimalSkipDigitsPinLaw", "digitOrOutside", "([BIII)Z"⟩ : MethodName)) hown (mvT hZ (hw _ (List.mem_of_getElem? (i := 5) rfl))) (mvT hZ (hw _ (List.mem_of_getElem? (i := 6) rfl))) (mvT hZ (hw _ (List.mem_of_getElem? (i := 7) rfl))) (mvT hZ (hw _ (List.mem_of_getElem? (i := 8) rfl))) (by decide) (backOf (W := 0) (rm2 l Z a0 hw [] ca av rr (0 : Int32) 3 (own_up (own_up (own_up (fun _ => 0) 0 ((b0 + (48 : Int32)).toInt8.toInt32).toInt8.toInt32) 1 ((b1 + (48 : Int32)).toInt8.toInt32).toInt8.toInt32) 2 ((b2 + (48 : Int32)).toInt8.toInt32).toInt8.toInt32) 0 h55 n0 Zs55 A_ca_55 (by decide) (own_i2 R2 (by decide))) hZ (hw _ (List.mem_of_getElem? (i := 8) rfl)) (hw _ (List.mem_of_getElem? (i := 7) rfl)) (by decide) (by decide)) (g := (mkF m 149 #[.val (.int b0), .val (.int b1), .val (.int b2), .val (.int b3), .val (.int sp), .val (.int (3 : Int32)), .val (.int av), .val (.ref ca), .val (.int rr), .val (.int (1 : Int32)), .unset, .unset] [(.int (0 : Int32)), (.int rr), (.int av), (.ref ca)])) rfl (by rw [hml]; rfl) (argsL := [(.ref ca), (.int av), (.int rr), (.int (0 : Int32))]) (rest := []) (lenOf pd_0_1 rfl) rfl (by show 2 * 0 + _ ≤ _; exact Nat.le_of_eq rfl) (hb hby at_149) (fun _ _ => ⟨rfl, K56, (by decide : 1 + 0 ≤ _), (by decide : 3 + 0 ≤ _)⟩)
      dsimp only [Pt.U, Pt.locs, Pt.cells, Pt.slots] at X64 l64 y64 z64 st64 hQ64
      subst l64 y64 z64
      obtain ⟨rfl, N64q, K64⟩ := hQ64
      have N64 := Fr.app N56 N64q
      refine own_st st64 ?_
      show own_Go p e below _ (T64.setTop (mkF m 152 #[.val (.int b0), .val (.int b1), .val (.int b2), .val (.int b3), .val (.int sp), .val (.int (3 : Int32)), .val (.int av), .val (.ref ca), .val (.int rr), .val (.int (1 : Int32)), .unset, .unset] [(.int (own_doo (own_up (own_up (own_up (fun _ => 0) 0 ((b0 + (48 : Int32)).toInt8.toInt32).toInt8.toInt32) 1 ((b1 + (48 : Int32)).toInt8.toInt32).toInt8.toInt32) 2 ((b2 + (48 : Int32)).toInt8.toInt32).toInt8.toInt32) av rr (0 : Int32) 0))]))
      refine own_st (V := T64.setTop (mkF m 162 #[.val (.int b0), .val (.int b1), .val (.int b2), .val (.int b3), .val (.int sp), .val (.int (3 : Int32)), .val (.int av), .val (.ref ca), .val (.int rr), .val (.int (1 : Int32)), .unset, .unset] [(.int (1 : Int32)), (.int rr), (.int av), (.ref ca)])) (fun tgt k => ?_) ?_
      · show Steps p.tables e below (T64.setTop (mkF m 152 #[.val (.int b0), .val (.int b1), .val (.int b2), .val (.int b3), .val (.int sp), .val (.int (3 : Int32)), .val (.int av), .val (.ref ca), .val (.int rr), .val (.int (1 : Int32)), .unset, .unset] [(.int (own_doo (own_up (own_up (own_up (fun _ => 0) 0 ((b0 + (48 : Int32)).toInt8.toInt32).toInt8.toInt32) 1 ((b1 + (48 : Int32)).toInt8.toInt32).toInt8.toInt32) 2 ((b2 + (48 : Int32)).toInt8.toInt32).toInt8.toInt32) av rr (0 : Int32) 0))])) tgt
        refine XS.ifNo X64.here hx rfl (hb hby at_152) rfl ((if0 _ _).trans (feq (own_doo1 R2 (by decide))).1) ?_
        show Steps p.tables e below (T64.setTop (mkF m 155 #[.val (.int b0), .val (.int b1), .val (.int b2), .val (.int b3), .val (.int sp), .val (.int (3 : Int32)), .val (.int av), .val (.ref ca), .val (.int rr), .val (.int (1 : Int32)), .unset, .unset] [])) tgt
        refine XS.aload X64.here hx rfl (hb hby at_155) rfl rfl ?_
        show Steps p.tables e below (T64.setTop (mkF m 157 #[.val (.int b0), .val (.int b1), .val (.int b2), .val (.int b3), .val (.int sp), .val (.int (3 : Int32)), .val (.int av), .val (.ref ca), .val (.int rr), .val (.int (1 : Int32)), .unset, .unset] [(.ref ca)])) tgt
        refine XS.iload X64.here hx rfl (hb hby at_157) rfl ?_
        show Steps p.tables e below (T64.setTop (mkF m 159 #[.val (.int b0), .val (.int b1), .val (.int b2), .val (.int b3), .val (.int sp), .val (.int (3 : Int32)), .val (.int av), .val (.ref ca), .val (.int rr), .val (.int (1 : Int32)), .unset, .unset] [(.int av), (.ref ca)])) tgt
        refine XS.iload X64.here hx rfl (hb hby at_159) rfl ?_
        show Steps p.tables e below (T64.setTop (mkF m 161 #[.val (.int b0), .val (.int b1), .val (.int b2), .val (.int b3), .val (.int sp), .val (.int (3 : Int32)), .val (.int av), .val (.ref ca), .val (.int rr), .val (.int (1 : Int32)), .unset, .unset] [(.int rr), (.int av), (.ref ca)])) tgt
        refine XS.iconst X64.here hx rfl (hb hby at_161) ?_
        exact k
      obtain ⟨_, _, ⟨T65, L65, k65, n65⟩, -, X65, ⟨Lc65, hQ65, l65, y65, z65⟩, st65⟩ := Jvm.LawKit.callS X64 hx (y := (⟨"com/example/tidewatch/tidewatch/io/DecimalSkipDigitsPinLaw", "digitOrOutside", "([BIII)Z"⟩ : MethodName)) hown (mvT hZ (hw _ (List.mem_of_getElem? (i := 5) rfl))) (mvT hZ (hw _ (List.mem_of_getElem? (i := 6) rfl))) (mvT hZ (hw _ (List.mem_of_getElem? (i := 7) rfl))) (mvT hZ (hw _ (List.mem_of_getElem? (i := 8) rfl))) (by decide) (backOf (W := 0) (rm2 l Z a0 hw [] ca av rr (1 : Int32) 3 (own_up (own_up (own_up (fun _ => 0) 0 ((b0 + (48 : Int32)).toInt8.toInt32).toInt8.toInt32) 1 ((b1 + (48 : Int32)).toInt8.toInt32).toInt8.toInt32) 2 ((b2 + (48 : Int32)).toInt8.toInt32).toInt8.toInt32) 1 h55 n0 Zs55 A_ca_55 (by decide) (own_i2 R2 (by decide))) hZ (hw _ (List.mem_of_getElem? (i := 8) rfl)) (hw _ (List.mem_of_getElem? (i := 7) rfl)) (by decide) (by decide)) (g := (mkF m 162 #[.val (.int b0), .val (.int b1), .val (.int b2), .val (.int b3), .val (.int sp), .val (.int (3 : Int32)), .val (.int av), .val (.ref ca), .val (.int rr), .val (.int (1 : Int32)), .unset, .unset] [(.int (1 : Int32)), (.int rr), (.int av), (.ref ca)])) rfl (by rw [hml]; rfl) (argsL := [(.ref ca), (.int av), (.int rr), (.int (1 : Int32))]) (rest := []) (lenOf pd_0_1 rfl) rfl (by show 2 * 0 + _ ≤ _; exact Nat.le_of_eq rfl) (hb hby at_162) (fun _ _ => ⟨rfl, K64, (by decide : 1 + 0 ≤ _), (by decide : 3 + 0 ≤ _)⟩)
      dsimp only [Pt.U, Pt.locs, Pt.cells, Pt.slots] at X65 l65 y65 z65 st65 hQ65
      subst l65 y65 z65
      obtain ⟨rfl, N65q, K65⟩ := hQ65
      have N65 := Fr.app N64 N65q
      refine own_st st65 ?_
      show own_Go p e below _ (T65.setTop (mkF m 165 #[.val (.int b0), .val (.int b1), .val (.int b2), .val (.int b3), .val (.int sp), .val (.int (3 : Int32)), .val (.int av), .val (.ref ca), .val (.int rr), .val (.int (1 : Int32)), .unset, .unset] [(.int (own_doo (own_up (own_up (own_up (fun _ => 0) 0 ((b0 + (48 : Int32)).toInt8.toInt32).toInt8.toInt32) 1 ((b1 + (48 : Int32)).toInt8.toInt32).toInt8.toInt32) 2 ((b2 + (48 : Int32)).toInt8.toInt32).toInt8.toInt32) av rr (1 : Int32) 1))]))
      refine own_st (V := T65.setTop (mkF m 175 #[.val (.int b0), .val (.int b1), .val (.int b2), .val (.int b3), .val (.int sp), .val (.int (3 : Int32)), .val (.int av), .val (.ref ca), .val (.int rr), .val (.int (1 : Int32)), .unset, .unset] [(.int (2 : Int32)), (.int rr), (.int av), (.ref ca)])) (fun tgt k => ?_) ?_
      · show Steps p.tables e below (T65.setTop (mkF m 165 #[.val (.int b0), .val (.int b1), .val (.int b2), .val (.int b3), .val (.int sp), .val (.int (3 : Int32)), .val (.int av), .val (.ref ca), .val (.int rr), .val (.int (1 : Int32)), .unset, .unset] [(.int (own_doo (own_up (own_up (own_up (fun _ => 0) 0 ((b0 + (48 : Int32)).toInt8.toInt32).toInt8.toInt32) 1 ((b1 + (48 : Int32)).toInt8.toInt32).toInt8.toInt32) 2 ((b2 + (48 : Int32)).toInt8.toInt32).toInt8.toInt32) av rr (1 : Int32) 1))])) tgt
        refine XS.ifNo X65.here hx rfl (hb hby at_165) rfl ((if0 _ _).trans (feq (own_doo1 R2 (by decide))).1) ?_
        show Steps p.tables e below (T65.setTop (mkF m 168 #[.val (.int b0), .val (.int b1), .val (.int b2), .val (.int b3), .val (.int sp), .val (.int (3 : Int32)), .val (.int av), .val (.ref ca), .val (.int rr), .val (.int (1 : Int32)), .unset, .unset] [])) tgt
        refine XS.aload X65.here hx rfl (hb hby at_168) rfl rfl ?_
        show Steps p.tables e below (T65.setTop (mkF m 170 #[.val (.int b0), .val (.int b1), .val (.int b2), .val (.int b3), .val (.int sp), .val (.int (3 : Int32)), .val (.int av), .val (.ref ca), .val (.int rr), .val (.int (1 : Int32)), .unset, .unset] [(.ref ca)])) tgt
        refine XS.iload X65.here hx rfl (hb hby at_170) rfl ?_
        show Steps p.tables e below (T65.setTop (mkF m 172 #[.val (.int b0), .val (.int b1), .val (.int b2), .val (.int b3), .val (.int sp), .val (.int (3 : Int32)), .val (.int av), .val (.ref ca), .val (.int rr), .val (.int (1 : Int32)), .unset, .unset] [(.int av), (.ref ca)])) tgt
        refine XS.iload X65.here hx rfl (hb hby at_172) rfl ?_
        show Steps p.tables e below (T65.setTop (mkF m 174 #[.val (.int b0), .val (.int b1), .val (.int b2), .val (.int b3), .val (.int sp), .val (.int (3 : Int32)), .val (.int av), .val (.ref ca), .val (.int rr), .val (.int (1 : Int32)), .unset, .unset] [(.int rr), (.int av), (.ref ca)])) tgt
        refine XS.iconst X65.here hx rfl (hb hby at_174) ?_
        exact k
      obtain ⟨_, _, ⟨T66, L66, k66, n66⟩, -, X66, ⟨Lc66, hQ66, l66, y66, z66⟩, st66⟩ := Jvm.LawKit.callS X65 hx (y := (⟨"com/example/tidewatch/tidewatch/io/DecimalSkipDigitsPinLaw", "digitOrOutside", "([BIII)Z"⟩ : MethodName)) hown (mvT hZ (hw _ (List.mem_of_getElem? (i := 5) rfl))) (mvT hZ (hw _ (List.mem_of_getElem? (i := 6) rfl))) (mvT hZ (hw _ (List.mem_of_getElem? (i := 7) rfl))) (mvT hZ (hw _ (List.mem_of_getElem? (i := 8) rfl))) (by decide) (backOf (W := 0) (rm2 l Z a0 hw [] ca av rr (2 : Int32) 3 (own_up (own_up (own_up (fun _ => 0) 0 ((b0 + (48 : Int32)).toInt8.toInt32).toInt8.toInt32) 1 ((b1 + (48 : Int32)).toInt8.toInt32).toInt8.toInt32) 2 ((b2 + (48 : Int32)).toInt8.toInt32).toInt8.toInt32) 2 h55 n0 Zs55 A_ca_55 (by decide) (own_i2 R2 (by decide))) hZ (hw _ (List.mem_of_getElem? (i := 8) rfl)) (hw _ (List.mem_of_getElem? (i := 7) rfl)) (by decide) (by decide)) (g := (mkF m 175 #[.val (.int b0), .val (.int b1), .val (.int b2), .val (.int b3), .val (.int sp), .val (.int (3 : Int32)), .val (.int av), .val (.ref ca), .val (.int rr), .val (.int (1 : Int32)), .unset, .unset] [(.int (2 : Int32)), (.int rr), (.int av), (.ref ca)])) rfl (by rw [hml]; rfl) (argsL := [(.ref ca), (.int av), (.int rr), (.int (2 : Int32))]) (rest := []) (lenOf pd_0_1 rfl) rfl (by show 2 * 0 + _ ≤ _; exact Nat.le_of_eq rfl) (hb hby at_175) (fun _ _ => ⟨rfl, K65, (by decide : 1 + 0 ≤ _), (by decide : 3 + 0 ≤ _)⟩)
      dsimp only [Pt.U, Pt.locs, Pt.cells, Pt.slots] at X66 l66 y66 z66 st66 hQ66
      subst l66 y66 z66
      obtain ⟨rfl, N66q, K66⟩ := hQ66
      have N66 := Fr.app N65 N66q
      refine own_st st66 ?_
      show own_Go p e below _ (T66.setTop (mkF m 178 #[.val (.int b0), .val (.int b1), .val (.int b2), .val (.int b3), .val (.int sp), .val (.int (3 : Int32)), .val (.int av), .val (.ref ca), .val (.int rr), .val (.int (1 : Int32)), .unset, .unset] [(.int (own_doo (own_up (own_up (own_up (fun _ => 0) 0 ((b0 + (48 : Int32)).toInt8.toInt32).toInt8.toInt32) 1 ((b1 + (48 : Int32)).toInt8.toInt32).toInt8.toInt32) 2 ((b2 + (48 : Int32)).toInt8.toInt32).toInt8.toInt32) av rr (2 : Int32) 2))]))
      refine own_st (V := T66.setTop (mkF m 188 #[.val (.int b0), .val (.int b1), .val (.int b2), .val (.int b3), .val (.int sp), .val (.int (3 : Int32)), .val (.int av), .val (.ref ca), .val (.int rr), .val (.int (1 : Int32)), .unset, .unset] [(.int (3 : Int32)), (.int rr), (.int av), (.ref ca)])) (fun tgt k => ?_) ?_
      · show Steps p.tables e below (T66.setTop (mkF m 178 #[.val (.int b0), .val (.int b1), .val (.int b2), .val (.int b3), .val (.int sp), .val (.int (3 : Int32)), .val (.int av), .val (.ref ca), .val (.int rr), .val (.int (1 : Int32)), .unset, .unset] [(.int (own_doo (own_up (own_up (own_up (fun _ => 0) 0 ((b0 + (48 : Int32)).toInt8.toInt32).toInt8.toInt32) 1 ((b1 + (48 : Int32)).toInt8.toInt32).toInt8.toInt32) 2 ((b2 + (48 : Int32)).toInt8.toInt32).toInt8.toInt32) av rr (2 : Int32) 2))])) tgt
        refine XS.ifNo X66.here hx rfl (hb hby at_178) rfl ((if0 _ _).trans (feq (own_doo1 R2 (by decide))).1) ?_
        show Steps p.tables e below (T66.setTop (mkF m 181 #[.val (.int b0), .val (.int b1), .val (.int b2), .val (.int b3), .val (.int sp), .val (.int (3 : Int32)), .val (.int av), .val (.ref ca), .val (.int rr), .val (.int (1 : Int32)), .unset, .unset] [])) tgt
        refine XS.aload X66.here hx rfl (hb hby at_181) rfl rfl ?_
        show Steps p.tables e below (T66.setTop (mkF m 183 #[.val (.int b0), .val (.int b1), .val (.int b2), .val (.int b3), .val (.int sp), .val (.int (3 : Int32)), .val (.int av), .val (.ref ca), .val (.int rr), .val (.int (1 : Int32)), .unset, .unset] [(.ref ca)])) tgt
        refine XS.iload X66.here hx rfl (hb hby at_183) rfl ?_
        show Steps p.tables e below (T66.setTop (mkF m 185 #[.val (.int b0), .val (.int b1), .val (.int b2), .val (.int b3), .val (.int sp), .val (.int (3 : Int32)), .val (.int av), .val (.ref ca), .val (.int rr), .val (.int (1 : Int32)), .unset, .unset] [(.int av), (.ref ca)])) tgt
        refine XS.iload X66.here hx rfl (hb hby at_185) rfl ?_
        show Steps p.tables e below (T66.setTop (mkF m 187 #[.val (.int b0), .val (.int b1), .val (.int b2), .val (.int b3), .val (.int sp), .val (.int (3 : Int32)), .val (.int av), .val (.ref ca), .val (.int rr), .val (.int (1 : Int32)), .unset, .unset] [(.int rr), (.int av), (.ref ca)])) tgt
        refine XS.iconst X66.here hx rfl (hb hby at_187) ?_
        exact k
      obtain ⟨_, _, ⟨T67, L67, k67, n67⟩, -, X67, ⟨Lc67, hQ67, l67, y67, z67⟩, st67⟩ := Jvm.LawKit.callS X66 hx (y := (⟨"com/example/tidewatch/tidewatch/io/DecimalSkipDigitsPinLaw", "digitOrOutside", "([BIII)Z"⟩ : MethodName)) hown (mvT hZ (hw _ (List.mem_of_getElem? (i := 5) rfl))) (mvT hZ (hw _ (List.mem_of_getElem? (i := 6) rfl))) (mvT hZ (hw _ (List.mem_of_getElem? (i := 7) rfl))) (mvT hZ (hw _ (List.mem_of_getElem? (i := 8) rfl))) (by decide) (backOf (W := 0) (rm2 l Z a0 hw [] ca av rr (3 : Int32) 3 (own_up (own_up (own_up (fun _ => 0) 0 ((b0 + (48 : Int32)).toInt8.toInt32).toInt8.toInt32) 1 ((b1 + (48 : Int32)).toInt8.toInt32).toInt8.toInt32) 2 ((b2 + (48 : Int32)).toInt8.toInt32).toInt8.toInt32) 3 h55 n0 Zs55 A_ca_55 (by decide) (own_i2 R2 (by decide))) hZ (hw _ (List.mem_of_getElem? (i := 8) rfl)) (hw _ (List.mem_of_getElem? (i := 7) rfl)) (by decide) (by decide)) (g := (mkF m 188 #[.val (.int b0), .val (.int b1), .val (.int b2), .val (.int b3), .val (.int sp), .val (.int (3 : Int32)), .val (.int av), .val (.ref ca), .val (.int rr), .val (.int (1 : Int32)), .unset, .unset] [(.int (3 : Int32)), (.int rr), (.int av), (.ref ca)])) rfl (by rw [hml]; rfl) (argsL := [(.ref ca), (.int av), (.int rr), (.int (3 : Int32))]) (rest := []) (lenOf pd_0_1 rfl) rfl (by show 2 * 0 + _ ≤ _; exact Nat.le_of_eq rfl) (hb hby at_188) (fun _ _ => ⟨rfl, K66, (by decide : 1 + 0 ≤ _), (by decide : 3 + 0 ≤ _)⟩)
      dsimp only [Pt.U, Pt.locs, Pt.cells, Pt.slots] at X67 l67 y67 z67 st67 hQ67
      subst l67 y67 z67
      obtain ⟨rfl, N67q, K67⟩ := hQ67
      have N67 := Fr.app N66 N67q
      refine own_st st67 ?_
      show own_Go p e below _ (T67.setTop (mkF m 191 #[.val (.int b0), .val (.int b1), .val (.int b2), .val (.int b3), .val (.int sp), .val (.int (3 : Int32)), .val (.int av), .val (.ref ca), .val (.int rr), .val (.int (1 : Int32)), .unset, .unset] [(.int (own_doo (own_up (own_up (own_up (fun _ => 0) 0 ((b0 + (48 : Int32)).toInt8.toInt32).toInt8.toInt32) 1 ((b1 + (48 : Int32)).toInt8.toInt32).toInt8.toInt32) 2 ((b2 + (48 : Int32)).toInt8.toInt32).toInt8.toInt32) av rr (3 : Int32) 3))]))
      refine own_st (V := T67.setTop (mkF m 205 #[.val (.int b0), .val (.int b1), .val (.int b2), .val (.int b3), .val (.int sp), .val (.int (3 : Int32)), .val (.int av), .val (.ref ca), .val (.int rr), .val (.int (1 : Int32)), .val (.int (1 : Int32)), .unset] [(.int (3 : Int32)), (.int rr)])) (fun tgt k => ?_) ?_
      · show Steps p.tables e below (T67.setTop (mkF m 191 #[.val (.int b0), .val (.int b1), .val (.int b2), .val (.int b3), .val (.int sp), .val (.int (3 : Int32)), .val (.int av), .val (.ref ca), .val (.int rr), .val (.int (1 : Int32)), .unset, .unset] [(.int (own_doo (own_up (own_up (own_up (fun _ => 0) 0 ((b0 + (48 : Int32)).toInt8.toInt32).toInt8.toInt32) 1 ((b1 + (48 : Int32)).toInt8.toInt32).toInt8.toInt32) 2 ((b2 + (48 : Int32)).toInt8.toInt32).toInt8.toInt32) av rr (3 : Int32) 3))])) tgt
        refine XS.ifNo X67.here hx rfl (hb hby at_191) rfl ((if0 _ _).trans (feq (own_doo1 R2 (by decide))).1) ?_
        show Steps p.tables e below (T67.setTop (mkF m 194 #[.val (.int b0), .val (.int b1), .val (.int b2), .val (.int b3), .val (.int sp), .val (.int (3 : Int32)), .val (.int av), .val (.ref ca), .val (.int rr), .val (.int (1 : Int32)), .unset, .unset] [])) tgt
        refine XS.iconst X67.here hx rfl (hb hby at_194) ?_
        show Steps p.tables e below (T67.setTop (mkF m 195 #[.val (.int b0), .val (.int b1), .val (.int b2), .val (.int b3), .val (.int sp), .val (.int (3 : Int32)), .val (.int av), .val (.ref ca), .val (.int rr), .val (.int (1 : Int32)), .unset, .unset] [(.int (1 : Int32))])) tgt
        refine XS.goto X67.here hx rfl (pc0 := 195) (pc' := 199) rfl (hb hby at_195) (by decide) (by decide) ?_
        show Steps p.tables e below (T67.setTop (mkF m 199 #[.val (.int b0), .val (.int b1), .val (.int b2), .val (.int b3), .val (.int sp), .val (.int (3 : Int32)), .val (.int av), .val (.ref ca), .val (.int rr), .val (.int (1 : Int32)), .unset, .unset] [(.int (1 : Int32))])) tgt
        refine XS.istore X67.here hx rfl (hb hby at_199) rfl (l' := #[.val (.int b0), .val (.int b1), .val (.int b2), .val (.int b3), .val (.int sp), .val (.int (3 : Int32)), .val (.int av), .val (.ref ca), .val (.int rr), .val (.int (1 : Int32)), .val (.int (1 : Int32)), .unset]) rfl ?_
        show Steps p.tables e below (T67.setTop (mkF m 201 #[.val (.int b0), .val (.int b1), .val (.int b2), .val (.int b3), .val (.int sp), .val (.int (3 : Int32)), .val (.int av), .val (.ref ca), .val (.int rr), .val (.int (1 : Int32)), .val (.int (1 : Int32)), .unset] [])) tgt
        refine XS.iload X67.here hx rfl (hb hby at_201) rfl ?_
        show Steps p.tables e below (T67.setTop (mkF m 203 #[.val (.int b0), .val (.int b1), .val (.int b2), .val (.int b3), .val (.int sp), .val (.int (3 : Int32)), .val (.int av), .val (.ref ca), .val (.int rr), .val (.int (1 : Int32)), .val (.int (1 : Int32)), .unset] [(.int rr)])) tgt
        refine XS.iload X67.here hx rfl (hb hby at_203) rfl ?_
        exact k
      by_cases hc205 : rr < (3 : Int32)
      · skip
        refine own_st (V := T67.setTop (mkF m 213 #[.val (.int b0), .val (.int b1), .val (.int b2), .val (.int b3), .val (.int sp), .val (.int (3 : Int32)), .val (.int av), .val (.ref ca), .val (.int rr), .val (.int (1 : Int32)), .val (.int (1 : Int32)), .unset] [(.int ((own_up (own_up (own_up (fun _ => 0) 0 ((b0 + (48 : Int32)).toInt8.toInt32).toInt8.toInt32) 1 ((b1 + (48 : Int32)).toInt8.toInt32).toInt8.toInt32) 2 ((b2 + (48 : Int32)).toInt8.toInt32).toInt8.toInt32) rr.toInt.toNat))])) (fun tgt k => ?_) ?_
        · show Steps p.tables e below (T67.setTop (mkF m 205 #[.val (.int b0), .val (.int b1), .val (.int b2), .val (.int b3), .val (.int sp), .val (.int (3 : Int32)), .val (.int av), .val (.ref ca), .val (.int rr), .val (.int (1 : Int32)), .val (.int (1 : Int32)), .unset] [(.int (3 : Int32)), (.int rr)])) tgt
          refine XS.icmpNo X67.here hx rfl (hb hby at_205) rfl (tlt hc205).2.1 ?_
          show Steps p.tables e below (T67.setTop (mkF m 208 #[.val (.int b0), .val (.int b1), .val (.int b2), .val (.int b3), .val (.int sp), .val (.int (3 : Int32)), .val (.int av), .val (.ref ca), .val (.int rr), .val (.int (1 : Int32)), .val (.int (1 : Int32)), .unset] [])) tgt
          refine XS.aload X67.here hx rfl (hb hby at_208) rfl rfl ?_
          show Steps p.tables e below (T67.setTop (mkF m 210 #[.val (.int b0), .val (.int b1), .val (.int b2), .val (.int b3), .val (.int sp), .val (.int (3 : Int32)), .val (.int av), .val (.ref ca), .val (.int rr), .val (.int (1 : Int32)), .val (.int (1 : Int32)), .unset] [(.ref ca)])) tgt
          refine XS.iload X67.here hx rfl (hb hby at_210) rfl ?_
          show Steps p.tables e below (T67.setTop (mkF m 212 #[.val (.int b0), .val (.int b1), .val (.int b2), .val (.int b3), .val (.int sp), .val (.int (3 : Int32)), .val (.int av), .val (.ref ca), .val (.int rr), .val (.int (1 : Int32)), .val (.int (1 : Int32)), .unset] [(.int rr), (.ref ca)])) tgt
          refine own_baload X67 hx hZ K67 A_ca_55 (j := rr) (k := rr.toInt.toNat) (by omega) (by have := own_ilt.mp hc205; rw [show (3 : Int32).toInt = 3 from rfl] at this; omega) (g := (mkF m 212 #[.val (.int b0), .val (.int b1), .val (.int b2), .val (.int b3), .val (.int sp), .val (.int (3 : Int32)), .val (.int av), .val (.ref ca), .val (.int rr), .val (.int (1 : Int32)), .val (.int (1 : Int32)), .unset] [(.int rr), (.ref ca)])) rfl rfl (hb hby at_212) ?_
          exact k
        obtain ⟨_, _, ⟨T68, L68, k68, n68⟩, -, X68, ⟨Lc68, hQ68, l68, y68, z68⟩, st68⟩ := Jvm.LawKit.callS X67 hx (y := (⟨"com/example/tidewatch/tidewatch/io/DecimalSkipDigitsPinLaw", "isDigit", "(B)Z"⟩ : MethodName)) hown (mvT hZ (hw _ (List.mem_of_getElem? (i := 9) rfl))) (mvT hZ (hw _ (List.mem_of_getElem? (i := 10) rfl))) (mvT hZ (hw _ (List.mem_of_getElem? (i := 7) rfl))) (mvT hZ (hw _ (List.mem_of_getElem? (i := 11) rfl))) (by decide) (backOf (W := 0) (rm3 l Z a0 hw [] ((own_up (own_up (own_up (fun _ => 0) 0 ((b0 + (48 : Int32)).toInt8.toInt32).toInt8.toInt32) 1 ((b1 + (48 : Int32)).toInt8.toInt32).toInt8.toInt32) 2 ((b2 + (48 : Int32)).toInt8.toInt32).toInt8.toInt32) rr.toInt.toNat) h55 n0 Zs55 ) hZ (hw _ (List.mem_of_getElem? (i := 11) rfl)) (hw _ (List.mem_of_getElem? (i := 7) rfl)) (by decide) (by decide)) (g := (mkF m 213 #[.val (.int b0), .val (.int b1), .val (.int b2), .val (.int b3), .val (.int sp), .val (.int (3 : Int32)), .val (.int av), .val (.ref ca), .val (.int rr), .val (.int (1 : Int32)), .val (.int (1 : Int32)), .unset] [(.int ((own_up (own_up (own_up (fun _ => 0) 0 ((b0 + (48 : Int32)).toInt8.toInt32).toInt8.toInt32) 1 ((b1 + (48 : Int32)).toInt8.toInt32).toInt8.toInt32) 2 ((b2 + (48 : Int32)).toInt8.toInt32).toInt8.toInt32) rr.toInt.toNat))])) rfl (by rw [hml]; rfl) (argsL := [(.int ((own_up (own_up (own_up (fun _ => 0) 0 ((b0 + (48 : Int32)).toInt8.toInt32).toInt8.toInt32) 1 ((b1 + (48 : Int32)).toInt8.toInt32).toInt8.toInt32) 2 ((b2 + (48 : Int32)).toInt8.toInt32).toInt8.toInt32) rr.toInt.toNat))]) (rest := []) (lenOf pd_0_2 rfl) rfl (by show 2 * 0 + _ ≤ _; exact Nat.le_of_eq rfl) (hb hby at_213) (fun _ _ => ⟨rfl, K67, (by decide : 1 + 0 ≤ _), (by decide : 3 + 0 ≤ _)⟩)
        dsimp only [Pt.U, Pt.locs, Pt.cells, Pt.slots] at X68 l68 y68 z68 st68 hQ68
        subst l68 y68 z68
        obtain ⟨rfl, N68q, K68⟩ := hQ68
        have N68 := Fr.app N67 N68q
        refine own_st st68 ?_
        show own_Go p e below _ (T68.setTop (mkF m 216 #[.val (.int b0), .val (.int b1), .val (.int b2), .val (.int b3), .val (.int sp), .val (.int (3 : Int32)), .val (.int av), .val (.ref ca), .val (.int rr), .val (.int (1 : Int32)), .val (.int (1 : Int32)), .unset] [(.int (own_isd ((own_up (own_up (own_up (fun _ => 0) 0 ((b0 + (48 : Int32)).toInt8.toInt32).toInt8.toInt32) 1 ((b1 + (48 : Int32)).toInt8.toInt32).toInt8.toInt32) 2 ((b2 + (48 : Int32)).toInt8.toInt32).toInt8.toInt32) rr.toInt.toNat)))]))
        refine own_st (V := T68.setTop (mkF m 241 #[.val (.int b0), .val (.int b1), .val (.int b2), .val (.int b3), .val (.int sp), .val (.int (3 : Int32)), .val (.int av), .val (.ref ca), .val (.int rr), .val (.int (1 : Int32)), .val (.int (1 : Int32)), .val (.int (1 : Int32))] [(.int (1 : Int32))])) (fun tgt k => ?_) ?_
        · show Steps p.tables e below (T68.setTop (mkF m 216 #[.val (.int b0), .val (.int b1), .val (.int b2), .val (.int b3), .val (.int sp), .val (.int (3 : Int32)), .val (.int av), .val (.ref ca), .val (.int rr), .val (.int (1 : Int32)), .val (.int (1 : Int32)), .unset] [(.int (own_isd ((own_up (own_up (own_up (fun _ => 0) 0 ((b0 + (48 : Int32)).toInt8.toInt32).toInt8.toInt32) 1 ((b1 + (48 : Int32)).toInt8.toInt32).toInt8.toInt32) 2 ((b2 + (48 : Int32)).toInt8.toInt32).toInt8.toInt32) rr.toInt.toNat)))])) tgt
          refine XS.ifNo X68.here hx rfl (hb hby at_216) rfl ((if0 _ _).trans (teq ((own_isd1 _).2 (fun z => R3 ⟨by have := own_ilt.mp hc205; rw [show (3 : Int32).toInt = 3 from rfl] at this; omega, z⟩))).2) ?_
          show Steps p.tables e below (T68.setTop (mkF m 219 #[.val (.int b0), .val (.int b1), .val (.int b2), .val (.int b3), .val (.int sp), .val (.int (3 : Int32)), .val (.int av), .val (.ref ca), .val (.int rr), .val (.int (1 : Int32)), .val (.int (1 : Int32)), .unset] [])) tgt
          refine XS.iconst X68.here hx rfl (hb hby at_219) ?_
          show Steps p.tables e below (T68.setTop (mkF m 220 #[.val (.int b0), .val (.int b1), .val (.int b2), .val (.int b3), .val (.int sp), .val (.int (3 : Int32)), .val (.int av), .val (.ref ca), .val (.int rr), .val (.int (1 : Int32)), .val (.int (1 : Int32)), .unset] [(.int (1 : Int32))])) tgt
          refine XS.goto X68.here hx rfl (pc0 := 220) (pc' := 224) rfl (hb hby at_220) (by decide) (by decide) ?_
          show Steps p.tables e below (T68.setTop (mkF m 224 #[.val (.int b0), .val (.int b1), .val (.int b2), .val (.int b3), .val (.int sp), .val (.int (3 : Int32)), .val (.int av), .val (.ref ca), .val (.int rr), .val (.int (1 : Int32)), .val (.int (1 : Int32)), .unset] [(.int (1 : Int32))])) tgt
          refine XS.istore X68.here hx rfl (hb hby at_224) rfl (l' := #[.val (.int b0), .val (.int b1), .val (.int b2), .val (.int b3), .val (.int sp), .val (.int (3 : Int32)), .val (.int av), .val (.ref ca), .val (.int rr), .val (.int (1 : Int32)), .val (.int (1 : Int32)), .val (.int (1 : Int32))]) rfl ?_
          show Steps p.tables e below (T68.setTop (mkF m 226 #[.val (.int b0), .val (.int b1), .val (.int b2), .val (.int b3), .val (.int sp), .val (.int (3 : Int32)), .val (.int av), .val (.ref ca), .val (.int rr), .val (.int (1 : Int32)), .val (.int (1 : Int32)), .val (.int (1 : Int32))] [])) tgt
          refine XS.iload X68.here hx rfl (hb hby at_226) rfl ?_
          show Steps p.tables e below (T68.setTop (mkF m 228 #[.val (.int b0), .val (.int b1), .val (.int b2), .val (.int b3), .val (.int sp), .val (.int (3 : Int32)), .val (.int av), .val (.ref ca), .val (.int rr), .val (.int (1 : Int32)), .val (.int (1 : Int32)), .val (.int (1 : Int32))] [(.int (1 : Int32))])) tgt
          refine XS.ifNo X68.here hx rfl (hb hby at_228) rfl ((if0 _ _).trans (feq (by decide : ¬ ((1 : Int32) = (0 : Int32)))).1) ?_
          show Steps p.tables e below (T68.setTop (mkF m 231 #[.val (.int b0), .val (.int b1), .val (.int b2), .val (.int b3), .val (.int sp), .val (.int (3 : Int32)), .val (.int av), .val (.ref ca), .val (.int rr), .val (.int (1 : Int32)), .val (.int (1 : Int32)), .val (.int (1 : Int32))] [])) tgt
          refine XS.iload X68.here hx rfl (hb hby at_231) rfl ?_
          show Steps p.tables e below (T68.setTop (mkF m 233 #[.val (.int b0), .val (.int b1), .val (.int b2), .val (.int b3), .val (.int sp), .val (.int (3 : Int32)), .val (.int av), .val (.ref ca), .val (.int rr), .val (.int (1 : Int32)), .val (.int (1 : Int32)), .val (.int (1 : Int32))] [(.int (1 : Int32))])) tgt
          refine XS.ifNo X68.here hx rfl (hb hby at_233) rfl ((if0 _ _).trans (feq (by decide : ¬ ((1 : Int32) = (0 : Int32)))).1) ?_
          show Steps p.tables e below (T68.setTop (mkF m 236 #[.val (.int b0), .val (.int b1), .val (.int b2), .val (.int b3), .val (.int sp), .val (.int (3 : Int32)), .val (.int av), .val (.ref ca), .val (.int rr), .val (.int (1 : Int32)), .val (.int (1 : Int32)), .val (.int (1 : Int32))] [])) tgt
          refine XS.iconst X68.here hx rfl (hb hby at_236) ?_
          show Steps p.tables e below (T68.setTop (mkF m 237 #[.val (.int b0), .val (.int b1), .val (.int b2), .val (.int b3), .val (.int sp), .val (.int (3 : Int32)), .val (.int av), .val (.ref ca), .val (.int rr), .val (.int (1 : Int32)), .val (.int (1 : Int32)), .val (.int (1 : Int32))] [(.int (1 : Int32))])) tgt
          refine XS.goto X68.here hx rfl (pc0 := 237) (pc' := 241) rfl (hb hby at_237) (by decide) (by decide) ?_
          exact k
        refine own_retN X68 hx hlk (t := .boolean) (z' := (1 : Int32)) Bd.returns (by simp) rfl (hb hby at_241) ?_ (by decide) (by decide)
        show Q0 Z b0 b1 b2 b3 sp h0 n0 (some (.int (1 : Int32))) T68.heap _
        rw [K68]
        exact ⟨rfl, N68⟩
      · skip
        refine own_st (V := T67.setTop (mkF m 241 #[.val (.int b0), .val (.int b1), .val (.int b2), .val (.int b3), .val (.int sp), .val (.int (3 : Int32)), .val (.int av), .val (.ref ca), .val (.int rr), .val (.int (1 : Int32)), .val (.int (1 : Int32)), .val (.int (1 : Int32))] [(.int (1 : Int32))])) (fun tgt k => ?_) ?_
        · show Steps p.tables e below (T67.setTop (mkF m 205 #[.val (.int b0), .val (.int b1), .val (.int b2), .val (.int b3), .val (.int sp), .val (.int (3 : Int32)), .val (.int av), .val (.ref ca), .val (.int rr), .val (.int (1 : Int32)), .val (.int (1 : Int32)), .unset] [(.int (3 : Int32)), (.int rr)])) tgt
          refine XS.icmpYes X67.here hx rfl (pc0 := 205) (pc' := 219) rfl (hb hby at_205) rfl (flt hc205).2.1 (by decide) (by decide) ?_
          show Steps p.tables e below (T67.setTop (mkF m 219 #[.val (.int b0), .val (.int b1), .val (.int b2), .val (.int b3), .val (.int sp), .val (.int (3 : Int32)), .val (.int av), .val (.ref ca), .val (.int rr), .val (.int (1 : Int32)), .val (.int (1 : Int32)), .unset] [])) tgt
          refine XS.iconst X67.here hx rfl (hb hby at_219) ?_
          show Steps p.tables e below (T67.setTop (mkF m 220 #[.val (.int b0), .val (.int b1), .val (.int b2), .val (.int b3), .val (.int sp), .val (.int (3 : Int32)), .val (.int av), .val (.ref ca), .val (.int rr), .val (.int (1 : Int32)), .val (.int (1 : Int32)), .unset] [(.int (1 : Int32))])) tgt
          refine XS.goto X67.here hx rfl (pc0 := 220) (pc' := 224) rfl (hb hby at_220) (by decide) (by decide) ?_
          show Steps p.tables e below (T67.setTop (mkF m 224 #[.val (.int b0), .val (.int b1), .val (.int b2), .val (.int b3), .val (.int sp), .val (.int (3 : Int32)), .val (.int av), .val (.ref ca), .val (.int rr), .val (.int (1 : Int32)), .val (.int (1 : Int32)), .unset] [(.int (1 : Int32))])) tgt
          refine XS.istore X67.here hx rfl (hb hby at_224) rfl (l' := #[.val (.int b0), .val (.int b1), .val (.int b2), .val (.int b3), .val (.int sp), .val (.int (3 : Int32)), .val (.int av), .val (.ref ca), .val (.int rr), .val (.int (1 : Int32)), .val (.int (1 : Int32)), .val (.int (1 : Int32))]) rfl ?_
          show Steps p.tables e below (T67.setTop (mkF m 226 #[.val (.int b0), .val (.int b1), .val (.int b2), .val (.int b3), .val (.int sp), .val (.int (3 : Int32)), .val (.int av), .val (.ref ca), .val (.int rr), .val (.int (1 : Int32)), .val (.int (1 : Int32)), .val (.int (1 : Int32))] [])) tgt
          refine XS.iload X67.here hx rfl (hb hby at_226) rfl ?_
          show Steps p.tables e below (T67.setTop (mkF m 228 #[.val (.int b0), .val (.int b1), .val (.int b2), .val (.int b3), .val (.int sp), .val (.int (3 : Int32)), .val (.int av), .val (.ref ca), .val (.int rr), .val (.int (1 : Int32)), .val (.int (1 : Int32)), .val (.int (1 : Int32))] [(.int (1 : Int32))])) tgt
          refine XS.ifNo X67.here hx rfl (hb hby at_228) rfl ((if0 _ _).trans (feq (by decide : ¬ ((1 : Int32) = (0 : Int32)))).1) ?_
          show Steps p.tables e below (T67.setTop (mkF m 231 #[.val (.int b0), .val (.int b1), .val (.int b2), .val (.int b3), .val (.int sp), .val (.int (3 : Int32)), .val (.int av), .val (.ref ca), .val (.int rr), .val (.int (1 : Int32)), .val (.int (1 : Int32)), .val (.int (1 : Int32))] [])) tgt
          refine XS.iload X67.here hx rfl (hb hby at_231) rfl ?_
          show Steps p.tables e below (T67.setTop (mkF m 233 #[.val (.int b0), .val (.int b1), .val (.int b2), .val (.int b3), .val (.int sp), .val (.int (3 : Int32)), .val (.int av), .val (.ref ca), .val (.int rr), .val (.int (1 : Int32)), .val (.int (1 : Int32)), .val (.int (1 : Int32))] [(.int (1 : Int32))])) tgt
          refine XS.ifNo X67.here hx rfl (hb hby at_233) rfl ((if0 _ _).trans (feq (by decide : ¬ ((1 : Int32) = (0 : Int32)))).1) ?_
          show Steps p.tables e below (T67.setTop (mkF m 236 #[.val (.int b0), .val (.int b1), .val (.int b2), .val (.int b3), .val (.int sp), .val (.int (3 : Int32)), .val (.int av), .val (.ref ca), .val (.int rr), .val (.int (1 : Int32)), .val (.int (1 : Int32)), .val (.int (1 : Int32))] [])) tgt
          refine XS.iconst X67.here hx rfl (hb hby at_236) ?_
          show Steps p.tables e below (T67.setTop (mkF m 237 #[.val (.int b0), .val (.int b1), .val (.int b2), .val (.int b3), .val (.int sp), .val (.int (3 : Int32)), .val (.int av), .val (.ref ca), .val (.int rr), .val (.int (1 : Int32)), .val (.int (1 : Int32)), .val (.int (1 : Int32))] [(.int (1 : Int32))])) tgt
          refine XS.goto X67.here hx rfl (pc0 := 237) (pc' := 241) rfl (hb hby at_237) (by decide) (by decide) ?_
          exact k
        refine own_retN X67 hx hlk (t := .boolean) (z' := (1 : Int32)) Bd.returns (by simp) rfl (hb hby at_241) ?_ (by decide) (by decide)
        show Q0 Z b0 b1 b2 b3 sp h0 n0 (some (.int (1 : Int32))) T67.heap _
        rw [K67]
        exact ⟨rfl, N67⟩
  · skip
    rw [show ((sp &&& (7 : Int32)) % (5 : Int32)) = (4 : Int32) from q]
    refine own_st (V := s₁.setTop (mkF m 18 #[.val (.int b0), .val (.int b1), .val (.int b2), .val (.int b3), .val (.int sp), .val (.int (4 : Int32)), .val (.int (((sp.toUInt32 >>> ((3 : Int32) &&& 31).toUInt32).toInt32) &&& (7 : Int32))), .unset, .unset, .unset, .unset, .unset] [])) (fun tgt k => ?_) ?_
    · show Steps p.tables e below (s₁.setTop (mkF m 9 #[.val (.int b0), .val (.int b1), .val (.int b2), .val (.int b3), .val (.int sp), .val (.int (4 : Int32)), .unset, .unset, .unset, .unset, .unset, .unset] [])) tgt
      refine XS.iload X0.here hx rfl (hb hby at_9) rfl ?_
      show Steps p.tables e below (s₁.setTop (mkF m 11 #[.val (.int b0), .val (.int b1), .val (.int b2), .val (.int b3), .val (.int sp), .val (.int (4 : Int32)), .unset, .unset, .unset, .unset, .unset, .unset] [(.int sp)])) tgt
      refine XS.iconst X0.here hx rfl (hb hby at_11) ?_
      show Steps p.tables e below (s₁.setTop (mkF m 12 #[.val (.int b0), .val (.int b1), .val (.int b2), .val (.int b3), .val (.int sp), .val (.int (4 : Int32)), .unset, .unset, .unset, .unset, .unset, .unset] [(.int (3 : Int32)), (.int sp)])) tgt
      refine XS.iushr X0.here hx rfl (hb hby at_12) rfl ?_
      show Steps p.tables e below (s₁.setTop (mkF m 13 #[.val (.int b0), .val (.int b1), .val (.int b2), .val (.int b3), .val (.int sp), .val (.int (4 : Int32)), .unset, .unset, .unset, .unset, .unset, .unset] [(.int ((sp.toUInt32 >>> ((3 : Int32) &&& 31).toUInt32).toInt32))])) tgt
      refine XS.bipush X0.here hx rfl (hb hby at_13) ?_
      show Steps p.tables e below (s₁.setTop (mkF m 15 #[.val (.int b0), .val (.int b1), .val (.int b2), .val (.int b3), .val (.int sp), .val (.int (4 : Int32)), .unset, .unset, .unset, .unset, .unset, .unset] [(.int (7 : Int32)), (.int ((sp.toUInt32 >>> ((3 : Int32) &&& 31).toUInt32).toInt32))])) tgt
      refine XS.iand X0.here hx rfl (hb hby at_15) rfl ?_
      show Steps p.tables e below (s₁.setTop (mkF m 16 #[.val (.int b0), .val (.int b1), .val (.int b2), .val (.int b3), .val (.int sp), .val (.int (4 : Int32)), .unset, .unset, .unset, .unset, .unset, .unset] [(.int (((sp.toUInt32 >>> ((3 : Int32) &&& 31).toUInt32).toInt32) &&& (7 : Int32)))])) tgt
      refine XS.istore X0.here hx rfl (hb hby at_16) rfl (l' := #[.val (.int b0), .val (.int b1), .val (.int b2), .val (.int b3), .val (.int sp), .val (.int (4 : Int32)), .val (.int (((sp.toUInt32 >>> ((3 : Int32) &&& 31).toUInt32).toInt32) &&& (7 : Int32))), .unset, .unset, .unset, .unset, .unset]) rfl ?_
      exact k
    obtain ⟨av, hav⟩ : ∃ z : Int32, z = (((sp.toUInt32 >>> ((3 : Int32) &&& 31).toUInt32).toInt32) &&& (7 : Int32)) := ⟨_, rfl⟩
    rw [← hav]
    have hav0 : 0 ≤ av.toInt := by rw [hav]; exact (c_and _ 7 (by decide)).1
    refine own_st (V := s₁.setTop (mkF m 20 #[.val (.int b0), .val (.int b1), .val (.int b2), .val (.int b3), .val (.int sp), .val (.int (4 : Int32)), .val (.int av), .unset, .unset, .unset, .unset, .unset] [(.int (4 : Int32))])) (fun tgt k => ?_) ?_
    · show Steps p.tables e below (s₁.setTop (mkF m 18 #[.val (.int b0), .val (.int b1), .val (.int b2), .val (.int b3), .val (.int sp), .val (.int (4 : Int32)), .val (.int av), .unset, .unset, .unset, .unset, .unset] [])) tgt
      refine XS.iload X0.here hx rfl (hb hby at_18) rfl ?_
      exact k
    obtain ⟨T71, h71, c71, X71, e71, E71, A71, st71⟩ := own_newarr X0 hx hZ (hw _ (List.mem_of_getElem? (i := 0) rfl)) e0 (g := (mkF m 20 #[.val (.int b0), .val (.int b1), .val (.int b2), .val (.int b3), .val (.int sp), .val (.int (4 : Int32)), .val (.int av), .unset, .unset, .unset, .unset, .unset] [(.int (4 : Int32))])) rfl (hb hby at_20) rfl (k := 4) rfl (cap := 4) (by decide) (by decide) (by decide) (by decide)
    obtain ⟨ca, g71⟩ : ∃ z, z = h0.size := ⟨_, rfl⟩
    rw [← g71] at A71 st71
    have g_ca : n0 ≤ ca := Nat.le_trans Z0 (Nat.le_of_eq g71.symm)
    have A_ca_71 : own_Ai Z h71 ca .byte 4 (fun _ => 0) := own_Ai.new A71
    have Zs71 : n0 ≤ h71.size := Nat.le_trans Z0 E71.1
    refine own_st st71 ?_
    show own_Go p e below _ (T71.setTop (mkF m 22 #[.val (.int b0), .val (.int b1), .val (.int b2), .val (.int b3), .val (.int sp), .val (.int (4 : Int32)), .val (.int av), .unset, .unset, .unset, .unset, .unset] [(.ref ca)]))
    refine own_st (V := T71.setTop (mkF m 37 #[.val (.int b0), .val (.int b1), .val (.int b2), .val (.int b3), .val (.int sp), .val (.int (4 : Int32)), .val (.int av), .val (.ref ca), .unset, .unset, .unset, .unset] [(.int ((b0 + (48 : Int32)).toInt8.toInt32)), (.int (0 : Int32)), (.ref ca)])) (fun tgt k => ?_) ?_
    · show Steps p.tables e below (T71.setTop (mkF m 22 #[.val (.int b0), .val (.int b1), .val (.int b2), .val (.int b3), .val (.int sp), .val (.int (4 : Int32)), .val (.int av), .unset, .unset, .unset, .unset, .unset] [(.ref ca)])) tgt
      refine XS.astore X71.here hx rfl (hb hby at_22) rfl rfl (l' := #[.val (.int b0), .val (.int b1), .val (.int b2), .val (.int b3), .val (.int sp), .val (.int (4 : Int32)), .val (.int av), .val (.ref ca), .unset, .unset, .unset, .unset]) rfl ?_
      show Steps p.tables e below (T71.setTop (mkF m 24 #[.val (.int b0), .val (.int b1), .val (.int b2), .val (.int b3), .val (.int sp), .val (.int (4 : Int32)), .val (.int av), .val (.ref ca), .unset, .unset, .unset, .unset] [])) tgt
      refine XS.iload X71.here hx rfl (hb hby at_24) rfl ?_
      show Steps p.tables e below (T71.setTop (mkF m 26 #[.val (.int b0), .val (.int b1), .val (.int b2), .val (.int b3), .val (.int sp), .val (.int (4 : Int32)), .val (.int av), .val (.ref ca), .unset, .unset, .unset, .unset] [(.int (4 : Int32))])) tgt
      refine XS.ifNo X71.here hx rfl (hb hby at_26) rfl ((if0 _ _).trans (tlt (by decide : (0 : Int32) < (4 : Int32))).2.2.2) ?_
      show Steps p.tables e below (T71.setTop (mkF m 29 #[.val (.int b0), .val (.int b1), .val (.int b2), .val (.int b3), .val (.int sp), .val (.int (4 : Int32)), .val (.int av), .val (.ref ca), .unset, .unset, .unset, .unset] [])) tgt
      refine XS.aload X71.here hx rfl (hb hby at_29) rfl rfl ?_
      show Steps p.tables e below (T71.setTop (mkF m 31 #[.val (.int b0), .val (.int b1), .val (.int b2), .val (.int b3), .val (.int sp), .val (.int (4 : Int32)), .val (.int av), .val (.ref ca), .unset, .unset, .unset, .unset] [(.ref ca)])) tgt
      refine XS.iconst X71.here hx rfl (hb hby at_31) ?_
      show Steps p.tables e below (T71.setTop (mkF m 32 #[.val (.int b0), .val (.int b1), .val (.int b2), .val (.int b3), .val (.int sp), .val (.int (4 : Int32)), .val (.int av), .val (.ref ca), .unset, .unset, .unset, .unset] [(.int (0 : Int32)), (.ref ca)])) tgt
      refine XS.iloadN X71.here hx rfl (hb hby at_32) rfl ?_
      show Steps p.tables e below (T71.setTop (mkF m 33 #[.val (.int b0), .val (.int b1), .val (.int b2), .val (.int b3), .val (.int sp), .val (.int (4 : Int32)), .val (.int av), .val (.ref ca), .unset, .unset, .unset, .unset] [(.int b0), (.int (0 : Int32)), (.ref ca)])) tgt
      refine XS.bipush X71.here hx rfl (hb hby at_33) ?_
      show Steps p.tables e below (T71.setTop (mkF m 35 #[.val (.int b0), .val (.int b1), .val (.int b2), .val (.int b3), .val (.int sp), .val (.int (4 : Int32)), .val (.int av), .val (.ref ca), .unset, .unset, .unset, .unset] [(.int (48 : Int32)), (.int b0), (.int (0 : Int32)), (.ref ca)])) tgt
      refine XS.iadd X71.here hx rfl (hb hby at_35) rfl ?_
      show Steps p.tables e below (T71.setTop (mkF m 36 #[.val (.int b0), .val (.int b1), .val (.int b2), .val (.int b3), .val (.int sp), .val (.int (4 : Int32)), .val (.int av), .val (.ref ca), .unset, .unset, .unset, .unset] [(.int (b0 + (48 : Int32))), (.int (0 : Int32)), (.ref ca)])) tgt
      refine XS.i2b X71.here hx rfl (hb hby at_36) rfl ?_
      exact k
    obtain ⟨T72, h72, X72, e72, W72, A_ca_72, st72⟩ := own_bastore X71 hx hZ e71 A_ca_71 (j := (0 : Int32)) (k := 0) rfl (by decide) (g := (mkF m 37 #[.val (.int b0), .val (.int b1), .val (.int b2), .val (.int b3), .val (.int sp), .val (.int (4 : Int32)), .val (.int av), .val (.ref ca), .unset, .unset, .unset, .unset] [(.int ((b0 + (48 : Int32)).toInt8.toInt32)), (.int (0 : Int32)), (.ref ca)])) rfl rfl (hb hby at_37)
    have N72 := Fr.snoc X72 N0 g_ca
    have Zs72 : n0 ≤ h72.size := Nat.le_trans Zs71 (Keep.of_wr W72).1
    refine own_st st72 ?_
    show own_Go p e below _ (T72.setTop (mkF m 38 #[.val (.int b0), .val (.int b1), .val (.int b2), .val (.int b3), .val (.int sp), .val (.int (4 : Int32)), .val (.int av), .val (.ref ca), .unset, .unset, .unset, .unset] []))
    refine own_st (V := T72.setTop (mkF m 52 #[.val (.int b0), .val (.int b1), .val (.int b2), .val (.int b3), .val (.int sp), .val (.int (4 : Int32)), .val (.int av), .val (.ref ca), .unset, .unset, .unset, .unset] [(.int ((b1 + (48 : Int32)).toInt8.toInt32)), (.int (1 : Int32)), (.ref ca)])) (fun tgt k => ?_) ?_
    · show Steps p.tables e below (T72.setTop (mkF m 38 #[.val (.int b0), .val (.int b1), .val (.int b2), .val (.int b3), .val (.int sp), .val (.int (4 : Int32)), .val (.int av), .val (.ref ca), .unset, .unset, .unset, .unset] [])) tgt
      refine XS.iload X72.here hx rfl (hb hby at_38) rfl ?_
      show Steps p.tables e below (T72.setTop (mkF m 40 #[.val (.int b0), .val (.int b1), .val (.int b2), .val (.int b3), .val (.int sp), .val (.int (4 : Int32)), .val (.int av), .val (.ref ca), .unset, .unset, .unset, .unset] [(.int (4 : Int32))])) tgt
      refine XS.iconst X72.here hx rfl (hb hby at_40) ?_
      show Steps p.tables e below (T72.setTop (mkF m 41 #[.val (.int b0), .val (.int b1), .val (.int b2), .val (.int b3), .val (.int sp), .val (.int (4 : Int32)), .val (.int av), .val (.ref ca), .unset, .unset, .unset, .unset] [(.int (1 : Int32)), (.int (4 : Int32))])) tgt
      refine XS.icmpNo X72.here hx rfl (hb hby at_41) rfl (tlt (by decide : (1 : Int32) < (4 : Int32))).2.2.2 ?_
      show Steps p.tables e below (T72.setTop (mkF m 44 #[.val (.int b0), .val (.int b1), .val (.int b2), .val (.int b3), .val (.int sp), .val (.int (4 : Int32)), .val (.int av), .val (.ref ca), .unset, .unset, .unset, .unset] [])) tgt
      refine XS.aload X72.here hx rfl (hb hby at_44) rfl rfl ?_
      show Steps p.tables e below (T72.setTop (mkF m 46 #[.val (.int b0), .val (.int b1), .val (.int b2), .val (.int b3), .val (.int sp), .val (.int (4 : Int32)), .val (.int av), .val (.ref ca), .unset, .unset, .unset, .unset] [(.ref ca)])) tgt
      refine XS.iconst X72.here hx rfl (hb hby at_46) ?_
      show Steps p.tables e below (T72.setTop (mkF m 47 #[.val (.int b0), .val (.int b1), .val (.int b2), .val (.int b3), .val (.int sp), .val (.int (4 : Int32)), .val (.int av), .val (.ref ca), .unset, .unset, .unset, .unset] [(.int (1 : Int32)), (.ref ca)])) tgt
      refine XS.iloadN X72.here hx rfl (hb hby at_47) rfl ?_
      show Steps p.tables e below (T72.setTop (mkF m 48 #[.val (.int b0), .val (.int b1), .val (.int b2), .val (.int b3), .val (.int sp), .val (.int (4 : Int32)), .val (.int av), .val (.ref ca), .unset, .unset, .unset, .unset] [(.int b1), (.int (1 : Int32)), (.ref ca)])) tgt
      refine XS.bipush X72.here hx rfl (hb hby at_48) ?_
      show Steps p.tables e below (T72.setTop (mkF m 50 #[.val (.int b0), .val (.int b1), .val (.int b2), .val (.int b3), .val (.int sp), .val (.int (4 : Int32)), .val (.int av), .val (.ref ca), .unset, .unset, .unset, .unset] [(.int (48 : Int32)), (.int b1), (.int (1 : Int32)), (.ref ca)])) tgt
      refine XS.iadd X72.here hx rfl (hb hby at_50) rfl ?_
      show Steps p.tables e below (T72.setTop (mkF m 51 #[.val (.int b0), .val (.int b1), .val (.int b2), .val (.int b3), .val (.int sp), .val (.int (4 : Int32)), .val (.int av), .val (.ref ca), .unset, .unset, .unset, .unset] [(.int (b1 + (48 : Int32))), (.int (1 : Int32)), (.ref ca)])) tgt
      refine XS.i2b X72.here hx rfl (hb hby at_51) rfl ?_
      exact k
    obtain ⟨T73, h73, X73, e73, W73, A_ca_73, st73⟩ := own_bastore X72 hx hZ e72 A_ca_72 (j := (1 : Int32)) (k := 1) rfl (by decide) (g := (mkF m 52 #[.val (.int b0), .val (.int b1), .val (.int b2), .val (.int b3), .val (.int sp), .val (.int (4 : Int32)), .val (.int av), .val (.ref ca), .unset, .unset, .unset, .unset] [(.int ((b1 + (48 : Int32)).toInt8.toInt32)), (.int (1 : Int32)), (.ref ca)])) rfl rfl (hb hby at_52)
    have N73 := Fr.snoc X73 N72 g_ca
    have Zs73 : n0 ≤ h73.size := Nat.le_trans Zs72 (Keep.of_wr W73).1
    refine own_st st73 ?_
    show own_Go p e below _ (T73.setTop (mkF m 53 #[.val (.int b0), .val (.int b1), .val (.int b2), .val (.int b3), .val (.int sp), .val (.int (4 : Int32)), .val (.int av), .val (.ref ca), .unset, .unset, .unset, .unset] []))
    refine own_st (V := T73.setTop (mkF m 67 #[.val (.int b0), .val (.int b1), .val (.int b2), .val (.int b3), .val (.int sp), .val (.int (4 : Int32)), .val (.int av), .val (.ref ca), .unset, .unset, .unset, .unset] [(.int ((b2 + (48 : Int32)).toInt8.toInt32)), (.int (2 : Int32)), (.ref ca)])) (fun tgt k => ?_) ?_
    · show Steps p.tables e below (T73.setTop (mkF m 53 #[.val (.int b0), .val (.int b1), .val (.int b2), .val (.int b3), .val (.int sp), .val (.int (4 : Int32)), .val (.int av), .val (.ref ca), .unset, .unset, .unset, .unset] [])) tgt
      refine XS.iload X73.here hx rfl (hb hby at_53) rfl ?_
      show Steps p.tables e below (T73.setTop (mkF m 55 #[.val (.int b0), .val (.int b1), .val (.int b2), .val (.int b3), .val (.int sp), .val (.int (4 : Int32)), .val (.int av), .val (.ref ca), .unset, .unset, .unset, .unset] [(.int (4 : Int32))])) tgt
      refine XS.iconst X73.here hx rfl (hb hby at_55) ?_
      show Steps p.tables e below (T73.setTop (mkF m 56 #[.val (.int b0), .val (.int b1), .val (.int b2), .val (.int b3), .val (.int sp), .val (.int (4 : Int32)), .val (.int av), .val (.ref ca), .unset, .unset, .unset, .unset] [(.int (2 : Int32)), (.int (4 : Int32))])) tgt
      refine XS.icmpNo X73.here hx rfl (hb hby at_56) rfl (tlt (by decide : (2 : Int32) < (4 : Int32))).2.2.2 ?_
      show Steps p.tables e below (T73.setTop (mkF m 59 #[.val (.int b0), .val (.int b1), .val (.int b2), .val (.int b3), .val (.int sp), .val (.int (4 : Int32)), .val (.int av), .val (.ref ca), .unset, .unset, .unset, .unset] [])) tgt
      refine XS.aload X73.here hx rfl (hb hby at_59) rfl rfl ?_
      show Steps p.tables e below (T73.setTop (mkF m 61 #[.val (.int b0), .val (.int b1), .val (.int b2), .val (.int b3), .val (.int sp), .val (.int (4 : Int32)), .val (.int av), .val (.ref ca), .unset, .unset, .unset, .unset] [(.ref ca)])) tgt
      refine XS.iconst X73.here hx rfl (hb hby at_61) ?_
      show Steps p.tables e below (T73.setTop (mkF m 62 #[.val (.int b0), .val (.int b1), .val (.int b2), .val (.int b3), .val (.int sp), .val (.int (4 : Int32)), .val (.int av), .val (.ref ca), .unset, .unset, .unset, .unset] [(.int (2 : Int32)), (.ref ca)])) tgt
      refine XS.iloadN X73.here hx rfl (hb hby at_62) rfl ?_
      show Steps p.tables e below (T73.setTop (mkF m 63 #[.val (.int b0), .val (.int b1), .val (.int b2), .val (.int b3), .val (.int sp), .val (.int (4 : Int32)), .val (.int av), .val (.ref ca), .unset, .unset, .unset, .unset] [(.int b2), (.int (2 : Int32)), (.ref ca)])) tgt
      refine XS.bipush X73.here hx rfl (hb hby at_63) ?_
      show Steps p.tables e below (T73.setTop (mkF m 65 #[.val (.int b0), .val (.int b1), .val (.int b2), .val (.int b3), .val (.int sp), .val (.int (4 : Int32)), .val (.int av), .val (.ref ca), .unset, .unset, .unset, .unset] [(.int (48 : Int32)), (.int b2), (.int (2 : Int32)), (.ref ca)])) tgt
      refine XS.iadd X73.here hx rfl (hb hby at_65) rfl ?_
      show Steps p.tables e below (T73.setTop (mkF m 66 #[.val (.int b0), .val (.int b1), .val (.int b2), .val (.int b3), .val (.int sp), .val (.int (4 : Int32)), .val (.int av), .val (.ref ca), .unset, .unset, .unset, .unset] [(.int (b2 + (48 : Int32))), (.int (2 : Int32)), (.ref ca)])) tgt
      refine XS.i2b X73.here hx rfl (hb hby at_66) rfl ?_
      exact k
    obtain ⟨T74, h74, X74, e74, W74, A_ca_74, st74⟩ := own_bastore X73 hx hZ e73 A_ca_73 (j := (2 : Int32)) (k := 2) rfl (by decide) (g := (mkF m 67 #[.val (.int b0), .val (.int b1), .val (.int b2), .val (.int b3), .val (.int sp), .val (.int (4 : Int32)), .val (.int av), .val (.ref ca), .unset, .unset, .unset, .unset] [(.int ((b2 + (48 : Int32)).toInt8.toInt32)), (.int (2 : Int32)), (.ref ca)])) rfl rfl (hb hby at_67)
    have N74 := Fr.snoc X74 N73 g_ca
    have Zs74 : n0 ≤ h74.size := Nat.le_trans Zs73 (Keep.of_wr W74).1
    refine own_st st74 ?_
    show own_Go p e below _ (T74.setTop (mkF m 68 #[.val (.int b0), .val (.int b1), .val (.int b2), .val (.int b3), .val (.int sp), .val (.int (4 : Int32)), .val (.int av), .val (.ref ca), .unset, .unset, .unset, .unset] []))
    refine own_st (V := T74.setTop (mkF m 82 #[.val (.int b0), .val (.int b1), .val (.int b2), .val (.int b3), .val (.int sp), .val (.int (4 : Int32)), .val (.int av), .val (.ref ca), .unset, .unset, .unset, .unset] [(.int ((b3 + (48 : Int32)).toInt8.toInt32)), (.int (3 : Int32)), (.ref ca)])) (fun tgt k => ?_) ?_
    · show Steps p.tables e below (T74.setTop (mkF m 68 #[.val (.int b0), .val (.int b1), .val (.int b2), .val (.int b3), .val (.int sp), .val (.int (4 : Int32)), .val (.int av), .val (.ref ca), .unset, .unset, .unset, .unset] [])) tgt
      refine XS.iload X74.here hx rfl (hb hby at_68) rfl ?_
      show Steps p.tables e below (T74.setTop (mkF m 70 #[.val (.int b0), .val (.int b1), .val (.int b2), .val (.int b3), .val (.int sp), .val (.int (4 : Int32)), .val (.int av), .val (.ref ca), .unset, .unset, .unset, .unset] [(.int (4 : Int32))])) tgt
      refine XS.iconst X74.here hx rfl (hb hby at_70) ?_
      show Steps p.tables e below (T74.setTop (mkF m 71 #[.val (.int b0), .val (.int b1), .val (.int b2), .val (.int b3), .val (.int sp), .val (.int (4 : Int32)), .val (.int av), .val (.ref ca), .unset, .unset, .unset, .unset] [(.int (3 : Int32)), (.int (4 : Int32))])) tgt
      refine XS.icmpNo X74.here hx rfl (hb hby at_71) rfl (tlt (by decide : (3 : Int32) < (4 : Int32))).2.2.2 ?_
      show Steps p.tables e below (T74.setTop (mkF m 74 #[.val (.int b0), .val (.int b1), .val (.int b2), .val (.int b3), .val (.int sp), .val (.int (4 : Int32)), .val (.int av), .val (.ref ca), .unset, .unset, .unset, .unset] [])) tgt
      refine XS.aload X74.here hx rfl (hb hby at_74) rfl rfl ?_
      show Steps p.tables e below (T74.setTop (mkF m 76 #[.val (.int b0), .val (.int b1), .val (.int b2), .val (.int b3), .val (.int sp), .val (.int (4 : Int32)), .val (.int av), .val (.ref ca), .unset, .unset, .unset, .unset] [(.ref ca)])) tgt
      refine XS.iconst X74.here hx rfl (hb hby at_76) ?_
      show Steps p.tables e below (T74.setTop (mkF m 77 #[.val (.int b0), .val (.int b1), .val (.int b2), .val (.int b3), .val (.int sp), .val (.int (4 : Int32)), .val (.int av), .val (.ref ca), .unset, .unset, .unset, .unset] [(.int (3 : Int32)), (.ref ca)])) tgt
      refine XS.iloadN X74.here hx rfl (hb hby at_77) rfl ?_
      show Steps p.tables e below (T74.setTop (mkF m 78 #[.val (.int b0), .val (.int b1), .val (.int b2), .val (.int b3), .val (.int sp), .val (.int (4 : Int32)), .val (.int av), .val (.ref ca), .unset, .unset, .unset, .unset] [(.int b3), (.int (3 : Int32)), (.ref ca)])) tgt
      refine XS.bipush X74.here hx rfl (hb hby at_78) ?_
      show Steps p.tables e below (T74.setTop (mkF m 80 #[.val (.int b0), .val (.int b1), .val (.int b2), .val (.int b3), .val (.int sp), .val (.int (4 : Int32)), .val (.int av), .val (.ref ca), .unset, .unset, .unset, .unset] [(.int (48 : Int32)), (.int b3), (.int (3 : Int32)), (.ref ca)])) tgt
      refine XS.iadd X74.here hx rfl (hb hby at_80) rfl ?_
      show Steps p.tables e below (T74.setTop (mkF m 81 #[.val (.int b0), .val (.int b1), .val (.int b2), .val (.int b3), .val (.int sp), .val (.int (4 : Int32)), .val (.int av), .val (.ref ca), .unset, .unset, .unset, .unset] [(.int (b3 + (48 : Int32))), (.int (3 : Int32)), (.ref ca)])) tgt
      refine XS.i2b X74.here hx rfl (hb hby at_81) rfl ?_
      exact k
    obtain ⟨T75, h75, X75, e75, W75, A_ca_75, st75⟩ := own_bastore X74 hx hZ e74 A_ca_74 (j := (3 : Int32)) (k := 3) rfl (by decide) (g := (mkF m 82 #[.val (.int b0), .val (.int b1), .val (.int b2), .val (.int b3), .val (.int sp), .val (.int (4 : Int32)), .val (.int av), .val (.ref ca), .unset, .unset, .unset, .unset] [(.int ((b3 + (48 : Int32)).toInt8.toInt32)), (.int (3 : Int32)), (.ref ca)])) rfl rfl (hb hby at_82)
    have N75 := Fr.snoc X75 N74 g_ca
    have Zs75 : n0 ≤ h75.size := Nat.le_trans Zs74 (Keep.of_wr W75).1
    refine own_st st75 ?_
    show own_Go p e below _ (T75.setTop (mkF m 83 #[.val (.int b0), .val (.int b1), .val (.int b2), .val (.int b3), .val (.int sp), .val (.int (4 : Int32)), .val (.int av), .val (.ref ca), .unset, .unset, .unset, .unset] []))
    refine own_st (V := T75.setTop (mkF m 87 #[.val (.int b0), .val (.int b1), .val (.int b2), .val (.int b3), .val (.int sp), .val (.int (4 : Int32)), .val (.int av), .val (.ref ca), .unset, .unset, .unset, .unset] [(.int av), (.ref ca)])) (fun tgt k => ?_) ?_
    · show Steps p.tables e below (T75.setTop (mkF m 83 #[.val (.int b0), .val (.int b1), .val (.int b2), .val (.int b3), .val (.int sp), .val (.int (4 : Int32)), .val (.int av), .val (.ref ca), .unset, .unset, .unset, .unset] [])) tgt
      refine XS.aload X75.here hx rfl (hb hby at_83) rfl rfl ?_
      show Steps p.tables e below (T75.setTop (mkF m 85 #[.val (.int b0), .val (.int b1), .val (.int b2), .val (.int b3), .val (.int sp), .val (.int (4 : Int32)), .val (.int av), .val (.ref ca), .unset, .unset, .unset, .unset] [(.ref ca)])) tgt
      refine XS.iload X75.here hx rfl (hb hby at_85) rfl ?_
      exact k
    obtain ⟨rr, R1, R2, R3⟩ := own_ex (own_up (own_up (own_up (own_up (fun _ => 0) 0 ((b0 + (48 : Int32)).toInt8.toInt32).toInt8.toInt32) 1 ((b1 + (48 : Int32)).toInt8.toInt32).toInt8.toInt32) 2 ((b2 + (48 : Int32)).toInt8.toInt32).toInt8.toInt32) 3 ((b3 + (48 : Int32)).toInt8.toInt32).toInt8.toInt32) 4 (by decide) 4 av hav0 (by omega)
    obtain ⟨_, _, ⟨T76, L76, k76, n76⟩, -, X76, ⟨Lc76, hQ76, l76, y76, z76⟩, st76⟩ := Jvm.LawKit.callS X75 hx (y := (⟨"com/example/tidewatch/tidewatch/io/Decimal", "skipDigits", "([BI)I"⟩ : MethodName)) hown (mvT hZ (hw _ (List.mem_of_getElem? (i := 1) rfl))) (mvT hZ (hw _ (List.mem_of_getElem? (i := 2) rfl))) (mvT hZ (hw _ (List.mem_of_getElem? (i := 3) rfl))) (mvT hZ (hw _ (List.mem_of_getElem? (i := 4) rfl))) (by decide) (backOf (W := 0) (rm1 l Z a0 hw [] ca av (4 : Int32) 4 (own_up (own_up (own_up (own_up (fun _ => 0) 0 ((b0 + (48 : Int32)).toInt8.toInt32).toInt8.toInt32) 1 ((b1 + (48 : Int32)).toInt8.toInt32).toInt8.toInt32) 2 ((b2 + (48 : Int32)).toInt8.toInt32).toInt8.toInt32) 3 ((b3 + (48 : Int32)).toInt8.toInt32).toInt8.toInt32) rr h75 n0 Zs75 A_ca_75 (by decide) (by decide) hav0 R1 R2 R3) hZ (hw _ (List.mem_of_getElem? (i := 4) rfl)) (hw _ (List.mem_of_getElem? (i := 3) rfl)) (by decide) (by decide)) (g := (mkF m 87 #[.val (.int b0), .val (.int b1), .val (.int b2), .val (.int b3), .val (.int sp), .val (.int (4 : Int32)), .val (.int av), .val (.ref ca), .unset, .unset, .unset, .unset] [(.int av), (.ref ca)])) rfl (by rw [hml]; rfl) (argsL := [(.ref ca), (.int av)]) (rest := []) (lenOf pd_0_0 rfl) rfl (by show 2 * 0 + _ ≤ _; exact Nat.le_of_eq rfl) (hb hby at_87) (fun _ _ => ⟨rfl, e75, (by decide : 1 + 0 ≤ _), (by decide : 4 + 0 ≤ _)⟩)
    dsimp only [Pt.U, Pt.locs, Pt.cells, Pt.slots] at X76 l76 y76 z76 st76 hQ76
    subst l76 y76 z76
    obtain ⟨rfl, N76q, K76⟩ := hQ76
    have N76 := Fr.app N75 N76q
    refine own_st st76 ?_
    show own_Go p e below _ (T76.setTop (mkF m 90 #[.val (.int b0), .val (.int b1), .val (.int b2), .val (.int b3), .val (.int sp), .val (.int (4 : Int32)), .val (.int av), .val (.ref ca), .unset, .unset, .unset, .unset] [(.int rr)]))
    refine own_st (V := T76.setTop (mkF m 96 #[.val (.int b0), .val (.int b1), .val (.int b2), .val (.int b3), .val (.int sp), .val (.int (4 : Int32)), .val (.int av), .val (.ref ca), .val (.int rr), .unset, .unset, .unset] [(.int (4 : Int32)), (.int av)])) (fun tgt k => ?_) ?_
    · show Steps p.tables e below (T76.setTop (mkF m 90 #[.val (.int b0), .val (.int b1), .val (.int b2), .val (.int b3), .val (.int sp), .val (.int (4 : Int32)), .val (.int av), .val (.ref ca), .unset, .unset, .unset, .unset] [(.int rr)])) tgt
      refine XS.istore X76.here hx rfl (hb hby at_90) rfl (l' := #[.val (.int b0), .val (.int b1), .val (.int b2), .val (.int b3), .val (.int sp), .val (.int (4 : Int32)), .val (.int av), .val (.ref ca), .val (.int rr), .unset, .unset, .unset]) rfl ?_
      show Steps p.tables e below (T76.setTop (mkF m 92 #[.val (.int b0), .val (.int b1), .val (.int b2), .val (.int b3), .val (.int sp), .val (.int (4 : Int32)), .val (.int av), .val (.ref ca), .val (.int rr), .unset, .unset, .unset] [])) tgt
      refine XS.iload X76.here hx rfl (hb hby at_92) rfl ?_
      show Steps p.tables e below (T76.setTop (mkF m 94 #[.val (.int b0), .val (.int b1), .val (.int b2), .val (.int b3), .val (.int sp), .val (.int (4 : Int32)), .val (.int av), .val (.ref ca), .val (.int rr), .unset, .unset, .unset] [(.int av)])) tgt
      refine XS.iload X76.here hx rfl (hb hby at_94) rfl ?_
      exact k
    by_cases hc96 : av < (4 : Int32)
    · skip
      refine own_st (V := T76.setTop (mkF m 149 #[.val (.int b0), .val (.int b1), .val (.int b2), .val (.int b3), .val (.int sp), .val (.int (4 : Int32)), .val (.int av), .val (.ref ca), .val (.int rr), .val (.int (1 : Int32)), .unset, .unset] [(.int (0 : Int32)), (.int rr), (.int av), (.ref ca)])) (fun tgt k => ?_) ?_
      · show Steps p.tables e below (T76.setTop (mkF m 96 #[.val (.int b0), .val (.int b1), .val (.int b2), .val (.int b3), .val (.int sp), .val (.int (4 : Int32)), .val (.int av), .val (.ref ca), .val (.int rr), .unset, .unset, .unset] [(.int (4 : Int32)), (.int av)])) tgt
        refine XS.icmpYes X76.here hx rfl (pc0 := 96) (pc' := 114) rfl (hb hby at_96) rfl (tlt hc96).1 (by decide) (by decide) ?_
        show Steps p.tables e below (T76.setTop (mkF m 114 #[.val (.int b0), .val (.int b1), .val (.int b2), .val (.int b3), .val (.int sp), .val (.int (4 : Int32)), .val (.int av), .val (.ref ca), .val (.int rr), .unset, .unset, .unset] [])) tgt
        refine XS.iload X76.here hx rfl (hb hby at_114) rfl ?_
        show Steps p.tables e below (T76.setTop (mkF m 116 #[.val (.int b0), .val (.int b1), .val (.int b2), .val (.int b3), .val (.int sp), .val (.int (4 : Int32)), .val (.int av), .val (.ref ca), .val (.int rr), .unset, .unset, .unset] [(.int rr)])) tgt
        refine XS.iload X76.here hx rfl (hb hby at_116) rfl ?_
        show Steps p.tables e below (T76.setTop (mkF m 118 #[.val (.int b0), .val (.int b1), .val (.int b2), .val (.int b3), .val (.int sp), .val (.int (4 : Int32)), .val (.int av), .val (.ref ca), .val (.int rr), .unset, .unset, .unset] [(.int av), (.int rr)])) tgt
        refine XS.icmpNo X76.here hx rfl (hb hby at_118) rfl (flt (own_nlt R1)).1 ?_
        show Steps p.tables e below (T76.setTop (mkF m 121 #[.val (.int b0), .val (.int b1), .val (.int b2), .val (.int b3), .val (.int sp), .val (.int (4 : Int32)), .val (.int av), .val (.ref ca), .val (.int rr), .unset, .unset, .unset] [])) tgt
        refine XS.iload X76.here hx rfl (hb hby at_121) rfl ?_
        show Steps p.tables e below (T76.setTop (mkF m 123 #[.val (.int b0), .val (.int b1), .val (.int b2), .val (.int b3), .val (.int sp), .val (.int (4 : Int32)), .val (.int av), .val (.ref ca), .val (.int rr), .unset, .unset, .unset] [(.int rr)])) tgt
        refine XS.iload X76.here hx rfl (hb hby at_123) rfl ?_
        show Steps p.tables e below (T76.setTop (mkF m 125 #[.val (.int b0), .val (.int b1), .val (.int b2), .val (.int b3), .val (.int sp), .val (.int (4 : Int32)), .val (.int av), .val (.ref ca), .val (.int rr), .unset, .unset, .unset] [(.int (4 : Int32)), (.int rr)])) tgt
        refine XS.icmpNo X76.here hx rfl (hb hby at_125) rfl (flt (own_le R2 hav0 (by decide) hc96)).2.2.1 ?_
        show Steps p.tables e below (T76.setTop (mkF m 128 #[.val (.int b0), .val (.int b1), .val (.int b2), .val (.int b3), .val (.int sp), .val (.int (4 : Int32)), .val (.int av), .val (.ref ca), .val (.int rr), .unset, .unset, .unset] [])) tgt
        refine XS.iconst X76.here hx rfl (hb hby at_128) ?_
        show Steps p.tables e below (T76.setTop (mkF m 129 #[.val (.int b0), .val (.int b1), .val (.int b2), .val (.int b3), .val (.int sp), .val (.int (4 : Int32)), .val (.int av), .val (.ref ca), .val (.int rr), .unset, .unset, .unset] [(.int (1 : Int32))])) tgt
        refine XS.goto X76.here hx rfl (pc0 := 129) (pc' := 133) rfl (hb hby at_129) (by decide) (by decide) ?_
        show Steps p.tables e below (T76.setTop (mkF m 133 #[.val (.int b0), .val (.int b1), .val (.int b2), .val (.int b3), .val (.int sp), .val (.int (4 : Int32)), .val (.int av), .val (.ref ca), .val (.int rr), .unset, .unset, .unset] [(.int (1 : Int32))])) tgt
        refine XS.istore X76.here hx rfl (hb hby at_133) rfl (l' := #[.val (.int b0), .val (.int b1), .val (.int b2), .val (.int b3), .val (.int sp), .val (.int (4 : Int32)), .val (.int av), .val (.ref ca), .val (.int rr), .val (.int (1 : Int32)), .unset, .unset]) rfl ?_
        show Steps p.tables e below (T76.setTop (mkF m 135 #[.val (.int b0), .val (.int b1), .val (.int b2), .val (.int b3), .val (.int sp), .val (.int (4 : Int32)), .val (.int av), .val (.ref ca), .val (.int rr), .val (.int (1 : Int32)), .unset, .unset] [])) tgt
        refine XS.iload X76.here hx rfl (hb hby at_135) rfl ?_
        show Steps p.tables e below (T76.setTop (mkF m 137 #[.val (.int b0), .val (.int b1), .val (.int b2), .val (.int b3), .val (.int sp), .val (.int (4 : Int32)), .val (.int av), .val (.ref ca), .val (.int rr), .val (.int (1 : Int32)), .unset, .unset] [(.int (1 : Int32))])) tgt
        refine XS.ifYes X76.here hx rfl (pc0 := 137) (pc' := 142) rfl (hb hby at_137) rfl ((if0 _ _).trans (feq (by decide : ¬ ((1 : Int32) = (0 : Int32)))).2) (by decide) (by decide) ?_
        show Steps p.tables e below (T76.setTop (mkF m 142 #[.val (.int b0), .val (.int b1), .val (.int b2), .val (.int b3), .val (.int sp), .val (.int (4 : Int32)), .val (.int av), .val (.ref ca), .val (.int rr), .val (.int (1 : Int32)), .unset, .unset] [])) tgt
        refine XS.aload X76.here hx rfl (hb hby at_142) rfl rfl ?_
        show Steps p.tables e below (T76.setTop (mkF m 144 #[.val (.int b0), .val (.int b1), .val (.int b2), .val (.int b3), .val (.int sp), .val (.int (4 : Int32)), .val (.int av), .val (.ref ca), .val (.int rr), .val (.int (1 : Int32)), .unset, .unset] [(.ref ca)])) tgt
        refine XS.iload X76.here hx rfl (hb hby at_144) rfl ?_
        show Steps p.tables e below (T76.setTop (mkF m 146 #[.val (.int b0), .val (.int b1), .val (.int b2), .val (.int b3), .val (.int sp), .val (.int (4 : Int32)), .val (.int av), .val (.ref ca), .val (.int rr), .val (.int (1 : Int32)), .unset, .unset] [(.int av), (.ref ca)])) tgt
        refine XS.iload X76.here hx rfl (hb hby at_146) rfl ?_
        show Steps p.tables e below (T76.setTop (mkF m 148 #[.val (.int b0), .val (.int b1), .val (.int b2), .val (.int b3), .val (.int sp), .val (.int (4 : Int32)), .val (.int av), .val (.ref ca), .val (.int rr), .val (.int (1 : Int32)), .unset, .unset] [(.int rr), (.int av), (.ref ca)])) tgt
        refine XS.iconst X76.here hx rfl (hb hby at_148) ?_
        exact k
      obtain ⟨_, _, ⟨T77, L77, k77, n77⟩, -, X77, ⟨Lc77, hQ77, l77, y77, z77⟩, st77⟩ := Jvm.LawKit.callS X76 hx (y := (⟨"com/example/tidewatch/tidewatch/io/DecimalSkipDigitsPinLaw", "digitOrOutside", "([BIII)Z"⟩ : MethodName)) hown (mvT hZ (hw _ (List.mem_of_getElem? (i := 5) rfl))) (mvT hZ (hw _ (List.mem_of_getElem? (i := 6) rfl))) (mvT hZ (hw _ (List.mem_of_getElem? (i := 7) rfl))) (mvT hZ (hw _ (List.mem_of_getElem? (i := 8) rfl))) (by decide) (backOf (W := 0) (rm2 l Z a0 hw [] ca av rr (0 : Int32) 4 (own_up (own_up (own_up (own_up (fun _ => 0) 0 ((b0 + (48 : Int32)).toInt8.toInt32).toInt8.toInt32) 1 ((b1 + (48 : Int32)).toInt8.toInt32).toInt8.toInt32) 2 ((b2 + (48 : Int32)).toInt8.toInt32).toInt8.toInt32) 3 ((b3 + (48 : Int32)).toInt8.toInt32).toInt8.toInt32) 0 h75 n0 Zs75 A_ca_75 (by decide) (own_i2 R2 (by decide))) hZ (hw _ (List.mem_of_getElem? (i := 8) rfl)) (hw _ (List.mem_of_getElem? (i := 7) rfl)) (by decide) (by decide)) (g := (mkF m 149 #[.val (.int b0), .val (.int b1), .val (.int b2), .val (.int b3), .val (.int sp), .val (.int (4 : Int32)), .val (.int av), .val (.ref ca), .val (.int rr), .val (.int (1 : Int32)), .unset, .unset] [(.int (0 : Int32)), (.int rr), (.int av), (.ref ca)])) rfl (by rw [hml]; rfl) (argsL := [(.ref ca), (.int av), (.int rr), (.int (0 : Int32))]) (rest := []) (lenOf pd_0_1 rfl) rfl (by show 2 * 0 + _ ≤ _; exact Nat.le_of_eq rfl) (hb hby at_149) (fun _ _ => ⟨rfl, K76, (by decide : 1 + 0 ≤ _), (by decide : 4 + 0 ≤ _)⟩)
      dsimp only [Pt.U, Pt.locs, Pt.cells, Pt.slots] at X77 l77 y77 z77 st77 hQ77
      subst l77 y77 z77
      obtain ⟨rfl, N77q, K77⟩ := hQ77
      have N77 := Fr.app N76 N77q
      refine own_st st77 ?_
      show own_Go p e below _ (T77.setTop (mkF m 152 #[.val (.int b0), .val (.int b1), .val (.int b2), .val (.int b3), .val (.int sp), .val (.int (4 : Int32)), .val (.int av), .val (.ref ca), .val (.int rr), .val (.int (1 : Int32)), .unset, .unset] [(.int (own_doo (own_up (own_up (own_up (own_up (fun _ => 0) 0 ((b0 + (48 : Int32)).toInt8.toInt32).toInt8.toInt32) 1 ((b1 + (48 : Int32)).toInt8.toInt32).toInt8.toInt32) 2 ((b2 + (48 : Int32)).toInt8.toInt32).toInt8.toInt32) 3 ((b3 + (48 : Int32)).toInt8.toInt32).toInt8.toInt32) av rr (0 : Int32) 0))]))
      refine own_st (V := T77.setTop (mkF m 162 #[.val (.int b0), .val (.int b1), .val (.int b2), .val (.int b3), .val (.int sp), .val (.int (4 : Int32)), .val (.int av), .val (.ref ca), .val (.int rr), .val (.int (1 : Int32)), .unset, .unset] [(.int (1 : Int32)), (.int rr), (.int av), (.ref ca)])) (fun tgt k => ?_) ?_
      · show Steps p.tables e below (T77.setTop (mkF m 152 #[.val (.int b0), .val (.int b1), .val (.int b2), .val (.int b3), .val (.int sp), .val (.int (4 : Int32)), .val (.int av), .val (.ref ca), .val (.int rr), .val (.int (1 : Int32)), .unset, .unset] [(.int (own_doo (own_up (own_up (own_up (own_up (fun _ => 0) 0 ((b0 + (48 : Int32)).toInt8.toInt32).toInt8.toInt32) 1 ((b1 + (48 : Int32)).toInt8.toInt32).toInt8.toInt32) 2 ((b2 + (48 : Int32)).toInt8.toInt32).toInt8.toInt32) 3 ((b3 + (48 : Int32)).toInt8.toInt32).toInt8.toInt32) av rr (0 : Int32) 0))])) tgt
        refine XS.ifNo X77.here hx rfl (hb hby at_152) rfl ((if0 _ _).trans (feq (own_doo1 R2 (by decide))).1) ?_
        show Steps p.tables e below (T77.setTop (mkF m 155 #[.val (.int b0), .val (.int b1), .val (.int b2), .val (.int b3), .val (.int sp), .val (.int (4 : Int32)), .val (.int av), .val (.ref ca), .val (.int rr), .val (.int (1 : Int32)), .unset, .unset] [])) tgt
        refine XS.aload X77.here hx rfl (hb hby at_155) rfl rfl ?_
        show Steps p.tables e below (T77.setTop (mkF m 157 #[.val (.int b0), .val (.int b1), .val (.int b2), .val (.int b3), .val (.int sp), .val (.int (4 : Int32)), .val (.int av), .val (.ref ca), .val (.int rr), .val (.int (1 : Int32)), .unset, .unset] [(.ref ca)])) tgt
        refine XS.iload X77.here hx rfl (hb hby at_157) rfl ?_
        show Steps p.tables e below (T77.setTop (mkF m 159 #[.val (.int b0), .val (.int b1), .val (.int b2), .val (.int b3), .val (.int sp), .val (.int (4 : Int32)), .val (.int av), .val (.ref ca), .val (.int rr), .val (.int (1 : Int32)), .unset, .unset] [(.int av), (.ref ca)])) tgt
        refine XS.iload X77.here hx rfl (hb hby at_159) rfl ?_
        show Steps p.tables e below (T77.setTop (mkF m 161 #[.val (.int b0), .val (.int b1), .val (.int b2), .val (.int b3), .val (.int sp), .val (.int (4 : Int32)), .val (.int av), .val (.ref ca), .val (.int rr), .val (.int (1 : Int32)), .unset, .unset] [(.int rr), (.int av), (.ref ca)])) tgt
        refine XS.iconst X77.here hx rfl (hb hby at_161) ?_
        exact k
      obtain ⟨_, _, ⟨T78, L78, k78, n78⟩, -, X78, ⟨Lc78, hQ78, l78, y78, z78⟩, st78⟩ := Jvm.LawKit.callS X77 hx (y := (⟨"com/example/tidewatch/tidewatch/io/DecimalSkipDigitsPinLaw", "digitOrOutside", "([BIII)Z"⟩ : MethodName)) hown (mvT hZ (hw _ (List.mem_of_getElem? (i := 5) rfl))) (mvT hZ (hw _ (List.mem_of_getElem? (i := 6) rfl))) (mvT hZ (hw _ (List.mem_of_getElem? (i := 7) rfl))) (mvT hZ (hw _ (List.mem_of_getElem? (i := 8) rfl))) (by decide) (backOf (W := 0) (rm2 l Z a0 hw [] ca av rr (1 : Int32) 4 (own_up (own_up (own_up (own_up (fun _ => 0) 0 ((b0 + (48 : Int32)).toInt8.toInt32).toInt8.toInt32) 1 ((b1 + (48 : Int32)).toInt8.toInt32).toInt8.toInt32) 2 ((b2 + (48 : Int32)).toInt8.toInt32).toInt8.toInt32) 3 ((b3 + (48 : Int32)).toInt8.toInt32).toInt8.toInt32) 1 h75 n0 Zs75 A_ca_75 (by decide) (own_i2 R2 (by decide))) hZ (hw _ (List.mem_of_getElem? (i := 8) rfl)) (hw _ (List.mem_of_getElem? (i := 7) rfl)) (by decide) (by decide)) (g := (mkF m 162 #[.val (.int b0), .val (.int b1), .val (.int b2), .val (.int b3), .val (.int sp), .val (.int (4 : Int32)), .val (.int av), .val (.ref ca), .val (.int rr), .val (.int (1 : Int32)), .unset, .unset] [(.int (1 : Int32)), (.int rr), (.int av), (.ref ca)])) rfl (by rw [hml]; rfl) (argsL := [(.ref ca), (.int av), (.int rr), (.int (1 : Int32))]) (rest := []) (lenOf pd_0_1 rfl) rfl (by show 2 * 0 + _ ≤ _; exact Nat.le_of_eq rfl) (hb hby at_162) (fun _ _ => ⟨rfl, K77, (by decide : 1 + 0 ≤ _), (by decide : 4 + 0 ≤ _)⟩)
      dsimp only [Pt.U, Pt.locs, Pt.cells, Pt.slots] at X78 l78 y78 z78 st78 hQ78
      subst l78 y78 z78
      obtain ⟨rfl, N78q, K78⟩ := hQ78
      have N78 := Fr.app N77 N78q
      refine own_st st78 ?_
      show own_Go p e below _ (T78.setTop (mkF m 165 #[.val (.int b0), .val (.int b1), .val (.int b2), .val (.int b3), .val (.int sp), .val (.int (4 : Int32)), .val (.int av), .val (.ref ca), .val (.int rr), .val (.int (1 : Int32)), .unset, .unset] [(.int (own_doo (own_up (own_up (own_up (own_up (fun _ => 0) 0 ((b0 + (48 : Int32)).toInt8.toInt32).toInt8.toInt32) 1 ((b1 + (48 : Int32)).toInt8.toInt32).toInt8.toInt32) 2 ((b2 + (48 : Int32)).toInt8.toInt32).toInt8.toInt32) 3 ((b3 + (48 : Int32)).toInt8.toInt32).toInt8.toInt32) av rr (1 : Int32) 1))]))
      refine own_st (V := T78.setTop (mkF m 175 #[.val (.int b0), .val (.int b1), .val (.int b2), .val (.int b3), .val (.int sp), .val (.int (4 : Int32)), .val (.int av), .val (.ref ca), .val (.int rr), .val (.int (1 : Int32)), .unset, .unset] [(.int (2 : Int32)), (.int rr), (.int av), (.ref ca)])) (fun tgt k => ?_) ?_
      · show Steps p.tables e below (T78.setTop (mkF m 165 #[.val (.int b0), .val (.int b1), .val (.int b2), .val (.int b3), .val (.int sp), .val (.int (4 : Int32)), .val (.int av), .val (.ref ca), .val (.int rr), .val (.int (1 : Int32)), .unset, .unset] [(.int (own_doo (own_up (own_up (own_up (own_up (fun _ => 0) 0 ((b0 + (48 : Int32)).toInt8.toInt32).toInt8.toInt32) 1 ((b1 + (48 : Int32)).toInt8.toInt32).toInt8.toInt32) 2 ((b2 + (48 : Int32)).toInt8.toInt32).toInt8.toInt32) 3 ((b3 + (48 : Int32)).toInt8.toInt32).toInt8.toInt32) av rr (1 : Int32) 1))])) tgt
        refine XS.ifNo X78.here hx rfl (hb hby at_165) rfl ((if0 _ _).trans (feq (own_doo1 R2 (by decide))).1) ?_
        show Steps p.tables e below (T78.setTop (mkF m 168 #[.val (.int b0), .val (.int b1), .val (.int b2), .val (.int b3), .val (.int sp), .val (.int (4 : Int32)), .val (.int av), .val (.ref ca), .val (.int rr), .val (.int (1 : Int32)), .unset, .unset] [])) tgt
        refine XS.aload X78.here hx rfl (hb hby at_168) rfl rfl ?_
        show Steps p.tables e below (T78.setTop (mkF m 170 #[.val (.int b0), .val (.int b1), .val (.int b2), .val (.int b3), .val (.int sp), .val (.int (4 : Int32)), .val (.int av), .val (.ref ca), .val (.int rr), .val (.int (1 : Int32)), .unset, .unset] [(.ref ca)])) tgt
        refine XS.iload X78.here hx rfl (hb hby at_170) rfl ?_
        show Steps p.tables e below (T78.setTop (mkF m 172 #[.val (.int b0), .val (.int b1), .val (.int b2), .val (.int b3), .val (.int sp), .val (.int (4 : Int32)), .val (.int av), .val (.ref ca), .val (.int rr), .val (.int (1 : Int32)), .unset, .unset] [(.int av), (.ref ca)])) tgt
        refine XS.iload X78.here hx rfl (hb hby at_172) rfl ?_
        show Steps p.tables e below (T78.setTop (mkF m 174 #[.val (.int b0), .val (.int b1), .val (.int b2), .val (.int b3), .val (.int sp), .val (.int (4 : Int32)), .val (.int av), .val (.ref ca), .val (.int rr), .val (.int (1 : Int32)), .unset, .unset] [(.int rr), (.int av), (.ref ca)])) tgt
        refine XS.iconst X78.here hx rfl (hb hby at_174) ?_
        exact k
      obtain ⟨_, _, ⟨T79, L79, k79, n79⟩, -, X79, ⟨Lc79, hQ79, l79, y79, z79⟩, st79⟩ := Jvm.LawKit.callS X78 hx (y := (⟨"com/example/tidewatch/tidewatch/io/DecimalSkipDigitsPinLaw", "digitOrOutside", "([BIII)Z"⟩ : MethodName)) hown (mvT hZ (hw _ (List.mem_of_getElem? (i := 5) rfl))) (mvT hZ (hw _ (List.mem_of_getElem? (i := 6) rfl))) (mvT hZ (hw _ (List.mem_of_getElem? (i := 7) rfl))) (mvT hZ (hw _ (List.mem_of_getElem? (i := 8) rfl))) (by decide) (backOf (W := 0) (rm2 l Z a0 hw [] ca av rr (2 : Int32) 4 (own_up (own_up (own_up (own_up (fun _ => 0) 0 ((b0 + (48 : Int32)).toInt8.toInt32).toInt8.toInt32) 1 ((b1 + (48 : Int32)).toInt8.toInt32).toInt8.toInt32) 2 ((b2 + (48 : Int32)).toInt8.toInt32).toInt8.toInt32) 3 ((b3 + (48 : Int32)).toInt8.toInt32).toInt8.toInt32) 2 h75 n0 Zs75 A_ca_75 (by decide) (own_i2 R2 (by decide))) hZ (hw _ (List.mem_of_getElem? (i := 8) rfl)) (hw _ (List.mem_of_getElem? (i := 7) rfl)) (by decide) (by decide)) (g := (mkF m 175 #[.val (.int b0), .val (.int b1), .val (.int b2), .val (.int b3), .val (.int sp), .val (.int (4 : Int32)), .val (.int av), .val (.ref ca), .val (.int rr), .val (.int (1 : Int32)), .unset, .unset] [(.int (2 : Int32)), (.int rr), (.int av), (.ref ca)])) rfl (by rw [hml]; rfl) (argsL := [(.ref ca), (.int av), (.int rr), (.int (2 : Int32))]) (rest := []) (lenOf pd_0_1 rfl) rfl (by show 2 * 0 + _ ≤ _; exact Nat.le_of_eq rfl) (hb hby at_175) (fun _ _ => ⟨rfl, K78, (by decide : 1 + 0 ≤ _), (by decide : 4 + 0 ≤ _)⟩)
      dsimp only [Pt.U, Pt.locs, Pt.cells, Pt.slots] at X79 l79 y79 z79 st79 hQ79
      subst l79 y79 z79
      obtain ⟨rfl, N79q, K79⟩ := hQ79
      have N79 := Fr.app N78 N79q
      refine own_st st79 ?_
      show own_Go p e below _ (T79.setTop (mkF m 178 #[.val (.int b0), .val (.int b1), .val (.int b2), .val (.int b3), .val (.int sp), .val (.int (4 : Int32)), .val (.int av), .val (.ref ca), .val (.int rr), .val (.int (1 : Int32)), .unset, .unset] [(.int (own_doo (own_up (own_up (own_up (own_up (fun _ => 0) 0 ((b0 + (48 : Int32)).toInt8.toInt32).toInt8.toInt32) 1 ((b1 + (48 : Int32)).toInt8.toInt32).toInt8.toInt32) 2 ((b2 + (48 : Int32)).toInt8.toInt32).toInt8.toInt32) 3 ((b3 + (48 : Int32)).toInt8.toInt32).toInt8.toInt32) av rr (2 : Int32) 2))]))
      refine own_st (V := T79.setTop (mkF m 188 #[.val (.int b0), .val (.int b1), .val (.int b2), .val (.int b3), .val (.int sp), .val (.int (4 : Int32)), .val (.int av), .val (.ref ca), .val (.int rr), .val (.int (1 : Int32)), .unset, .unset] [(.int (3 : Int32)), (.int rr), (.int av), (.ref ca)])) (fun tgt k => ?_) ?_
      · show Steps p.tables e below (T79.setTop (mkF m 178 #[.val (.int b0), .val (.int b1), .val (.int b2), .val (.int b3), .val (.int sp), .val (.int (4 : Int32)), .val (.int av), .val (.ref ca), .val (.int rr), .val (.int (1 : Int32)), .unset, .unset] [(.int (own_doo (own_up (own_up (own_up (own_up (fun _ => 0) 0 ((b0 + (48 : Int32)).toInt8.toInt32).toInt8.toInt32) 1 ((b1 + (48 : Int32)).toInt8.toInt32).toInt8.toInt32) 2 ((b2 + (48 : Int32)).toInt8.toInt32).toInt8.toInt32) 3 ((b3 + (48 : Int32)).toInt8.toInt32).toInt8.toInt32) av rr (2 : Int32) 2))])) tgt
        refine XS.ifNo X79.here hx rfl (hb hby at_178) rfl ((if0 _ _).trans (feq (own_doo1 R2 (by decide))).1) ?_
        show Steps p.tables e below (T79.setTop (mkF m 181 #[.val (.int b0), .val (.int b1), .val (.int b2), .val (.int b3), .val (.int sp), .val (.int (4 : Int32)), .val (.int av), .val (.ref ca), .val (.int rr), .val (.int (1 : Int32)), .unset, .unset] [])) tgt
        refine XS.aload X79.here hx rfl (hb hby at_181) rfl rfl ?_
        show Steps p.tables e below (T79.setTop (mkF m 183 #[.val (.int b0), .val (.int b1), .val (.int b2), .val (.int b3), .val (.int sp), .val (.int (4 : Int32)), .val (.int av), .val (.ref ca), .val (.int rr), .val (.int (1 : Int32)), .unset, .unset] [(.ref ca)])) tgt
        refine XS.iload X79.here hx rfl (hb hby at_183) rfl ?_
        show Steps p.tables e below (T79.setTop (mkF m 185 #[.val (.int b0), .val (.int b1), .val (.int b2), .val (.int b3), .val (.int sp), .val (.int (4 : Int32)), .val (.int av), .val (.ref ca), .val (.int rr), .val (.int (1 : Int32)), .unset, .unset] [(.int av), (.ref ca)])) tgt
        refine XS.iload X79.here hx rfl (hb hby at_185) rfl ?_
        show Steps p.tables e below (T79.setTop (mkF m 187 #[.val (.int b0), .val (.int b1), .val (.int b2), .val (.int b3), .val (.int sp), .val (.int (4 : Int32)), .val (.int av), .val (.ref ca), .val (.int rr), .val (.int (1 : Int32)), .unset, .unset] [(.int rr), (.int av), (.ref ca)])) tgt
        refine XS.iconst X79.here hx rfl (hb hby at_187) ?_
        exact k
      obtain ⟨_, _, ⟨T80, L80, k80, n80⟩, -, X80, ⟨Lc80, hQ80, l80, y80, z80⟩, st80⟩ := Jvm.LawKit.callS X79 hx (y := (⟨"com/example/tidewatch/tidewatch/io/DecimalSkipDigitsPinLaw", "digitOrOutside", "([BIII)Z"⟩ : MethodName)) hown (mvT hZ (hw _ (List.mem_of_getElem? (i := 5) rfl))) (mvT hZ (hw _ (List.mem_of_getElem? (i := 6) rfl))) (mvT hZ (hw _ (List.mem_of_getElem? (i := 7) rfl))) (mvT hZ (hw _ (List.mem_of_getElem? (i := 8) rfl))) (by decide) (backOf (W := 0) (rm2 l Z a0 hw [] ca av rr (3 : Int32) 4 (own_up (own_up (own_up (own_up (fun _ => 0) 0 ((b0 + (48 : Int32)).toInt8.toInt32).toInt8.toInt32) 1 ((b1 + (48 : Int32)).toInt8.toInt32).toInt8.toInt32) 2 ((b2 + (48 : Int32)).toInt8.toInt32).toInt8.toInt32) 3 ((b3 + (48 : Int32)).toInt8.toInt32).toInt8.toInt32) 3 h75 n0 Zs75 A_ca_75 (by decide) (own_i2 R2 (by decide))) hZ (hw _ (List.mem_of_getElem? (i := 8) rfl)) (hw _ (List.mem_of_getElem? (i := 7) rfl)) (by decide) (by decide)) (g := (mkF m 188 #[.val (.int b0), .val (.int b1), .val (.int b2), .val (.int b3), .val (.int sp), .val (.int (4 : Int32)), .val (.int av), .val (.ref ca), .val (.int rr), .val (.int (1 : Int32)), .unset, .unset] [(.int (3 : Int32)), (.int rr), (.int av), (.ref ca)])) rfl (by rw [hml]; rfl) (argsL := [(.ref ca), (.int av), (.int rr), (.int (3 : Int32))]) (rest := []) (lenOf pd_0_1 rfl) rfl (by show 2 * 0 + _ ≤ _; exact Nat.le_of_eq rfl) (hb hby at_188) (fun _ _ => ⟨rfl, K79, (by decide : 1 + 0 ≤ _), (by decide : 4 + 0 ≤ _)⟩)
      dsimp only [Pt.U, Pt.locs, Pt.cells, Pt.slots] at X80 l80 y80 z80 st80 hQ80
      subst l80 y80 z80
      obtain ⟨rfl, N80q, K80⟩ := hQ80
      have N80 := Fr.app N79 N80q
      refine own_st st80 ?_
      show own_Go p e below _ (T80.setTop (mkF m 191 #[.val (.int b0), .val (.int b1), .val (.int b2), .val (.int b3), .val (.int sp), .val (.int (4 : Int32)), .val (.int av), .val (.ref ca), .val (.int rr), .val (.int (1 : Int32)), .unset, .unset] [(.int (own_doo (own_up (own_up (own_up (own_up (fun _ => 0) 0 ((b0 + (48 : Int32)).toInt8.toInt32).toInt8.toInt32) 1 ((b1 + (48 : Int32)).toInt8.toInt32).toInt8.toInt32) 2 ((b2 + (48 : Int32)).toInt8.toInt32).toInt8.toInt32) 3 ((b3 + (48 : Int32)).toInt8.toInt32).toInt8.toInt32) av rr (3 : Int32) 3))]))
      refine own_st (V := T80.setTop (mkF m 205 #[.val (.int b0), .val (.int b1), .val (.int b2), .val (.int b3), .val (.int sp), .val (.int (4 : Int32)), .val (.int av), .val (.ref ca), .val (.int rr), .val (.int (1 : Int32)), .val (.int (1 : Int32)), .unset] [(.int (4 : Int32)), (.int rr)])) (fun tgt k => ?_) ?_
      · show Steps p.tables e below (T80.setTop (mkF m 191 #[.val (.int b0), .val (.int b1), .val (.int b2), .val (.int b3), .val (.int sp), .val (.int (4 : Int32)), .val (.int av), .val (.ref ca), .val (.int rr), .val (.int (1 : Int32)), .unset, .unset] [(.int (own_doo (own_up (own_up (own_up (own_up (fun _ => 0) 0 ((b0 + (48 : Int32)).toInt8.toInt32).toInt8.toInt32) 1 ((b1 + (48 : Int32)).toInt8.toInt32).toInt8.toInt32) 2 ((b2 + (48 : Int32)).toInt8.toInt32).toInt8.toInt32) 3 ((b3 + (48 : Int32)).toInt8.toInt32).toInt8.toInt32) av rr (3 : Int32) 3))])) tgt
        refine XS.ifNo X80.here hx rfl (hb hby at_191) rfl ((if0 _ _).trans (feq (own_doo1 R2 (by decide))).1) ?_
        show Steps p.tables e below (T80.setTop (mkF m 194 #[.val (.int b0), .val (.int b1), .val (.int b2), .val (.int b3), .val (.int sp), .val (.int (4 : Int32)), .val (.int av), .val (.ref ca), .val (.int rr), .val (.int (1 : Int32)), .unset, .unset] [])) tgt
        refine XS.iconst X80.here hx rfl (hb hby at_194) ?_
        show Steps p.tables e below (T80.setTop (mkF m 195 #[.val (.int b0), .val (.int b1), .val (.int b2), .val (.int b3), .val (.int sp), .val (.int (4 : Int32)), .val (.int av), .val (.ref ca), .val (.int rr), .val (.int (1 : Int32)), .unset, .unset] [(.int (1 : Int32))])) tgt
        refine XS.goto X80.here hx rfl (pc0 := 195) (pc' := 199) rfl (hb hby at_195) (by decide) (by decide) ?_
        show Steps p.tables e below (T80.setTop (mkF m 199 #[.val (.int b0), .val (.int b1), .val (.int b2), .val (.int b3), .val (.int sp), .val (.int (4 : Int32)), .val (.int av), .val (.ref ca), .val (.int rr), .val (.int (1 : Int32)), .unset, .unset] [(.int (1 : Int32))])) tgt
        refine XS.istore X80.here hx rfl (hb hby at_199) rfl (l' := #[.val (.int b0), .val (.int b1), .val (.int b2), .val (.int b3), .val (.int sp), .val (.int (4 : Int32)), .val (.int av), .val (.ref ca), .val (.int rr), .val (.int (1 : Int32)), .val (.int (1 : Int32)), .unset]) rfl ?_
        show Steps p.tables e below (T80.setTop (mkF m 201 #[.val (.int b0), .val (.int b1), .val (.int b2), .val (.int b3), .val (.int sp), .val (.int (4 : Int32)), .val (.int av), .val (.ref ca), .val (.int rr), .val (.int (1 : Int32)), .val (.int (1 : Int32)), .unset] [])) tgt
        refine XS.iload X80.here hx rfl (hb hby at_201) rfl ?_
        show Steps p.tables e below (T80.setTop (mkF m 203 #[.val (.int b0), .val (.int b1), .val (.int b2), .val (.int b3), .val (.int sp), .val (.int (4 : Int32)), .val (.int av), .val (.ref ca), .val (.int rr), .val (.int (1 : Int32)), .val (.int (1 : Int32)), .unset] [(.int rr)])) tgt
        refine XS.iload X80.here hx rfl (hb hby at_203) rfl ?_
        exact k
      by_cases hc205 : rr < (4 : Int32)
      · skip
        refine own_st (V := T80.setTop (mkF m 213 #[.val (.int b0), .val (.int b1), .val (.int b2), .val (.int b3), .val (.int sp), .val (.int (4 : Int32)), .val (.int av), .val (.ref ca), .val (.int rr), .val (.int (1 : Int32)), .val (.int (1 : Int32)), .unset] [(.int ((own_up (own_up (own_up (own_up (fun _ => 0) 0 ((b0 + (48 : Int32)).toInt8.toInt32).toInt8.toInt32) 1 ((b1 + (48 : Int32)).toInt8.toInt32).toInt8.toInt32) 2 ((b2 + (48 : Int32)).toInt8.toInt32).toInt8.toInt32) 3 ((b3 + (48 : Int32)).toInt8.toInt32).toInt8.toInt32) rr.toInt.toNat))])) (fun tgt k => ?_) ?_
        · show Steps p.tables e below (T80.setTop (mkF m 205 #[.val (.int b0), .val (.int b1), .val (.int b2), .val (.int b3), .val (.int sp), .val (.int (4 : Int32)), .val (.int av), .val (.ref ca), .val (.int rr), .val (.int (1 : Int32)), .val (.int (1 : Int32)), .unset] [(.int (4 : Int32)), (.int rr)])) tgt
          refine XS.icmpNo X80.here hx rfl (hb hby at_205) rfl (tlt hc205).2.1 ?_
          show Steps p.tables e below (T80.setTop (mkF m 208 #[.val (.int b0), .val (.int b1), .val (.int b2), .val (.int b3), .val (.int sp), .val (.int (4 : Int32)), .val (.int av), .val (.ref ca), .val (.int rr), .val (.int (1 : Int32)), .val (.int (1 : Int32)), .unset] [])) tgt
          refine XS.aload X80.here hx rfl (hb hby at_208) rfl rfl ?_
          show Steps p.tables e below (T80.setTop (mkF m 210 #[.val (.int b0), .val (.int b1), .val (.int b2), .val (.int b3), .val (.int sp), .val (.int (4 : Int32)), .val (.int av), .val (.ref ca), .val (.int rr), .val (.int (1 : Int32)), .val (.int (1 : Int32)), .unset] [(.ref ca)])) tgt
          refine XS.iload X80.here hx rfl (hb hby at_210) rfl ?_
          show Steps p.tables e below (T80.setTop (mkF m 212 #[.val (.int b0), .val (.int b1), .val (.int b2), .val (.int b3), .val (.int sp), .val (.int (4 : Int32)), .val (.int av), .val (.ref ca), .val (.int rr), .val (.int (1 : Int32)), .val (.int (1 : Int32)), .unset] [(.int rr), (.ref ca)])) tgt
          refine own_baload X80 hx hZ K80 A_ca_75 (j := rr) (k := rr.toInt.toNat) (by omega) (by have := own_ilt.mp hc205; rw [show (4 : Int32).toInt = 4 from rfl] at this; omega) (g := (mkF m 212 #[.val (.int b0), .val (.int b1), .val (.int b2), .val (.int b3), .val (.int sp), .val (.int (4 : Int32)), .val (.int av), .val (.ref ca), .val (.int rr), .val (.int (1 : Int32)), .val (.int (1 : Int32)), .unset] [(.int rr), (.ref ca)])) rfl rfl (hb hby at_212) ?_
          exact k
        obtain ⟨_, _, ⟨T81, L81, k81, n81⟩, -, X81, ⟨Lc81, hQ81, l81, y81, z81⟩, st81⟩ := Jvm.LawKit.callS X80 hx (y := (⟨"com/example/tidewatch/tidewatch/io/DecimalSkipDigitsPinLaw", "isDigit", "(B)Z"⟩ : MethodName)) hown (mvT hZ (hw _ (List.mem_of_getElem? (i := 9) rfl))) (mvT hZ (hw _ (List.mem_of_getElem? (i := 10) rfl))) (mvT hZ (hw _ (List.mem_of_getElem? (i := 7) rfl))) (mvT hZ (hw _ (List.mem_of_getElem? (i := 11) rfl))) (by decide) (backOf (W := 0) (rm3 l Z a0 hw [] ((own_up (own_up (own_up (own_up (fun _ => 0) 0 ((b0 + (48 : Int32)).toInt8.toInt32).toInt8.toInt32) 1 ((b1 + (48 : Int32)).toInt8.toInt32).toInt8.toInt32) 2 ((b2 + (48 : Int32)).toInt8.toInt32).toInt8.toInt32) 3 ((b3 + (48 : Int32)).toInt8.toInt32).toInt8.toInt32) rr.toInt.toNat) h75 n0 Zs75 ) hZ (hw _ (List.mem_of_getElem? (i := 11) rfl)) (hw _ (List.mem_of_getElem? (i := 7) rfl)) (by decide) (by decide)) (g := (mkF m 213 #[.val (.int b0), .val (.int b1), .val (.int b2), .val (.int b3), .val (.int sp), .val (.int (4 : Int32)), .val (.int av), .val (.ref ca), .val (.int rr), .val (.int (1 : Int32)), .val (.int (1 : Int32)), .unset] [(.int ((own_up (own_up (own_up (own_up (fun _ => 0) 0 ((b0 + (48 : Int32)).toInt8.toInt32).toInt8.toInt32) 1 ((b1 + (48 : Int32)).toInt8.toInt32).toInt8.toInt32) 2 ((b2 + (48 : Int32)).toInt8.toInt32).toInt8.toInt32) 3 ((b3 + (48 : Int32)).toInt8.toInt32).toInt8.toInt32) rr.toInt.toNat))])) rfl (by rw [hml]; rfl) (argsL := [(.int ((own_up (own_up (own_up (own_up (fun _ => 0) 0 ((b0 + (48 : Int32)).toInt8.toInt32).toInt8.toInt32) 1 ((b1 + (48 : Int32)).toInt8.toInt32).toInt8.toInt32) 2 ((b2 + (48 : Int32)).toInt8.toInt32).toInt8.toInt32) 3 ((b3 + (48 : Int32)).toInt8.toInt32).toInt8.toInt32) rr.toInt.toNat))]) (rest := []) (lenOf pd_0_2 rfl) rfl (by show 2 * 0 + _ ≤ _; exact Nat.le_of_eq rfl) (hb hby at_213) (fun _ _ => ⟨rfl, K80, (by decide : 1 + 0 ≤ _), (by decide : 4 + 0 ≤ _)⟩)
        dsimp only [Pt.U, Pt.locs, Pt.cells, Pt.slots] at X81 l81 y81 z81 st81 hQ81
        subst l81 y81 z81
        obtain ⟨rfl, N81q, K81⟩ := hQ81
        have N81 := Fr.app N80 N81q
        refine own_st st81 ?_
        show own_Go p e below _ (T81.setTop (mkF m 216 #[.val (.int b0), .val (.int b1), .val (.int b2), .val (.int b3), .val (.int sp), .val (.int (4 : Int32)), .val (.int av), .val (.ref ca), .val (.int rr), .val (.int (1 : Int32)), .val (.int (1 : Int32)), .unset] [(.int (own_isd ((own_up (own_up (own_up (own_up (fun _ => 0) 0 ((b0 + (48 : Int32)).toInt8.toInt32).toInt8.toInt32) 1 ((b1 + (48 : Int32)).toInt8.toInt32).toInt8.toInt32) 2 ((b2 + (48 : Int32)).toInt8.toInt32).toInt8.toInt32) 3 ((b3 + (48 : Int32)).toInt8.toInt32).toInt8.toInt32) rr.toInt.toNat)))]))
        refine own_st (V := T81.setTop (mkF m 241 #[.val (.int b0), .val (.int b1), .val (.int b2), .val (.int b3), .val (.int sp), .val (.int (4 : Int32)), .val (.int av), .val (.ref ca), .val (.int rr), .val (.int (1 : Int32)), .val (.int (1 : Int32)), .val (.int (1 : Int32))] [(.int (1 : Int32))])) (fun tgt k => ?_) ?_
        · show Steps p.tables e below (T81.setTop (mkF m 216 #[.val (.int b0), .val (.int b1), .val (.int b2), .val (.int b3), .val (.int sp), .val (.int (4 : Int32)), .val (.int av), .val (.ref ca), .val (.int rr), .val (.int (1 : Int32)), .val (.int (1 : Int32)), .unset] [(.int (own_isd ((own_up (own_up (own_up (own_up (fun _ => 0) 0 ((b0 + (48 : Int32)).toInt8.toInt32).toInt8.toInt32) 1 ((b1 + (48 : Int32)).toInt8.toInt32).toInt8.toInt32) 2 ((b2 + (48 : Int32)).toInt8.toInt32).toInt8.toInt32) 3 ((b3 + (48 : Int32)).toInt8.toInt32).toInt8.toInt32) rr.toInt.toNat)))])) tgt
          refine XS.ifNo X81.here hx rfl (hb hby at_216) rfl ((if0 _ _).trans (teq ((own_isd1 _).2 (fun z => R3 ⟨by have := own_ilt.mp hc205; rw [show (4 : Int32).toInt = 4 from rfl] at this; omega, z⟩))).2) ?_
          show Steps p.tables e below (T81.setTop (mkF m 219 #[.val (.int b0), .val (.int b1), .val (.int b2), .val (.int b3), .val (.int sp), .val (.int (4 : Int32)), .val (.int av), .val (.ref ca), .val (.int rr), .val (.int (1 : Int32)), .val (.int (1 : Int32)), .unset] [])) tgt
          refine XS.iconst X81.here hx rfl (hb hby at_219) ?_
          show Steps p.tables e below (T81.setTop (mkF m 220 #[.val (.int b0), .val (.int b1), .val (.int b2), .val (.int b3), .val (.int sp), .val (.int (4 : Int32)), .val (.int av), .val (.ref ca), .val (.int rr), .val (.int (1 : Int32)), .val (.int (1 : Int32)), .unset] [(.int (1 : Int32))])) tgt
          refine XS.goto X81.here hx rfl (pc0 := 220) (pc' := 224) rfl (hb hby at_220) (by decide) (by decide) ?_
          show Steps p.tables e below (T81.setTop (mkF m 224 #[.val (.int b0), .val (.int b1), .val (.int b2), .val (.int b3), .val (.int sp), .val (.int (4 : Int32)), .val (.int av), .val (.ref ca), .val (.int rr), .val (.int (1 : Int32)), .val (.int (1 : Int32)), .unset] [(.int (1 : Int32))])) tgt
          refine XS.istore X81.here hx rfl (hb hby at_224) rfl (l' := #[.val (.int b0), .val (.int b1), .val (.int b2), .val (.int b3), .val (.int sp), .val (.int (4 : Int32)), .val (.int av), .val (.ref ca), .val (.int rr), .val (.int (1 : Int32)), .val (.int (1 : Int32)), .val (.int (1 : Int32))]) rfl ?_
          show Steps p.tables e below (T81.setTop (mkF m 226 #[.val (.int b0), .val (.int b1), .val (.int b2), .val (.int b3), .val (.int sp), .val (.int (4 : Int32)), .val (.int av), .val (.ref ca), .val (.int rr), .val (.int (1 : Int32)), .val (.int (1 : Int32)), .val (.int (1 : Int32))] [])) tgt
          refine XS.iload X81.here hx rfl (hb hby at_226) rfl ?_
          show Steps p.tables e below (T81.setTop (mkF m 228 #[.val (.int b0), .val (.int b1), .val (.int b2), .val (.int b3), .val (.int sp), .val (.int (4 : Int32)), .val (.int av), .val (.ref ca), .val (.int rr), .val (.int (1 : Int32)), .val (.int (1 : Int32)), .val (.int (1 : Int32))] [(.int (1 : Int32))])) tgt
          refine XS.ifNo X81.here hx rfl (hb hby at_228) rfl ((if0 _ _).trans (feq (by decide : ¬ ((1 : Int32) = (0 : Int32)))).1) ?_
          show Steps p.tables e below (T81.setTop (mkF m 231 #[.val (.int b0), .val (.int b1), .val (.int b2), .val (.int b3), .val (.int sp), .val (.int (4 : Int32)), .val (.int av), .val (.ref ca), .val (.int rr), .val (.int (1 : Int32)), .val (.int (1 : Int32)), .val (.int (1 : Int32))] [])) tgt
          refine XS.iload X81.here hx rfl (hb hby at_231) rfl ?_
          show Steps p.tables e below (T81.setTop (mkF m 233 #[.val (.int b0), .val (.int b1), .val (.int b2), .val (.int b3), .val (.int sp), .val (.int (4 : Int32)), .val (.int av), .val (.ref ca), .val (.int rr), .val (.int (1 : Int32)), .val (.int (1 : Int32)), .val (.int (1 : Int32))] [(.int (1 : Int32))])) tgt
          refine XS.ifNo X81.here hx rfl (hb hby at_233) rfl ((if0 _ _).trans (feq (by decide : ¬ ((1 : Int32) = (0 : Int32)))).1) ?_
          show Steps p.tables e below (T81.setTop (mkF m 236 #[.val (.int b0), .val (.int b1), .val (.int b2), .val (.int b3), .val (.int sp), .val (.int (4 : Int32)), .val (.int av), .val (.ref ca), .val (.int rr), .val (.int (1 : Int32)), .val (.int (1 : Int32)), .val (.int (1 : Int32))] [])) tgt
          refine XS.iconst X81.here hx rfl (hb hby at_236) ?_
          show Steps p.tables e below (T81.setTop (mkF m 237 #[.val (.int b0), .val (.int b1), .val (.int b2), .val (.int b3), .val (.int sp), .val (.int (4 : Int32)), .val (.int av), .val (.ref ca), .val (.int rr), .val (.int (1 : Int32)), .val (.int (1 : Int32)), .val (.int (1 : Int32))] [(.int (1 : Int32))])) tgt
          refine XS.goto X81.here hx rfl (pc0 := 237) (pc' := 241) rfl (hb hby at_237) (by decide) (by decide) ?_
          exact k
        refine own_retN X81 hx hlk (t := .boolean) (z' := (1 : Int32)) Bd.returns (by simp) rfl (hb hby at_241) ?_ (by decide) (by decide)
        show Q0 Z b0 b1 b2 b3 sp h0 n0 (some (.int (1 : Int32))) T81.heap _
        rw [K81]
        exact ⟨rfl, N81⟩
      · skip
        refine own_st (V := T80.setTop (mkF m 241 #[.val (.int b0), .val (.int b1), .val (.int b2), .val (.int b3), .val (.int sp), .val (.int (4 : Int32)), .val (.int av), .val (.ref ca), .val (.int rr), .val (.int (1 : Int32)), .val (.int (1 : Int32)), .val (.int (1 : Int32))] [(.int (1 : Int32))])) (fun tgt k => ?_) ?_
        · show Steps p.tables e below (T80.setTop (mkF m 205 #[.val (.int b0), .val (.int b1), .val (.int b2), .val (.int b3), .val (.int sp), .val (.int (4 : Int32)), .val (.int av), .val (.ref ca), .val (.int rr), .val (.int (1 : Int32)), .val (.int (1 : Int32)), .unset] [(.int (4 : Int32)), (.int rr)])) tgt
          refine XS.icmpYes X80.here hx rfl (pc0 := 205) (pc' := 219) rfl (hb hby at_205) rfl (flt hc205).2.1 (by decide) (by decide) ?_
          show Steps p.tables e below (T80.setTop (mkF m 219 #[.val (.int b0), .val (.int b1), .val (.int b2), .val (.int b3), .val (.int sp), .val (.int (4 : Int32)), .val (.int av), .val (.ref ca), .val (.int rr), .val (.int (1 : Int32)), .val (.int (1 : Int32)), .unset] [])) tgt
          refine XS.iconst X80.here hx rfl (hb hby at_219) ?_
          show Steps p.tables e below (T80.setTop (mkF m 220 #[.val (.int b0), .val (.int b1), .val (.int b2), .val (.int b3), .val (.int sp), .val (.int (4 : Int32)), .val (.int av), .val (.ref ca), .val (.int rr), .val (.int (1 : Int32)), .val (.int (1 : Int32)), .unset] [(.int (1 : Int32))])) tgt
          refine XS.goto X80.here hx rfl (pc0 := 220) (pc' := 224) rfl (hb hby at_220) (by decide) (by decide) ?_
          show Steps p.tables e below (T80.setTop (mkF m 224 #[.val (.int b0), .val (.int b1), .val (.int b2), .val (.int b3), .val (.int sp), .val (.int (4 : Int32)), .val (.int av), .val (.ref ca), .val (.int rr), .val (.int (1 : Int32)), .val (.int (1 : Int32)), .unset] [(.int (1 : Int32))])) tgt
          refine XS.istore X80.here hx rfl (hb hby at_224) rfl (l' := #[.val (.int b0), .val (.int b1), .val (.int b2), .val (.int b3), .val (.int sp), .val (.int (4 : Int32)), .val (.int av), .val (.ref ca), .val (.int rr), .val (.int (1 : Int32)), .val (.int (1 : Int32)), .val (.int (1 : Int32))]) rfl ?_
          show Steps p.tables e below (T80.setTop (mkF m 226 #[.val (.int b0), .val (.int b1), .val (.int b2), .val (.int b3), .val (.int sp), .val (.int (4 : Int32)), .val (.int av), .val (.ref ca), .val (.int rr), .val (.int (1 : Int32)), .val (.int (1 : Int32)), .val (.int (1 : Int32))] [])) tgt
          refine XS.iload X80.here hx rfl (hb hby at_226) rfl ?_
          show Steps p.tables e below (T80.setTop (mkF m 228 #[.val (.int b0), .val (.int b1), .val (.int b2), .val (.int b3), .val (.int sp), .val (.int (4 : Int32)), .val (.int av), .val (.ref ca), .val (.int rr), .val (.int (1 : Int32)), .val (.int (1 : Int32)), .val (.int (1 : Int32))] [(.int (1 : Int32))])) tgt
          refine XS.ifNo X80.here hx rfl (hb hby at_228) rfl ((if0 _ _).trans (feq (by decide : ¬ ((1 : Int32) = (0 : Int32)))).1) ?_
          show Steps p.tables e below (T80.setTop (mkF m 231 #[.val (.int b0), .val (.int b1), .val (.int b2), .val (.int b3), .val (.int sp), .val (.int (4 : Int32)), .val (.int av), .val (.ref ca), .val (.int rr), .val (.int (1 : Int32)), .val (.int (1 : Int32)), .val (.int (1 : Int32))] [])) tgt
          refine XS.iload X80.here hx rfl (hb hby at_231) rfl ?_
          show Steps p.tables e below (T80.setTop (mkF m 233 #[.val (.int b0), .val (.int b1), .val (.int b2), .val (.int b3), .val (.int sp), .val (.int (4 : Int32)), .val (.int av), .val (.ref ca), .val (.int rr), .val (.int (1 : Int32)), .val (.int (1 : Int32)), .val (.int (1 : Int32))] [(.int (1 : Int32))])) tgt
          refine XS.ifNo X80.here hx rfl (hb hby at_233) rfl ((if0 _ _).trans (feq (by decide : ¬ ((1 : Int32) = (0 : Int32)))).1) ?_
          show Steps p.tables e below (T80.setTop (mkF m 236 #[.val (.int b0), .val (.int b1), .val (.int b2), .val (.int b3), .val (.int sp), .val (.int (4 : Int32)), .val (.int av), .val (.ref ca), .val (.int rr), .val (.int (1 : Int32)), .val (.int (1 : Int32)), .val (.int (1 : Int32))] [])) tgt
          refine XS.iconst X80.here hx rfl (hb hby at_236) ?_
          show Steps p.tables e below (T80.setTop (mkF m 237 #[.val (.int b0), .val (.int b1), .val (.int b2), .val (.int b3), .val (.int sp), .val (.int (4 : Int32)), .val (.int av), .val (.ref ca), .val (.int rr), .val (.int (1 : Int32)), .val (.int (1 : Int32)), .val (.int (1 : Int32))] [(.int (1 : Int32))])) tgt
          refine XS.goto X80.here hx rfl (pc0 := 237) (pc' := 241) rfl (hb hby at_237) (by decide) (by decide) ?_
          exact k
        refine own_retN X80 hx hlk (t := .boolean) (z' := (1 : Int32)) Bd.returns (by simp) rfl (hb hby at_241) ?_ (by decide) (by decide)
        show Q0 Z b0 b1 b2 b3 sp h0 n0 (some (.int (1 : Int32))) T80.heap _
        rw [K80]
        exact ⟨rfl, N80⟩
    · skip
      refine own_st (V := T76.setTop (mkF m 149 #[.val (.int b0), .val (.int b1), .val (.int b2), .val (.int b3), .val (.int sp), .val (.int (4 : Int32)), .val (.int av), .val (.ref ca), .val (.int rr), .val (.int (1 : Int32)), .unset, .unset] [(.int (0 : Int32)), (.int rr), (.int av), (.ref ca)])) (fun tgt k => ?_) ?_
      · show Steps p.tables e below (T76.setTop (mkF m 96 #[.val (.int b0), .val (.int b1), .val (.int b2), .val (.int b3), .val (.int sp), .val (.int (4 : Int32)), .val (.int av), .val (.ref ca), .val (.int rr), .unset, .unset, .unset] [(.int (4 : Int32)), (.int av)])) tgt
        refine XS.icmpNo X76.here hx rfl (hb hby at_96) rfl (flt hc96).1 ?_
        show Steps p.tables e below (T76.setTop (mkF m 99 #[.val (.int b0), .val (.int b1), .val (.int b2), .val (.int b3), .val (.int sp), .val (.int (4 : Int32)), .val (.int av), .val (.ref ca), .val (.int rr), .unset, .unset, .unset] [])) tgt
        refine XS.iload X76.here hx rfl (hb hby at_99) rfl ?_
        show Steps p.tables e below (T76.setTop (mkF m 101 #[.val (.int b0), .val (.int b1), .val (.int b2), .val (.int b3), .val (.int sp), .val (.int (4 : Int32)), .val (.int av), .val (.ref ca), .val (.int rr), .unset, .unset, .unset] [(.int rr)])) tgt
        refine XS.iload X76.here hx rfl (hb hby at_101) rfl ?_
        show Steps p.tables e below (T76.setTop (mkF m 103 #[.val (.int b0), .val (.int b1), .val (.int b2), .val (.int b3), .val (.int sp), .val (.int (4 : Int32)), .val (.int av), .val (.ref ca), .val (.int rr), .unset, .unset, .unset] [(.int av), (.int rr)])) tgt
        refine XS.icmpNo X76.here hx rfl (hb hby at_103) rfl (teq (own_eq R1 R2 hav0 (by decide) hc96)).2 ?_
        show Steps p.tables e below (T76.setTop (mkF m 106 #[.val (.int b0), .val (.int b1), .val (.int b2), .val (.int b3), .val (.int sp), .val (.int (4 : Int32)), .val (.int av), .val (.ref ca), .val (.int rr), .unset, .unset, .unset] [])) tgt
        refine XS.iconst X76.here hx rfl (hb hby at_106) ?_
        show Steps p.tables e below (T76.setTop (mkF m 107 #[.val (.int b0), .val (.int b1), .val (.int b2), .val (.int b3), .val (.int sp), .val (.int (4 : Int32)), .val (.int av), .val (.ref ca), .val (.int rr), .unset, .unset, .unset] [(.int (1 : Int32))])) tgt
        refine XS.goto X76.here hx rfl (pc0 := 107) (pc' := 133) rfl (hb hby at_107) (by decide) (by decide) ?_
        show Steps p.tables e below (T76.setTop (mkF m 133 #[.val (.int b0), .val (.int b1), .val (.int b2), .val (.int b3), .val (.int sp), .val (.int (4 : Int32)), .val (.int av), .val (.ref ca), .val (.int rr), .unset, .unset, .unset] [(.int (1 : Int32))])) tgt
        refine XS.istore X76.here hx rfl (hb hby at_133) rfl (l' := #[.val (.int b0), .val (.int b1), .val (.int b2), .val (.int b3), .val (.int sp), .val (.int (4 : Int32)), .val (.int av), .val (.ref ca), .val (.int rr), .val (.int (1 : Int32)), .unset, .unset]) rfl ?_
        show Steps p.tables e below (T76.setTop (mkF m 135 #[.val (.int b0), .val (.int b1), .val (.int b2), .val (.int b3), .val (.int sp), .val (.int (4 : Int32)), .val (.int av), .val (.ref ca), .val (.int rr), .val (.int (1 : Int32)), .unset, .unset] [])) tgt
        refine XS.iload X76.here hx rfl (hb hby at_135) rfl ?_
        show Steps p.tables e below (T76.setTop (mkF m 137 #[.val (.int b0), .val (.int b1), .val (.int b2), .val (.int b3), .val (.int sp), .val (.int (4 : Int32)), .val (.int av), .val (.ref ca), .val (.int rr), .val (.int (1 : Int32)), .unset, .unset] [(.int (1 : Int32))])) tgt
        refine XS.ifYes X76.here hx rfl (pc0 := 137) (pc' := 142) rfl (hb hby at_137) rfl ((if0 _ _).trans (feq (by decide : ¬ ((1 : Int32) = (0 : Int32)))).2) (by decide) (by decide) ?_
        show Steps p.tables e below (T76.setTop (mkF m 142 #[.val (.int b0), .val (.int b1), .val (.int b2), .val (.int b3), .val (.int sp), .val (.int (4 : Int32)), .val (.int av), .val (.ref ca), .val (.int rr), .val (.int (1 : Int32)), .unset, .unset] [])) tgt
        refine XS.aload X76.here hx rfl (hb hby at_142) rfl rfl ?_
        show Steps p.tables e below (T76.setTop (mkF m 144 #[.val (.int b0), .val (.int b1), .val (.int b2), .val (.int b3), .val (.int sp), .val (.int (4 : Int32)), .val (.int av), .val (.ref ca), .val (.int rr), .val (.int (1 : Int32)), .unset, .unset] [(.ref ca)])) tgt
        refine XS.iload X76.here hx rfl (hb hby at_144) rfl ?_
        show Steps p.tables e below (T76.setTop (mkF m 146 #[.val (.int b0), .val (.int b1), .val (.int b2), .val (.int b3), .val (.int sp), .val (.int (4 : Int32)), .val (.int av), .val (.ref ca), .val (.int rr), .val (.int (1 : Int32)), .unset, .unset] [(.int av), (.ref ca)])) tgt
        refine XS.iload X76.here hx rfl (hb hby at_146) rfl ?_
        show Steps p.tables e below (T76.setTop (mkF m 148 #[.val (.int b0), .val (.int b1), .val (.int b2), .val (.int b3), .val (.int sp), .val (.int (4 : Int32)), .val (.int av), .val (.ref ca), .val (.int rr), .val (.int (1 : Int32)), .unset, .unset] [(.int rr), (.int av), (.ref ca)])) tgt
        refine XS.iconst X76.here hx rfl (hb hby at_148) ?_
        exact k
      obtain ⟨_, _, ⟨T84, L84, k84, n84⟩, -, X84, ⟨Lc84, hQ84, l84, y84, z84⟩, st84⟩ := Jvm.LawKit.callS X76 hx (y := (⟨"com/example/tidewatch/tidewatch/io/DecimalSkipDigitsPinLaw", "digitOrOutside", "([BIII)Z"⟩ : MethodName)) hown (mvT hZ (hw _ (List.mem_of_getElem? (i := 5) rfl))) (mvT hZ (hw _ (List.mem_of_getElem? (i := 6) rfl))) (mvT hZ (hw _ (List.mem_of_getElem? (i := 7) rfl))) (mvT hZ (hw _ (List.mem_of_getElem? (i := 8) rfl))) (by decide) (backOf (W := 0) (rm2 l Z a0 hw [] ca av rr (0 : Int32) 4 (own_up (own_up (own_up (own_up (fun _ => 0) 0 ((b0 + (48 : Int32)).toInt8.toInt32).toInt8.toInt32) 1 ((b1 + (48 : Int32)).toInt8.toInt32).toInt8.toInt32) 2 ((b2 + (48 : Int32)).toInt8.toInt32).toInt8.toInt32) 3 ((b3 + (48 : Int32)).toInt8.toInt32).toInt8.toInt32) 0 h75 n0 Zs75 A_ca_75 (by decide) (own_i2 R2 (by decide))) hZ (hw _ (List.mem_of_getElem? (i := 8) rfl)) (hw _ (List.mem_of_getElem? (i := 7) rfl)) (by decide) (by decide)) (g := (mkF m 149 #[.val (.int b0), .val (.int b1), .val (.int b2), .val (.int b3), .val (.int sp), .val (.int (4 : Int32)), .val (.int av), .val (.ref ca), .val (.int rr), .val (.int (1 : Int32)), .unset, .unset] [(.int (0 : Int32)), (.int rr), (.int av), (.ref ca)])) rfl (by rw [hml]; rfl) (argsL := [(.ref ca), (.int av), (.int rr), (.int (0 : Int32))]) (rest := []) (lenOf pd_0_1 rfl) rfl (by show 2 * 0 + _ ≤ _; exact Nat.le_of_eq rfl) (hb hby at_149) (fun _ _ => ⟨rfl, K76, (by decide : 1 + 0 ≤ _), (by decide : 4 + 0 ≤ _)⟩)
      dsimp only [Pt.U, Pt.locs, Pt.cells, Pt.slots] at X84 l84 y84 z84 st84 hQ84
      subst l84 y84 z84
      obtain ⟨rfl, N84q, K84⟩ := hQ84
      have N84 := Fr.app N76 N84q
      refine own_st st84 ?_
      show own_Go p e below _ (T84.setTop (mkF m 152 #[.val (.int b0), .val (.int b1), .val (.int b2), .val (.int b3), .val (.int sp), .val (.int (4 : Int32)), .val (.int av), .val (.ref ca), .val (.int rr), .val (.int (1 : Int32)), .unset, .unset] [(.int (own_doo (own_up (own_up (own_up (own_up (fun _ => 0) 0 ((b0 + (48 : Int32)).toInt8.toInt32).toInt8.toInt32) 1 ((b1 + (48 : Int32)).toInt8.toInt32).toInt8.toInt32) 2 ((b2 + (48 : Int32)).toInt8.toInt32).toInt8.toInt32) 3 ((b3 + (48 : Int32)).toInt8.toInt32).toInt8.toInt32) av rr (0 : Int32) 0))]))
      refine own_st (V := T84.setTop (mkF m 162 #[.val (.int b0), .val (.int b1), .val (.int b2), .val (.int b3), .val (.int sp), .val (.int (4 : Int32)), .val (.int av), .val (.ref ca), .val (.int rr), .val (.int (1 : Int32)), .unset, .unset] [(.int (1 : Int32)), (.int rr), (.int av), (.ref ca)])) (fun tgt k => ?_) ?_
      · show Steps p.tables e below (T84.setTop (mkF m 152 #[.val (.int b0), .val (.int b1), .val (.int b2), .val (.int b3), .val (.int sp), .val (.int (4 : Int32)), .val (.int av), .val (.ref ca), .val (.int rr), .val (.int (1 : Int32)), .unset, .unset] [(.int (own_doo (own_up (own_up (own_up (own_up (fun _ => 0) 0 ((b0 + (48 : Int32)).toInt8.toInt32).toInt8.toInt32) 1 ((b1 + (48 : Int32)).toInt8.toInt32).toInt8.toInt32) 2 ((b2 + (48 : Int32)).toInt8.toInt32).toInt8.toInt32) 3 ((b3 + (48 : Int32)).toInt8.toInt32).toInt8.toInt32) av rr (0 : Int32) 0))])) tgt
        refine XS.ifNo X84.here hx rfl (hb hby at_152) rfl ((if0 _ _).trans (feq (own_doo1 R2 (by decide))).1) ?_
        show Steps p.tables e below (T84.setTop (mkF m 155 #[.val (.int b0), .val (.int b1), .val (.int b2), .val (.int b3), .val (.int sp), .val (.int (4 : Int32)), .val (.int av), .val (.ref ca), .val (.int rr), .val (.int (1 : Int32)), .unset, .unset] [])) tgt
        refine XS.aload X84.here hx rfl (hb hby at_155) rfl rfl ?_
        show Steps p.tables e below (T84.setTop (mkF m 157 #[.val (.int b0), .val (.int b1), .val (.int b2), .val (.int b3), .val (.int sp), .val (.int (4 : Int32)), .val (.int av), .val (.ref ca), .val (.int rr), .val (.int (1 : Int32)), .unset, .unset] [(.ref ca)])) tgt
        refine XS.iload X84.here hx rfl (hb hby at_157) rfl ?_
        show Steps p.tables e below (T84.setTop (mkF m 159 #[.val (.int b0), .val (.int b1), .val (.int b2), .val (.int b3), .val (.int sp), .val (.int (4 : Int32)), .val (.int av), .val (.ref ca), .val (.int rr), .val (.int (1 : Int32)), .unset, .unset] [(.int av), (.ref ca)])) tgt
        refine XS.iload X84.here hx rfl (hb hby at_159) rfl ?_
        show Steps p.tables e below (T84.setTop (mkF m 161 #[.val (.int b0), .val (.int b1), .val (.int b2), .val (.int b3), .val (.int sp), .val (.int (4 : Int32)), .val (.int av), .val (.ref ca), .val (.int rr), .val (.int (1 : Int32)), .unset, .unset] [(.int rr), (.int av), (.ref ca)])) tgt
        refine XS.iconst X84.here hx rfl (hb hby at_161) ?_
        exact k
      obtain ⟨_, _, ⟨T85, L85, k85, n85⟩, -, X85, ⟨Lc85, hQ85, l85, y85, z85⟩, st85⟩ := Jvm.LawKit.callS X84 hx (y := (⟨"com/example/tidewatch/tidewatch/io/DecimalSkipDigitsPinLaw", "digitOrOutside", "([BIII)Z"⟩ : MethodName)) hown (mvT hZ (hw _ (List.mem_of_getElem? (i := 5) rfl))) (mvT hZ (hw _ (List.mem_of_getElem? (i := 6) rfl))) (mvT hZ (hw _ (List.mem_of_getElem? (i := 7) rfl))) (mvT hZ (hw _ (List.mem_of_getElem? (i := 8) rfl))) (by decide) (backOf (W := 0) (rm2 l Z a0 hw [] ca av rr (1 : Int32) 4 (own_up (own_up (own_up (own_up (fun _ => 0) 0 ((b0 + (48 : Int32)).toInt8.toInt32).toInt8.toInt32) 1 ((b1 + (48 : Int32)).toInt8.toInt32).toInt8.toInt32) 2 ((b2 + (48 : Int32)).toInt8.toInt32).toInt8.toInt32) 3 ((b3 + (48 : Int32)).toInt8.toInt32).toInt8.toInt32) 1 h75 n0 Zs75 A_ca_75 (by decide) (own_i2 R2 (by decide))) hZ (hw _ (List.mem_of_getElem? (i := 8) rfl)) (hw _ (List.mem_of_getElem? (i := 7) rfl)) (by decide) (by decide)) (g := (mkF m 162 #[.val (.int b0), .val (.int b1), .val (.int b2), .val (.int b3), .val (.int sp), .val (.int (4 : Int32)), .val (.int av), .val (.ref ca), .val (.int rr), .val (.int (1 : Int32)), .unset, .unset] [(.int (1 : Int32)), (.int rr), (.int av), (.ref ca)])) rfl (by rw [hml]; rfl) (argsL := [(.ref ca), (.int av), (.int rr), (.int (1 : Int32))]) (rest := []) (lenOf pd_0_1 rfl) rfl (by show 2 * 0 + _ ≤ _; exact Nat.le_of_eq rfl) (hb hby at_162) (fun _ _ => ⟨rfl, K84, (by decide : 1 + 0 ≤ _), (by decide : 4 + 0 ≤ _)⟩)
      dsimp only [Pt.U, Pt.locs, Pt.cells, Pt.slots] at X85 l85 y85 z85 st85 hQ85
      subst l85 y85 z85
      obtain ⟨rfl, N85q, K85⟩ := hQ85
      have N85 := Fr.app N84 N85q
      refine own_st st85 ?_
      show own_Go p e below _ (T85.setTop (mkF m 165 #[.val (.int b0), .val (.int b1), .val (.int b2), .val (.int b3), .val (.int sp), .val (.int (4 : Int32)), .val (.int av), .val (.ref ca), .val (.int rr), .val (.int (1 : Int32)), .unset, .unset] [(.int (own_doo (own_up (own_up (own_up (own_up (fun _ => 0) 0 ((b0 + (48 : Int32)).toInt8.toInt32).toInt8.toInt32) 1 ((b1 + (48 : Int32)).toInt8.toInt32).toInt8.toInt32) 2 ((b2 + (48 : Int32)).toInt8.toInt32).toInt8.toInt32) 3 ((b3 + (48 : Int32)).toInt8.toInt32).toInt8.toInt32) av rr (1 : Int32) 1))]))
      refine own_st (V := T85.setTop (mkF m 175 #[.val (.int b0), .val (.int b1), .val (.int b2), .val (.int b3), .val (.int sp), .val (.int (4 : Int32)), .val (.int av), .val (.ref ca), .val (.int rr), .val (.int (1 : Int32)), .unset, .unset] [(.int (2 : Int32)), (.int rr), (.int av), (.ref ca)])) (fun tgt k => ?_) ?_
      · show Steps p.tables e below (T85.setTop (mkF m 165 #[.val (.int b0), .val (.int b1), .val (.int b2), .val (.int b3), .val (.int sp), .val (.int (4 : Int32)), .val (.int av), .val (.ref ca), .val (.int rr), .val (.int (1 : Int32)), .unset, .unset] [(.int (own_doo (own_up (own_up (own_up (own_up (fun _ => 0) 0 ((b0 + (48 : Int32)).toInt8.toInt32).toInt8.toInt32) 1 ((b1 + (48 : Int32)).toInt8.toInt32).toInt8.toInt32) 2 ((b2 + (48 : Int32)).toInt8.toInt32).toInt8.toInt32) 3 ((b3 + (48 : Int32)).toInt8.toInt32).toInt8.toInt32) av rr (1 : Int32) 1))])) tgt
        refine XS.ifNo X85.here hx rfl (hb hby at_165) rfl ((if0 _ _).trans (feq (own_doo1 R2 (by decide))).1) ?_
        show Steps p.tables e below (T85.setTop (mkF m 168 #[.val (.int b0), .val (.int b1), .val (.int b2), .val (.int b3), .val (.int sp), .val (.int (4 : Int32)), .val (.int av), .val (.ref ca), .val (.int rr), .val (.int (1 : Int32)), .unset, .unset] [])) tgt
        refine XS.aload X85.here hx rfl (hb hby at_168) rfl rfl ?_
        show Steps p.tables e below (T85.setTop (mkF m 170 #[.val (.int b0), .val (.int b1), .val (.int b2), .val (.int b3), .val (.int sp), .val (.int (4 : Int32)), .val (.int av), .val (.ref ca), .val (.int rr), .val (.int (1 : Int32)), .unset, .unset] [(.ref ca)])) tgt
        refine XS.iload X85.here hx rfl (hb hby at_170) rfl ?_
        show Steps p.tables e below (T85.setTop (mkF m 172 #[.val (.int b0), .val (.int b1), .val (.int b2), .val (.int b3), .val (.int sp), .val (.int (4 : Int32)), .val (.int av), .val (.ref ca), .val (.int rr), .val (.int (1 : Int32)), .unset, .unset] [(.int av), (.ref ca)])) tgt
        refine XS.iload X85.here hx rfl (hb hby at_172) rfl ?_
        show Steps p.tables e below (T85.setTop (mkF m 174 #[.val (.int b0), .val (.int b1), .val (.int b2), .val (.int b3), .val (.int sp), .val (.int (4 : Int32)), .val (.int av), .val (.ref ca), .val (.int rr), .val (.int (1 : Int32)), .unset, .unset] [(.int rr), (.int av), (.ref ca)])) tgt
        refine XS.iconst X85.here hx rfl (hb hby at_174) ?_
        exact k
      obtain ⟨_, _, ⟨T86, L86, k86, n86⟩, -, X86, ⟨Lc86, hQ86, l86, y86, z86⟩, st86⟩ := Jvm.LawKit.callS X85 hx (y := (⟨"com/example/tidewatch/tidewatch/io/DecimalSkipDigitsPinLaw", "digitOrOutside", "([BIII)Z"⟩ : MethodName)) hown (mvT hZ (hw _ (List.mem_of_getElem? (i := 5) rfl))) (mvT hZ (hw _ (List.mem_of_getElem? (i := 6) rfl))) (mvT hZ (hw _ (List.mem_of_getElem? (i := 7) rfl))) (mvT hZ (hw _ (List.mem_of_getElem? (i := 8) rfl))) (by decide) (backOf (W := 0) (rm2 l Z a0 hw [] ca av rr (2 : Int32) 4 (own_up (own_up (own_up (own_up (fun _ => 0) 0 ((b0 + (48 : Int32)).toInt8.toInt32).toInt8.toInt32) 1 ((b1 + (48 : Int32)).toInt8.toInt32).toInt8.toInt32) 2 ((b2 + (48 : Int32)).toInt8.toInt32).toInt8.toInt32) 3 ((b3 + (48 : Int32)).toInt8.toInt32).toInt8.toInt32) 2 h75 n0 Zs75 A_ca_75 (by decide) (own_i2 R2 (by decide))) hZ (hw _ (List.mem_of_getElem? (i := 8) rfl)) (hw _ (List.mem_of_getElem? (i := 7) rfl)) (by decide) (by decide)) (g := (mkF m 175 #[.val (.int b0), .val (.int b1), .val (.int b2), .val (.int b3), .val (.int sp), .val (.int (4 : Int32)), .val (.int av), .val (.ref ca), .val (.int rr), .val (.int (1 : Int32)), .unset, .unset] [(.int (2 : Int32)), (.int rr), (.int av), (.ref ca)])) rfl (by rw [hml]; rfl) (argsL := [(.ref ca), (.int av), (.int rr), (.int (2 : Int32))]) (rest := []) (lenOf pd_0_1 rfl) rfl (by show 2 * 0 + _ ≤ _; exact Nat.le_of_eq rfl) (hb hby at_175) (fun _ _ => ⟨rfl, K85, (by decide : 1 + 0 ≤ _), (by decide : 4 + 0 ≤ _)⟩)
      dsimp only [Pt.U, Pt.locs, Pt.cells, Pt.slots] at X86 l86 y86 z86 st86 hQ86
      subst l86 y86 z86
      obtain ⟨rfl, N86q, K86⟩ := hQ86
      have N86 := Fr.app N85 N86q
      refine own_st st86 ?_
      show own_Go p e below _ (T86.setTop (mkF m 178 #[.val (.int b0), .val (.int b1), .val (.int b2), .val (.int b3), .val (.int sp), .val (.int (4 : Int32)), .val (.int av), .val (.ref ca), .val (.int rr), .val (.int (1 : Int32)), .unset, .unset] [(.int (own_doo (own_up (own_up (own_up (own_up (fun _ => 0) 0 ((b0 + (48 : Int32)).toInt8.toInt32).toInt8.toInt32) 1 ((b1 + (48 : Int32)).toInt8.toInt32).toInt8.toInt32) 2 ((b2 + (48 : Int32)).toInt8.toInt32).toInt8.toInt32) 3 ((b3 + (48 : Int32)).toInt8.toInt32).toInt8.toInt32) av rr (2 : Int32) 2))]))
      refine own_st (V := T86.setTop (mkF m 188 #[.val (.int b0), .val (.int b1), .val (.int b2), .val (.int b3), .val (.int sp), .val (.int (4 : Int32)), .val (.int av), .val (.ref ca), .val (.int rr), .val (.int (1 : Int32)), .unset, .unset] [(.int (3 : Int32)), (.int rr), (.int av), (.ref ca)])) (fun tgt k => ?_) ?_
      · show Steps p.tables e below (T86.setTop (mkF m 178 #[.val (.int b0), .val (.int b1), .val (.int b2), .val (.int b3), .val (.int sp), .val (.int (4 : Int32)), .val (.int av), .val (.ref ca), .val (.int rr), .val (.int (1 : Int32)), .unset, .unset] [(.int (own_doo (own_up (own_up (own_up (own_up (fun _ => 0) 0 ((b0 + (48 : Int32)).toInt8.toInt32).toInt8.toInt32) 1 ((b1 + (48 : Int32)).toInt8.toInt32).toInt8.toInt32) 2 ((b2 + (48 : Int32)).toInt8.toInt32).toInt8.toInt32) 3 ((b3 + (48 : Int32)).toInt8.toInt32).toInt8.toInt32) av rr (2 : Int32) 2))])) tgt
        refine XS.ifNo X86.here hx rfl (hb hby at_178) rfl ((if0 _ _).trans (feq (own_doo1 R2 (by decide))).1) ?_
        show Steps p.tables e below (T86.setTop (mkF m 181 #[.val (.int b0), .val (.int b1), .val (.int b2), .val (.int b3), .val (.int sp), .val (.int (4 : Int32)), .val (.int av), .val (.ref ca), .val (.int rr), .val (.int (1 : Int32)), .unset, .unset] [])) tgt
        refine XS.aload X86.here hx rfl (hb hby at_181) rfl rfl ?_
        show Steps p.tables e below (T86.setTop (mkF m 183 #[.val (.int b0), .val (.int b1), .val (.int b2), .val (.int b3), .val (.int sp), .val (.int (4 : Int32)), .val (.int av), .val (.ref ca), .val (.int rr), .val (.int (1 : Int32)), .unset, .unset] [(.ref ca)])) tgt
        refine XS.iload X86.here hx rfl (hb hby at_183) rfl ?_
        show Steps p.tables e below (T86.setTop (mkF m 185 #[.val (.int b0), .val (.int b1), .val (.int b2), .val (.int b3), .val (.int sp), .val (.int (4 : Int32)), .val (.int av), .val (.ref ca), .val (.int rr), .val (.int (1 : Int32)), .unset, .unset] [(.int av), (.ref ca)])) tgt
        refine XS.iload X86.here hx rfl (hb hby at_185) rfl ?_
        show Steps p.tables e below (T86.setTop (mkF m 187 #[.val (.int b0), .val (.int b1), .val (.int b2), .val (.int b3), .val (.int sp), .val (.int (4 : Int32)), .val (.int av), .val (.ref ca), .val (.int rr), .val (.int (1 : Int32)), .unset, .unset] [(.int rr), (.int av), (.ref ca)])) tgt
        refine XS.iconst X86.here hx rfl (hb hby at_187) ?_
        exact k
      obtain ⟨_, _, ⟨T87, L87, k87, n87⟩, -, X87, ⟨Lc87, hQ87, l87, y87, z87⟩, st87⟩ := Jvm.LawKit.callS X86 hx (y := (⟨"com/example/tidewatch/tidewatch/io/DecimalSkipDigitsPinLaw", "digitOrOutside", "([BIII)Z"⟩ : MethodName)) hown (mvT hZ (hw _ (List.mem_of_getElem? (i := 5) rfl))) (mvT hZ (hw _ (List.mem_of_getElem? (i := 6) rfl))) (mvT hZ (hw _ (List.mem_of_getElem? (i := 7) rfl))) (mvT hZ (hw _ (List.mem_of_getElem? (i := 8) rfl))) (by decide) (backOf (W := 0) (rm2 l Z a0 hw [] ca av rr (3 : Int32) 4 (own_up (own_up (own_up (own_up (fun _ => 0) 0 ((b0 + (48 : Int32)).toInt8.toInt32).toInt8.toInt32) 1 ((b1 + (48 : Int32)).toInt8.toInt32).toInt8.toInt32) 2 ((b2 + (48 : Int32)).toInt8.toInt32).toInt8.toInt32) 3 ((b3 + (48 : Int32)).toInt8.toInt32).toInt8.toInt32) 3 h75 n0 Zs75 A_ca_75 (by decide) (own_i2 R2 (by decide))) hZ (hw _ (List.mem_of_getElem? (i := 8) rfl)) (hw _ (List.mem_of_getElem? (i := 7) rfl)) (by decide) (by decide)) (g := (mkF m 188 #[.val (.int b0), .val (.int b1), .val (.int b2), .val (.int b3), .val (.int sp), .val (.int (4 : Int32)), .val (.int av), .val (.ref ca), .val (.int rr), .val (.int (1 : Int32)), .unset, .unset] [(.int (3 : Int32)), (.int rr), (.int av), (.ref ca)])) rfl (by rw [hml]; rfl) (argsL := [(.ref ca), (.int av), (.int rr), (.int (3 : Int32))]) (rest := []) (lenOf pd_0_1 rfl) rfl (by show 2 * 0 + _ ≤ _; exact Nat.le_of_eq rfl) (hb hby at_188) (fun _ _ => ⟨rfl, K86, (by decide : 1 + 0 ≤ _), (by decide : 4 + 0 ≤ _)⟩)
      dsimp only [Pt.U, Pt.locs, Pt.cells, Pt.slots] at X87 l87 y87 z87 st87 hQ87
      subst l87 y87 z87
      obtain ⟨rfl, N87q, K87⟩ := hQ87
      have N87 := Fr.app N86 N87q
      refine own_st st87 ?_
      show own_Go p e below _ (T87.setTop (mkF m 191 #[.val (.int b0), .val (.int b1), .val (.int b2), .val (.int b3), .val (.int sp), .val (.int (4 : Int32)), .val (.int av), .val (.ref ca), .val (.int rr), .val (.int (1 : Int32)), .unset, .unset] [(.int (own_doo (own_up (own_up (own_up (own_up (fun _ => 0) 0 ((b0 + (48 : Int32)).toInt8.toInt32).toInt8.toInt32) 1 ((b1 + (48 : Int32)).toInt8.toInt32).toInt8.toInt32) 2 ((b2 + (48 : Int32)).toInt8.toInt32).toInt8.toInt32) 3 ((b3 + (48 : Int32)).toInt8.toInt32).toInt8.toInt32) av rr (3 : Int32) 3))]))
      refine own_st (V := T87.setTop (mkF m 205 #[.val (.int b0), .val (.int b1), .val (.int b2), .val (.int b3), .val (.int sp), .val (.int (4 : Int32)), .val (.int av), .val (.ref ca), .val (.int rr), .val (.int (1 : Int32)), .val (.int (1 : Int32)), .unset] [(.int (4 : Int32)), (.int rr)])) (fun tgt k => ?_) ?_
      · show Steps p.tables e below (T87.setTop (mkF m 191 #[.val (.int b0), .val (.int b1), .val (.int b2), .val (.int b3), .val (.int sp), .val (.int (4 : Int32)), .val (.int av), .val (.ref ca), .val (.int rr), .val (.int (1 : Int32)), .unset, .unset] [(.int (own_doo (own_up (own_up (own_up (own_up (fun _ => 0) 0 ((b0 + (48 : Int32)).toInt8.toInt32).toInt8.toInt32) 1 ((b1 + (48 : Int32)).toInt8.toInt32).toInt8.toInt32) 2 ((b2 + (48 : Int32)).toInt8.toInt32).toInt8.toInt32) 3 ((b3 + (48 : Int32)).toInt8.toInt32).toInt8.toInt32) av rr (3 : Int32) 3))])) tgt
        refine XS.ifNo X87.here hx rfl (hb hby at_191) rfl ((if0 _ _).trans (feq (own_doo1 R2 (by decide))).1) ?_
        show Steps p.tables e below (T87.setTop (mkF m 194 #[.val (.int b0), .val (.int b1), .val (.int b2), .val (.int b3), .val (.int sp), .val (.int (4 : Int32)), .val (.int av), .val (.ref ca), .val (.int rr), .val (.int (1 : Int32)), .unset, .unset] [])) tgt
        refine XS.iconst X87.here hx rfl (hb hby at_194) ?_
        show Steps p.tables e below (T87.setTop (mkF m 195 #[.val (.int b0), .val (.int b1), .val (.int b2), .val (.int b3), .val (.int sp), .val (.int (4 : Int32)), .val (.int av), .val (.ref ca), .val (.int rr), .val (.int (1 : Int32)), .unset, .unset] [(.int (1 : Int32))])) tgt
        refine XS.goto X87.here hx rfl (pc0 := 195) (pc' := 199) rfl (hb hby at_195) (by decide) (by decide) ?_
        show Steps p.tables e below (T87.setTop (mkF m 199 #[.val (.int b0), .val (.int b1), .val (.int b2), .val (.int b3), .val (.int sp), .val (.int (4 : Int32)), .val (.int av), .val (.ref ca), .val (.int rr), .val (.int (1 : Int32)), .unset, .unset] [(.int (1 : Int32))])) tgt
        refine XS.istore X87.here hx rfl (hb hby at_199) rfl (l' := #[.val (.int b0), .val (.int b1), .val (.int b2), .val (.int b3), .val (.int sp), .val (.int (4 : Int32)), .val (.int av), .val (.ref ca), .val (.int rr), .val (.int (1 : Int32)), .val (.int (1 : Int32)), .unset]) rfl ?_
        show Steps p.tables e below (T87.setTop (mkF m 201 #[.val (.int b0), .val (.int b1), .val (.int b2), .val (.int b3), .val (.int sp), .val (.int (4 : Int32)), .val (.int av), .val (.ref ca), .val (.int rr), .val (.int (1 : Int32)), .val (.int (1 : Int32)), .unset] [])) tgt
        refine XS.iload X87.here hx rfl (hb hby at_201) rfl ?_
        show Steps p.tables e below (T87.setTop (mkF m 203 #[.val (.int b0), .val (.int b1), .val (.int b2), .val (.int b3), .val (.int sp), .val (.int (4 : Int32)), .val (.int av), .val (.ref ca), .val (.int rr), .val (.int (1 : Int32)), .val (.int (1 : Int32)), .unset] [(.int rr)])) tgt
        refine XS.iload X87.here hx rfl (hb hby at_203) rfl ?_
        exact k
      by_cases hc205 : rr < (4 : Int32)
      · skip
        refine own_st (V := T87.setTop (mkF m 213 #[.val (.int b0), .val (.int b1), .val (.int b2), .val (.int b3), .val (.int sp), .val (.int (4 : Int32)), .val (.int av), .val (.ref ca), .val (.int rr), .val (.int (1 : Int32)), .val (.int (1 : Int32)), .unset] [(.int ((own_up (own_up (own_up (own_up (fun _ => 0) 0 ((b0 + (48 : Int32)).toInt8.toInt32).toInt8.toInt32) 1 ((b1 + (48 : Int32)).toInt8.toInt32).toInt8.toInt32) 2 ((b2 + (48 : Int32)).toInt8.toInt32).toInt8.toInt32) 3 ((b3 + (48 : Int32)).toInt8.toInt32).toInt8.toInt32) rr.toInt.toNat))])) (fun tgt k => ?_) ?_
        · show Steps p.tables e below (T87.setTop (mkF m 205 #[.val (.int b0), .val (.int b1), .val (.int b2), .val (.int b3), .val (.int sp), .val (.int (4 : Int32)), .val (.int av), .val (.ref ca), .val (.int rr), .val (.int (1 : Int32)), .val (.int (1 : Int32)), .unset] [(.int (4 : Int32)), (.int rr)])) tgt
          refine XS.icmpNo X87.here hx rfl (hb hby at_205) rfl (tlt hc205).2.1 ?_
          show Steps p.tables e below (T87.setTop (mkF m 208 #[.val (.int b0), .val (.int b1), .val (.int b2), .val (.int b3), .val (.int sp), .val (.int (4 : Int32)), .val (.int av), .val (.ref ca), .val (.int rr), .val (.int (1 : Int32)), .val (.int (1 : Int32)), .unset] [])) tgt
          refine XS.aload X87.here hx rfl (hb hby at_208) rfl rfl ?_
          show Steps p.tables e below (T87.setTop (mkF m 210 #[.val (.int b0), .val (.int b1), .val (.int b2), .val (.int b3), .val (.int sp), .val (.int (4 : Int32)), .val (.int av), .val (.ref ca), .val (.int rr), .val (.int (1 : Int32)), .val (.int (1 : Int32)), .unset] [(.ref ca)])) tgt
          refine XS.iload X87.here hx rfl (hb hby at_210) rfl ?_
          show Steps p.tables e below (T87.setTop (mkF m 212 #[.val (.int b0), .val (.int b1), .val (.int b2), .val (.int b3), .val (.int sp), .val (.int (4 : Int32)), .val (.int av), .val (.ref ca), .val (.int rr), .val (.int (1 : Int32)), .val (.int (1 : Int32)), .unset] [(.int rr), (.ref ca)])) tgt
          refine own_baload X87 hx hZ K87 A_ca_75 (j := rr) (k := rr.toInt.toNat) (by omega) (by have := own_ilt.mp hc205; rw [show (4 : Int32).toInt = 4 from rfl] at this; omega) (g := (mkF m 212 #[.val (.int b0), .val (.int b1), .val (.int b2), .val (.int b3), .val (.int sp), .val (.int (4 : Int32)), .val (.int av), .val (.ref ca), .val (.int rr), .val (.int (1 : Int32)), .val (.int (1 : Int32)), .unset] [(.int rr), (.ref ca)])) rfl rfl (hb hby at_212) ?_
          exact k
        obtain ⟨_, _, ⟨T88, L88, k88, n88⟩, -, X88, ⟨Lc88, hQ88, l88, y88, z88⟩, st88⟩ := Jvm.LawKit.callS X87 hx (y := (⟨"com/example/tidewatch/tidewatch/io/DecimalSkipDigitsPinLaw", "isDigit", "(B)Z"⟩ : MethodName)) hown (mvT hZ (hw _ (List.mem_of_getElem? (i := 9) rfl))) (mvT hZ (hw _ (List.mem_of_getElem? (i := 10) rfl))) (mvT hZ (hw _ (List.mem_of_getElem? (i := 7) rfl))) (mvT hZ (hw _ (List.mem_of_getElem? (i := 11) rfl))) (by decide) (backOf (W := 0) (rm3 l Z a0 hw [] ((own_up (own_up (own_up (own_up (fun _ => 0) 0 ((b0 + (48 : Int32)).toInt8.toInt32).toInt8.toInt32) 1 ((b1 + (48 : Int32)).toInt8.toInt32).toInt8.toInt32) 2 ((b2 + (48 : Int32)).toInt8.toInt32).toInt8.toInt32) 3 ((b3 + (48 : Int32)).toInt8.toInt32).toInt8.toInt32) rr.toInt.toNat) h75 n0 Zs75 ) hZ (hw _ (List.mem_of_getElem? (i := 11) rfl)) (hw _ (List.mem_of_getElem? (i := 7) rfl)) (by decide) (by decide)) (g := (mkF m 213 #[.val (.int b0), .val (.int b1), .val (.int b2), .val (.int b3), .val (.int sp), .val (.int (4 : Int32)), .val (.int av), .val (.ref ca), .val (.int rr), .val (.int (1 : Int32)), .val (.int (1 : Int32)), .unset] [(.int ((own_up (own_up (own_up (own_up (fun _ => 0) 0 ((b0 + (48 : Int32)).toInt8.toInt32).toInt8.toInt32) 1 ((b1 + (48 : Int32)).toInt8.toInt32).toInt8.toInt32) 2 ((b2 + (48 : Int32)).toInt8.toInt32).toInt8.toInt32) 3 ((b3 + (48 : Int32)).toInt8.toInt32).toInt8.toInt32) rr.toInt.toNat))])) rfl (by rw [hml]; rfl) (argsL := [(.int ((own_up (own_up (own_up (own_up (fun _ => 0) 0 ((b0 + (48 : Int32)).toInt8.toInt32).toInt8.toInt32) 1 ((b1 + (48 : Int32)).toInt8.toInt32).toInt8.toInt32) 2 ((b2 + (48 : Int32)).toInt8.toInt32).toInt8.toInt32) 3 ((b3 + (48 : Int32)).toInt8.toInt32).toInt8.toInt32) rr.toInt.toNat))]) (rest := []) (lenOf pd_0_2 rfl) rfl (by show 2 * 0 + _ ≤ _; exact Nat.le_of_eq rfl) (hb hby at_213) (fun _ _ => ⟨rfl, K87, (by decide : 1 + 0 ≤ _), (by decide : 4 + 0 ≤ _)⟩)
        dsimp only [Pt.U, Pt.locs, Pt.cells, Pt.slots] at X88 l88 y88 z88 st88 hQ88
        subst l88 y88 z88
        obtain ⟨rfl, N88q, K88⟩ := hQ88
        have N88 := Fr.app N87 N88q
        refine own_st st88 ?_
        show own_Go p e below _ (T88.setTop (mkF m 216 #[.val (.int b0), .val (.int b1), .val (.int b2), .val (.int b3), .val (.int sp), .val (.int (4 : Int32)), .val (.int av), .val (.ref ca), .val (.int rr), .val (.int (1 : Int32)), .val (.int (1 : Int32)), .unset] [(.int (own_isd ((own_up (own_up (own_up (own_up (fun _ => 0) 0 ((b0 + (48 : Int32)).toInt8.toInt32).toInt8.toInt32) 1 ((b1 + (48 : Int32)).toInt8.toInt32).toInt8.toInt32) 2 ((b2 + (48 : Int32)).toInt8.toInt32).toInt8.toInt32) 3 ((b3 + (48 : Int32)).toInt8.toInt32).toInt8.toInt32) rr.toInt.toNat)))]))
        refine own_st (V := T88.setTop (mkF m 241 #[.val (.int b0), .val (.int b1), .val (.int b2), .val (.int b3), .val (.int sp), .val (.int (4 : Int32)), .val (.int av), .val (.ref ca), .val (.int rr), .val (.int (1 : Int32)), .val (.int (1 : Int32)), .val (.int (1 : Int32))] [(.int (1 : Int32))])) (fun tgt k => ?_) ?_
        · show Steps p.tables e below (T88.setTop (mkF m 216 #[.val (.int b0), .val (.int b1), .val (.int b2), .val (.int b3), .val (.int sp), .val (.int (4 : Int32)), .val (.int av), .val (.ref ca), .val (.int rr), .val (.int (1 : Int32)), .val (.int (1 : Int32)), .unset] [(.int (own_isd ((own_up (own_up (own_up (own_up (fun _ => 0) 0 ((b0 + (48 : Int32)).toInt8.toInt32).toInt8.toInt32) 1 ((b1 + (48 : Int32)).toInt8.toInt32).toInt8.toInt32) 2 ((b2 + (48 : Int32)).toInt8.toInt32).toInt8.toInt32) 3 ((b3 + (48 : Int32)).toInt8.toInt32).toInt8.toInt32) rr.toInt.toNat)))])) tgt
          refine XS.ifNo X88.here hx rfl (hb hby at_216) rfl ((if0 _ _).trans (teq ((own_isd1 _).2 (fun z => R3 ⟨by have := own_ilt.mp hc205; rw [show (4 : Int32).toInt = 4 from rfl] at this; omega, z⟩))).2) ?_
          show Steps p.tables e below (T88.setTop (mkF m 219 #[.val (.int b0), .val (.int b1), .val (.int b2), .val (.int b3), .val (.int sp), .val (.int (4 : Int32)), .val (.int av), .val (.ref ca), .val (.int rr), .val (.int (1 : Int32)), .val (.int (1 : Int32)), .unset] [])) tgt
          refine XS.iconst X88.here hx rfl (hb hby at_219) ?_
          show Steps p.tables e below (T88.setTop (mkF m 220 #[.val (.int b0), .val (.int b1), .val (.int b2), .val (.int b3), .val (.int sp), .val (.int (4 : Int32)), .val (.int av), .val (.ref ca), .val (.int rr), .val (.int (1 : Int32)), .val (.int (1 : Int32)), .unset] [(.int (1 : Int32))])) tgt
          refine XS.goto X88.here hx rfl (pc0 := 220) (pc' := 224) rfl (hb hby at_220) (by decide) (by decide) ?_
          show Steps p.tables e below (T88.setTop (mkF m 224 #[.val (.int b0), .val (.int b1), .val (.int b2), .val (.int b3), .val (.int sp), .val (.int (4 : Int32)), .val (.int av), .val (.ref ca), .val (.int rr), .val (.int (1 : Int32)), .val (.int (1 : Int32)), .unset] [(.int (1 : Int32))])) tgt
          refine XS.istore X88.here hx rfl (hb hby at_224) rfl (l' := #[.val (.int b0), .val (.int b1), .val (.int b2), .val (.int b3), .val (.int sp), .val (.int (4 : Int32)), .val (.int av), .val (.ref ca), .val (.int rr), .val (.int (1 : Int32)), .val (.int (1 : Int32)), .val (.int (1 : Int32))]) rfl ?_
          show Steps p.tables e below (T88.setTop (mkF m 226 #[.val (.int b0), .val (.int b1), .val (.int b2), .val (.int b3), .val (.int sp), .val (.int (4 : Int32)), .val (.int av), .val (.ref ca), .val (.int rr), .val (.int (1 : Int32)), .val (.int (1 : Int32)), .val (.int (1 : Int32))] [])) tgt
          refine XS.iload X88.here hx rfl (hb hby at_226) rfl ?_
          show Steps p.tables e below (T88.setTop (mkF m 228 #[.val (.int b0), .val (.int b1), .val (.int b2), .val (.int b3), .val (.int sp), .val (.int (4 : Int32)), .val (.int av), .val (.ref ca), .val (.int rr), .val (.int (1 : Int32)), .val (.int (1 : Int32)), .val (.int (1 : Int32))] [(.int (1 : Int32))])) tgt
          refine XS.ifNo X88.here hx rfl (hb hby at_228) rfl ((if0 _ _).trans (feq (by decide : ¬ ((1 : Int32) = (0 : Int32)))).1) ?_
          show Steps p.tables e below (T88.setTop (mkF m 231 #[.val (.int b0), .val (.int b1), .val (.int b2), .val (.int b3), .val (.int sp), .val (.int (4 : Int32)), .val (.int av), .val (.ref ca), .val (.int rr), .val (.int (1 : Int32)), .val (.int (1 : Int32)), .val (.int (1 : Int32))] [])) tgt
          refine XS.iload X88.here hx rfl (hb hby at_231) rfl ?_
          show Steps p.tables e below (T88.setTop (mkF m 233 #[.val (.int b0), .val (.int b1), .val (.int b2), .val (.int b3), .val (.int sp), .val (.int (4 : Int32)), .val (.int av), .val (.ref ca), .val (.int rr), .val (.int (1 : Int32)), .val (.int (1 : Int32)), .val (.int (1 : Int32))] [(.int (1 : Int32))])) tgt
          refine XS.ifNo X88.here hx rfl (hb hby at_233) rfl ((if0 _ _).trans (feq (by decide : ¬ ((1 : Int32) = (0 : Int32)))).1) ?_
          show Steps p.tables e below (T88.setTop (mkF m 236 #[.val (.int b0), .val (.int b1), .val (.int b2), .val (.int b3), .val (.int sp), .val (.int (4 : Int32)), .val (.int av), .val (.ref ca), .val (.int rr), .val (.int (1 : Int32)), .val (.int (1 : Int32)), .val (.int (1 : Int32))] [])) tgt
          refine XS.iconst X88.here hx rfl (hb hby at_236) ?_
          show Steps p.tables e below (T88.setTop (mkF m 237 #[.val (.int b0), .val (.int b1), .val (.int b2), .val (.int b3), .val (.int sp), .val (.int (4 : Int32)), .val (.int av), .val (.ref ca), .val (.int rr), .val (.int (1 : Int32)), .val (.int (1 : Int32)), .val (.int (1 : Int32))] [(.int (1 : Int32))])) tgt
          refine XS.goto X88.here hx rfl (pc0 := 237) (pc' := 241) rfl (hb hby at_237) (by decide) (by decide) ?_
          exact k
        refine own_retN X88 hx hlk (t := .boolean) (z' := (1 : Int32)) Bd.returns (by simp) rfl (hb hby at_241) ?_ (by decide) (by decide)
        show Q0 Z b0 b1 b2 b3 sp h0 n0 (some (.int (1 : Int32))) T88.heap _
        rw [K88]
        exact ⟨rfl, N88⟩
      · skip
        refine own_st (V := T87.setTop (mkF m 241 #[.val (.int b0), .val (.int b1), .val (.int b2), .val (.int b3), .val (.int sp), .val (.int (4 : Int32)), .val (.int av), .val (.ref ca), .val (.int rr), .val (.int (1 : Int32)), .val (.int (1 : Int32)), .val (.int (1 : Int32))] [(.int (1 : Int32))])) (fun tgt k => ?_) ?_
        · show Steps p.tables e below (T87.setTop (mkF m 205 #[.val (.int b0), .val (.int b1), .val (.int b2), .val (.int b3), .val (.int sp), .val (.int (4 : Int32)), .val (.int av), .val (.ref ca), .val (.int rr), .val (.int (1 : Int32)), .val (.int (1 : Int32)), .unset] [(.int (4 : Int32)), (.int rr)])) tgt
          refine XS.icmpYes X87.here hx rfl (pc0 := 205) (pc' := 219) rfl (hb hby at_205) rfl (flt hc205).2.1 (by decide) (by decide) ?_
          show Steps p.tables e below (T87.setTop (mkF m 219 #[.val (.int b0), .val (.int b1), .val (.int b2), .val (.int b3), .val (.int sp), .val (.int (4 : Int32)), .val (.int av), .val (.ref ca), .val (.int rr), .val (.int (1 : Int32)), .val (.int (1 : Int32)), .unset] [])) tgt
          refine XS.iconst X87.here hx rfl (hb hby at_219) ?_
          show Steps p.tables e below (T87.setTop (mkF m 220 #[.val (.int b0), .val (.int b1), .val (.int b2), .val (.int b3), .val (.int sp), .val (.int (4 : Int32)), .val (.int av), .val (.ref ca), .val (.int rr), .val (.int (1 : Int32)), .val (.int (1 : Int32)), .unset] [(.int (1 : Int32))])) tgt
          refine XS.goto X87.here hx rfl (pc0 := 220) (pc' := 224) rfl (hb hby at_220) (by decide) (by decide) ?_
          show Steps p.tables e below (T87.setTop (mkF m 224 #[.val (.int b0), .val (.int b1), .val (.int b2), .val (.int b3), .val (.int sp), .val (.int (4 : Int32)), .val (.int av), .val (.ref ca), .val (.int rr), .val (.int (1 : Int32)), .val (.int (1 : Int32)), .unset] [(.int (1 : Int32))])) tgt
          refine XS.istore X87.here hx rfl (hb hby at_224) rfl (l' := #[.val (.int b0), .val (.int b1), .val (.int b2), .val (.int b3), .val (.int sp), .val (.int (4 : Int32)), .val (.int av), .val (.ref ca), .val (.int rr), .val (.int (1 : Int32)), .val (.int (1 : Int32)), .val (.int (1 : Int32))]) rfl ?_
          show Steps p.tables e below (T87.setTop (mkF m 226 #[.val (.int b0), .val (.int b1), .val (.int b2), .val (.int b3), .val (.int sp), .val (.int (4 : Int32)), .val (.int av), .val (.ref ca), .val (.int rr), .val (.int (1 : Int32)), .val (.int (1 : Int32)), .val (.int (1 : Int32))] [])) tgt
          refine XS.iload X87.here hx rfl (hb hby at_226) rfl ?_
          show Steps p.tables e below (T87.setTop (mkF m 228 #[.val (.int b0), .val (.int b1), .val (.int b2), .val (.int b3), .val (.int sp), .val (.int (4 : Int32)), .val (.int av), .val (.ref ca), .val (.int rr), .val (.int (1 : Int32)), .val (.int (1 : Int32)), .val (.int (1 : Int32))] [(.int (1 : Int32))])) tgt
          refine XS.ifNo X87.here hx rfl (hb hby at_228) rfl ((if0 _ _).trans (feq (by decide : ¬ ((1 : Int32) = (0 : Int32)))).1) ?_
          show Steps p.tables e below (T87.setTop (mkF m 231 #[.val (.int b0), .val (.int b1), .val (.int b2), .val (.int b3), .val (.int sp), .val (.int (4 : Int32)), .val (.int av), .val (.ref ca), .val (.int rr), .val (.int (1 : Int32)), .val (.int (1 : Int32)), .val (.int (1 : Int32))] [])) tgt
          refine XS.iload X87.here hx rfl (hb hby at_231) rfl ?_
          show Steps p.tables e below (T87.setTop (mkF m 233 #[.val (.int b0), .val (.int b1), .val (.int b2), .val (.int b3), .val (.int sp), .val (.int (4 : Int32)), .val (.int av), .val (.ref ca), .val (.int rr), .val (.int (1 : Int32)), .val (.int (1 : Int32)), .val (.int (1 : Int32))] [(.int (1 : Int32))])) tgt
          refine XS.ifNo X87.here hx rfl (hb hby at_233) rfl ((if0 _ _).trans (feq (by decide : ¬ ((1 : Int32) = (0 : Int32)))).1) ?_
          show Steps p.tables e below (T87.setTop (mkF m 236 #[.val (.int b0), .val (.int b1), .val (.int b2), .val (.int b3), .val (.int sp), .val (.int (4 : Int32)), .val (.int av), .val (.ref ca), .val (.int rr), .val (.int (1 : Int32)), .val (.int (1 : Int32)), .val (.int (1 : Int32))] [])) tgt
          refine XS.iconst X87.here hx rfl (hb hby at_236) ?_
          show Steps p.tables e below (T87.setTop (mkF m 237 #[.val (.int b0), .val (.int b1), .val (.int b2), .val (.int b3), .val (.int sp), .val (.int (4 : Int32)), .val (.int av), .val (.ref ca), .val (.int rr), .val (.int (1 : Int32)), .val (.int (1 : Int32)), .val (.int (1 : Int32))] [(.int (1 : Int32))])) tgt
          refine XS.goto X87.here hx rfl (pc0 := 237) (pc' := 241) rfl (hb hby at_237) (by decide) (by decide) ?_
          exact k
        refine own_retN X87 hx hlk (t := .boolean) (z' := (1 : Int32)) Bd.returns (by simp) rfl (hb hby at_241) ?_ (by decide) (by decide)
        show Q0 Z b0 b1 b2 b3 sp h0 n0 (some (.int (1 : Int32))) T87.heap _
        rw [K87]
        exact ⟨rfl, N87⟩
set_option maxRecDepth 65536 in
set_option maxHeartbeats 40000000 in
theorem comes_1 {Post : Tables → Env → Array Value → State → Outcome → State → Prop} (hpost : ∀ tb e args s v u, (limb_1_1.after args s (.returned v) u = true ∧ limb_1_2.after args s (.returned v) u = true ∧ True) → FrameEnd s (.returned v) u (Jvm.fieldLocs frame_1_writes args s ++ Jvm.arrayLocs frame_1_arrays args s ++ Jvm.staticLocs frame_1_statics s) 16 128 → Post tb e args s (.returned v) u) :
    ArmFor flags0 classFile x code maxLocals ret World_1 tables_1 room_1 Calls_1 rest_1 Pre_1 Post := by
  intro l hfl _ _ p e ha hc hk s m args below hf hA hF happ hP
  obtain ⟨hcalls, hrest, hpre⟩ := hP
  obtain ⟨-, -, -, hnamed, -, -, -, hat⟩ := (Spec.applies_iff hf).mp happ
  obtain ⟨hg, hn⟩ := and_e (Cond.before_iff.mp (show (Jvm.Cond.and given_1 narrow_1).before args s = true from hpre))
  obtain ⟨hcount, g0⟩ := and_e hg
  obtain ⟨a0, g1⟩ := and_e g0
  obtain ⟨a1, g2⟩ := and_e g1
  obtain ⟨a2, g3⟩ := and_e g2
  obtain ⟨a3, g4⟩ := and_e g3
  have a4 := g4
  obtain ⟨w0, w1, w2, w3, w4, rfl⟩ : ∃ w0 w1 w2 w3 w4 : Value, args = #[w0, w1, w2, w3, w4] := by
    have hs : args.size = 5 := by simpa [Cond.value, given_1] using hcount
    obtain ⟨L⟩ := args
    match L, hs with
    | [w0, w1, w2, w3, w4], _ => exact ⟨w0, w1, w2, w3, w4, rfl⟩
  have hw := fun d (hd : d ∈ tables_1) => atoms_spec (ws := Jvm.Cond.code x code maxLocals ret :: tables_1) hat d (List.mem_cons_of_mem _ hd)
  obtain ⟨i0, ei0⟩ := is_v a0
  obtain rfl : w0 = (.int i0) := Option.some.inj ei0
  obtain ⟨i1, ei1⟩ := is_v a1
  obtain rfl : w1 = (.int i1) := Option.some.inj ei1
  obtain ⟨i2, ei2⟩ := is_v a2
  obtain rfl : w2 = (.int i2) := Option.some.inj ei2
  obtain ⟨i3, ei3⟩ := is_v a3
  obtain rfl : w3 = (.int i3) := Option.some.inj ei3
  obtain ⟨i4, ei4⟩ := is_v a4
  obtain rfl : w4 = (.int i4) := Option.some.inj ei4
  obtain ⟨n, o, h1, h2, h3, _, L, rfl, ⟨rfl, N⟩, hq⟩ := rm0 l s _ hw tables_1 i0 i1 i2 i3 i4 s.heap s.heap.size (Nat.le_refl _) p e ha hc hk s m _ below hf ((Spec.applies_iff_loose hf).mp happ).1 ⟨rfl, State.Warmed39.refl s, rfl⟩ trivial
  refine ⟨n, _, h1, h2, h3, hpost _ _ _ _ _ _ ⟨Cond.after_iff.mpr rfl, Cond.after_iff.mpr (eq_i res_at (Term.int_eval (1)) rfl), trivial⟩ ⟨hq.1, hq.2.1, (hq.2.2.sift fun y hy => Or.inr (N y hy)).mono (by decide) (by decide)⟩⟩
theorem main_1_1 : Claimed_1_1 := comes_1 fun _ _ _ _ _ _ h hF => ⟨h.1, hF⟩
theorem main_1_2 : Claimed_1_2 := comes_1 fun _ _ _ _ _ _ h hF => ⟨h.2.1, hF⟩
end Jvm.Pilot.@@N@@
namespace Jvm.Pilot.@@N@@
open Jvm Jvm.ClassFile Sem Op Lib Jvm.Free Jvm.Stand Jvm.Pilot.@@N@@.Jvm.D
/-! MADE BY PROGRAM (witnessworld.py) out of the Statement's table words and the real class files: 10 classes; the members and pool entries that the words name. The judged class is class 1, her method 1. -/
namespace start1
open Jvm.ClassFile
def u (s : String) : CpInfo := .utf8 (stringToUtf16 s)
/-- a pool by its gaps: so many unusable entries, then the entry; so many at the end -/
def gap : Nat → List CpInfo → List CpInfo
  | 0, r => r
  | n + 1, r => .unusable :: gap n r
def poolList (es : List (Nat × CpInfo)) (last : Nat) : List CpInfo := es.foldr (fun e r => gap e.1 (e.2 :: r)) (gap last [])
def pool (es : List (Nat × CpInfo)) (last : Nat) : Array CpInfo := ⟨poolList es last⟩
def fileOf (pool : Array CpInfo) (this : Nat) (attrs : Array Attribute := #[]) (ms : Array MethodInfo := #[]) (fl : Nat := 33) (sup : Nat := 0) (ifs : Array Nat := #[]) (fds : Array FieldInfo := #[]) : ClassFile where
  minorVersion := 0
  majorVersion := 65
  constantPool := pool
  accessFlags := fl
  thisClass := this
  superClass := sup
  interfaces := ifs
  fields := fds
  methods := ms
  attributes := attrs
def plain (name : String) (sup : Option ClassId) : Class where
  name := name
  kind := .ordinary
  loader := none
  accessFlags := 33
  super := sup
  interfaces := #[]
  cf := none
  fields := #[]
  methods := #[]
  instanceTypes := #[]
  staticTypes := #[]
  resolved := #[]
  callSites := []
  init := .initialized
  statics := none
  mirror := none

def pool0 : Array CpInfo := pool [(5, u "<init>"), (0, u "()V"), (1, .class_ 10), (1, u "java/lang/Object")] 113

def k0m0 : Method := { name := "<init>", desc := "()V", sig := { parameters := [], returnType := none }, accessFlags := 1, code := none }
/-- java/lang/Object -/
def k0 : Class := { plain "java/lang/Object" none with
  accessFlags := 33
  interfaces := #[]
  cf := some (fileOf pool0 8 #[] #[{ accessFlags := 1, nameIndex := 5, descriptorIndex := 6, attributes := #[] }] 33 0 #[] #[])
  fields := #[]
  methods := #[k0m0]
  instanceTypes := #[]
  staticTypes := #[]
  resolved := Array.replicate 124 none
  statics := none }

def pool1 : Array CpInfo := pool [(2, .class_ 4), (1, u "java/lang/Object"), (0, u "<init>"), (0, u "()V"), (0, .methodref 8 9), (0, .class_ 10), (0, .nameAndType 11 12), (0, u "com/example/tidewatch/tidewatch/io/Decimal"), (0, u "skipDigits"), (0, u "([BI)I"), (0, .methodref 14 15), (0, .class_ 16), (0, .nameAndType 17 18), (0, u "com/example/tidewatch/tidewatch/io/DecimalSkipDigitsPinLaw"), (0, u "digitOrOutside"), (0, u "([BIII)Z"), (0, .methodref 14 20), (0, .nameAndType 21 22), (0, u "isDigit"), (0, u "(B)Z"), (2, u "law"), (0, u "(IIIII)Z")] 5

def k1m0 : Method := { name := "<init>", desc := "()V", sig := { parameters := [], returnType := none }, accessFlags := 1, code := none }
def k1c1 : Code := { maxStack := 4, maxLocals := 12, code := code, exceptionTable := #[], attributes := #[] }
def k1m1 : Method := { name := "law", desc := "(IIIII)Z", sig := { parameters := [.int, .int, .int, .int, .int], returnType := some .boolean }, accessFlags := 9, code := some k1c1 }
def k1c2 : Code := { maxStack := 2, maxLocals := 4, code := method_3_code, exceptionTable := #[], attributes := #[] }
def k1m2 : Method := { name := "digitOrOutside", desc := "([BIII)Z", sig := { parameters := [(.array .byte), .int, .int, .int], returnType := some .boolean }, accessFlags := 10, code := some k1c2 }
def k1c3 : Code := { maxStack := 2, maxLocals := 1, code := method_4_code, exceptionTable := #[], attributes := #[] }
def k1m3 : Method := { name := "isDigit", desc := "(B)Z", sig := { parameters := [.byte], returnType := some .boolean }, accessFlags := 10, code := some k1c3 }
/-- com/example/tidewatch/tidewatch/io/DecimalSkipDigitsPinLaw -/
def k1 : Class := { plain "com/example/tidewatch/tidewatch/io/DecimalSkipDigitsPinLaw" (some 0) with
  accessFlags := 49
  interfaces := #[]
  cf := some (fileOf pool1 14 #[] #[{ accessFlags := 1, nameIndex := 5, descriptorIndex := 6, attributes := #[] }, { accessFlags := 9, nameIndex := 25, descriptorIndex := 26, attributes := #[] }, { accessFlags := 10, nameIndex := 17, descriptorIndex := 18, attributes := #[] }, { accessFlags := 10, nameIndex := 21, descriptorIndex := 22, attributes := #[] }] 49 2 #[] #[])
  fields := #[]
  methods := #[k1m0, k1m1, k1m2, k1m3]
  instanceTypes := #[]
  staticTypes := #[]
  resolved := Array.replicate 32 none
  statics := none }

def pool2 : Array CpInfo := pool [(1, .class_ 2), (0, u "java/lang/Comparable"), (0, .class_ 4), (0, u "java/lang/Object")] 7

/-- java/lang/Comparable -/
def k2 : Class := { plain "java/lang/Comparable" (some 0) with
  accessFlags := 1537
  interfaces := #[]
  cf := some (fileOf pool2 1 #[] #[] 1537 3 #[] #[])
  fields := #[]
  methods := #[]
  instanceTypes := #[]
  staticTypes := #[]
  resolved := Array.replicate 12 none
  statics := none }

def pool3 : Array CpInfo := pool [(2, .class_ 4), (1, u "java/lang/Object"), (3, .class_ 10), (1, u "com/example/tidewatch/tidewatch/io/Decimal"), (0, u "negative"), (0, u "Z"), (2, u "compact"), (0, u "J"), (2, u "digits"), (0, u "[B"), (2, u "exponent"), (0, u "I"), (15, u "([BI)I"), (2, u "skipDigits"), (23, u "ZERO"), (0, u "Lcom/example/tidewatch/tidewatch/io/Decimal;"), (34, u "OVERFLOW"), (6, u "UNDERFLOW"), (64, u "TENS"), (0, u "[J"), (52, .class_ 230), (0, u "java/lang/Comparable"), (0, u "COMPACT_DIGITS"), (2, u "FARTHEST_POWER")] 17

def k3c0 : Code := { maxStack := 2, maxLocals := 3, code := prog_30_method_4_code, exceptionTable := #[], attributes := #[] }
def k3m0 : Method := { name := "skipDigits", desc := "([BI)I", sig := { parameters := [(.array .byte), .int], returnType := some .int }, accessFlags := 8, code := some k3c0 }
/-- com/example/tidewatch/tidewatch/io/Decimal -/
def k3 : Class := { plain "com/example/tidewatch/tidewatch/io/Decimal" (some 0) with
  accessFlags := 48
  interfaces := #[2]
  cf := some (fileOf pool3 8 #[] #[{ accessFlags := 8, nameIndex := 43, descriptorIndex := 40, attributes := #[] }] 48 2 #[229] #[{ accessFlags := 24, nameIndex := 67, descriptorIndex := 68, attributes := #[] }, { accessFlags := 26, nameIndex := 231, descriptorIndex := 24, attributes := #[] }, { accessFlags := 26, nameIndex := 175, descriptorIndex := 176, attributes := #[] }, { accessFlags := 26, nameIndex := 234, descriptorIndex := 16, attributes := #[] }, { accessFlags := 26, nameIndex := 103, descriptorIndex := 68, attributes := #[] }, { accessFlags := 26, nameIndex := 110, descriptorIndex := 68, attributes := #[] }, { accessFlags := 18, nameIndex := 11, descriptorIndex := 12, attributes := #[] }, { accessFlags := 18, nameIndex := 15, descriptorIndex := 16, attributes := #[] }, { accessFlags := 18, nameIndex := 19, descriptorIndex := 20, attributes := #[] }, { accessFlags := 18, nameIndex := 23, descriptorIndex := 24, attributes := #[] }])
  fields := #[{ name := "ZERO", type := (.object "com/example/tidewatch/tidewatch/io/Decimal"), accessFlags := 24, slot := 0, constantValue := 0 }, { name := "COMPACT_DIGITS", type := .int, accessFlags := 26, slot := 1, constantValue := 0 }, { name := "TENS", type := (.array .long), accessFlags := 26, slot := 2, constantValue := 0 }, { name := "FARTHEST_POWER", type := .long, accessFlags := 26, slot := 3, constantValue := 0 }, { name := "OVERFLOW", type := (.object "com/example/tidewatch/tidewatch/io/Decimal"), accessFlags := 26, slot := 4, constantValue := 0 }, { name := "UNDERFLOW", type := (.object "com/example/tidewatch/tidewatch/io/Decimal"), accessFlags := 26, slot := 5, constantValue := 0 }, { name := "negative", type := .boolean, accessFlags := 18, slot := 0, constantValue := 0 }, { name := "compact", type := .long, accessFlags := 18, slot := 1, constantValue := 0 }, { name := "digits", type := (.array .byte), accessFlags := 18, slot := 2, constantValue := 0 }, { name := "exponent", type := .int, accessFlags := 18, slot := 3, constantValue := 0 }]
  methods := #[k3m0]
  instanceTypes := #[.boolean, .long, (.array .byte), .int]
  staticTypes := #[(.object "com/example/tidewatch/tidewatch/io/Decimal"), .int, (.array .long), .long, (.object "com/example/tidewatch/tidewatch/io/Decimal"), (.object "com/example/tidewatch/tidewatch/io/Decimal")]
  resolved := Array.replicate 252 none
  statics := none }

def pool4 : Array CpInfo := pool [(1, u "java/lang/Cloneable"), (0, .class_ 1), (0, u "java/lang/Object"), (0, .class_ 3)] 3

/-- java/lang/Cloneable -/
def k4 : Class := { plain "java/lang/Cloneable" (some 0) with
  accessFlags := 1537
  interfaces := #[]
  cf := some (fileOf pool4 2 #[] #[] 1537 4 #[] #[])
  fields := #[]
  methods := #[]
  instanceTypes := #[]
  staticTypes := #[]
  resolved := Array.replicate 8 none
  statics := none }

def pool5 : Array CpInfo := pool [(1, u "java/io/Serializable"), (0, .class_ 1), (0, u "java/lang/Object"), (0, .class_ 3)] 3

/-- java/io/Serializable -/
def k5 : Class := { plain "java/io/Serializable" (some 0) with
  accessFlags := 1537
  interfaces := #[]
  cf := some (fileOf pool5 2 #[] #[] 1537 4 #[] #[])
  fields := #[]
  methods := #[]
  instanceTypes := #[]
  staticTypes := #[]
  resolved := Array.replicate 8 none
  statics := none }

/-- the primitive byte -/
def k6 : Class := { plain "byte" none with kind := .primitive 'B', accessFlags := 0x411 }
/-- [B -/
def k7 : Class := { plain "[B" (some 0) with kind := .array 6 .byte, interfaces := #[4, 5], accessFlags := 1041 }

/-- the primitive int -/
def k8 : Class := { plain "int" none with kind := .primitive 'I', accessFlags := 0x411 }
/-- [I -/
def k9 : Class := { plain "[I" (some 0) with kind := .array 8 .int, interfaces := #[4, 5], accessFlags := 1041 }

def heap : Heap := #[]
def classes : Array Class := #[k0, k1, k2, k3, k4, k5, k6, k7, k8, k9]
def interned : List (Array UInt16 × Addr) := []
def slotsUsed : Nat := 0
def theMethod : MethodId := ⟨1, 1⟩
def args0 : Array Value := #[.int 5, .int 3, .int 3, .int 1, .int 2]
def aboutOver (below : List Frame) : State where
  vm := { classes := classes, interned := interned.toArray }
  heap := heap
  slotsUsed := slotsUsed
  threads := #[{ frames := .invoking theMethod args0 :: below }]
def below0 : List Frame := [.native { method := ⟨0, 0⟩, args := #[] }]
def about1 : State := aboutOver below0
def p0 : Program := .bare "" "" ""
def e0 : Env := launch0.env 0 0 0
theorem w_frames : about1.frames = Frame.invoking theMethod args0 :: below0 := rfl
set_option maxRecDepth 65536 in
theorem w_args : argsFit about1.vm theMethod args0 = true := by decide +kernel
set_option maxRecDepth 65536 in
theorem w_heap : heapFits about1 = true := by decide +kernel
set_option maxRecDepth 65536 in
theorem w_runnable : about1.curStatus? = some .runnable := by decide +kernel
set_option maxRecDepth 65536 in
theorem w_alone : about1.alone = true := by decide +kernel
set_option maxRecDepth 65536 in
theorem w_named : about1.methodNamed? x = some theMethod := by decide +kernel
set_option maxRecDepth 65536 in
theorem w_hears : about1.hears theMethod below0 = true := by decide +kernel
set_option maxRecDepth 65536 in
theorem w_ripe : about1.ripe theMethod args0 below0 = true := by decide +kernel
theorem w_running : about1.status = .running := rfl
set_option maxRecDepth 65536 in
theorem w_room : about1.hasRoom e0.platform room_1 = true :=
  launch0.hasRoom_least _ room_1 (by decide +kernel) (by decide +kernel) (by decide +kernel) (by decide +kernel) (by decide +kernel) (by decide +kernel)
theorem allAtoms_all (ts : List Jvm.Cond) (a : Array Jvm.Value) (st : Jvm.State) : (allAtoms ts).before a st = ts.all (fun c => c.before a st) := by
  induction ts with
  | nil => rfl
  | cons c t ih =>
    show (Jvm.Cond.and c (allAtoms t)).before a st = _
    rw [Jvm.Cond.before_and, ih, List.all_cons]
def words1 : List Jvm.Cond := Jvm.Cond.code x code maxLocals ret :: tables_1
/-- a 'code' word, met by the world's own term for the bytes: nothing is compared byte by byte -/
theorem code_word {y : MethodName} {bytes : ByteArray} {mx : Nat} {rt : Option FieldType} {a : Array Value} {s : State} {m : MethodId} {meth : Method} {c : Code} (h1 : s.methodNamed? y = some m) (h2 : s.vm.method? m = some meth) (h3 : meth.code = some c) (h4 : c.code = bytes)
    (h5 : (c.maxLocals == mx && c.exceptionTable.isEmpty && decide (c.maxStack ≤ mostOperands) && decide (meth.sig.returnType = rt) && !meth.locks && decide (parseMethodDescriptor y.desc = some meth.sig)) = true) : (Jvm.Cond.code y bytes mx rt).before a s = true := by
  simp only [Bool.and_eq_true, beq_iff_eq, Bool.not_eq_true', decide_eq_true_eq] at h5
  obtain ⟨⟨⟨⟨⟨g1, g2⟩, g3⟩, g4⟩, g5⟩, g6⟩ := h5
  simp [Cond.before, Cond.holds, Cond.value, h1, h2, h3, h4, g1, g2, g3, g4, g5, g6]
def isCode : Jvm.Cond → Bool
  | .code _ _ _ _ => true
  | _ => false
theorem all_split {L : List Jvm.Cond} {P : Jvm.Cond → Bool} (h1 : L.all (fun c => isCode c || P c) = true) (h2 : ∀ c ∈ L.filter isCode, P c = true) : L.all P = true := by
  refine List.all_eq_true.mpr fun c hc => ?_
  have h := List.all_eq_true.mp h1 c hc
  rcases Bool.eq_false_or_eq_true (isCode c) with hi | hi
  · exact h2 c (List.mem_filter.mpr ⟨hc, hi⟩)
  · simpa [hi] using h
set_option maxRecDepth 65536 in
theorem w_c0 : (Jvm.Cond.code x code maxLocals ret).before args0 about1 = true := code_word (m := ⟨1, 1⟩) (meth := k1m1) (c := k1c1) (by decide +kernel) rfl rfl rfl (by decide +kernel)
set_option maxRecDepth 65536 in
theorem w_c1 : (Jvm.Cond.code ({ cls := "com/example/tidewatch/tidewatch/io/Decimal", name := "skipDigits", desc := "([BI)I" } : Jvm.MethodName) prog_30_method_4_code (3 : Nat) (Option.some Jvm.ClassFile.FieldType.int)).before args0 about1 = true := code_word (m := ⟨3, 0⟩) (meth := k3m0) (c := k3c0) (by decide +kernel) rfl rfl rfl (by decide +kernel)
set_option maxRecDepth 65536 in
theorem w_c2 : (Jvm.Cond.code ({ cls := "com/example/tidewatch/tidewatch/io/DecimalSkipDigitsPinLaw", name := "digitOrOutside", desc := "([BIII)Z" } : Jvm.MethodName) method_3_code (4 : Nat) (Option.some Jvm.ClassFile.FieldType.boolean)).before args0 about1 = true := code_word (m := ⟨1, 2⟩) (meth := k1m2) (c := k1c2) (by decide +kernel) rfl rfl rfl (by decide +kernel)
set_option maxRecDepth 65536 in
theorem w_c3 : (Jvm.Cond.code ({ cls := "com/example/tidewatch/tidewatch/io/DecimalSkipDigitsPinLaw", name := "isDigit", desc := "(B)Z" } : Jvm.MethodName) method_4_code (1 : Nat) (Option.some Jvm.ClassFile.FieldType.boolean)).before args0 about1 = true := code_word (m := ⟨1, 3⟩) (meth := k1m3) (c := k1c3) (by decide +kernel) rfl rfl rfl (by decide +kernel)
def codes1 : List Jvm.Cond := [Jvm.Cond.code x code maxLocals ret, Jvm.Cond.code ({ cls := "com/example/tidewatch/tidewatch/io/Decimal", name := "skipDigits", desc := "([BI)I" } : Jvm.MethodName) prog_30_method_4_code (3 : Nat) (Option.some Jvm.ClassFile.FieldType.int), Jvm.Cond.code ({ cls := "com/example/tidewatch/tidewatch/io/DecimalSkipDigitsPinLaw", name := "digitOrOutside", desc := "([BIII)Z" } : Jvm.MethodName) method_3_code (4 : Nat) (Option.some Jvm.ClassFile.FieldType.boolean), Jvm.Cond.code ({ cls := "com/example/tidewatch/tidewatch/io/DecimalSkipDigitsPinLaw", name := "isDigit", desc := "(B)Z" } : Jvm.MethodName) method_4_code (1 : Nat) (Option.some Jvm.ClassFile.FieldType.boolean)]
set_option maxRecDepth 65536 in
theorem codes_eq : words1.filter isCode = codes1 := rfl
theorem w_codes : ∀ c ∈ words1.filter isCode, c.before args0 about1 = true := by
  rw [codes_eq]
  intro c hc
  simp only [codes1, List.mem_cons, List.not_mem_nil, or_false] at hc
  rcases hc with rfl | rfl | rfl | rfl
  · exact w_c0
  · exact w_c1
  · exact w_c2
  · exact w_c3
set_option maxRecDepth 65536 in
theorem w_t1 : words1.all (fun c => isCode c || c.before args0 about1) = true := by decide +kernel
theorem w_tables : (allAtoms (Jvm.Cond.code x code maxLocals ret :: tables_1)).before args0 about1 = true := by
  rw [allAtoms_all]
  show words1.all (fun c => c.before args0 about1) = true
  refine all_split ?_ w_codes
  rw [w_t1]
set_option maxRecDepth 65536 in
theorem w_case : (Jvm.Cond.and given_1 narrow_1).before args0 about1 = true := by decide +kernel
theorem w_applies : (headSpec (Jvm.Cond.code x code maxLocals ret :: tables_1) room_1).applies x e0.platform about1 = true :=
  (Spec.applies_iff w_frames).mpr ⟨w_running, w_runnable, w_alone, w_named, w_hears, w_ripe, w_room, w_tables⟩
theorem atStart : AtStart classFile x code maxLocals ret World_1 tables_1 room_1 Calls_1 rest_1 Pre_1 launch0 p0 e0 about1 theMethod args0 below0 :=
  ⟨lists_1, trivial, launch0.admits_env _ _ _, launch0.least_env, fairChoices_fair.cas, fairChoices_fair.clock, w_frames, w_args, w_heap, w_applies, trivial, trivial, w_case⟩
end start1
theorem witness_1 : WitnessClaimed_1 := ⟨start1.p0, start1.e0, start1.about1, start1.theMethod, start1.args0, start1.below0, start1.atStart⟩
end Jvm.Pilot.@@N@@
